import JvmDerived
import JvmDerived.Pilot.@@N@@Statement
import JvmDerived.Pilot.@@N@@Code
set_option linter.unusedVariables false
set_option linter.unusedSimpArgs false

namespace Jvm.RoadKit
open Sem ClassFile Op Lib Jvm.Stand Jvm.Free Jvm.LawKit
section New
variable {p : Program} {l : Launch} {e : Env} {R : Room} {s : State} {m : MethodId} {args : Array Value} {below : List Frame} {meth : Method} {c : Code} {T : State} {locs : List Loc} {cells slots : Nat}
theorem own_retI (X : Stand p l e R s m args below meth c T locs cells slots) (hx : p.tables.exec = Jvm.exec) {pc : Nat} {Ls : Array Slot} {z : Int32} {rest : List Value} (hret : meth.sig.returnType = some .int) (hd : decode c.code pc = .ok (.ireturn, 1)) {fs : List Frame}
    (hl : ∀ (f : JFrame) (acts : List Action), f.method = m → f.locked = none → f.entered = [] → (doReturn e (T.setTop f) acts (some (.int z))).1 = T.setFrames fs) : Steps p.tables e below (T.setTop (mkF m pc Ls (.int z :: rest))) (T.setFrames fs) :=
  retOut X hx (t := .int) (w := .int z) (i := .ireturn) hret rfl (Or.inl ⟨rfl, Or.inl rfl, z, rfl⟩) hd hl
end New
end Jvm.RoadKit

/- laws to paste: Road.backV, Road.eqW, Road.codOf (cut by pick.py; bodies as the Statement names them) -/
namespace Jvm.Pilot.@@N@@
namespace StrChars
open Jvm Sem ClassFile Op Lib Jvm.Stand Jvm.Free.XT Jvm.Free.ALB Jvm.Free.JM Jvm.Free
open Jvm.Lib.Cold (StaticIs)
/-- a char array whose places are chars -/
def Ch (a : Addr) (A : Cell) (U : State) : Prop := Arr .char a A U ∧ Typed .char A
theorem Ch.mv {a : Addr} {A : Cell} {U U' : State} (h : Ch a A U) (hal : U.vm.Alike U'.vm) (hh : U'.heap = U.heap) : Ch a A U' := ⟨h.1.mv hal hh, h.2⟩
theorem Ch.keep {a : Addr} {A : Cell} {U U' : State} (h : Ch a A U) (hal : U.vm.Alike U'.vm) (hk : U'.heap[a]? = some A) : Ch a A U' := ⟨h.1.keep hal hk, h.2⟩
/-- what place i of a char[]'s cell holds -/
def cv (A : Cell) (i : Nat) : Int32 := match A.slots[i]? with | some (.int x) => x | _ => 0
theorem Ch.get {a : Addr} {A : Cell} {U : State} (h : Ch a A U) {i : Nat} (hi : i < A.slots.size) : A.slots[i]? = some (.int (cv A i)) := by
  have e := Array.getElem?_eq_getElem hi
  have f := h.2 i _ e
  unfold cv; rw [e]
  generalize A.slots[i] = v at f
  cases v <;> simp [fits] at f ⊢
/-- the byte that i2b leaves of a char -/
def lo8 (x : Int32) : Int32 := x.toInt8.toInt32
theorem fits_lo8 (y : Int32) : fits .byte (.int (lo8 y)) = true := by
  have h1 := y.toInt8.le_toInt
  have h2 := y.toInt8.toInt_lt
  simp only [lo8, fits, Bool.and_eq_true, decide_eq_true_eq, Int32.le_iff_toInt_le, Int8.toInt_toInt32, show (-128 : Int32).toInt = -128 from by decide, show (127 : Int32).toInt = 127 from by decide]
  omega
/-- A' is A but that each place j of lo .. hi - 1 holds f j -/
def Laid (A A' : Cell) (lo hi : Nat) (f : Nat → Value) : Prop := A'.cls = A.cls ∧ A'.vm = A.vm ∧ A'.slots.size = A.slots.size ∧ ∀ i, A'.slots[i]? = if lo ≤ i ∧ i < hi then some (f i) else A.slots[i]?
theorem Laid.zero (A : Cell) (lo : Nat) (f : Nat → Value) : Laid A A lo (lo + 0) f := ⟨rfl, rfl, rfl, fun i => by rw [if_neg (by omega)]⟩
theorem Laid.step {A Ak : Cell} {lo k : Nat} {f : Nat → Value} {v : Value} (h : Laid A Ak lo k f) (hlo : lo ≤ k) (hk : k < Ak.slots.size) (hv : v = f k) : Laid A (Ak.setSlot k v) lo (k + 1) f := by
  refine ⟨h.1, h.2.1, by simpa [Cell.setSlot] using h.2.2.1, fun i => ?_⟩
  by_cases e : k = i
  · subst e; rw [Cell.slots_setSlot_self v hk, if_pos (by omega), hv]
  · rw [Cell.slots_setSlot_ne v e, h.2.2.2 i]
    by_cases q : lo ≤ i ∧ i < k
    · rw [if_pos q, if_pos (by omega)]
    · rw [if_neg q, if_neg (by omega)]
def U16 : String := "java/lang/StringUTF16"
namespace Cmp5
def yN : MethodName := ⟨"java/lang/StringUTF16", "compress", "([CI[BII)I"⟩
abbrev yB : ByteArray := jdk_52_method_21_code
theorem d0 : decode yB 0 = .ok (.iconst 0, 1) := by decide +kernel
theorem d1 : decode yB 1 = .ok (.istore 5, 2) := by decide +kernel
theorem d3 : decode yB 3 = .ok (.iload 5, 2) := by decide +kernel
theorem d5 : decode yB 5 = .ok (.iload 4, 2) := by decide +kernel
theorem d7 : decode yB 7 = .ok (.if_icmp (.ge) 37, 3) := by decide +kernel
theorem d10 : decode yB 10 = .ok (.aload_n 0, 1) := by decide +kernel
theorem d11 : decode yB 11 = .ok (.iload_n 1, 1) := by decide +kernel
theorem d12 : decode yB 12 = .ok (.caload, 1) := by decide +kernel
theorem d13 : decode yB 13 = .ok (.istore 6, 2) := by decide +kernel
theorem d15 : decode yB 15 = .ok (.iload 6, 2) := by decide +kernel
theorem d17 : decode yB 17 = .ok (.sipush 255, 3) := by decide +kernel
theorem d20 : decode yB 20 = .ok (.if_icmp (.le) 6, 3) := by decide +kernel
theorem d26 : decode yB 26 = .ok (.aload_n 2, 1) := by decide +kernel
theorem d27 : decode yB 27 = .ok (.iload_n 3, 1) := by decide +kernel
theorem d28 : decode yB 28 = .ok (.iload 6, 2) := by decide +kernel
theorem d30 : decode yB 30 = .ok (.i2b, 1) := by decide +kernel
theorem d31 : decode yB 31 = .ok (.bastore, 1) := by decide +kernel
theorem d32 : decode yB 32 = .ok (.iinc 1 1, 3) := by decide +kernel
theorem d35 : decode yB 35 = .ok (.iinc 3 1, 3) := by decide +kernel
theorem d38 : decode yB 38 = .ok (.iinc 5 1, 3) := by decide +kernel
theorem d41 : decode yB 41 = .ok (.goto (-38), 3) := by decide +kernel
theorem d44 : decode yB 44 = .ok (.iload 4, 2) := by decide +kernel
theorem d46 : decode yB 46 = .ok (.ireturn, 1) := by decide +kernel
def site : List Cond := []
def tab : Cond := tabOf yN yB 7 (some .int) site
def P (b : Addr) (A : Cell) (d : Addr) (B : Cell) (o q len : Nat) (args : Array Value) (s : State) : Prop := args = #[.ref b, .int (Int32.ofNat o), .ref d, .int (Int32.ofNat q), .int (Int32.ofNat len)] ∧ Ch b A s ∧ Arr .byte d B s ∧ b ≠ d ∧ o + len ≤ A.slots.size ∧ q + len ≤ B.slots.size ∧ ∀ i, i < len → ¬ 255 < cv A (o + i)
def E (b : Addr) (A : Cell) (d : Addr) (B : Cell) (o q len : Nat) (r : Option Value) (s u : State) : Prop := r = some (.int (Int32.ofNat len)) ∧ ∃ B', Put d B' s u ∧ Laid B B' q (q + len) (fun j => Value.int (lo8 (cv A (o + (j - q)))))
/-- no char of the range above 255: len; the places written hold each char's low byte -/
theorem law (l : Launch) (b : Addr) (A : Cell) (d : Addr) (B : Cell) (o q len : Nat) : Law l yN 5 5 0 0 yB 7 (some .int) site (P b A d B o q len) (E b A d B o q len) (copyLocs d q len) 0 0 := by
  refine Law.of_walk (plainFor_of_name (by decide +kernel)) (by decide +kernel) (by decide +kernel) (by decide) (fun _ _ h => by rw [h.1]; rfl) (fun _ U U' hal hh h => ⟨h.1, h.2.1.mv hal hh, h.2.2.1.mv hal hh, h.2.2.2⟩) (fun r U U' V V' h1 hal h2 h => ⟨h.1, h.2.elim fun B' q => ⟨B', q.1.mv h1 h2, q.2⟩⟩) ?_
  intro p e s m args below meth c s₁ X0 hexec hbytes hml hret hlk hnm hown hh0 W hP
  obtain ⟨rfl, hA, hB, hne, l1, l2, hp⟩ := hP
  have c1 : Steps p.tables e below (s₁.setTop (entryFrame m #[.ref b, .int (Int32.ofNat o), .ref d, .int (Int32.ofNat q), .int (Int32.ofNat len)] 7)) (s₁.setTop (mkF m 0 #[.val (.ref b), .val (.int (Int32.ofNat o)), .val (.ref d), .val (.int (Int32.ofNat q)), .val (.int (Int32.ofNat len)), .unset, .unset] [])) := entry rfl
  have hA0 := hA.1.mv X0.warmed.alike hh0
  have hB0 := hB.mv X0.warmed.alike hh0
  have a31 := hA.1.2.2.2
  have c2 : Steps p.tables e below (s₁.setTop (entryFrame m #[.ref b, .int (Int32.ofNat o), .ref d, .int (Int32.ofNat q), .int (Int32.ofNat len)] 7)) (s₁.setTop (mkF m 3 #[.val (.ref b), .val (.int (Int32.ofNat o)), .val (.ref d), .val (.int (Int32.ofNat q)), .val (.int (Int32.ofNat len)), .val (.int 0), .unset] [])) := c1.trans (by
    refine iconstV X0.here hexec rfl 0 (hb hbytes d0) (by decide) ?_
    refine XS.istore X0.here hexec rfl (hb hbytes d1) rfl rfl ?_
    exact Steps.refl _)
  have loop : ∀ (r i : Nat), i + r = len → ∀ (z : Slot), (z = .unset ∨ ∃ w, z = .val w ∧ w.category = 1) → ∀ (Tl : State) (Bk : Cell), Stand p l e { frames := 0, locals := 0, cells := 0, slots := 0 } s m #[.ref b, .int (Int32.ofNat o), .ref d, .int (Int32.ofNat q), .int (Int32.ofNat len)] below meth c Tl ([] ++ copyLocs d q i) 0 0 → Put d Bk s₁ Tl → Laid B Bk q (q + i) (fun j => Value.int (lo8 (cv A (o + (j - q))))) →
      Steps p.tables e below (s₁.setTop (entryFrame m #[.ref b, .int (Int32.ofNat o), .ref d, .int (Int32.ofNat q), .int (Int32.ofNat len)] 7)) (Tl.setTop (mkF m 3 #[.val (.ref b), .val (.int (Int32.ofNat (o + i))), .val (.ref d), .val (.int (Int32.ofNat (q + i))), .val (.int (Int32.ofNat len)), .val (.int (Int32.ofNat i)), z] [])) → ∃ (T' : State) (B' : Cell) (z' : Slot), Stand p l e { frames := 0, locals := 0, cells := 0, slots := 0 } s m #[.ref b, .int (Int32.ofNat o), .ref d, .int (Int32.ofNat q), .int (Int32.ofNat len)] below meth c T' ([] ++ copyLocs d q len) 0 0 ∧ Put d B' s₁ T' ∧ Laid B B' q (q + len) (fun j => Value.int (lo8 (cv A (o + (j - q))))) ∧
      Steps p.tables e below (s₁.setTop (entryFrame m #[.ref b, .int (Int32.ofNat o), .ref d, .int (Int32.ofNat q), .int (Int32.ofNat len)] 7)) (T'.setTop (mkF m 3 #[.val (.ref b), .val (.int (Int32.ofNat (o + len))), .val (.ref d), .val (.int (Int32.ofNat (q + len))), .val (.int (Int32.ofNat len)), .val (.int (Int32.ofNat len)), z'] [])) := by
    intro r
    induction r with
    | zero =>
      intro i hi z hz Tl Bk Xl pl fl cl
      have hil : i = len := by omega
      rw [hil] at Xl fl cl
      exact ⟨Tl, Bk, z, Xl, pl, fl, cl⟩
    | succ r ih =>
      intro i hi z hz Tl Bk Xl pl fl cl
      have all := X0.warmed.alike.symm.trans Xl.warmed.alike
      have hAl := hA0.keep all (pl.other hne hA0.1)
      have hBk := hB0.like all pl.1 fl.1 fl.2.1 fl.2.2.1
      have hlt : q + i < Bk.slots.size := by rw [fl.2.2.1]; omega
      have c3 : Steps p.tables e below (s₁.setTop (entryFrame m #[.ref b, .int (Int32.ofNat o), .ref d, .int (Int32.ofNat q), .int (Int32.ofNat len)] 7)) (Tl.setTop (mkF m 12 #[.val (.ref b), .val (.int (Int32.ofNat (o + i))), .val (.ref d), .val (.int (Int32.ofNat (q + i))), .val (.int (Int32.ofNat len)), .val (.int (Int32.ofNat i)), z] [.int (Int32.ofNat (o + i)), .ref b])) := cl.trans (by
        refine XS.iload Xl.here hexec rfl (hb hbytes d3) rfl ?_
        refine XS.iload Xl.here hexec rfl (hb hbytes d5) rfl ?_
        refine XS.icmpNo Xl.here hexec rfl (hb hbytes d7) rfl (ii_ge_f (lt32 (by omega) (by omega))) ?_
        refine XS.aloadN Xl.here hexec rfl (hb hbytes d10) rfl rfl ?_
        refine XS.iloadN Xl.here hexec rfl (hb hbytes d11) rfl ?_
        exact Steps.refl _)
      have c4 : Steps p.tables e below (s₁.setTop (entryFrame m #[.ref b, .int (Int32.ofNat o), .ref d, .int (Int32.ofNat q), .int (Int32.ofNat len)] 7)) (Tl.setTop (mkF m 13 #[.val (.ref b), .val (.int (Int32.ofNat (o + i))), .val (.ref d), .val (.int (Int32.ofNat (q + i))), .val (.int (Int32.ofNat len)), .val (.int (Int32.ofNat i)), z] [.int (cv A (o + i))])) := c3.trans (by
        refine Xl.aget hexec hAl rfl (hA.get (i := o + i) (by omega)) rfl rfl (hb hbytes d12) ?_
        exact Steps.refl _)
      have c5 : Steps p.tables e below (s₁.setTop (entryFrame m #[.ref b, .int (Int32.ofNat o), .ref d, .int (Int32.ofNat q), .int (Int32.ofNat len)] 7)) (Tl.setTop (mkF m 15 #[.val (.ref b), .val (.int (Int32.ofNat (o + i))), .val (.ref d), .val (.int (Int32.ofNat (q + i))), .val (.int (Int32.ofNat len)), .val (.int (Int32.ofNat i)), .val (.int (cv A (o + i)))] [])) := c4.trans (by
        refine XS.istoreS Xl.here hexec rfl (hb hbytes d13) rfl rfl hz ?_
        exact Steps.refl _)
      have c6 : Steps p.tables e below (s₁.setTop (entryFrame m #[.ref b, .int (Int32.ofNat o), .ref d, .int (Int32.ofNat q), .int (Int32.ofNat len)] 7)) (Tl.setTop (mkF m 31 #[.val (.ref b), .val (.int (Int32.ofNat (o + i))), .val (.ref d), .val (.int (Int32.ofNat (q + i))), .val (.int (Int32.ofNat len)), .val (.int (Int32.ofNat i)), .val (.int (cv A (o + i)))] [.int (lo8 (cv A (o + i))), .int (Int32.ofNat (q + i)), .ref d])) := c5.trans (by
        refine XS.iload Xl.here hexec rfl (hb hbytes d15) rfl ?_
        refine sipushV Xl.here hexec rfl 255 (hb hbytes d17) (by decide) ?_
        refine XS.icmpYes Xl.here hexec rfl (pc0 := 20) rfl (hb hbytes d20) rfl (ii_le_t (hp i (by omega))) (by decide) rfl ?_
        refine XS.aloadN Xl.here hexec rfl (hb hbytes d26) rfl rfl ?_
        refine XS.iloadN Xl.here hexec rfl (hb hbytes d27) rfl ?_
        refine XS.iload Xl.here hexec rfl (hb hbytes d28) rfl ?_
        refine i2b Xl.here hexec rfl (hb hbytes d30) rfl ?_
        exact Steps.refl _)
      obtain ⟨T7, X7, p7, st7⟩ := Xl.aput hexec hBk rfl hlt rfl (fits_lo8 (cv A (o + i))) (g := (mkF m 31 #[.val (.ref b), .val (.int (Int32.ofNat (o + i))), .val (.ref d), .val (.int (Int32.ofNat (q + i))), .val (.int (Int32.ofNat len)), .val (.int (Int32.ofNat i)), .val (.int (cv A (o + i)))] [.int (lo8 (cv A (o + i))), .int (Int32.ofNat (q + i)), .ref d])) rfl (rest := []) rfl (hb hbytes d31)
      have c8 : Steps p.tables e below (s₁.setTop (entryFrame m #[.ref b, .int (Int32.ofNat o), .ref d, .int (Int32.ofNat q), .int (Int32.ofNat len)] 7)) (T7.setTop (mkF m 32 #[.val (.ref b), .val (.int (Int32.ofNat (o + i))), .val (.ref d), .val (.int (Int32.ofNat (q + i))), .val (.int (Int32.ofNat len)), .val (.int (Int32.ofNat i)), .val (.int (cv A (o + i)))] [])) := c6.trans (st7 _ (Steps.refl _))
      have c9 : Steps p.tables e below (s₁.setTop (entryFrame m #[.ref b, .int (Int32.ofNat o), .ref d, .int (Int32.ofNat q), .int (Int32.ofNat len)] 7)) (T7.setTop (mkF m 3 #[.val (.ref b), .val (.int (Int32.ofNat (o + i) + 1)), .val (.ref d), .val (.int (Int32.ofNat (q + i) + 1)), .val (.int (Int32.ofNat len)), .val (.int (Int32.ofNat i + 1)), .val (.int (cv A (o + i)))] [])) := c8.trans (by
        refine iincV X7.here hexec rfl 1 (hb hbytes d32) (by decide) rfl rfl ?_
        refine iincV X7.here hexec rfl 1 (hb hbytes d35) (by decide) rfl rfl ?_
        refine iincV X7.here hexec rfl 1 (hb hbytes d38) (by decide) rfl rfl ?_
        refine XS.goto X7.here hexec rfl (pc0 := 41) rfl (hb hbytes d41) (by decide) rfl ?_
        exact Steps.refl _)
      have c10 : Steps p.tables e below (s₁.setTop (entryFrame m #[.ref b, .int (Int32.ofNat o), .ref d, .int (Int32.ofNat q), .int (Int32.ofNat len)] 7)) (T7.setTop (mkF m 3 #[.val (.ref b), .val (.int (Int32.ofNat (o + (i + 1)))), .val (.ref d), .val (.int (Int32.ofNat (q + (i + 1)))), .val (.int (Int32.ofNat len)), .val (.int (Int32.ofNat (i + 1))), .val (.int (cv A (o + i)))] [])) := by
        have := c9
        rw [succ32, succ32, succ32] at this
        exact this
      exact ih (i + 1) (by omega) _ (Or.inr ⟨_, rfl, rfl⟩) T7 _ (by rw [copyLocs_step, ← List.append_assoc]; exact X7) (pl.trans p7) (fl.step (by omega) hlt (by simp)) c10
  obtain ⟨T9, B9, z9, X9, p9, f9, g9⟩ := loop len 0 (by omega) .unset (Or.inl rfl) s₁ B (by simpa [copyLocs] using X0) ⟨hB0.1, fun _ _ => rfl, rfl⟩ (Laid.zero _ _ _) c2
  have c11 : Steps p.tables e below (s₁.setTop (entryFrame m #[.ref b, .int (Int32.ofNat o), .ref d, .int (Int32.ofNat q), .int (Int32.ofNat len)] 7)) (T9.setTop (mkF m 46 #[.val (.ref b), .val (.int (Int32.ofNat (o + len))), .val (.ref d), .val (.int (Int32.ofNat (q + len))), .val (.int (Int32.ofNat len)), .val (.int (Int32.ofNat len)), z9] [.int (Int32.ofNat len)])) := g9.trans (by
    refine XS.iload X9.here hexec rfl (hb hbytes d3) rfl ?_
    refine XS.iload X9.here hexec rfl (hb hbytes d5) rfl ?_
    refine XS.icmpYes X9.here hexec rfl (pc0 := 7) rfl (hb hbytes d7) rfl (ii_ge_t (nlt32 (by omega) (Nat.le_refl _))) (by decide) rfl ?_
    refine XS.iload X9.here hexec rfl (hb hbytes d44) rfl ?_
    exact Steps.refl _)
  exact ⟨T9, some (.int (Int32.ofNat len)), _, _, _, X9, by simp, rfl, rfl, (fun h => by cases h), ⟨rfl, B9, p9.from hh0, f9⟩, fun fs hl => c11.trans (X9.ireturnOut hexec hret rfl (Or.inl rfl) (hb hbytes d46) hl)⟩
end Cmp5
namespace Cmp3
def yN : MethodName := ⟨"java/lang/StringUTF16", "compress", "([CII)[B"⟩
abbrev yB : ByteArray := jdk_52_method_16_code
theorem d0 : decode yB 0 = .ok (.iload_n 2, 1) := by decide +kernel
theorem d1 : decode yB 1 = .ok (.newarray .byte, 2) := by decide +kernel
theorem d3 : decode yB 3 = .ok (.astore_n 3, 1) := by decide +kernel
theorem d4 : decode yB 4 = .ok (.aload_n 0, 1) := by decide +kernel
theorem d5 : decode yB 5 = .ok (.iload_n 1, 1) := by decide +kernel
theorem d6 : decode yB 6 = .ok (.aload_n 3, 1) := by decide +kernel
theorem d7 : decode yB 7 = .ok (.iconst 0, 1) := by decide +kernel
theorem d8 : decode yB 8 = .ok (.iload_n 2, 1) := by decide +kernel
theorem d9 : decode yB 9 = .ok (.invokestatic 115, 3) := by decide +kernel
theorem d12 : decode yB 12 = .ok (.istore 4, 2) := by decide +kernel
theorem d14 : decode yB 14 = .ok (.iload 4, 2) := by decide +kernel
theorem d16 : decode yB 16 = .ok (.iload_n 2, 1) := by decide +kernel
theorem d17 : decode yB 17 = .ok (.if_icmp (.eq) 40, 3) := by decide +kernel
theorem d57 : decode yB 57 = .ok (.aload_n 3, 1) := by decide +kernel
theorem d58 : decode yB 58 = .ok (.areturn, 1) := by decide +kernel
def site : List Cond := [.arrayClass .byte, Cmp5.tab] ++ staticW U16 115 Cmp5.yN
def tab : Cond := tabOf yN yB 6 (some (.array .byte)) site
def P (b : Addr) (A : Cell) (o len : Nat) (args : Array Value) (s : State) : Prop := args = #[.ref b, .int (Int32.ofNat o), .int (Int32.ofNat len)] ∧ Ch b A s ∧ o + len ≤ A.slots.size ∧ len ≤ 536870912 ∧ ∀ i, i < len → ¬ 255 < cv A (o + i)
def E (b : Addr) (A : Cell) (o len : Nat) (r : Option Value) (s u : State) : Prop := NewArr .byte "[B" len (fun j => .int (lo8 (cv A (o + j)))) r s u ∧ u.heap.size = s.heap.size + 1
/-- no char of the range above 255: a new byte[] of their low bytes -/
theorem law (l : Launch) (b : Addr) (A : Cell) (o len : Nat) : Law l yN 3 3 1 18 yB 6 (some (.array .byte)) site (P b A o len) (E b A o len) [] 1 len := by
  refine Law.of_walk (plainFor_of_name (by decide +kernel)) (by decide +kernel) (by decide +kernel) (by decide) (fun _ _ h => by rw [h.1]; rfl) (fun _ U U' hal hh h => ⟨h.1, h.2.1.mv hal hh, h.2.2⟩) (fun r U U' V V' h1 hal h2 h => ⟨NewArr.mv r U U' V V' h1 hal h2 h.1, by rw [h1, h2]; exact h.2⟩) ?_
  intro p e s m args below meth c s₁ X0 hexec hbytes hml hret hlk hnm hown hh0 W hP
  obtain ⟨rfl, hA, l1, l2, hp⟩ := hP
  have a31 := hA.1.2.2.2
  have c1 : Steps p.tables e below (s₁.setTop (entryFrame m #[.ref b, .int (Int32.ofNat o), .int (Int32.ofNat len)] 6)) (s₁.setTop (mkF m 0 #[.val (.ref b), .val (.int (Int32.ofNat o)), .val (.int (Int32.ofNat len)), .unset, .unset, .unset] [])) := entry rfl
  have c2 : Steps p.tables e below (s₁.setTop (entryFrame m #[.ref b, .int (Int32.ofNat o), .int (Int32.ofNat len)] 6)) (s₁.setTop (mkF m 1 #[.val (.ref b), .val (.int (Int32.ofNat o)), .val (.int (Int32.ofNat len)), .unset, .unset, .unset] [.int (Int32.ofNat len)])) := c1.trans (by
    refine XS.iloadN X0.here hexec rfl (hb hbytes d0) rfl ?_
    exact Steps.refl _)
  obtain ⟨T3, B3, X3, ba3, bs3, bv3, bh3, bf3, st3⟩ := X0.anew hexec (atype := .byte) (wk W (.arrayClass .byte)) rfl (by show len * 1 ≤ _; omega) (by omega) (g := (mkF m 1 #[.val (.ref b), .val (.int (Int32.ofNat o)), .val (.int (Int32.ofNat len)), .unset, .unset, .unset] [.int (Int32.ofNat len)])) rfl (hb hbytes d1) (rest := []) rfl (Nat.le_refl _) (by show 0 + len ≤ len; omega)
  rw [hh0] at ba3 st3
  have kp3 : XT.Kept s T3 := (XT.Kept.of_eq hh0).push bh3
  have hA3 := hA.keep X3.warmed.alike (kp3 _ _ hA.1.1)
  have hne : b ≠ s.heap.size := hA.1.ne
  have c4 : Steps p.tables e below (s₁.setTop (entryFrame m #[.ref b, .int (Int32.ofNat o), .int (Int32.ofNat len)] 6)) (T3.setTop (mkF m 3 #[.val (.ref b), .val (.int (Int32.ofNat o)), .val (.int (Int32.ofNat len)), .unset, .unset, .unset] [.ref s.heap.size])) := c2.trans (st3 _ (Steps.refl _))
  have c5 : Steps p.tables e below (s₁.setTop (entryFrame m #[.ref b, .int (Int32.ofNat o), .int (Int32.ofNat len)] 6)) (T3.setTop (mkF m 9 #[.val (.ref b), .val (.int (Int32.ofNat o)), .val (.int (Int32.ofNat len)), .val (.ref s.heap.size), .unset, .unset] [.int (Int32.ofNat len), .int 0, .ref s.heap.size, .int (Int32.ofNat o), .ref b])) := c4.trans (by
    refine XS.astoreN X3.here hexec rfl (hb hbytes d3) rfl rfl rfl ?_
    refine XS.aloadN X3.here hexec rfl (hb hbytes d4) rfl rfl ?_
    refine XS.iloadN X3.here hexec rfl (hb hbytes d5) rfl ?_
    refine XS.aloadN X3.here hexec rfl (hb hbytes d6) rfl rfl ?_
    refine iconstV X3.here hexec rfl 0 (hb hbytes d7) (by decide) ?_
    refine XS.iloadN X3.here hexec rfl (hb hbytes d8) rfl ?_
    exact Steps.refl _)
  obtain ⟨v6, T6, X6, E6, g6⟩ := X3.callS hexec (Cmp5.law l b A s.heap.size B3 o 0 len) hown (wks W (staticW U16 115 Cmp5.yN)) (wk W Cmp5.tab) (W := 0) (Nat.le_of_ble_eq_true rfl) (Nat.le_of_ble_eq_true rfl) (Nat.le_refl _) (by show 0 + len + 0 ≤ len; omega) (g := (mkF m 9 #[.val (.ref b), .val (.int (Int32.ofNat o)), .val (.int (Int32.ofNat len)), .val (.ref s.heap.size), .unset, .unset] [.int (Int32.ofNat len), .int (Int32.ofNat 0), .ref s.heap.size, .int (Int32.ofNat o), .ref b])) rfl (by rw [hml]; rfl) c5 (argsL := [.ref b, .int (Int32.ofNat o), .ref s.heap.size, .int (Int32.ofNat 0), .int (Int32.ofNat len)]) (rest := []) rfl rfl (by show 2 * 0 + 0 ≤ _; decide) (hb hbytes d9) (⟨rfl, hA3, ba3, hne, l1, by rw [bs3]; simp, hp⟩)
  obtain ⟨rfl, B6, p6, f6⟩ := E6
  have c7 : Steps p.tables e below (s₁.setTop (entryFrame m #[.ref b, .int (Int32.ofNat o), .int (Int32.ofNat len)] 6)) (T6.setTop (mkF m 12 #[.val (.ref b), .val (.int (Int32.ofNat o)), .val (.int (Int32.ofNat len)), .val (.ref s.heap.size), .unset, .unset] [.int (Int32.ofNat len)])) := g6
  have c8 : Steps p.tables e below (s₁.setTop (entryFrame m #[.ref b, .int (Int32.ofNat o), .int (Int32.ofNat len)] 6)) (T6.setTop (mkF m 58 #[.val (.ref b), .val (.int (Int32.ofNat o)), .val (.int (Int32.ofNat len)), .val (.ref s.heap.size), .val (.int (Int32.ofNat len)), .unset] [.ref s.heap.size])) := c7.trans (by
    refine XS.istore X6.here hexec rfl (hb hbytes d12) rfl rfl ?_
    refine XS.iload X6.here hexec rfl (hb hbytes d14) rfl ?_
    refine XS.iloadN X6.here hexec rfl (hb hbytes d16) rfl ?_
    refine XS.icmpYes X6.here hexec rfl (pc0 := 17) rfl (hb hbytes d17) rfl (ii_eq_t rfl) (by decide) rfl ?_
    refine XS.aloadN X6.here hexec rfl (hb hbytes d57) rfl rfl ?_
    exact Steps.refl _)
  have X8 := X6.wide (L' := []) (cells' := 1) (slots' := len) (fun x hx hlt => by
    simp only [List.nil_append, copyLocs, List.mem_map, List.mem_range] at hx
    obtain ⟨i, -, rfl⟩ := hx
    exact absurd hlt (Nat.lt_irrefl _)) (Nat.le_refl _) (by omega)
  exact ⟨T6, some (.ref s.heap.size), _, _, _, X8, rfl, rfl, rfl, (fun h => by cases h), ⟨⟨rfl, B6, ba3.like (X3.warmed.alike.symm.trans X6.warmed.alike) p6.1 f6.1 f6.2.1 f6.2.2.1, f6.2.1.trans bv3, by rw [X6.warmed.alike.findClass, f6.1]; exact bf3, by rw [f6.2.2.1, bs3]; simp, fun j hj => by rw [f6.2.2.2 j, if_pos (by omega)]; rfl, kp3.put p6 (Nat.le_refl _)⟩, by rw [p6.2.2, bh3, hh0]; simp⟩, fun fs hl => c8.trans (X8.areturnOut hexec rfl hret rfl (hb hbytes d58) hl)⟩
end Cmp3
namespace CodL
def yN : MethodName := ⟨"java/lang/StringUTF16", "coderFromArrayLen", "([BI)B"⟩
abbrev yB : ByteArray := jdk_52_method_15_code
theorem d0 : decode yB 0 = .ok (.iload_n 1, 1) := by decide +kernel
theorem d1 : decode yB 1 = .ok (.aload_n 0, 1) := by decide +kernel
theorem d2 : decode yB 2 = .ok (.arraylength, 1) := by decide +kernel
theorem d3 : decode yB 3 = .ok (.isub, 1) := by decide +kernel
theorem d4 : decode yB 4 = .ok (.bipush 31, 2) := by decide +kernel
theorem d6 : decode yB 6 = .ok (.iushr, 1) := by decide +kernel
theorem d7 : decode yB 7 = .ok (.i2b, 1) := by decide +kernel
theorem d8 : decode yB 8 = .ok (.ireturn, 1) := by decide +kernel
def site : List Cond := []
def tab : Cond := tabOf yN yB 2 (some .byte) site
def P (d : Addr) (B : Cell) (args : Array Value) (s : State) : Prop := args = #[.ref d, .int (Int32.ofNat B.slots.size)] ∧ Arr .byte d B s
def E (r : Option Value) (s u : State) : Prop := XT.PureE (some (.int 0)) r s u
/-- an array as long as the number of chars: LATIN1 -/
theorem law (l : Launch) (d : Addr) (B : Cell) : Law l yN 2 2 0 0 yB 2 (some .byte) site (P d B) E [] 0 0 := by
  refine Law.of_walk (plainFor_of_name (by decide +kernel)) (by decide +kernel) (by decide +kernel) (by decide) (fun _ _ h => by rw [h.1]; rfl) (fun _ U U' hal hh h => ⟨h.1, h.2.mv hal hh⟩) (fun r U U' V V' h1 hal h2 h => XT.PureE.mv r U U' V V' h1 hal h2 h) ?_
  intro p e s m args below meth c s₁ X0 hexec hbytes hml hret hlk hnm hown hh0 W hP
  obtain ⟨rfl, hB⟩ := hP
  have hB0 := hB.mv X0.warmed.alike hh0
  have c1 : Steps p.tables e below (s₁.setTop (entryFrame m #[.ref d, .int (Int32.ofNat B.slots.size)] 2)) (s₁.setTop (mkF m 0 #[.val (.ref d), .val (.int (Int32.ofNat B.slots.size))] [])) := entry rfl
  have c2 : Steps p.tables e below (s₁.setTop (entryFrame m #[.ref d, .int (Int32.ofNat B.slots.size)] 2)) (s₁.setTop (mkF m 2 #[.val (.ref d), .val (.int (Int32.ofNat B.slots.size))] [.ref d, .int (Int32.ofNat B.slots.size)])) := c1.trans (by
    refine XS.iloadN X0.here hexec rfl (hb hbytes d0) rfl ?_
    refine XS.aloadN X0.here hexec rfl (hb hbytes d1) rfl rfl ?_
    exact Steps.refl _)
  have c3 : Steps p.tables e below (s₁.setTop (entryFrame m #[.ref d, .int (Int32.ofNat B.slots.size)] 2)) (s₁.setTop (mkF m 8 #[.val (.ref d), .val (.int (Int32.ofNat B.slots.size))] [.int (lo8 (ushr (Int32.ofNat B.slots.size - Int32.ofNat B.slots.size) 31))])) := c2.trans (by
    refine X0.alen hexec hB0 rfl rfl (hb hbytes d2) ?_
    refine XS.isub X0.here hexec rfl (hb hbytes d3) rfl ?_
    refine bipushV X0.here hexec rfl 31 (hb hbytes d4) (by decide) ?_
    refine iushr X0.here hexec rfl (hb hbytes d6) rfl ?_
    refine i2b X0.here hexec rfl (hb hbytes d7) rfl ?_
    exact Steps.refl _)
  have e0 : lo8 (ushr (Int32.ofNat B.slots.size - Int32.ofNat B.slots.size) 31) = 0 := by rw [Int32.sub_self]; decide
  rw [e0] at c3
  exact ⟨s₁, some (.int 0), _, _, _, X0, rfl, rfl, rfl, (fun h => by cases h), ⟨rfl, hh0⟩, fun fs hl => c3.trans (X0.ireturnOut hexec hret rfl (Or.inr (Or.inr (Or.inl rfl))) (hb hbytes d8) hl)⟩
end CodL
/-- the String at a is Latin-1 over a new byte[] (the heap's one new cell): the low bytes of the len chars of A from o on; every cell but a is kept -/
def Got (a : Addr) (D : Cell) (fV fC : Field) (A : Cell) (o len : Nat) (r : Option Value) (s u : State) : Prop := r = none ∧ ∃ D' V : Cell, Blank "java/lang/String" a D' u ∧ Same D D' [fV.slot, fC.slot] ∧ D'.slots[fV.slot]? = some (.ref s.heap.size) ∧ D'.slots[fC.slot]? = some (.int 0) ∧ Arr .byte s.heap.size V u ∧ V.vm = .none ∧ u.vm.findClass "[B" = some V.cls ∧ V.slots.size = len ∧ (∀ j, j < len → V.slots[j]? = some (.int (lo8 (cv A (o + j))))) ∧ (∀ (y : Addr) (c : Cell), y ≠ a → s.heap[y]? = some c → u.heap[y]? = some c) ∧ u.heap.size = s.heap.size + 1
theorem Got.mv {a : Addr} {D A : Cell} {fV fC : Field} {o len : Nat} : ∀ r (U U' V V' : State), U'.heap = U.heap → V.vm.Alike V'.vm → V'.heap = V.heap → Got a D fV fC A o len r U V → Got a D fV fC A o len r U' V' :=
  fun r U U' V V' h1 hal h2 ⟨e0, D', X, a1, a2, a3, a4, a5, a6, a7, a8, a9, a10, a11⟩ => ⟨e0, D', X, a1.mv hal h2, a2, by rw [h1]; exact a3, a4, by rw [h1]; exact a5.mv hal h2, a6, by rw [hal.findClass]; exact a7, a8, a9, by rw [h1, h2]; exact a10, by rw [h1, h2]; exact a11⟩
namespace New4
def yN : MethodName := ⟨"java/lang/String", "<init>", "([CIILjava/lang/Void;)V"⟩
abbrev yB : ByteArray := jdk_42_method_149_code
theorem d0 : decode yB 0 = .ok (.aload_n 0, 1) := by decide +kernel
theorem d1 : decode yB 1 = .ok (.invokespecial 1, 3) := by decide +kernel
theorem d4 : decode yB 4 = .ok (.iload_n 3, 1) := by decide +kernel
theorem d5 : decode yB 5 = .ok (.ifCond (.ne) 22, 3) := by decide +kernel
theorem d27 : decode yB 27 = .ok (.getstatic 38, 3) := by decide +kernel
theorem d30 : decode yB 30 = .ok (.ifCond (.eq) 28, 3) := by decide +kernel
theorem d33 : decode yB 33 = .ok (.aload_n 1, 1) := by decide +kernel
theorem d34 : decode yB 34 = .ok (.iload_n 2, 1) := by decide +kernel
theorem d35 : decode yB 35 = .ok (.iload_n 3, 1) := by decide +kernel
theorem d36 : decode yB 36 = .ok (.invokestatic 177, 3) := by decide +kernel
theorem d39 : decode yB 39 = .ok (.astore 5, 2) := by decide +kernel
theorem d41 : decode yB 41 = .ok (.aload_n 0, 1) := by decide +kernel
theorem d42 : decode yB 42 = .ok (.aload 5, 2) := by decide +kernel
theorem d44 : decode yB 44 = .ok (.iload_n 3, 1) := by decide +kernel
theorem d45 : decode yB 45 = .ok (.invokestatic 47, 3) := by decide +kernel
theorem d48 : decode yB 48 = .ok (.putfield 15, 3) := by decide +kernel
theorem d51 : decode yB 51 = .ok (.aload_n 0, 1) := by decide +kernel
theorem d52 : decode yB 52 = .ok (.aload 5, 2) := by decide +kernel
theorem d54 : decode yB 54 = .ok (.putfield 9, 3) := by decide +kernel
theorem d57 : decode yB 57 = .ok (.return_, 1) := by decide +kernel
def site : List Cond := [.fieldLink "java/lang/String" 38 "java/lang/String" "COMPACT_STRINGS" "Z", Cmp3.tab, CodL.tab, .laysFinal "java/lang/String" "java/lang/String" "value" "[B", .fieldLink "java/lang/String" 9 "java/lang/String" "value" "[B", .laysFinal "java/lang/String" "java/lang/String" "coder" "B", .fieldLink "java/lang/String" 15 "java/lang/String" "coder" "B"] ++ objW "java/lang/String" 1 ++ staticW "java/lang/String" 177 Cmp3.yN ++ staticW "java/lang/String" 47 CodL.yN
def tab : Cond := tabOf yN yB 6 none site
def P (a : Addr) (D : Cell) (fV fC : Field) (b : Addr) (A : Cell) (z : Int32) (o len : Nat) (args : Array Value) (s : State) : Prop := args = #[.ref a, .ref b, .int (Int32.ofNat o), .int (Int32.ofNat len), .null] ∧ Blank "java/lang/String" a D s ∧ Found "java/lang/String" "value" "[B" fV s ∧ Found "java/lang/String" "coder" "B" fC s ∧ Ch b A s ∧ StaticIs s "java/lang/String" "COMPACT_STRINGS" "Z" (.int z) ∧ ¬ z = 0 ∧ 0 < len ∧ o + len ≤ A.slots.size ∧ len ≤ 536870912 ∧ ∀ i, i < len → ¬ 255 < cv A (o + i)
def E (a : Addr) (D : Cell) (fV fC : Field) (A : Cell) (o len : Nat) (r : Option Value) (s u : State) : Prop := Got a D fV fC A o len r s u
/-- len > 0, no char of the range above 255: a Latin-1 String of their low bytes -/
theorem law (l : Launch) (a : Addr) (D : Cell) (fV fC : Field) (b : Addr) (A : Cell) (z : Int32) (o len : Nat) : Law l yN 5 4 2 35 yB 6 none site (P a D fV fC b A z o len) (E a D fV fC A o len) [⟨a, fC.slot⟩, ⟨a, fV.slot⟩] 1 len := by
  refine Law.of_walk (plainFor_of_name (by decide +kernel)) (by decide +kernel) (by decide +kernel) (by decide) (fun _ _ h => by rw [h.1]; rfl) (fun _ U U' hal hh h => ⟨h.1, h.2.1.mv hal hh, h.2.2.1.al hal, h.2.2.2.1.al hal, h.2.2.2.2.1.mv hal hh, h.2.2.2.2.2.1.there hal hh, h.2.2.2.2.2.2⟩) (fun r U U' V V' h1 hal h2 h => Got.mv r U U' V V' h1 hal h2 h) ?_
  intro p e s m args below meth c s₁ X0 hexec hbytes hml hret hlk hnm hown hh0 W hP
  obtain ⟨rfl, hB, f1, f2, hA, s1, hz, l0, l1, l2, hp⟩ := hP
  have a31 := hA.1.2.2.2
  have c1 : Steps p.tables e below (s₁.setTop (entryFrame m #[.ref a, .ref b, .int (Int32.ofNat o), .int (Int32.ofNat len), .null] 6)) (s₁.setTop (mkF m 0 #[.val (.ref a), .val (.ref b), .val (.int (Int32.ofNat o)), .val (.int (Int32.ofNat len)), .val .null, .unset] [])) := entry rfl
  have c2 : Steps p.tables e below (s₁.setTop (entryFrame m #[.ref a, .ref b, .int (Int32.ofNat o), .int (Int32.ofNat len), .null] 6)) (s₁.setTop (mkF m 1 #[.val (.ref a), .val (.ref b), .val (.int (Int32.ofNat o)), .val (.int (Int32.ofNat len)), .val .null, .unset] [.ref a])) := c1.trans (by
    refine XS.aloadN X0.here hexec rfl (hb hbytes d0) rfl rfl ?_
    exact Steps.refl _)
  obtain ⟨T3, X3, q3, st3⟩ := X0.oinit hexec hown (wks W (objW "java/lang/String" 1)) (g := (mkF m 1 #[.val (.ref a), .val (.ref b), .val (.int (Int32.ofNat o)), .val (.int (Int32.ofNat len)), .val .null, .unset] [.ref a])) rfl (by rw [hml]; rfl) (rest := []) rfl (hb hbytes d1) (W := 0) (by show 2 * 0 + 0 ≤ _; decide) (Nat.le_of_ble_eq_true rfl) (Nat.le_of_ble_eq_true rfl)
  have hh3 := q3.trans hh0
  have c4 : Steps p.tables e below (s₁.setTop (entryFrame m #[.ref a, .ref b, .int (Int32.ofNat o), .int (Int32.ofNat len), .null] 6)) (T3.setTop (mkF m 27 #[.val (.ref a), .val (.ref b), .val (.int (Int32.ofNat o)), .val (.int (Int32.ofNat len)), .val .null, .unset] [])) := (c2.trans (st3 _ (Steps.refl _))).trans (by
    refine XS.iloadN X3.here hexec rfl (hb hbytes d4) rfl ?_
    refine XS.ifYes X3.here hexec rfl (pc0 := 5) rfl (hb hbytes d5) rfl (i0_ne_t (nz32 (by omega) l0)) (by decide) rfl ?_
    exact Steps.refl _)
  obtain ⟨T5, X5, q5, st5⟩ := X3.sget hexec hown (wk W (.fieldLink "java/lang/String" 38 "java/lang/String" "COMPACT_STRINGS" "Z")) s1 (fun _ _ h => by rw [hh3]; exact h) (g := (mkF m 27 #[.val (.ref a), .val (.ref b), .val (.int (Int32.ofNat o)), .val (.int (Int32.ofNat len)), .val .null, .unset] [])) rfl (hb hbytes d27)
  have hh5 := q5.trans hh3
  have c6 : Steps p.tables e below (s₁.setTop (entryFrame m #[.ref a, .ref b, .int (Int32.ofNat o), .int (Int32.ofNat len), .null] 6)) (T5.setTop (mkF m 30 #[.val (.ref a), .val (.ref b), .val (.int (Int32.ofNat o)), .val (.int (Int32.ofNat len)), .val .null, .unset] [.int z])) := c4.trans (st5 _ (Steps.refl _))
  have c7 : Steps p.tables e below (s₁.setTop (entryFrame m #[.ref a, .ref b, .int (Int32.ofNat o), .int (Int32.ofNat len), .null] 6)) (T5.setTop (mkF m 36 #[.val (.ref a), .val (.ref b), .val (.int (Int32.ofNat o)), .val (.int (Int32.ofNat len)), .val .null, .unset] [.int (Int32.ofNat len), .int (Int32.ofNat o), .ref b])) := c6.trans (by
    refine XS.ifNo X5.here hexec rfl (hb hbytes d30) rfl (i0_eq_f hz) ?_
    refine XS.aloadN X5.here hexec rfl (hb hbytes d33) rfl rfl ?_
    refine XS.iloadN X5.here hexec rfl (hb hbytes d34) rfl ?_
    refine XS.iloadN X5.here hexec rfl (hb hbytes d35) rfl ?_
    exact Steps.refl _)
  obtain ⟨v8, T8, X8, E8, g8⟩ := X5.callS hexec (Cmp3.law l b A o len) hown (wks W (staticW "java/lang/String" 177 Cmp3.yN)) (wk W Cmp3.tab) (W := 0) (Nat.le_of_ble_eq_true rfl) (Nat.le_of_ble_eq_true rfl) (Nat.le_refl _) (by show 0 + len ≤ len; omega) (g := (mkF m 36 #[.val (.ref a), .val (.ref b), .val (.int (Int32.ofNat o)), .val (.int (Int32.ofNat len)), .val .null, .unset] [.int (Int32.ofNat len), .int (Int32.ofNat o), .ref b])) rfl (by rw [hml]; rfl) c7 (argsL := [.ref b, .int (Int32.ofNat o), .int (Int32.ofNat len)]) (rest := []) rfl rfl (by show 2 * 0 + 0 ≤ _; decide) (hb hbytes d36) (⟨rfl, hA.mv X5.warmed.alike hh5, l1, l2, hp⟩)
  obtain ⟨e8, z8⟩ := E8
  obtain ⟨rfl, N, n1, n2, n3, n4, n5, n6⟩ := NewArr.mv _ T5 s _ _ hh5.symm (Vm.Alike.refl _) rfl e8
  rw [hh5] at z8
  have hB1 := hB.keep X8.warmed.alike (n6 _ _ hB.1)
  have hne : s.heap.size ≠ a := (Nat.ne_of_lt (Array.getElem?_eq_some_iff.mp hB.1).1).symm
  have c9 : Steps p.tables e below (s₁.setTop (entryFrame m #[.ref a, .ref b, .int (Int32.ofNat o), .int (Int32.ofNat len), .null] 6)) (T8.setTop (mkF m 39 #[.val (.ref a), .val (.ref b), .val (.int (Int32.ofNat o)), .val (.int (Int32.ofNat len)), .val .null, .unset] [.ref s.heap.size])) := g8
  have c10 : Steps p.tables e below (s₁.setTop (entryFrame m #[.ref a, .ref b, .int (Int32.ofNat o), .int (Int32.ofNat len), .null] 6)) (T8.setTop (mkF m 45 #[.val (.ref a), .val (.ref b), .val (.int (Int32.ofNat o)), .val (.int (Int32.ofNat len)), .val .null, .val (.ref s.heap.size)] [.int (Int32.ofNat N.slots.size), .ref s.heap.size, .ref a])) := by
    have hc : Steps p.tables e below (s₁.setTop (entryFrame m #[.ref a, .ref b, .int (Int32.ofNat o), .int (Int32.ofNat len), .null] 6)) (T8.setTop (mkF m 45 #[.val (.ref a), .val (.ref b), .val (.int (Int32.ofNat o)), .val (.int (Int32.ofNat len)), .val .null, .val (.ref s.heap.size)] [.int (Int32.ofNat len), .ref s.heap.size, .ref a])) := c9.trans (by
      refine XS.astore X8.here hexec rfl (hb hbytes d39) rfl rfl rfl ?_
      refine XS.aloadN X8.here hexec rfl (hb hbytes d41) rfl rfl ?_
      refine XS.aload X8.here hexec rfl (hb hbytes d42) rfl rfl ?_
      refine XS.iloadN X8.here hexec rfl (hb hbytes d44) rfl ?_
      exact Steps.refl _)
    rw [n4]; exact hc
  obtain ⟨v11, T11, X11, E11, g11⟩ := X8.callS hexec (CodL.law l s.heap.size N) hown (wks W (staticW "java/lang/String" 47 CodL.yN)) (wk W CodL.tab) (W := 1) (Nat.le_of_ble_eq_true rfl) (Nat.le_of_ble_eq_true rfl) (Nat.le_refl _) (by show 0 + len + 0 ≤ len; omega) (g := (mkF m 45 #[.val (.ref a), .val (.ref b), .val (.int (Int32.ofNat o)), .val (.int (Int32.ofNat len)), .val .null, .val (.ref s.heap.size)] [.int (Int32.ofNat N.slots.size), .ref s.heap.size, .ref a])) rfl (by rw [hml]; rfl) c10 (argsL := [.ref s.heap.size, .int (Int32.ofNat N.slots.size)]) (rest := [.ref a]) rfl rfl (by show 2 * 0 + (1 + 0) ≤ _; decide) (hb hbytes d45) (⟨rfl, n1⟩)
  obtain ⟨rfl, q11⟩ := E11
  have hB11 := hB1.mv (X8.warmed.alike.symm.trans X11.warmed.alike) q11
  have c12 : Steps p.tables e below (s₁.setTop (entryFrame m #[.ref a, .ref b, .int (Int32.ofNat o), .int (Int32.ofNat len), .null] 6)) (T11.setTop (mkF m 48 #[.val (.ref a), .val (.ref b), .val (.int (Int32.ofNat o)), .val (.int (Int32.ofNat len)), .val .null, .val (.ref s.heap.size)] [.int 0, .ref a])) := g11
  obtain ⟨T13, X13, p13, bl13, sl13, st13⟩ := X11.finit hexec hown (wk W (.fieldLink "java/lang/String" 15 "java/lang/String" "coder" "B")) (Or.inr ⟨_, (wk W (.laysFinal "java/lang/String" "java/lang/String" "coder" "B"))⟩) (Or.inl ⟨rfl, hnm⟩) f2 (Or.inl rfl) hB11 (t := .byte) (by decide +kernel) rfl (g := (mkF m 48 #[.val (.ref a), .val (.ref b), .val (.int (Int32.ofNat o)), .val (.int (Int32.ofNat len)), .val .null, .val (.ref s.heap.size)] [.int 0, .ref a])) rfl (rest := []) rfl (hb hbytes d48)
  have c14 : Steps p.tables e below (s₁.setTop (entryFrame m #[.ref a, .ref b, .int (Int32.ofNat o), .int (Int32.ofNat len), .null] 6)) (T13.setTop (mkF m 54 #[.val (.ref a), .val (.ref b), .val (.int (Int32.ofNat o)), .val (.int (Int32.ofNat len)), .val .null, .val (.ref s.heap.size)] [.ref s.heap.size, .ref a])) := (c12.trans (st13 _ (Steps.refl _))).trans (by
    refine XS.aloadN X13.here hexec rfl (hb hbytes d51) rfl rfl ?_
    refine XS.aload X13.here hexec rfl (hb hbytes d52) rfl rfl ?_
    exact Steps.refl _)
  obtain ⟨T15, X15, p15, bl15, sl15, st15⟩ := X13.finit hexec hown (wk W (.fieldLink "java/lang/String" 9 "java/lang/String" "value" "[B")) (Or.inr ⟨_, (wk W (.laysFinal "java/lang/String" "java/lang/String" "value" "[B"))⟩) (Or.inl ⟨rfl, hnm⟩) f1 (Or.inl rfl) bl13 (t := (.array .byte)) (by decide +kernel) rfl (g := (mkF m 54 #[.val (.ref a), .val (.ref b), .val (.int (Int32.ofNat o)), .val (.int (Int32.ofNat len)), .val .null, .val (.ref s.heap.size)] [.ref s.heap.size, .ref a])) rfl (rest := []) rfl (hb hbytes d54)
  have c16 : Steps p.tables e below (s₁.setTop (entryFrame m #[.ref a, .ref b, .int (Int32.ofNat o), .int (Int32.ofNat len), .null] 6)) (T15.setTop (mkF m 57 #[.val (.ref a), .val (.ref b), .val (.int (Int32.ofNat o)), .val (.int (Int32.ofNat len)), .val .null, .val (.ref s.heap.size)] [])) := c14.trans (st15 _ (Steps.refl _))
  have ap := apart (Or.inr ⟨_, (wk W (.laysFinal "java/lang/String" "java/lang/String" "value" "[B"))⟩) (Or.inr ⟨_, (wk W (.laysFinal "java/lang/String" "java/lang/String" "coder" "B"))⟩) f1 f2 (t₁ := .array .byte) (t₂ := .byte) (by decide +kernel) (by decide +kernel) (by decide)
  have al := X8.warmed.alike.symm.trans X15.warmed.alike
  have n7 : T11.heap[s.heap.size]? = some N := by rw [q11]; exact n1.1
  exact ⟨T15, none, _, _, _, X15, by simp, rfl, by omega, (fun _ => rfl), ⟨rfl, _, N, bl15, ((Same.refl D _).set _ (by simp)).set _ (by simp), sl15, (Cell.slots_setSlot_ne _ ap).trans sl13, n1.keep al (p15.other hne (p13.other hne n7)), n2, by rw [al.findClass]; exact n3, n4, n5, fun y c h1 h2 => p15.other h1 (p13.other h1 (by rw [q11]; exact n6 y c h2)), by rw [p15.2.2, p13.2.2, q11]; exact z8⟩, fun fs hl => c16.trans (X15.returnOut hexec hret (hb hbytes d57) hl)⟩
end New4
namespace New1
def yN : MethodName := ⟨"java/lang/String", "<init>", "([C)V"⟩
abbrev yB : ByteArray := jdk_42_method_3_code
theorem d0 : decode yB 0 = .ok (.aload_n 0, 1) := by decide +kernel
theorem d1 : decode yB 1 = .ok (.aload_n 1, 1) := by decide +kernel
theorem d2 : decode yB 2 = .ok (.iconst 0, 1) := by decide +kernel
theorem d3 : decode yB 3 = .ok (.aload_n 1, 1) := by decide +kernel
theorem d4 : decode yB 4 = .ok (.arraylength, 1) := by decide +kernel
theorem d5 : decode yB 5 = .ok (.aconst_null, 1) := by decide +kernel
theorem d6 : decode yB 6 = .ok (.invokespecial 27, 3) := by decide +kernel
theorem d9 : decode yB 9 = .ok (.return_, 1) := by decide +kernel
def site : List Cond := [New4.tab] ++ initW "java/lang/String" 27 New4.yN
def tab : Cond := tabOf yN yB 2 none site
def P (a : Addr) (D : Cell) (fV fC : Field) (b : Addr) (A : Cell) (z : Int32) (args : Array Value) (s : State) : Prop := args = #[.ref a, .ref b] ∧ Blank "java/lang/String" a D s ∧ Found "java/lang/String" "value" "[B" fV s ∧ Found "java/lang/String" "coder" "B" fC s ∧ Ch b A s ∧ StaticIs s "java/lang/String" "COMPACT_STRINGS" "Z" (.int z) ∧ ¬ z = 0 ∧ 0 < A.slots.size ∧ A.slots.size ≤ 536870912 ∧ ∀ i, i < A.slots.size → ¬ 255 < cv A i
def E (a : Addr) (D : Cell) (fV fC : Field) (A : Cell) (r : Option Value) (s u : State) : Prop := Got a D fV fC A 0 A.slots.size r s u
/-- new String(chars), not empty, no char above 255: a Latin-1 String of their low bytes -/
theorem law (l : Launch) (a : Addr) (D : Cell) (fV fC : Field) (b : Addr) (A : Cell) (z : Int32) : Law l yN 2 1 3 52 yB 2 none site (P a D fV fC b A z) (E a D fV fC A) [⟨a, fC.slot⟩, ⟨a, fV.slot⟩] 1 A.slots.size := by
  refine Law.of_walk (plainFor_of_name (by decide +kernel)) (by decide +kernel) (by decide +kernel) (by decide) (fun _ _ h => by rw [h.1]; rfl) (fun _ U U' hal hh h => ⟨h.1, h.2.1.mv hal hh, h.2.2.1.al hal, h.2.2.2.1.al hal, h.2.2.2.2.1.mv hal hh, h.2.2.2.2.2.1.there hal hh, h.2.2.2.2.2.2⟩) (fun r U U' V V' h1 hal h2 h => Got.mv r U U' V V' h1 hal h2 h) ?_
  intro p e s m args below meth c s₁ X0 hexec hbytes hml hret hlk hnm hown hh0 W hP
  obtain ⟨rfl, hB, f1, f2, hA, s1, hz, l0, l2, hp⟩ := hP
  have c1 : Steps p.tables e below (s₁.setTop (entryFrame m #[.ref a, .ref b] 2)) (s₁.setTop (mkF m 0 #[.val (.ref a), .val (.ref b)] [])) := entry rfl
  have c2 : Steps p.tables e below (s₁.setTop (entryFrame m #[.ref a, .ref b] 2)) (s₁.setTop (mkF m 6 #[.val (.ref a), .val (.ref b)] [.null, .int (Int32.ofNat A.slots.size), .int 0, .ref b, .ref a])) := c1.trans (by
    refine XS.aloadN X0.here hexec rfl (hb hbytes d0) rfl rfl ?_
    refine XS.aloadN X0.here hexec rfl (hb hbytes d1) rfl rfl ?_
    refine iconstV X0.here hexec rfl 0 (hb hbytes d2) (by decide) ?_
    refine XS.aloadN X0.here hexec rfl (hb hbytes d3) rfl rfl ?_
    refine X0.alen hexec (hA.1.mv X0.warmed.alike hh0) rfl rfl (hb hbytes d4) ?_
    refine XS.aconstNull X0.here hexec rfl (hb hbytes d5) ?_
    exact Steps.refl _)
  obtain ⟨v3, T3, X3, E3, g3⟩ := X0.callN hexec (New4.law l a D fV fC b A z 0 A.slots.size) rfl hown (wks W (initW "java/lang/String" 27 New4.yN)) (W New4.tab (by simp only [site, List.mem_cons, List.mem_append, true_or, or_true])) (W := 0) (Nat.le_of_ble_eq_true rfl) (Nat.le_of_ble_eq_true rfl) (Nat.le_refl _) (by show 0 + A.slots.size ≤ A.slots.size; omega) (g := (mkF m 6 #[.val (.ref a), .val (.ref b)] [.null, .int (Int32.ofNat A.slots.size), .int (Int32.ofNat 0), .ref b, .ref a])) rfl (by rw [hml]; rfl) c2 (argsL := [.ref b, .int (Int32.ofNat 0), .int (Int32.ofNat A.slots.size), .null]) (rest := []) rfl rfl (by show 2 * 0 + 0 ≤ _; decide) (hb hbytes d6) (⟨rfl, hB.mv X0.warmed.alike hh0, f1.al X0.warmed.alike, f2.al X0.warmed.alike, hA.mv X0.warmed.alike hh0, s1.there X0.warmed.alike hh0, hz, l0, by omega, l2, fun i hi => by rw [Nat.zero_add]; exact hp i hi⟩)
  have e0 := Got.mv _ s₁ s _ _ hh0.symm (Vm.Alike.refl _) rfl E3
  obtain rfl := e0.1
  have c4 : Steps p.tables e below (s₁.setTop (entryFrame m #[.ref a, .ref b] 2)) (T3.setTop (mkF m 9 #[.val (.ref a), .val (.ref b)] [])) := g3
  exact ⟨T3, none, _, _, _, X3, by simp, rfl, by omega, (fun _ => rfl), e0, fun fs hl => c4.trans (X3.returnOut hexec hret (hb hbytes d9) hl)⟩
theorem pays {l : Launch} {R : Room} {p : Program} {e : Env} {below : List Frame} {s : State} {sargs : Array Value} {len W : Nat} (a : Addr) (D : Cell) (fV fC : Field) (b : Addr) (A : Cell) (z : Int32) (htab : tab.before sargs s = true) (hfr : 4 ≤ R.frames) (hlo : W + 65 ≤ R.locals) :
    Back l R p e below s sargs yN len W (fun A₁ a₁ => A₁.cells + 1 ≤ R.cells ∧ A₁.slots + A.slots.size ≤ R.slots ∧ P a D fV fC b A z a₁ A₁.U) (fun A₁ _ v₁ B₁ => E a D fV fC A v₁ A₁.U B₁.U ∧ B₁.locs = A₁.locs ++ [⟨a, fC.slot⟩, ⟨a, fV.slot⟩] ∧ B₁.cells = A₁.cells + 1 ∧ B₁.slots = A₁.slots + A.slots.size) :=
  (law l a D fV fC b A z).pays htab hfr (by omega)
end New1
/-- the byte, read back as charAt reads it, is the char -/
theorem lo8_mask {x : Int32} (h0 : ¬ x < 0) (h1 : ¬ 255 < x) : lo8 x &&& 255 = x := by
  have t : ∀ k : Fin 256, lo8 (Int32.ofNat k.val) &&& 255 = Int32.ofNat k.val := by decide +kernel
  rw [Int32.lt_iff_toInt_lt] at h0 h1
  have e0 : (0 : Int32).toInt = 0 := rfl
  have e1 : (255 : Int32).toInt = 255 := rfl
  obtain ⟨k, hk⟩ : ∃ k : Nat, x.toInt = k := ⟨x.toInt.toNat, by omega⟩
  have hx : x = Int32.ofNat k := Int32.toInt_inj.mp (by rw [hk, Int32.toInt_ofNat_small (by omega)])
  rw [hx]
  exact t ⟨k, by omega⟩
end StrChars
namespace StrChars.Road
open Jvm Sem ClassFile Op Lib Jvm.Stand Jvm.Free Jvm.Free.XT
open Jvm.Lib.Cold (StaticIs)
abbrev ST : String := "java/lang/String"
/-- every table word that New1's law asks, flat -/
abbrev words : List Jvm.Cond := [.code New1.yN New1.yB 2 none, .initialized ST, .methodLink ST 27 New4.yN, .instanceMethod New4.yN,
  .code New4.yN New4.yB 6 none, .fieldLink ST 38 ST "COMPACT_STRINGS" "Z", .laysFinal ST ST "value" "[B", .fieldLink ST 9 ST "value" "[B", .laysFinal ST ST "coder" "B", .fieldLink ST 15 ST "coder" "B",
  .methodLink ST 1 Lib.objectInit, .instanceMethod Lib.objectInit, .code Lib.objectInit ⟨#[0xb1]⟩ 1 none, .methodLink ST 177 Cmp3.yN, .static Cmp3.yN, .methodLink ST 47 CodL.yN, .static CodL.yN,
  .code Cmp3.yN Cmp3.yB 6 (some (.array .byte)), .initialized U16, .arrayClass .byte, .methodLink U16 115 Cmp5.yN, .static Cmp5.yN, .code Cmp5.yN Cmp5.yB 7 (some .int), .code CodL.yN CodL.yB 2 (some .byte)]
theorem tab_of {a : Array Value} {s : State} (h : ∀ w ∈ words, w.before a s = true) : New1.tab.before a s = true := by
  have h5 : Cmp5.tab.before a s = true := unparts (wk h (.code Cmp5.yN Cmp5.yB 7 (some .int))) (wks h (.initialized Cmp5.yN.cls :: Cmp5.site))
  have hc : CodL.tab.before a s = true := unparts (wk h (.code CodL.yN CodL.yB 2 (some .byte))) (wks h (.initialized CodL.yN.cls :: CodL.site))
  have q5 : ∀ w ∈ Cmp5.tab :: words, w.before a s = true := fun w hw => (List.mem_cons.mp hw).elim (fun e => e ▸ h5) (h w)
  have h3 : Cmp3.tab.before a s = true := unparts (wk q5 (.code Cmp3.yN Cmp3.yB 6 (some (.array .byte)))) (wks q5 (.initialized Cmp3.yN.cls :: Cmp3.site))
  have q3 : ∀ w ∈ Cmp3.tab :: CodL.tab :: words, w.before a s = true := fun w hw => (List.mem_cons.mp hw).elim (fun e => e ▸ h3) fun hw => (List.mem_cons.mp hw).elim (fun e => e ▸ hc) (h w)
  have h4 : New4.tab.before a s = true := unparts (wk q3 (.code New4.yN New4.yB 6 none)) (wks q3 (.initialized New4.yN.cls :: New4.site))
  have q4 : ∀ w ∈ New4.tab :: words, w.before a s = true := fun w hw => (List.mem_cons.mp hw).elim (fun e => e ▸ h4) (h w)
  exact unparts (wk q4 (.code New1.yN New1.yB 2 none)) (wks q4 (.initialized New1.yN.cls :: New1.site))
/-- the words ride from the start Z to the walk's own state -/
theorem moved {Z s : State} {a0 args : Array Value} (hZ : Z.Warmed39 s.vm) (hw : ∀ d ∈ words, d.before a0 Z = true) : ∀ d ∈ words, d.before args s = true := fun d hd => by
  have q := hw d hd
  have t : ∀ d ∈ words, d = .arrayClass .byte ∨ (d.onTables && d.keepsFace) = true := by decide +kernel
  rcases t d hd with rfl | t
  · exact RoadKit.mvA hZ q
  · exact RoadKit.mv hZ q t
/-- WHAT COMES BACK, over the tables of the start Z: h the heap at the call, h' behind it -/
def Q (Z : State) (x : Addr) (A : Cell) (h : Heap) (v : Option Value) (h' : Heap) (L : List Loc) : Prop := v = none ∧ (∀ y ∈ L, y.base = x) ∧ RoadKit.Keep h h' [x] ∧ h'.size = h.size + 1 ∧ RoadKit.Exa Z h' x ST ∧ RoadKit.Fld Z h' x ST "value" "[B" (.ref h.size) ∧ RoadKit.Fld Z h' x ST "coder" "B" (.int 0) ∧
  (∃ V : Cell, RoadKit.Arr Z h' h.size V .byte ∧ V.vm = .none ∧ Z.vm.findClass "[B" = some V.cls ∧ V.slots.size = A.slots.size ∧ ∀ j, j < A.slots.size → V.slots[j]? = some (.int (lo8 (cv A j)))) ∧
  ∀ (O n d : String) (w : Value), RoadKit.Fld Z h x O n d w → RoadKit.slotOf Z O n d ≠ RoadKit.slotOf Z ST "value" "[B" → RoadKit.slotOf Z O n d ≠ RoadKit.slotOf Z ST "coder" "B" → RoadKit.Fld Z h' x O n d w
/-- **new String(chars) AT A CALL, IN THE ROAD'S FORM**: for specialBack behind newO: x the fresh String, b the char[] with the cell A -/
theorem back {p : Program} {l : Launch} {e : Env} {R : Room} {s : State} {args : Array Value} {below : List Frame} {len W : Nat} {Z : State} {a0 : Array Value} {h : Heap} (hZ : Z.Warmed39 s.vm) (hw : ∀ d ∈ words, d.before a0 Z = true) {kI : Nat} (wi : (Jvm.Cond.instantiable ST kI).before a0 Z = true)
    {x b : Addr} {A : Cell} {z : Int32} {v0 c0 : Value} (E : RoadKit.Exa Z h x ST) (V : RoadKit.Fld Z h x ST "value" "[B" v0) (C : RoadKit.Fld Z h x ST "coder" "B" c0) (K : RoadKit.Arr Z h b A .char) (hty : Typed .char A) (S : RoadKit.Sta Z h ST "COMPACT_STRINGS" "Z" (.int z)) (hz : ¬ z = 0)
    (l0 : 0 < A.slots.size) (l2 : A.slots.size ≤ 536870912) (hp : ∀ i, i < A.slots.size → ¬ 255 < cv A i) (hfr : 4 ≤ R.frames) (hlo : W + 65 ≤ R.locals) :
    Back l R p e below s args New1.yN len W (fun P a => a = #[.ref x, .ref b] ∧ P.U.heap = h ∧ P.cells + 1 ≤ R.cells ∧ P.slots + A.slots.size ≤ R.slots)
      (fun P _ v B => ∃ L, Q Z x A h v B.U.heap L ∧ B.locs = P.locs ++ L ∧ B.cells = P.cells + 1 ∧ B.slots = P.slots + A.slots.size) := by
  intro m meth c P g ig mk a X hg hsize hdg hW hn hp'
  obtain ⟨rfl, rfl, r1, r2⟩ := hp'
  have al : Z.vm.Alike P.U.vm := hZ.alike.trans X.warmed.alike
  obtain ⟨D, cfV, kV, iV, fV, hD, gV, stV, knV, obV, asV, slV⟩ := id V
  obtain ⟨D', cfC, kC, iC, fC, hD', gC, stC, -, -, asC, slC⟩ := id C
  cases hD.symm.trans hD'
  obtain ⟨D2, kD, e1, e2, e3, e4, e5⟩ := id E
  cases hD.symm.trans e1
  obtain ⟨c2, k2, i1, i2, i3, -⟩ := Cond.instantiable_spec wi
  cases e2.symm.trans i1
  cases e3.symm.trans i2
  obtain ⟨kU, u1, u2⟩ := al.2.2 _ _ e3
  have hB : Blank ST x D P.U := ⟨hD, ⟨knV, fun q hq => by rw [hq] at obV; cases obV⟩, by rw [al.findClass]; exact e2, kU, u1, by rw [u2]; exact i3, by rw [u2]; exact e5 i3⟩
  have F1 : Found ST "value" "[B" fV P.U := ⟨SBG.found_only al ⟨cfV, kV, iV, gV⟩, stV⟩
  have F2 : Found ST "coder" "B" fC P.U := ⟨SBG.found_only al ⟨cfC, kC, iC, gC⟩, stC⟩
  have hA : Ch b A P.U := ⟨⟨K.1, State.isArrayOf_alike al K.2.1, K.2.2, by omega⟩, hty⟩
  have hS : StaticIs P.U ST "COMPACT_STRINGS" "Z" (.int z) := by
    obtain ⟨cfS, iS, kS, fS, st, cS, t1, t2, t3, t4, t5, t6, t7⟩ := S
    exact StaticIs.there (s := { Z with heap := P.U.heap }) ⟨cfS, iS, kS, fS, st, cS, t1, t2, t3, t4, t5, (fun q => by rw [q] at t6; cases t6), t7⟩ al rfl
  obtain ⟨v, B, X', ⟨⟨hv, E', V', q1, q2, q3, q4, q5, q6, q7, q8, q9, q10, q11⟩, hl, hc, hs⟩, st⟩ := New1.pays x D fV fC b A z (tab_of (moved hZ hw)) hfr hlo m meth c P g ig mk _ X hg hsize hdg hW hn ⟨r1, r2, rfl, hB, F1, F2, hA, hS, hz, l0, l2, hp⟩
  have al' : Z.vm.Alike B.U.vm := hZ.alike.trans X'.warmed.alike
  have hsz : E'.slots.size = D.slots.size := by
    obtain ⟨-, -, -, kB, w1, w2, w3⟩ := q1
    obtain ⟨kB', y1, y2⟩ := al'.2.2 _ _ e3
    rw [q2.2.1] at w1
    cases w1.symm.trans y1
    rw [w3, e5 i3, y2]
  refine ⟨v, B, X', ⟨_, ⟨hv, ?_, ⟨by omega, fun y cy hy hn' => q10 y cy (by simpa using hn') hy, fun y cy hy => ?_⟩, q11, ⟨E', _, q1.1, by rw [q2.2.1]; exact e2, by rw [q2.2.1]; exact e3, by rw [q2.1]; exact obV, fun _ => by rw [hsz]; exact e5 i3⟩,
    ⟨E', cfV, kV, iV, fV, q1.1, gV, stV, by rw [q2.1]; exact knV, by rw [q2.1]; exact obV, by rw [q2.2.1]; exact asV, q3⟩, ⟨E', cfC, kC, iC, fC, q1.1, gC, stC, by rw [q2.1]; exact knV, by rw [q2.1]; exact obV, by rw [q2.2.1]; exact asC, q4⟩,
    ⟨V', ⟨q5.1, State.isArrayOf_alike al'.symm q5.2.1, q5.2.2.1⟩, q6, by rw [← al'.findClass]; exact q7, q8, fun j hj => by have := q9 j hj; rwa [Nat.zero_add] at this⟩, fun O n d w F n1 n2 => ?_⟩, hl, hc, hs⟩, st⟩
  · intro y hy
    simp only [List.mem_cons, List.not_mem_nil, or_false] at hy
    rcases hy with rfl | rfl <;> rfl
  · by_cases q : y = x
    · subst q
      cases hD.symm.trans hy
      exact ⟨E', q1.1, q2.2.1, q2.1, hsz⟩
    · exact ⟨cy, q10 y cy q hy, rfl, rfl, rfl⟩
  · obtain ⟨D3, cf, k, i, f, g1, g2, g3, g4, g5, g6, g7⟩ := F
    cases hD.symm.trans g1
    simp only [RoadKit.slotOf, g2, gV, gC, Option.map_some, Option.getD_some] at n1 n2
    exact ⟨E', cf, k, i, f, q1.1, g2, g3, by rw [q2.1]; exact g4, by rw [q2.1]; exact g5, by rw [q2.2.1]; exact g6, by rw [q2.2.2 f.slot (by simp [n1, n2])]; exact g7⟩
end StrChars.Road
namespace StrChars.Road
open Jvm Sem ClassFile Op Lib Jvm.Stand Jvm.Free Jvm.Free.XT
/-- WHAT COMES BACK, the byte[] as a list of values -/
def QA (Z : State) (x : Addr) (zn : Int32) (cs : List Int32) (h : Heap) (v : Option Value) (h' : Heap) (L : List Loc) : Prop := v = none ∧ (∀ y ∈ L, y.base = x) ∧ RoadKit.Keep h h' [x] ∧ h'.size = h.size + 1 ∧ RoadKit.Exa Z h' x ST ∧ RoadKit.Fld Z h' x ST "value" "[B" (.ref h.size) ∧ RoadKit.Fld Z h' x ST "coder" "B" (.int 0) ∧
  (∃ kb, Z.vm.findClass "[B" = some kb ∧ RoadKit.Arv Z h' h.size kb .byte zn (cs.map fun c => .int (lo8 c)) (.int 0)) ∧
  ∀ (O n d : String) (w : Value), RoadKit.Fld Z h x O n d w → RoadKit.slotOf Z O n d ≠ RoadKit.slotOf Z ST "value" "[B" → RoadKit.slotOf Z O n d ≠ RoadKit.slotOf Z ST "coder" "B" → RoadKit.Fld Z h' x O n d w
/-- **new String(chars) AT A CALL, THE ARRAYS AS LISTS**: the char[] at b holds cs, not empty, no char above 255 -/
theorem backArv {p : Program} {l : Launch} {e : Env} {R : Room} {s : State} {args : Array Value} {below : List Frame} {len W : Nat} {Z : State} {a0 : Array Value} {h : Heap} (hZ : Z.Warmed39 s.vm) (hw : ∀ d ∈ words, d.before a0 Z = true) {kI : Nat} (wi : (Jvm.Cond.instantiable ST kI).before a0 Z = true)
    {x b : Addr} {k : ClassId} {zn z : Int32} {cs : List Int32} {dv v0 c0 : Value} (E : RoadKit.Exa Z h x ST) (V : RoadKit.Fld Z h x ST "value" "[B" v0) (C : RoadKit.Fld Z h x ST "coder" "B" c0) (K : RoadKit.Arv Z h b k .char zn (cs.map Value.int) dv) (S : RoadKit.Sta Z h ST "COMPACT_STRINGS" "Z" (.int z)) (hz : ¬ z = 0)
    (hlen : zn.toNatClampNeg = cs.length) (h0 : 0 < cs.length) (hbig : cs.length ≤ 536870912) (hall : ∀ c ∈ cs, ¬ 255 < c) (hfr : 4 ≤ R.frames) (hlo : W + 65 ≤ R.locals) :
    Back l R p e below s args New1.yN len W (fun P a => a = #[.ref x, .ref b] ∧ P.U.heap = h ∧ P.cells + 1 ≤ R.cells ∧ P.slots + cs.length ≤ R.slots)
      (fun P _ v B => ∃ L, QA Z x zn cs h v B.U.heap L ∧ B.locs = P.locs ++ L ∧ B.cells = P.cells + 1 ∧ B.slots = P.slots + cs.length) := by
  obtain ⟨A, K1, K2, K3, K4, K5, K6⟩ := K
  have e : A.slots.size = cs.length := K3.trans hlen
  have hat : ∀ (i : Nat) (hi : i < cs.length), A.slots[i]? = some (.int cs[i]) := fun i hi => by rw [K5 i (by omega)]; simp [List.getD_eq_getElem?_getD, hi]
  have hcv : ∀ (i : Nat) (hi : i < cs.length), cv A i = cs[i] := fun i hi => by unfold cv; rw [hat i hi]
  have hty : Typed .char A := fun i v hv => by
    have hi : i < A.slots.size := (Array.getElem?_eq_some_iff.mp hv).1
    have q := K5 i hi
    rw [hv] at q
    rw [Option.some.inj q]
    exact K6 i hi
  refine Back.mono (back hZ hw wi E V C K1 hty S hz (by omega) (by omega) (fun i hi => by rw [hcv i (by omega)]; exact hall _ (List.getElem_mem _)) hfr hlo) (fun P a hp => ⟨hp.1, hp.2.1, hp.2.2.1, by rw [e]; exact hp.2.2.2⟩) (fun P a v B hp hq => ?_)
  obtain ⟨L, ⟨q1, q2, q3, q4, q5, q6, q7, ⟨V', v1, v2, v3, v4, v5⟩, q9⟩, hl, hc, hs⟩ := hq
  refine ⟨L, ⟨q1, q2, q3, q4, q5, q6, q7, ⟨V'.cls, v3, V', v1, rfl, by rw [v4, e, hlen], K4, fun i hi => ?_, fun i hi => ?_⟩, q9⟩, hl, hc, by rw [hs, e]⟩
  · have hi' : i < cs.length := by omega
    rw [v5 i (by omega), hcv i hi']; simp [List.getD_eq_getElem?_getD, hi']
  · have hi' : i < cs.length := by omega
    simp only [List.getD_eq_getElem?_getD, List.getElem?_map, List.getElem?_eq_getElem hi', Option.map_some, Option.getD_some]
    exact fits_lo8 _
end StrChars.Road
namespace StrChars.Road
open Jvm Sem ClassFile Op Lib Jvm.Stand Jvm.Free Jvm.Free.XT
/-- WHAT COMES BACK, in the writer's own shape -/
def QV (Z : State) (x : Addr) (N : Int32) (bs : List Int32) (h : Heap) (n0 : Nat) (v : Option Value) (h' : Heap) (L : List Loc) : Prop := v = none ∧ RoadKit.Fr n0 L ∧ RoadKit.Keep h h' [x] ∧ RoadKit.Exa Z h' x ST ∧ RoadKit.Fld Z h' x ST "coder" "B" (.int 0) ∧
  ∃ (t : Addr) (kb : ClassId), n0 ≤ t ∧ h.size ≤ t ∧ ¬ t = x ∧ RoadKit.Fld Z h' x ST "value" "[B" (.ref t) ∧ RoadKit.Arv Z h' t kb .byte N (bs.map Value.int) (.int 0)
/-- **new String(chars) AT A CALL, FOR THE WRITER**: a char[] of n known ints, each 0 to 255 -/
theorem backV {p : Program} {l : Launch} {e : Env} {R : Room} {s : State} {args : Array Value} {below : List Frame} {len W : Nat} {Z : State} {a0 : Array Value} {h : Heap} (hZ : Z.Warmed39 s.vm) (hw : ∀ d ∈ words, d.before a0 Z = true) {kI : Nat} (wi : (Jvm.Cond.instantiable ST kI).before a0 Z = true)
    {x b : Addr} {kC : ClassId} {cs bs : List Int32} {d v0 c0 : Value} {z N : Int32} {n n0 : Nat} (hx0 : n0 ≤ x) (hh0 : n0 ≤ h.size) (E : RoadKit.Exa Z h x ST) (V : RoadKit.Fld Z h x ST "value" "[B" v0) (C : RoadKit.Fld Z h x ST "coder" "B" c0) (K : RoadKit.Arv Z h b kC .char N (cs.map Value.int) d) (S : RoadKit.Sta Z h ST "COMPACT_STRINGS" "Z" (.int z)) (hz : ¬ z = 0)
    (hn : cs.length = n) (hN : N = Int32.ofNat n) (l0 : 0 < n) (l2 : n ≤ 4000) (hp : ∀ c ∈ cs, ¬ c < 0 ∧ ¬ (255 : Int32) < c) (hb : bs = cs.map (fun c => c.toInt8.toInt32)) (hfr : 4 ≤ R.frames) (hlo : W + 65 ≤ R.locals) :
    Back l R p e below s args (⟨"java/lang/String", "<init>", "([C)V"⟩ : MethodName) len W (fun P a => a = #[.ref x, .ref b] ∧ P.U.heap = h ∧ P.cells + 1 ≤ R.cells ∧ P.slots + n ≤ R.slots)
      (fun P _ v B => ∃ L, QV Z x N bs h n0 v B.U.heap L ∧ B.locs = P.locs ++ L ∧ B.cells = P.cells + 1 ∧ B.slots = P.slots + n) := by
  subst hn hN hb
  refine Back.mono (backArv hZ hw wi E V C K S hz (n32 (by omega)) l0 (by omega) (fun c hc => (hp c hc).2) hfr hlo) (fun P a hp => hp) (fun P a v B hp hq => ?_)
  obtain ⟨L, ⟨q1, q2, q3, q4, q5, q6, q7, ⟨kb, v1, v2⟩, q9⟩, hl, hc, hs⟩ := hq
  exact ⟨L, ⟨q1, fun y hy => by rw [q2 y hy]; exact hx0, q3, q5, q7, h.size, kb, hh0, Nat.le_refl _, Nat.ne_of_gt E.lt, q6, by rw [List.map_map]; exact v2⟩, hl, hc, hs⟩
end StrChars.Road
namespace StrChars
open Jvm Sem ClassFile Op Lib Jvm.Stand Jvm.Free.XT Jvm.Free.ALB Jvm.Free.JM Jvm.Free
open Jvm.Lib.Cold (StaticIs)
def hi8 (x : Int32) : Int32 := lo8 (x >>> ((8 : Int32) &&& 31))
/-- what StringUTF16.getChar makes of two bytes -/
def pairCh (u v : Int32) : Int32 := (((u &&& 255) <<< ((0 : Int32) &&& 31)) ||| ((v &&& 255) <<< ((8 : Int32) &&& 31))).toUInt32.toUInt16.toUInt32.toInt32
theorem lo8_and (x : Int32) : (lo8 x &&& 255).toBitVec.toNat = x.toBitVec.toNat % 256 := by
  have h : (lo8 x).toBitVec = (x.toBitVec.signExtend 8).signExtend 32 := by rw [lo8, Int8.toBitVec_toInt32, Int32.toBitVec_toInt8]
  rw [Int32.toBitVec_and, BitVec.toNat_and, h]
  have e : ((x.toBitVec.signExtend 8).signExtend 32).toNat % 256 = x.toBitVec.toNat % 256 := by
    rw [BitVec.toNat_signExtend]
    have hlt := x.toBitVec.isLt
    simp only [BitVec.toNat_setWidth, BitVec.toNat_signExtend]
    split <;> split <;> omega
  rw [← e]
  exact Nat.and_two_pow_sub_one_eq_mod _ 8
theorem pair_says {c : Int32} (h0 : ¬ c < 0) (h1 : ¬ 65535 < c) : pairCh (lo8 c) (hi8 c) = c := by
  rw [Int32.lt_iff_toInt_lt] at h0 h1
  have e0 : (0 : Int32).toInt = 0 := rfl
  have e1 : (65535 : Int32).toInt = 65535 := rfl
  have hc : c.toInt = c.toBitVec.toNat := by
    have := c.toBitVec.isLt
    have e : c.toInt = c.toBitVec.toInt := rfl
    rw [e] at h0 h1
    rw [e]
    rw [BitVec.toInt_eq_toNat_cond] at h0 h1 ⊢
    split at h0 <;> split <;> omega
  have hn : c.toBitVec.toNat < 65536 := by omega
  have a1 := lo8_and c
  have a2 : (hi8 c &&& 255).toBitVec.toNat = c.toBitVec.toNat / 256 := by
    rw [hi8, lo8_and]
    have e : ((8 : Int32) &&& 31) = 8 := by decide
    rw [e, Int32.toBitVec_shiftRight]
    have e2 : ((8 : Int32).toBitVec.smod 32) = 8#32 := by decide
    rw [e2, BitVec.sshiftRight_eq', BitVec.toNat_sshiftRight_of_msb_false (by rw [BitVec.msb_eq_false_iff_two_mul_lt]; omega)]
    show c.toBitVec.toNat >>> 8 % 256 = _
    rw [Nat.shiftRight_eq_div_pow]
    omega
  unfold pairCh
  apply Int32.toBitVec_inj.mp
  apply BitVec.eq_of_toNat_eq
  have f0 : ((0 : Int32) &&& 31) = 0 := by decide
  have f8 : ((8 : Int32) &&& 31) = 8 := by decide
  rw [f0, f8]
  have g : (((lo8 c &&& 255) <<< (0 : Int32)) ||| ((hi8 c &&& 255) <<< (8 : Int32))).toBitVec.toNat = c.toBitVec.toNat := by
    rw [Int32.toBitVec_or, Int32.toBitVec_shiftLeft, Int32.toBitVec_shiftLeft]
    have s0 : ((0 : Int32).toBitVec.smod 32) = 0#32 := by decide
    have s8 : ((8 : Int32).toBitVec.smod 32) = 8#32 := by decide
    rw [s0, s8, BitVec.toNat_or]
    simp only [BitVec.shiftLeft_eq', BitVec.toNat_shiftLeft, a1, a2]
    show (c.toBitVec.toNat % 256) <<< 0 % 2 ^ 32 ||| (c.toBitVec.toNat / 256) <<< 8 % 2 ^ 32 = _
    rw [Nat.shiftLeft_zero, Nat.mod_eq_of_lt (show c.toBitVec.toNat % 256 < 2 ^ 32 by omega), Nat.mod_eq_of_lt (show (c.toBitVec.toNat / 256) <<< 8 < 2 ^ 32 by rw [Nat.shiftLeft_eq]; omega), Nat.or_comm, ← Nat.shiftLeft_add_eq_or_of_lt (by omega), Nat.shiftLeft_eq]
    omega
  show BitVec.toNat (((((lo8 c &&& 255) <<< (0 : Int32)) ||| ((hi8 c &&& 255) <<< (8 : Int32))).toBitVec.setWidth 16).setWidth 32) = _
  rw [BitVec.toNat_setWidth, BitVec.toNat_setWidth, g]
  omega
end StrChars
namespace StrChars
open Jvm Sem ClassFile Op Lib Jvm.Stand Jvm.Free.XT Jvm.Free.ALB Jvm.Free.JM Jvm.Free
open Jvm.Lib.Cold (StaticIs)
/-- the array's cell V codes the n chars f 0 .. f (n - 1) by the coder cd, as the JDK does: coder 1 just where some char is above 255 -/
def Cod (cd : Int32) (n : Nat) (f : Nat → Int32) (V : Cell) : Prop := (cd = 0 ∧ V.slots.size = n ∧ ∀ j, j < n → V.slots[j]? = some (.int (lo8 (f j))) ∧ ¬ 255 < f j) ∨ (cd = 1 ∧ V.slots.size = 2 * n ∧ (∀ j, j < n → V.slots[2 * j]? = some (.int (lo8 (f j))) ∧ V.slots[2 * j + 1]? = some (.int (hi8 (f j)))) ∧ ∃ j, j < n ∧ 255 < f j)
/-- **x is a String of the n chars f 0 .. f (n - 1)**, Latin-1 or UTF-16; its array at t has the cell V -/
def Txt (x t : Addr) (V : Cell) (cd : Int32) (n : Nat) (f : Nat → Int32) (U : State) : Prop := Exact "java/lang/String" x U ∧ Has x "java/lang/String" "value" "[B" (.ref t) U ∧ Has x "java/lang/String" "coder" "B" (.int cd) U ∧ XT.Arr .byte t V U ∧ Cod cd n f V ∧ ∀ j, j < n → ¬ f j < 0 ∧ ¬ 65535 < f j
theorem Txt.mv {x t : Addr} {V : Cell} {cd : Int32} {n : Nat} {f : Nat → Int32} {U U' : State} (h : Txt x t V cd n f U) (hal : U.vm.Alike U'.vm) (hh : U'.heap = U.heap) : Txt x t V cd n f U' := ⟨h.1.mv hal hh, h.2.1.mv hal hh, h.2.2.1.mv hal hh, h.2.2.2.1.mv hal hh, h.2.2.2.2⟩
end StrChars
namespace StrChars.Road
open Jvm Sem ClassFile Op Lib Jvm.Stand Jvm.Free Jvm.Free.XT
open Jvm.Lib.Cold (StaticIs)
theorem consq {a : Array Value} {s : State} {c : Jvm.Cond} {L : List Jvm.Cond} (h0 : c.before a s = true) (h : ∀ w ∈ L, w.before a s = true) : ∀ w ∈ c :: L, w.before a s = true := fun w hw => (List.mem_cons.mp hw).elim (fun e => e ▸ h0) (h w)
/-- the bytes of the chars cs, low before high -/
def wideBytes : List Int32 → List Value
  | [] => []
  | c :: cs => .int (lo8 c) :: .int (hi8 c) :: wideBytes cs
theorem wide_lo (d : Value) : ∀ (cs : List Int32) (j : Nat), j < cs.length → (wideBytes cs).getD (2 * j) d = .int (lo8 (cs.getD j 0))
  | [], j, h => absurd h (Nat.not_lt_zero j)
  | c :: cs, 0, _ => rfl
  | c :: cs, j + 1, h => by
    have q := wide_lo d cs j (by simpa using h)
    rw [show 2 * (j + 1) = 2 * j + 1 + 1 from by omega]
    simpa [wideBytes] using q
theorem wide_hi (d : Value) : ∀ (cs : List Int32) (j : Nat), j < cs.length → (wideBytes cs).getD (2 * j + 1) d = .int (hi8 (cs.getD j 0))
  | [], j, h => absurd h (Nat.not_lt_zero j)
  | c :: cs, 0, _ => rfl
  | c :: cs, j + 1, h => by
    have q := wide_hi d cs j (by simpa using h)
    rw [show 2 * (j + 1) + 1 = 2 * j + 1 + 1 + 1 from by omega]
    simpa [wideBytes] using q
theorem low_at (d : Value) (cs : List Int32) (j : Nat) (h : j < cs.length) : (cs.map fun c => Value.int (lo8 c)).getD j d = .int (lo8 (cs.getD j 0)) := by
  simp [List.getD_eq_getElem?_getD, h]
/-- an array of N2 bytes vs codes the chars cs by the coder cd -/
def CodA (cs : List Int32) (cd N2 : Int32) (vs : List Value) : Prop := (cd = 0 ∧ N2 = Int32.ofNat cs.length ∧ vs = (cs.map fun c => Value.int (lo8 c)) ∧ ∀ c ∈ cs, ¬ 255 < c) ∨ (cd = 1 ∧ N2 = Int32.ofNat (2 * cs.length) ∧ vs = wideBytes cs ∧ ∃ c ∈ cs, 255 < c)
theorem CodA.cod {cs : List Int32} {cd N2 : Int32} {vs : List Value} {V : Cell} (h : CodA cs cd N2 vs) (hn : 2 * cs.length < 2 ^ 31) (hs : V.slots.size = N2.toNatClampNeg) (hv : RoadKit.Has V vs (.int 0)) : Cod cd cs.length (fun j => cs.getD j 0) V := by
  rcases h with ⟨rfl, rfl, rfl, h⟩ | ⟨rfl, rfl, rfl, c, hc, hw⟩
  · rw [n32 (by omega)] at hs
    exact Or.inl ⟨rfl, hs, fun j hj => ⟨by rw [hv j (by omega), low_at _ _ _ hj], by
      have e : cs.getD j 0 = cs[j] := by simp [List.getD_eq_getElem?_getD, hj]
      show ¬ 255 < cs.getD j 0
      rw [e]; exact h _ (List.getElem_mem _)⟩⟩
  · rw [n32 (by omega)] at hs
    obtain ⟨j, hj, rfl⟩ := List.getElem_of_mem hc
    exact Or.inr ⟨rfl, hs, fun j hj => ⟨by rw [hv _ (by omega), wide_lo _ _ _ hj], by rw [hv _ (by omega), wide_hi _ _ _ hj]⟩, j, hj, by
      have e : cs.getD j 0 = cs[j] := by simp [List.getD_eq_getElem?_getD, hj]
      show 255 < cs.getD j 0
      rw [e]; exact hw⟩
/-- an object of exactly java/lang/String, its two fields found: as the laws ask it -/
theorem strObj {Z U : State} {a0 : Array Value} {kI : Nat} (wi : (Jvm.Cond.instantiable ST kI).before a0 Z = true) (al : Z.vm.Alike U.vm) {x : Addr} {v0 c0 : Value} (E : RoadKit.Exa Z U.heap x ST) (V : RoadKit.Fld Z U.heap x ST "value" "[B" v0) (C : RoadKit.Fld Z U.heap x ST "coder" "B" c0) :
    ∃ (D : Cell) (fV fC : Field), Blank ST x D U ∧ Found ST "value" "[B" fV U ∧ Found ST "coder" "B" fC U ∧ D.slots[fV.slot]? = some v0 ∧ D.slots[fC.slot]? = some c0 ∧ RoadKit.slotOf Z ST "value" "[B" = fV.slot ∧ RoadKit.slotOf Z ST "coder" "B" = fC.slot := by
  obtain ⟨D, cfV, kV, iV, fV, hD, gV, stV, knV, obV, asV, slV⟩ := V
  obtain ⟨D', cfC, kC, iC, fC, hD', gC, stC, -, -, asC, slC⟩ := C
  cases hD.symm.trans hD'
  obtain ⟨D2, kD, e1, e2, e3, e4, e5⟩ := E
  cases hD.symm.trans e1
  obtain ⟨c2, k2, i1, i2, i3, -⟩ := Cond.instantiable_spec wi
  cases e2.symm.trans i1
  cases e3.symm.trans i2
  obtain ⟨kU, u1, u2⟩ := al.2.2 _ _ e3
  exact ⟨D, fV, fC, ⟨hD, ⟨knV, fun q hq => by rw [hq] at obV; cases obV⟩, by rw [al.findClass]; exact e2, kU, u1, by rw [u2]; exact i3, by rw [u2]; exact e5 i3⟩, ⟨SBG.found_only al ⟨cfV, kV, iV, gV⟩, stV⟩, ⟨SBG.found_only al ⟨cfC, kC, iC, gC⟩, stC⟩, slV, slC, by simp [RoadKit.slotOf, gV], by simp [RoadKit.slotOf, gC]⟩
theorem sta_is {Z U : State} (al : Z.vm.Alike U.vm) {C n d : String} {v : Value} (S : RoadKit.Sta Z U.heap C n d v) : StaticIs U C n d v := by
  obtain ⟨cfS, iS, kS, fS, st, cS, t1, t2, t3, t4, t5, t6, t7⟩ := S
  exact StaticIs.there (s := { Z with heap := U.heap }) ⟨cfS, iS, kS, fS, st, cS, t1, t2, t3, t4, t5, (fun q => by rw [q] at t6; cases t6), t7⟩ al rfl
end StrChars.Road
namespace StrChars
open Jvm Sem ClassFile Op Lib Jvm.Stand Jvm.Free.XT Jvm.Free.ALB Jvm.Free.JM Jvm.Free
open Jvm.Lib.Cold (StaticIs)
/-- what place i of a byte[]'s cell holds -/
def yv (A : Cell) (i : Nat) : Int32 := match A.slots[i]? with | some (.int x) => x | _ => 0
theorem yv_get {a : Addr} {A : Cell} {U : State} (h : XT.Arr .byte a A U) (ht : Typed .byte A) {i : Nat} (hi : i < A.slots.size) : A.slots[i]? = some (.int (yv A i)) := by
  have e := Array.getElem?_eq_getElem hi
  have f := ht i _ e
  unfold yv; rw [e]
  generalize A.slots[i] = v at f
  cases v <;> simp [fits] at f ⊢
/-- the two arrays are equal, place for place -/
def EqC (A B : Cell) : Prop := A.slots.size = B.slots.size ∧ ∀ i, i < A.slots.size → yv A i = yv B i
/-- a boolean that says whether p -/
def Says01 (q : Prop) (r : Option Value) (s u : State) : Prop := ∃ v : Int32, r = some (.int v) ∧ u.heap = s.heap ∧ ((v = 1 ∧ q) ∨ (v = 0 ∧ ¬ q))
theorem Says01.mv {q : Prop} : ∀ r (U U' V V' : State), U'.heap = U.heap → V.vm.Alike V'.vm → V'.heap = V.heap → Says01 q r U V → Says01 q r U' V' :=
  fun r U U' V V' h1 _ h2 ⟨v, a, b, c⟩ => ⟨v, a, by rw [h1, h2]; exact b, c⟩
namespace LEq
def yN : MethodName := ⟨"java/lang/StringLatin1", "equals", "([B[B)Z"⟩
abbrev yB : ByteArray := jdk_43_method_13_code
theorem d0 : decode yB 0 = .ok (.aload_n 0, 1) := by decide +kernel
theorem d1 : decode yB 1 = .ok (.arraylength, 1) := by decide +kernel
theorem d2 : decode yB 2 = .ok (.aload_n 1, 1) := by decide +kernel
theorem d3 : decode yB 3 = .ok (.arraylength, 1) := by decide +kernel
theorem d4 : decode yB 4 = .ok (.if_icmp (.ne) 30, 3) := by decide +kernel
theorem d7 : decode yB 7 = .ok (.iconst 0, 1) := by decide +kernel
theorem d8 : decode yB 8 = .ok (.istore_n 2, 1) := by decide +kernel
theorem d9 : decode yB 9 = .ok (.iload_n 2, 1) := by decide +kernel
theorem d10 : decode yB 10 = .ok (.aload_n 0, 1) := by decide +kernel
theorem d11 : decode yB 11 = .ok (.arraylength, 1) := by decide +kernel
theorem d12 : decode yB 12 = .ok (.if_icmp (.ge) 20, 3) := by decide +kernel
theorem d15 : decode yB 15 = .ok (.aload_n 0, 1) := by decide +kernel
theorem d16 : decode yB 16 = .ok (.iload_n 2, 1) := by decide +kernel
theorem d17 : decode yB 17 = .ok (.baload, 1) := by decide +kernel
theorem d18 : decode yB 18 = .ok (.aload_n 1, 1) := by decide +kernel
theorem d19 : decode yB 19 = .ok (.iload_n 2, 1) := by decide +kernel
theorem d20 : decode yB 20 = .ok (.baload, 1) := by decide +kernel
theorem d21 : decode yB 21 = .ok (.if_icmp (.eq) 5, 3) := by decide +kernel
theorem d24 : decode yB 24 = .ok (.iconst 0, 1) := by decide +kernel
theorem d25 : decode yB 25 = .ok (.ireturn, 1) := by decide +kernel
theorem d26 : decode yB 26 = .ok (.iinc 2 1, 3) := by decide +kernel
theorem d29 : decode yB 29 = .ok (.goto (-20), 3) := by decide +kernel
theorem d32 : decode yB 32 = .ok (.iconst 1, 1) := by decide +kernel
theorem d33 : decode yB 33 = .ok (.ireturn, 1) := by decide +kernel
theorem d34 : decode yB 34 = .ok (.iconst 0, 1) := by decide +kernel
theorem d35 : decode yB 35 = .ok (.ireturn, 1) := by decide +kernel
def site : List Cond := []
def tab : Cond := tabOf yN yB 3 (some .boolean) site
def P (a : Addr) (A : Cell) (b : Addr) (B : Cell) (args : Array Value) (s : State) : Prop := args = #[.ref a, .ref b] ∧ XT.Arr .byte a A s ∧ Typed .byte A ∧ XT.Arr .byte b B s ∧ Typed .byte B
/-- whether two byte[] are equal, place for place -/
theorem law (l : Launch) (a : Addr) (A : Cell) (b : Addr) (B : Cell) : Law l yN 2 2 0 0 yB 3 (some .boolean) site (P a A b B) (Says01 (EqC A B)) [] 0 0 := by
  refine Law.of_walk (plainFor_of_name (by decide +kernel)) (by decide +kernel) (by decide +kernel) (by decide) (fun _ _ h => by rw [h.1]; rfl) (fun _ U U' hal hh h => ⟨h.1, h.2.1.mv hal hh, h.2.2.1, h.2.2.2.1.mv hal hh, h.2.2.2.2⟩) (fun r U U' V V' h1 hal h2 h => Says01.mv r U U' V V' h1 hal h2 h) ?_
  intro p e s m args below meth c s₁ X0 hexec hbytes hml hret hlk hnm hown hh0 W hP
  obtain ⟨rfl, hA, tA, hB, tB⟩ := hP
  have a31 := hA.2.2.2
  have b31 := hB.2.2.2
  have hA0 := hA.mv X0.warmed.alike hh0
  have hB0 := hB.mv X0.warmed.alike hh0
  have c1 : Steps p.tables e below (s₁.setTop (entryFrame m #[.ref a, .ref b] 3)) (s₁.setTop (mkF m 0 #[.val (.ref a), .val (.ref b), .unset] [])) := entry rfl
  have c2 : Steps p.tables e below (s₁.setTop (entryFrame m #[.ref a, .ref b] 3)) (s₁.setTop (mkF m 4 #[.val (.ref a), .val (.ref b), .unset] [.int (Int32.ofNat B.slots.size), .int (Int32.ofNat A.slots.size)])) := c1.trans (by
    refine XS.aloadN X0.here hexec rfl (hb hbytes d0) rfl rfl ?_
    refine X0.alen hexec hA0 rfl rfl (hb hbytes d1) ?_
    refine XS.aloadN X0.here hexec rfl (hb hbytes d2) rfl rfl ?_
    refine X0.alen hexec hB0 rfl rfl (hb hbytes d3) ?_
    exact Steps.refl _)
  by_cases hs : A.slots.size = B.slots.size
  · have c3 : Steps p.tables e below (s₁.setTop (entryFrame m #[.ref a, .ref b] 3)) (s₁.setTop (mkF m 9 #[.val (.ref a), .val (.ref b), .val (.int 0)] [])) := c2.trans (by
      refine XS.icmpNo X0.here hexec rfl (hb hbytes d4) rfl (ii_ne_f (by rw [hs])) ?_
      refine iconstV X0.here hexec rfl 0 (hb hbytes d7) (by decide) ?_
      refine XS.istoreN X0.here hexec rfl (hb hbytes d8) rfl rfl ?_
      exact Steps.refl _)
    have loop : ∀ (r i : Nat), i + r = A.slots.size → (∀ j, j < i → yv A j = yv B j) → Steps p.tables e below (s₁.setTop (entryFrame m #[.ref a, .ref b] 3)) (s₁.setTop (mkF m 9 #[.val (.ref a), .val (.ref b), .val (.int (Int32.ofNat i))] [])) → ∃ (pc : Nat) (Ls : Array Slot) (v : Int32), (pc = 25 ∨ pc = 33) ∧ ((v = 1 ∧ EqC A B) ∨ (v = 0 ∧ ¬ EqC A B)) ∧ Steps p.tables e below (s₁.setTop (entryFrame m #[.ref a, .ref b] 3)) (s₁.setTop (mkF m pc Ls [.int v])) := by
      intro r
      induction r with
      | zero =>
        intro i hi he cl
        exact ⟨33, _, 1, Or.inr rfl, Or.inl ⟨rfl, hs, fun j hj => he j (by omega)⟩, cl.trans (by
          refine XS.iloadN X0.here hexec rfl (hb hbytes d9) rfl ?_
          refine XS.aloadN X0.here hexec rfl (hb hbytes d10) rfl rfl ?_
          refine X0.alen hexec hA0 rfl rfl (hb hbytes d11) ?_
          refine XS.icmpYes X0.here hexec rfl (pc0 := 12) rfl (hb hbytes d12) rfl (ii_ge_t (nlt32 (by omega) (by omega))) (by decide) rfl ?_
          refine iconstV X0.here hexec rfl 1 (hb hbytes d32) (by decide) ?_
          exact Steps.refl _)⟩
      | succ r ih =>
        intro i hi he cl
        have c4 : Steps p.tables e below (s₁.setTop (entryFrame m #[.ref a, .ref b] 3)) (s₁.setTop (mkF m 21 #[.val (.ref a), .val (.ref b), .val (.int (Int32.ofNat i))] [.int (yv B i), .int (yv A i)])) := cl.trans (by
          refine XS.iloadN X0.here hexec rfl (hb hbytes d9) rfl ?_
          refine XS.aloadN X0.here hexec rfl (hb hbytes d10) rfl rfl ?_
          refine X0.alen hexec hA0 rfl rfl (hb hbytes d11) ?_
          refine XS.icmpNo X0.here hexec rfl (hb hbytes d12) rfl (ii_ge_f (lt32 (by omega) (by omega))) ?_
          refine XS.aloadN X0.here hexec rfl (hb hbytes d15) rfl rfl ?_
          refine XS.iloadN X0.here hexec rfl (hb hbytes d16) rfl ?_
          refine X0.aget hexec hA0 rfl (yv_get hA tA (i := i) (by omega)) rfl rfl (hb hbytes d17) ?_
          refine XS.aloadN X0.here hexec rfl (hb hbytes d18) rfl rfl ?_
          refine XS.iloadN X0.here hexec rfl (hb hbytes d19) rfl ?_
          refine X0.aget hexec hB0 rfl (yv_get hB tB (i := i) (by omega)) rfl rfl (hb hbytes d20) ?_
          exact Steps.refl _)
        by_cases hv : yv A i = yv B i
        · have c5 : Steps p.tables e below (s₁.setTop (entryFrame m #[.ref a, .ref b] 3)) (s₁.setTop (mkF m 9 #[.val (.ref a), .val (.ref b), .val (.int (Int32.ofNat i + 1))] [])) := c4.trans (by
            refine XS.icmpYes X0.here hexec rfl (pc0 := 21) rfl (hb hbytes d21) rfl (ii_eq_t hv) (by decide) rfl ?_
            refine iincV X0.here hexec rfl 1 (hb hbytes d26) (by decide) rfl rfl ?_
            refine XS.goto X0.here hexec rfl (pc0 := 29) rfl (hb hbytes d29) (by decide) rfl ?_
            exact Steps.refl _)
          rw [succ32] at c5
          exact ih (i + 1) (by omega) (fun j hj => by
            by_cases e : j = i
            · rw [e]; exact hv
            · exact he j (by omega)) c5
        · exact ⟨25, _, 0, Or.inl rfl, Or.inr ⟨rfl, fun q => hv (q.2 i (by omega))⟩, c4.trans (by
            refine XS.icmpNo X0.here hexec rfl (hb hbytes d21) rfl (ii_eq_f hv) ?_
            refine iconstV X0.here hexec rfl 0 (hb hbytes d24) (by decide) ?_
            exact Steps.refl _)⟩
    obtain ⟨pc, Ls, v, hpc, hv, cz⟩ := loop A.slots.size 0 (by omega) (fun j hj => absurd hj (Nat.not_lt_zero j)) c3
    have nv : narrow .boolean (.int v) = .int v := by rcases hv with ⟨rfl, -⟩ | ⟨rfl, -⟩ <;> rfl
    rcases hpc with rfl | rfl
    · exact ⟨s₁, some (.int v), _, _, _, X0, rfl, rfl, rfl, (fun h => by cases h), ⟨v, rfl, hh0, hv⟩, fun fs hl => cz.trans (X0.ireturnOut hexec hret nv (Or.inr (Or.inl rfl)) (hb hbytes d25) hl)⟩
    · exact ⟨s₁, some (.int v), _, _, _, X0, rfl, rfl, rfl, (fun h => by cases h), ⟨v, rfl, hh0, hv⟩, fun fs hl => cz.trans (X0.ireturnOut hexec hret nv (Or.inr (Or.inl rfl)) (hb hbytes d33) hl)⟩
  · have c3 : Steps p.tables e below (s₁.setTop (entryFrame m #[.ref a, .ref b] 3)) (s₁.setTop (mkF m 35 #[.val (.ref a), .val (.ref b), .unset] [.int 0])) := c2.trans (by
      refine XS.icmpYes X0.here hexec rfl (pc0 := 4) rfl (hb hbytes d4) rfl (ii_ne_t (ne32 a31 b31 hs)) (by decide) rfl ?_
      refine iconstV X0.here hexec rfl 0 (hb hbytes d34) (by decide) ?_
      exact Steps.refl _)
    exact ⟨s₁, some (.int 0), _, _, _, X0, rfl, rfl, rfl, (fun h => by cases h), ⟨0, rfl, hh0, Or.inr ⟨rfl, fun q => hs q.1⟩⟩, fun fs hl => c3.trans (X0.ireturnOut hexec hret rfl (Or.inr (Or.inl rfl)) (hb hbytes d35) hl)⟩
end LEq
theorem Cod.ty {cd : Int32} {n : Nat} {f : Nat → Int32} {V : Cell} (h : Cod cd n f V) : Typed .byte V := fun i v hv => by
  have hi : i < V.slots.size := (Array.getElem?_eq_some_iff.mp hv).1
  rcases h with ⟨-, k1, k2⟩ | ⟨-, k1, k2, -⟩
  · rw [(k2 i (by omega)).1] at hv; cases hv; exact fits_lo8 _
  · rcases Nat.mod_two_eq_zero_or_one i with e | e
    · obtain ⟨j, rfl⟩ : ∃ j, i = 2 * j := ⟨i / 2, by omega⟩
      rw [(k2 j (by omega)).1] at hv; cases hv; exact fits_lo8 _
    · obtain ⟨j, rfl⟩ : ∃ j, i = 2 * j + 1 := ⟨i / 2, by omega⟩
      rw [(k2 j (by omega)).2] at hv; cases hv; exact fits_lo8 _
/-- the same text -/
def SameT (n : Nat) (f : Nat → Int32) (k : Nat) (g : Nat → Int32) : Prop := n = k ∧ ∀ j, j < n → f j = g j
theorem lo8_inj {x y : Int32} (h0 : ¬ x < 0) (h1 : ¬ 255 < x) (k0 : ¬ y < 0) (k1 : ¬ 255 < y) (h : lo8 x = lo8 y) : x = y := by
  rw [← lo8_mask h0 h1, ← lo8_mask k0 k1, h]
/-- arrays coded by one coder are equal just where the texts are -/
theorem Cod.eqv {cd : Int32} {n k : Nat} {f g : Nat → Int32} {V V' : Cell} (h : Cod cd n f V) (h' : Cod cd k g V') (hf : ∀ j, j < n → ¬ f j < 0 ∧ ¬ 65535 < f j) (hg : ∀ j, j < k → ¬ g j < 0 ∧ ¬ 65535 < g j) : EqC V V' ↔ SameT n f k g := by
  have yvv : ∀ {W : Cell} {i : Nat} {x : Int32}, W.slots[i]? = some (.int x) → yv W i = x := fun q => by unfold yv; rw [q]
  rcases h with ⟨rfl, k1, k2⟩ | ⟨rfl, k1, k2, -⟩
  · rcases h' with ⟨-, m1, m2⟩ | ⟨e, -⟩
    · constructor
      · rintro ⟨e1, e2⟩
        refine ⟨by omega, fun j hj => ?_⟩
        have q := e2 j (by omega)
        rw [yvv (k2 j hj).1, yvv (m2 j (by omega)).1] at q
        exact lo8_inj (hf j hj).1 (k2 j hj).2 (hg j (by omega)).1 (m2 j (by omega)).2 q
      · rintro ⟨rfl, e2⟩
        refine ⟨by omega, fun j hj => ?_⟩
        rw [yvv (k2 j (by omega)).1, yvv (m2 j (by omega)).1, e2 j (by omega)]
    · exact absurd e (by decide)
  · rcases h' with ⟨e, -⟩ | ⟨-, m1, m2, -⟩
    · exact absurd e (by decide)
    · constructor
      · rintro ⟨e1, e2⟩
        refine ⟨by omega, fun j hj => ?_⟩
        have q1 := e2 (2 * j) (by omega)
        have q2 := e2 (2 * j + 1) (by omega)
        rw [yvv (k2 j hj).1, yvv (m2 j (by omega)).1] at q1
        rw [yvv (k2 j hj).2, yvv (m2 j (by omega)).2] at q2
        rw [← pair_says (hf j hj).1 (hf j hj).2, ← pair_says (hg j (by omega)).1 (hg j (by omega)).2, q1, q2]
      · rintro ⟨rfl, e2⟩
        refine ⟨by omega, fun i hi => ?_⟩
        rcases Nat.mod_two_eq_zero_or_one i with e | e
        · obtain ⟨j, rfl⟩ : ∃ j, i = 2 * j := ⟨i / 2, by omega⟩
          rw [yvv (k2 j (by omega)).1, yvv (m2 j (by omega)).1, e2 j (by omega)]
        · obtain ⟨j, rfl⟩ : ∃ j, i = 2 * j + 1 := ⟨i / 2, by omega⟩
          rw [yvv (k2 j (by omega)).2, yvv (m2 j (by omega)).2, e2 j (by omega)]
/-- two codings differ: so do the texts -/
theorem Cod.dif {cd cd' : Int32} {n k : Nat} {f g : Nat → Int32} {V V' : Cell} (h : Cod cd n f V) (h' : Cod cd' k g V') (hne : ¬ cd = cd') : ¬ SameT n f k g := by
  rintro ⟨rfl, e⟩
  rcases h with ⟨rfl, -, k2⟩ | ⟨rfl, -, -, j, hj, hw⟩
  · rcases h' with ⟨rfl, -⟩ | ⟨-, -, -, j, hj, hw⟩
    · exact hne rfl
    · exact (k2 j hj).2 (by rw [e j hj]; exact hw)
  · rcases h' with ⟨-, -, m2⟩ | ⟨rfl, -⟩
    · exact (m2 j hj).2 (by rw [← e j hj]; exact hw)
    · exact hne rfl
/-- an object of exactly C is an instance of C -/
theorem cinst {p : Program} {l : Launch} {e : Env} {R : Room} {s : State} {m : MethodId} {args : Array Value} {below : List Frame} {meth : Method} {c : Code} {T : State} {locs : List Loc} {cells slots : Nat} (X : Stand p l e R s m args below meth c T locs cells slots) (hexec : p.tables.exec = Jvm.exec) {own C : String} {index : Nat} (hown : s.vm.findClass own = some m.cls) (hlink : (Cond.classLink own index C).before args s = true) {a : Addr} (hE : Exact C a T)
    {g : JFrame} (hg : g.method = m) {rest : List Value} (hstack : g.stack = .ref a :: rest) (hdg : decode c.code g.pc = .ok (.instanceof index, 3)) :
    ∃ T', Stand p l e R s m args below meth c T' locs cells slots ∧ T'.heap = T.heap ∧ ∀ target, Steps p.tables e below (T'.setTop { g with pc := g.pc + 3, stack := .int 1 :: rest }) target → Steps p.tables e below (T.setTop g) target := by
  obtain ⟨cB, h1, D, h2, h3, h4⟩ := hE
  have h1' : s.vm.findClass C = some cB := by rw [← X.warmed.alike.findClass]; exact h1
  obtain ⟨vm', X', st⟩ := X.instanceofYes hexec hown hlink h2 h4 h1' (by rw [h3]; exact Jvm.Free.SB.assignable_self _ _) hg hstack hdg
  exact ⟨_, X', rfl, st⟩
theorem cself {p : Program} {l : Launch} {e : Env} {R : Room} {s : State} {m : MethodId} {args : Array Value} {below : List Frame} {meth : Method} {c : Code} {T : State} {locs : List Loc} {cells slots : Nat} (X : Stand p l e R s m args below meth c T locs cells slots) (hexec : p.tables.exec = Jvm.exec) {own C : String} {index : Nat} (hown : s.vm.findClass own = some m.cls) (hlink : (Cond.classLink own index C).before args s = true) {a : Addr} (hE : Exact C a T)
    {g : JFrame} (hg : g.method = m) {rest : List Value} (hstack : g.stack = .ref a :: rest) (hdg : decode c.code g.pc = .ok (.checkcast index, 3)) :
    ∃ T', Stand p l e R s m args below meth c T' locs cells slots ∧ T'.heap = T.heap ∧ ∀ target, Steps p.tables e below (T'.setTop { g with pc := g.pc + 3, stack := .ref a :: rest }) target → Steps p.tables e below (T.setTop g) target := by
  obtain ⟨cB, h1, D, h2, h3, h4⟩ := hE
  have h1' : s.vm.findClass C = some cB := by rw [← X.warmed.alike.findClass]; exact h1
  obtain ⟨vm', X', st⟩ := X.checkcastYes hexec hown hlink h2 h4 h1' (by rw [h3]; exact Jvm.Free.SB.assignable_self _ _) hg hstack hdg
  exact ⟨_, X', rfl, fun t h => st t (by rw [← hstack] at h; exact h)⟩
namespace SEq
def yN : MethodName := ⟨"java/lang/String", "equals", "(Ljava/lang/Object;)Z"⟩
abbrev yB : ByteArray := jdk_42_method_66_code
theorem d0 : decode yB 0 = .ok (.aload_n 0, 1) := by decide +kernel
theorem d1 : decode yB 1 = .ok (.aload_n 1, 1) := by decide +kernel
theorem d2 : decode yB 2 = .ok (.if_acmp (.ne) 5, 3) := by decide +kernel
theorem d5 : decode yB 5 = .ok (.iconst 1, 1) := by decide +kernel
theorem d6 : decode yB 6 = .ok (.ireturn, 1) := by decide +kernel
theorem d7 : decode yB 7 = .ok (.aload_n 1, 1) := by decide +kernel
theorem d8 : decode yB 8 = .ok (.instanceof 10, 3) := by decide +kernel
theorem d11 : decode yB 11 = .ok (.ifCond (.eq) 43, 3) := by decide +kernel
theorem d14 : decode yB 14 = .ok (.aload_n 1, 1) := by decide +kernel
theorem d15 : decode yB 15 = .ok (.checkcast 10, 3) := by decide +kernel
theorem d18 : decode yB 18 = .ok (.astore_n 2, 1) := by decide +kernel
theorem d19 : decode yB 19 = .ok (.getstatic 38, 3) := by decide +kernel
theorem d22 : decode yB 22 = .ok (.ifCond (.eq) 14, 3) := by decide +kernel
theorem d25 : decode yB 25 = .ok (.aload_n 0, 1) := by decide +kernel
theorem d26 : decode yB 26 = .ok (.getfield 15, 3) := by decide +kernel
theorem d29 : decode yB 29 = .ok (.aload_n 2, 1) := by decide +kernel
theorem d30 : decode yB 30 = .ok (.getfield 15, 3) := by decide +kernel
theorem d33 : decode yB 33 = .ok (.if_icmp (.ne) 21, 3) := by decide +kernel
theorem d36 : decode yB 36 = .ok (.aload_n 0, 1) := by decide +kernel
theorem d37 : decode yB 37 = .ok (.getfield 9, 3) := by decide +kernel
theorem d40 : decode yB 40 = .ok (.aload_n 2, 1) := by decide +kernel
theorem d41 : decode yB 41 = .ok (.getfield 9, 3) := by decide +kernel
theorem d44 : decode yB 44 = .ok (.invokestatic 541, 3) := by decide +kernel
theorem d47 : decode yB 47 = .ok (.ifCond (.eq) 7, 3) := by decide +kernel
theorem d50 : decode yB 50 = .ok (.iconst 1, 1) := by decide +kernel
theorem d51 : decode yB 51 = .ok (.goto 4, 3) := by decide +kernel
theorem d54 : decode yB 54 = .ok (.iconst 0, 1) := by decide +kernel
theorem d55 : decode yB 55 = .ok (.ireturn, 1) := by decide +kernel
def site : List Cond := [.classLink "java/lang/String" 10 "java/lang/String", .fieldLink "java/lang/String" 38 "java/lang/String" "COMPACT_STRINGS" "Z", .fieldLink "java/lang/String" 15 "java/lang/String" "coder" "B", .fieldLink "java/lang/String" 9 "java/lang/String" "value" "[B", LEq.tab] ++ staticW "java/lang/String" 541 LEq.yN
def tab : Cond := tabOf yN yB 3 (some .boolean) site
def P (x t : Addr) (V : Cell) (cd : Int32) (n : Nat) (f : Nat → Int32) (y t' : Addr) (V' : Cell) (cd' : Int32) (k : Nat) (g : Nat → Int32) (z : Int32) (args : Array Value) (s : State) : Prop := args = #[.ref x, .ref y] ∧ Txt x t V cd n f s ∧ Txt y t' V' cd' k g s ∧ StaticIs s "java/lang/String" "COMPACT_STRINGS" "Z" (.int z) ∧ ¬ z = 0
/-- equals(Object) of two Strings: whether the texts are the same -/
theorem law (l : Launch) (x t : Addr) (V : Cell) (cd : Int32) (n : Nat) (f : Nat → Int32) (y t' : Addr) (V' : Cell) (cd' : Int32) (k : Nat) (g : Nat → Int32) (z : Int32) : Law l yN 2 1 1 14 yB 3 (some .boolean) site (P x t V cd n f y t' V' cd' k g z) (Says01 (SameT n f k g)) [] 0 0 := by
  refine Law.of_walk (plainFor_of_name (by decide +kernel)) (by decide +kernel) (by decide +kernel) (by decide) (fun _ _ h => by rw [h.1]; rfl) (fun _ U U' hal hh h => ⟨h.1, h.2.1.mv hal hh, h.2.2.1.mv hal hh, h.2.2.2.1.there hal hh, h.2.2.2.2⟩) (fun r U U' V V' h1 hal h2 h => Says01.mv r U U' V V' h1 hal h2 h) ?_
  intro p e s m args below meth c s₁ X0 hexec hbytes hml hret hlk hnm hown hh0 W hP
  obtain ⟨rfl, hx, hy, s1, hz⟩ := hP
  have c1 : Steps p.tables e below (s₁.setTop (entryFrame m #[.ref x, .ref y] 3)) (s₁.setTop (mkF m 2 #[.val (.ref x), .val (.ref y), .unset] [.ref y, .ref x])) := Steps.trans (entry rfl) (by
    show Steps p.tables e below (s₁.setTop (mkF m 0 #[.val (.ref x), .val (.ref y), .unset] [])) _
    refine XS.aloadN X0.here hexec rfl (hb hbytes d0) rfl rfl ?_
    refine XS.aloadN X0.here hexec rfl (hb hbytes d1) rfl rfl ?_
    exact Steps.refl _)
  by_cases hxy : x = y
  · have c2 : Steps p.tables e below (s₁.setTop (entryFrame m #[.ref x, .ref y] 3)) (s₁.setTop (mkF m 6 #[.val (.ref x), .val (.ref y), .unset] [.int 1])) := c1.trans (by
      refine acmpNo X0.here hexec rfl (hb hbytes d2) rfl rfl rfl (by simp [acmp, hxy]) ?_
      refine iconstV X0.here hexec rfl 1 (hb hbytes d5) (by decide) ?_
      exact Steps.refl _)
    subst hxy
    have ec : cd = cd' := by
      obtain ⟨D, fd, a1, a2, a3⟩ := hx.2.2.1
      obtain ⟨D', fd', b1, b2, b3⟩ := hy.2.2.1
      cases a1.symm.trans b1
      obtain ⟨q1, q2, q3, q4⟩ := a2.1
      obtain ⟨r1, r2, r3, r4⟩ := b2.1
      cases q4.symm.trans r4
      cases a3.symm.trans b3; rfl
    have et : t = t' := by
      obtain ⟨D, fd, a1, a2, a3⟩ := hx.2.1
      obtain ⟨D', fd', b1, b2, b3⟩ := hy.2.1
      cases a1.symm.trans b1
      obtain ⟨q1, q2, q3, q4⟩ := a2.1
      obtain ⟨r1, r2, r3, r4⟩ := b2.1
      cases q4.symm.trans r4
      cases a3.symm.trans b3; rfl
    subst ec et
    have ev : V = V' := by cases hx.2.2.2.1.1.symm.trans hy.2.2.2.1.1; rfl
    subst ev
    have hs : SameT n f k g := (Cod.eqv hx.2.2.2.2.1 hy.2.2.2.2.1 hx.2.2.2.2.2 hy.2.2.2.2.2).mp ⟨rfl, fun _ _ => rfl⟩
    exact ⟨s₁, some (.int 1), _, _, _, X0, rfl, rfl, rfl, (fun h => by cases h), ⟨1, rfl, hh0, Or.inl ⟨rfl, hs⟩⟩, fun fs hl => c2.trans (X0.ireturnOut hexec hret rfl (Or.inr (Or.inl rfl)) (hb hbytes d6) hl)⟩
  · have c2 : Steps p.tables e below (s₁.setTop (entryFrame m #[.ref x, .ref y] 3)) (s₁.setTop (mkF m 8 #[.val (.ref x), .val (.ref y), .unset] [.ref y])) := c1.trans (by
      refine acmpYes X0.here hexec rfl (pc0 := 2) rfl (hb hbytes d2) rfl rfl rfl (by simp [acmp, hxy]) (by decide) rfl ?_
      refine XS.aloadN X0.here hexec rfl (hb hbytes d7) rfl rfl ?_
      exact Steps.refl _)
    obtain ⟨T3, X3, q3, st3⟩ := cinst X0 hexec hown (wk W (.classLink "java/lang/String" 10 "java/lang/String")) (hy.mv X0.warmed.alike hh0).1 (g := (mkF m 8 #[.val (.ref x), .val (.ref y), .unset] [.ref y])) rfl (rest := []) rfl (hb hbytes d8)
    have hh3 := q3.trans hh0
    have c4 : Steps p.tables e below (s₁.setTop (entryFrame m #[.ref x, .ref y] 3)) (T3.setTop (mkF m 15 #[.val (.ref x), .val (.ref y), .unset] [.ref y])) := (c2.trans (st3 _ (Steps.refl _))).trans (by
      refine XS.ifNo X3.here hexec rfl (hb hbytes d11) rfl (i0_eq_f (by decide)) ?_
      refine XS.aloadN X3.here hexec rfl (hb hbytes d14) rfl rfl ?_
      exact Steps.refl _)
    obtain ⟨T5, X5, q5, st5⟩ := cself X3 hexec hown (wk W (.classLink "java/lang/String" 10 "java/lang/String")) (hy.mv X3.warmed.alike hh3).1 (g := (mkF m 15 #[.val (.ref x), .val (.ref y), .unset] [.ref y])) rfl (rest := []) rfl (hb hbytes d15)
    have hh5 := q5.trans hh3
    have c6 : Steps p.tables e below (s₁.setTop (entryFrame m #[.ref x, .ref y] 3)) (T5.setTop (mkF m 19 #[.val (.ref x), .val (.ref y), .val (.ref y)] [])) := (c4.trans (st5 _ (Steps.refl _))).trans (by
      refine XS.astoreN X5.here hexec rfl (hb hbytes d18) rfl rfl rfl ?_
      exact Steps.refl _)
    obtain ⟨T7, X7, q7, st7⟩ := X5.sget hexec hown (wk W (.fieldLink "java/lang/String" 38 "java/lang/String" "COMPACT_STRINGS" "Z")) s1 (fun _ _ h => by rw [hh5]; exact h) (g := (mkF m 19 #[.val (.ref x), .val (.ref y), .val (.ref y)] [])) rfl (hb hbytes d19)
    have hh7 := q7.trans hh5
    have c8 : Steps p.tables e below (s₁.setTop (entryFrame m #[.ref x, .ref y] 3)) (T7.setTop (mkF m 26 #[.val (.ref x), .val (.ref y), .val (.ref y)] [.ref x])) := (c6.trans (st7 _ (Steps.refl _))).trans (by
      refine XS.ifNo X7.here hexec rfl (hb hbytes d22) rfl (i0_eq_f hz) ?_
      refine XS.aloadN X7.here hexec rfl (hb hbytes d25) rfl rfl ?_
      exact Steps.refl _)
    obtain ⟨T9, X9, q9, st9⟩ := X7.hget hexec hown (wk W (.fieldLink "java/lang/String" 15 "java/lang/String" "coder" "B")) (hx.mv X7.warmed.alike hh7).2.2.1 (g := (mkF m 26 #[.val (.ref x), .val (.ref y), .val (.ref y)] [.ref x])) rfl (rest := []) rfl (hb hbytes d26)
    have hh9 := q9.trans hh7
    have c10 : Steps p.tables e below (s₁.setTop (entryFrame m #[.ref x, .ref y] 3)) (T9.setTop (mkF m 30 #[.val (.ref x), .val (.ref y), .val (.ref y)] [.ref y, .int cd])) := (c8.trans (st9 _ (Steps.refl _))).trans (by
      refine XS.aloadN X9.here hexec rfl (hb hbytes d29) rfl rfl ?_
      exact Steps.refl _)
    obtain ⟨T11, X11, q11, st11⟩ := X9.hget hexec hown (wk W (.fieldLink "java/lang/String" 15 "java/lang/String" "coder" "B")) (hy.mv X9.warmed.alike hh9).2.2.1 (g := (mkF m 30 #[.val (.ref x), .val (.ref y), .val (.ref y)] [.ref y, .int cd])) rfl (rest := [.int cd]) rfl (hb hbytes d30)
    have hh11 := q11.trans hh9
    have c12 : Steps p.tables e below (s₁.setTop (entryFrame m #[.ref x, .ref y] 3)) (T11.setTop (mkF m 33 #[.val (.ref x), .val (.ref y), .val (.ref y)] [.int cd', .int cd])) := c10.trans (st11 _ (Steps.refl _))
    by_cases hcd : cd = cd'
    · subst hcd
      have c13 : Steps p.tables e below (s₁.setTop (entryFrame m #[.ref x, .ref y] 3)) (T11.setTop (mkF m 37 #[.val (.ref x), .val (.ref y), .val (.ref y)] [.ref x])) := c12.trans (by
        refine XS.icmpNo X11.here hexec rfl (hb hbytes d33) rfl (ii_ne_f rfl) ?_
        refine XS.aloadN X11.here hexec rfl (hb hbytes d36) rfl rfl ?_
        exact Steps.refl _)
      obtain ⟨T14, X14, q14, st14⟩ := X11.hget hexec hown (wk W (.fieldLink "java/lang/String" 9 "java/lang/String" "value" "[B")) (hx.mv X11.warmed.alike hh11).2.1 (g := (mkF m 37 #[.val (.ref x), .val (.ref y), .val (.ref y)] [.ref x])) rfl (rest := []) rfl (hb hbytes d37)
      have hh14 := q14.trans hh11
      have c15 : Steps p.tables e below (s₁.setTop (entryFrame m #[.ref x, .ref y] 3)) (T14.setTop (mkF m 41 #[.val (.ref x), .val (.ref y), .val (.ref y)] [.ref y, .ref t])) := (c13.trans (st14 _ (Steps.refl _))).trans (by
        refine XS.aloadN X14.here hexec rfl (hb hbytes d40) rfl rfl ?_
        exact Steps.refl _)
      obtain ⟨T16, X16, q16, st16⟩ := X14.hget hexec hown (wk W (.fieldLink "java/lang/String" 9 "java/lang/String" "value" "[B")) (hy.mv X14.warmed.alike hh14).2.1 (g := (mkF m 41 #[.val (.ref x), .val (.ref y), .val (.ref y)] [.ref y, .ref t])) rfl (rest := [.ref t]) rfl (hb hbytes d41)
      have hh16 := q16.trans hh14
      have c17 : Steps p.tables e below (s₁.setTop (entryFrame m #[.ref x, .ref y] 3)) (T16.setTop (mkF m 44 #[.val (.ref x), .val (.ref y), .val (.ref y)] [.ref t', .ref t])) := c15.trans (st16 _ (Steps.refl _))
      obtain ⟨v18, T18, X18, E18, g18⟩ := X16.callS hexec (LEq.law l t V t' V') hown (wks W (staticW "java/lang/String" 541 LEq.yN)) (wk W LEq.tab) (W := 0) (Nat.le_of_ble_eq_true rfl) (Nat.le_of_ble_eq_true rfl) (Nat.le_refl _) (Nat.le_refl _) (g := (mkF m 44 #[.val (.ref x), .val (.ref y), .val (.ref y)] [.ref t', .ref t])) rfl (by rw [hml]; rfl) c17 (argsL := [.ref t, .ref t']) (rest := []) rfl rfl (by show 2 * 0 + 0 ≤ _; decide) (hb hbytes d44) (⟨rfl, hx.2.2.2.1.mv X16.warmed.alike hh16, hx.2.2.2.2.1.ty, hy.2.2.2.1.mv X16.warmed.alike hh16, hy.2.2.2.2.1.ty⟩)
      obtain ⟨v, rfl, q18, hv⟩ := E18
      have iff := Cod.eqv hx.2.2.2.2.1 hy.2.2.2.2.1 hx.2.2.2.2.2 hy.2.2.2.2.2
      rcases hv with ⟨rfl, he⟩ | ⟨rfl, he⟩
      · have c19 : Steps p.tables e below (s₁.setTop (entryFrame m #[.ref x, .ref y] 3)) (T18.setTop (mkF m 55 #[.val (.ref x), .val (.ref y), .val (.ref y)] [.int 1])) := Steps.trans g18 (by
          refine XS.ifNo X18.here hexec rfl (hb hbytes d47) rfl (i0_eq_f (by decide)) ?_
          refine iconstV X18.here hexec rfl 1 (hb hbytes d50) (by decide) ?_
          refine XS.goto X18.here hexec rfl (pc0 := 51) rfl (hb hbytes d51) (by decide) rfl ?_
          exact Steps.refl _)
        exact ⟨T18, some (.int 1), _, _, _, X18, rfl, rfl, rfl, (fun h => by cases h), ⟨1, rfl, q18.trans hh16, Or.inl ⟨rfl, iff.mp he⟩⟩, fun fs hl => c19.trans (X18.ireturnOut hexec hret rfl (Or.inr (Or.inl rfl)) (hb hbytes d55) hl)⟩
      · have c19 : Steps p.tables e below (s₁.setTop (entryFrame m #[.ref x, .ref y] 3)) (T18.setTop (mkF m 55 #[.val (.ref x), .val (.ref y), .val (.ref y)] [.int 0])) := Steps.trans g18 (by
          refine XS.ifYes X18.here hexec rfl (pc0 := 47) rfl (hb hbytes d47) rfl (i0_eq_t rfl) (by decide) rfl ?_
          refine iconstV X18.here hexec rfl 0 (hb hbytes d54) (by decide) ?_
          exact Steps.refl _)
        exact ⟨T18, some (.int 0), _, _, _, X18, rfl, rfl, rfl, (fun h => by cases h), ⟨0, rfl, q18.trans hh16, Or.inr ⟨rfl, fun q => he (iff.mpr q)⟩⟩, fun fs hl => c19.trans (X18.ireturnOut hexec hret rfl (Or.inr (Or.inl rfl)) (hb hbytes d55) hl)⟩
    · have c13 : Steps p.tables e below (s₁.setTop (entryFrame m #[.ref x, .ref y] 3)) (T11.setTop (mkF m 55 #[.val (.ref x), .val (.ref y), .val (.ref y)] [.int 0])) := c12.trans (by
        refine XS.icmpYes X11.here hexec rfl (pc0 := 33) rfl (hb hbytes d33) rfl (ii_ne_t hcd) (by decide) rfl ?_
        refine iconstV X11.here hexec rfl 0 (hb hbytes d54) (by decide) ?_
        exact Steps.refl _)
      exact ⟨T11, some (.int 0), _, _, _, X11, rfl, rfl, rfl, (fun h => by cases h), ⟨0, rfl, hh11, Or.inr ⟨rfl, Cod.dif hx.2.2.2.2.1 hy.2.2.2.2.1 hcd⟩⟩, fun fs hl => c13.trans (X11.ireturnOut hexec hret rfl (Or.inr (Or.inl rfl)) (hb hbytes d55) hl)⟩
theorem pays {l : Launch} {R : Room} {p : Program} {e : Env} {below : List Frame} {s : State} {sargs : Array Value} {len W : Nat} (x t : Addr) (V : Cell) (cd : Int32) (n : Nat) (f : Nat → Int32) (y t' : Addr) (V' : Cell) (cd' : Int32) (k : Nat) (g : Nat → Int32) (z : Int32) (htab : tab.before sargs s = true) (hfr : 2 ≤ R.frames) (hlo : W + 28 ≤ R.locals) :
    Back l R p e below s sargs yN len W (fun A₁ a₁ => A₁.cells + 0 ≤ R.cells ∧ A₁.slots + 0 ≤ R.slots ∧ P x t V cd n f y t' V' cd' k g z a₁ A₁.U) (fun A₁ _ v₁ B₁ => Says01 (SameT n f k g) v₁ A₁.U B₁.U ∧ B₁.locs = A₁.locs ++ [] ∧ B₁.cells = A₁.cells + 0 ∧ B₁.slots = A₁.slots + 0) :=
  (law l x t V cd n f y t' V' cd' k g z).pays htab hfr (by omega)
end SEq
end StrChars
namespace StrChars.Road
open Jvm Sem ClassFile Op Lib Jvm.Stand Jvm.Free Jvm.Free.XT
open Jvm.Lib.Cold (StaticIs)
/-- the words of String.equals(Object) -/
abbrev wordsEq : List Jvm.Cond := [.code SEq.yN SEq.yB 3 (some .boolean), .initialized ST, .classLink ST 10 ST, .fieldLink ST 38 ST "COMPACT_STRINGS" "Z", .fieldLink ST 15 ST "coder" "B", .fieldLink ST 9 ST "value" "[B", .methodLink ST 541 LEq.yN, .static LEq.yN, .code LEq.yN LEq.yB 3 (some .boolean), .initialized "java/lang/StringLatin1"]
theorem tabEq_of {a : Array Value} {s : State} (h : ∀ w ∈ wordsEq, w.before a s = true) : SEq.tab.before a s = true := by
  have hl : LEq.tab.before a s = true := unparts (wk h (.code LEq.yN LEq.yB 3 (some .boolean))) (wks h (.initialized LEq.yN.cls :: LEq.site))
  have q := consq hl h
  exact unparts (wk q (.code SEq.yN SEq.yB 3 (some .boolean))) (wks q (.initialized SEq.yN.cls :: SEq.site))
theorem movedEq {Z s : State} {a0 args : Array Value} (hZ : Z.Warmed39 s.vm) (hw : ∀ d ∈ wordsEq, d.before a0 Z = true) : ∀ d ∈ wordsEq, d.before args s = true := fun d hd => by
  have t : ∀ d ∈ wordsEq, (d.onTables && d.keepsFace) = true := by decide +kernel
  exact RoadKit.mv hZ (hw d hd) (t d hd)
/-- the road's facts of a String, as the laws ask it -/
theorem txt_of {Z U : State} {a0 : Array Value} {kI : Nat} (wi : (Jvm.Cond.instantiable ST kI).before a0 Z = true) (al : Z.vm.Alike U.vm) {x t : Addr} {kb : ClassId} {cs : List Int32} {cd N2 : Int32} {vs : List Value} (E : RoadKit.Exa Z U.heap x ST) (V : RoadKit.Fld Z U.heap x ST "value" "[B" (.ref t)) (C : RoadKit.Fld Z U.heap x ST "coder" "B" (.int cd)) (K : RoadKit.Arv Z U.heap t kb .byte N2 vs (.int 0)) (hc : CodA cs cd N2 vs) (hb : ∀ c ∈ cs, ¬ c < 0 ∧ ¬ (65535 : Int32) < c) (l2 : cs.length ≤ 4000) :
    ∃ A, Txt x t A cd cs.length (fun j => cs.getD j 0) U := by
  obtain ⟨A, K1, K2, K3, K4, K5, K6⟩ := K
  have hcod := hc.cod (by omega) K3 K5
  obtain ⟨D, fV, fC, hB, F1, F2, g1, g2, -, -⟩ := strObj wi al E V C
  exact ⟨A, ⟨_, hB.2.2.1, D, hB.1, rfl, by cases q : D.vm <;> first | rfl | exact absurd q (hB.2.1.2 _)⟩, Has.of hB F1 g1, Has.of hB F2 g2, ⟨K1.1, State.isArrayOf_alike al K1.2.1, K1.2.2, by rcases hcod with ⟨-, q, -⟩ | ⟨-, q, -⟩ <;> omega⟩, hcod, fun j hj => by
    have e : cs.getD j 0 = cs[j] := by simp [List.getD_eq_getElem?_getD, hj]
    show ¬ cs.getD j 0 < 0 ∧ ¬ 65535 < cs.getD j 0
    rw [e]; exact hb _ (List.getElem_mem _)⟩
theorem same_list (cs ds : List Int32) : SameT cs.length (fun j => cs.getD j 0) ds.length (fun j => ds.getD j 0) ↔ cs = ds := by
  constructor
  · rintro ⟨e, q⟩
    refine List.ext_getElem e fun j h1 h2 => ?_
    have := q j h1
    simpa [List.getD_eq_getElem?_getD, h1, h2] using this
  · rintro rfl
    exact ⟨rfl, fun _ _ => rfl⟩
/-- **equals(Object) OF TWO SUCH STRINGS**: 1 just where the chars are the same -/
theorem eqW {p : Program} {l : Launch} {e : Env} {R : Room} {s : State} {args : Array Value} {below : List Frame} {len W : Nat} {Z : State} {a0 : Array Value} {h : Heap} (hZ : Z.Warmed39 s.vm) (hw : ∀ d ∈ wordsEq, d.before a0 Z = true) {kI : Nat} (wi : (Jvm.Cond.instantiable ST kI).before a0 Z = true)
    {x t : Addr} {kb : ClassId} {cs : List Int32} {cd N2 : Int32} {vs : List Value} (E : RoadKit.Exa Z h x ST) (V : RoadKit.Fld Z h x ST "value" "[B" (.ref t)) (C : RoadKit.Fld Z h x ST "coder" "B" (.int cd)) (K : RoadKit.Arv Z h t kb .byte N2 vs (.int 0)) (hc : CodA cs cd N2 vs) (hb : ∀ c ∈ cs, ¬ c < 0 ∧ ¬ (65535 : Int32) < c) (l2 : cs.length ≤ 4000)
    {y t' : Addr} {kb' : ClassId} {ds : List Int32} {cd' N2' : Int32} {vs' : List Value} (E' : RoadKit.Exa Z h y ST) (V' : RoadKit.Fld Z h y ST "value" "[B" (.ref t')) (C' : RoadKit.Fld Z h y ST "coder" "B" (.int cd')) (K' : RoadKit.Arv Z h t' kb' .byte N2' vs' (.int 0)) (hc' : CodA ds cd' N2' vs') (hb' : ∀ c ∈ ds, ¬ c < 0 ∧ ¬ (65535 : Int32) < c) (l2' : ds.length ≤ 4000)
    {z : Int32} (S : RoadKit.Sta Z h ST "COMPACT_STRINGS" "Z" (.int z)) (hz : ¬ z = 0) (hfr : 2 ≤ R.frames) (hlo : W + 28 ≤ R.locals) :
    Back l R p e below s args (⟨"java/lang/String", "equals", "(Ljava/lang/Object;)Z"⟩ : MethodName) len W (fun P a => a = #[.ref x, .ref y] ∧ P.U.heap = h ∧ P.cells + 0 ≤ R.cells ∧ P.slots + 0 ≤ R.slots)
      (fun P _ v B => ∃ L, (((v = some (.int 1) ∧ cs = ds) ∨ (v = some (.int 0) ∧ ¬ cs = ds)) ∧ L = [] ∧ B.U.heap = h) ∧ B.locs = P.locs ++ L ∧ B.cells = P.cells + 0 ∧ B.slots = P.slots + 0) := by
  intro m meth c P g ig mk a X hg hsize hdg hW hn hp'
  obtain ⟨rfl, rfl, r1, r2⟩ := hp'
  have al : Z.vm.Alike P.U.vm := hZ.alike.trans X.warmed.alike
  obtain ⟨A, hx⟩ := txt_of wi al E V C K hc hb l2
  obtain ⟨A', hy⟩ := txt_of wi al E' V' C' K' hc' hb' l2'
  obtain ⟨v, B, X', ⟨⟨w, hv, hh, hq⟩, hl, hk, hs⟩, st⟩ := SEq.pays x t A cd cs.length (fun j => cs.getD j 0) y t' A' cd' ds.length (fun j => ds.getD j 0) z (tabEq_of (movedEq hZ hw)) hfr hlo m meth c P g ig mk _ X hg hsize hdg hW hn ⟨r1, r2, rfl, hx, hy, sta_is al S, hz⟩
  refine ⟨v, B, X', ⟨[], ⟨?_, rfl, hh⟩, hl, hk, hs⟩, st⟩
  rcases hq with ⟨rfl, q⟩ | ⟨rfl, q⟩
  · exact Or.inl ⟨hv, (same_list cs ds).mp q⟩
  · exact Or.inr ⟨hv, fun e => q ((same_list cs ds).mpr e)⟩
end StrChars.Road
namespace StrChars.Road
open Jvm Sem ClassFile Op Lib Jvm.Stand Jvm.Free Jvm.Free.XT
open Jvm.Lib.Cold (StaticIs)
/-- what backV says of its String, as the contracts of this text ask it: cs's low bytes, coder 0 -/
theorem codOf {cs : List Int32} {n : Nat} (hn : cs.length = n) (hb : ∀ c ∈ cs, ¬ 255 < c) : CodA cs 0 (Int32.ofNat n) ((cs.map lo8).map Value.int) := Or.inl ⟨rfl, by rw [hn], by simp [List.map_map, Function.comp_def], hb⟩
end StrChars.Road
end Jvm.Pilot.@@N@@

namespace Jvm.Pilot.@@N@@
open Jvm Jvm.ClassFile Sem Op Lib Jvm.Free Jvm.Stand Jvm.LawKit Jvm.RoadKit Bundle Jvm.Pilot.@@N@@.Jvm.D

theorem own_g {Z : State} {a0 : Array Value} (hw : ∀ d ∈ tables_1, d.before a0 Z = true) (i : Nat) {d : Jvm.Cond} (h : tables_1[i]? = some d) : d.before a0 Z = true := hw _ (List.mem_of_getElem? h)
/-- from the state T the run comes to an end that F takes -/
def own_Ends (p : Program) (e : Env) (below : List Frame) (F : Outcome → State → Prop) (T : State) : Prop :=
  ∃ s₂ o, Steps p.tables e below T s₂ ∧ s₂.status = .running ∧ Ended s₂ below o ∧ F o s₂
def own_Fin (s : State) (Q : Option Value → Heap → List Loc → Prop) (C S : Nat) (o : Outcome) (U : State) : Prop :=
  ∃ v L, o = .returned v ∧ Q v U.heap L ∧ FrameEnd s o U L C S
theorem own_Sta_keep {Z : State} {h h' : Heap} {C n d : String} {v : Value} {ws : List Addr} (F : Sta Z h C n d v) (K : Keep h h' ws) (q : ∀ x ∈ ws, ∀ c : Cell, h[x]? = some c → c.vm.isStatics = false) : Sta Z h' C n d v := by
  obtain ⟨cf, i, k, f, st, cell, h1, h2, h3, h4, h5, h6, h7⟩ := F
  exact ⟨cf, i, k, f, st, cell, h1, h2, h3, h4, K.2.1 st cell h5 (fun m => by rw [q st m cell h5] at h6; cases h6), h6, h7⟩
theorem own_ns_exa {Z : State} {h : Heap} {a : Addr} {C : String} (F : Exa Z h a C) : ∀ c : Cell, h[a]? = some c → c.vm.isStatics = false := fun c hc => by
  obtain ⟨cell, k, h1, h2, h3, h4, h5⟩ := F
  cases h1.symm.trans hc; exact h4
theorem own_ns_arv {Z : State} {h : Heap} {a : Addr} {k : ClassId} {ty : FieldType} {n : Int32} {vs : List Value} {d : Value} (F : Arv Z h a k ty n vs d) : ∀ c : Cell, h[a]? = some c → c.vm.isStatics = false := fun c hc => by
  obtain ⟨cell, A, r⟩ := F
  cases A.1.symm.trans hc; exact A.plain
section OwnSteps
variable {p : Program} {l : Launch} {e : Env} {R : Room} {s : State} {m : MethodId} {args : Array Value} {below : List Frame} {meth : Method} {c : Code} {T T' : State} {locs : List Loc} {cells slots cells' slots' : Nat} {F : Outcome → State → Prop}
theorem own_step (h : ∀ target, Steps p.tables e below T' target → Steps p.tables e below T target) (k : own_Ends p e below F T') : own_Ends p e below F T := by
  obtain ⟨s₂, o, h1, h2⟩ := k
  exact ⟨s₂, o, h _ h1, h2⟩
theorem own_trans (h : Steps p.tables e below T T') (k : own_Ends p e below F T') : own_Ends p e below F T := by
  obtain ⟨s₂, o, h1, h2⟩ := k
  exact ⟨s₂, o, h.trans h1, h2⟩
theorem own_mono (X : Stand p l e R s m args below meth c T locs cells slots) (h1 : cells ≤ cells') (h2 : slots ≤ slots') : Stand p l e R s m args below meth c T locs cells' slots' :=
  { X with same := X.same.mono h1 h2 }
theorem own_ret {Q : Option Value → Heap → List Loc → Prop} {C S : Nat} {g : JFrame} (X : Stand p l e R s m args below meth c T locs cells slots) {v : Option Value} (hv : meth.sig.returnType = none → v = none) (hlocks : meth.locks = false)
    (st : ∀ fs, (∀ (f : JFrame) (acts : List Action), f.method = m → f.locked = none → f.entered = [] → (doReturn e (T.setTop f) acts v).1 = T.setFrames fs) → Steps p.tables e below (T.setTop g) (T.setFrames fs))
    (h1 : cells ≤ C) (h2 : slots ≤ S) (hQ : Q v T.heap locs) : own_Ends p e below (own_Fin s Q C S) (T.setTop g) := by
  obtain ⟨fs, hr, hrun, hended, hW, hsame⟩ := X.leave (v := v) hv hlocks
  exact ⟨_, _, st fs hr, hrun, hended, _, _, rfl, hQ, ⟨_, rfl⟩, hW, hsame.mono h1 h2⟩
def own_FinW (s : State) (Q : Option Value → Heap → List Loc → Prop) (C S : Nat) (o : Outcome) (U : State) : Prop :=
  ∃ v L, o = .returned v ∧ Q v U.heap L ∧ ReturnedEndW s o U L C S
theorem own_retW {vm : Vm} {k : Nat} {Q : Option Value → Heap → List Loc → Prop} {C S : Nat} {g : JFrame} (X : Stand p l e R (s.setVm vm) m args below meth c T locs cells slots) (hS : s.Since vm k) (hk : k ≤ T.heap.size) {v : Option Value} (hv : meth.sig.returnType = none → v = none) (hlocks : meth.locks = false)
    (st : ∀ fs, (∀ (f : JFrame) (acts : List Action), f.method = m → f.locked = none → f.entered = [] → (doReturn e (T.setTop f) acts v).1 = T.setFrames fs) → Steps p.tables e below (T.setTop g) (T.setFrames fs))
    (h1 : cells ≤ C) (h2 : slots ≤ S) (hQ : Q v T.heap locs) : own_Ends p e below (own_FinW s Q C S) (T.setTop g) := by
  obtain ⟨fs, hr, hrun, hended, a, b, c', d'⟩ := X.leaveW hS hk (v := v) hv hlocks
  exact ⟨_, _, st fs hr, hrun, hended, _, _, rfl, hQ, a, b, c', d'.mono h1 h2⟩
theorem own_warm {Z : State} {vm0 vm1 : Vm} {k : Nat} (hZ : Z.Warmed39 vm0) (hS : (s.setVm vm0).Since vm1 k) : Z.Warmed39 vm1 := State.Warmed39.trans (t := s.setVm vm0) hZ hS.1
theorem own_find {vm0 vm1 : Vm} {k : Nat} {own : String} {c0 : ClassId} (h : vm0.findClass own = some c0) (hS : (s.setVm vm0).Since vm1 k) : vm1.findClass own = some c0 := by
  rw [hS.1.alike.findClass]; exact h
def own_FinH (Z : State) (EL : List (String × Nat)) (s : State) (Q : Option Value → Heap → List Loc → Prop) (C S : Nat) (o : Outcome) (U : State) : Prop :=
  ∃ v L, o = .returned v ∧ Q v U.heap L ∧ CHr Z EL s.vm s.heap U.vm U.heap ∧ ReturnedEndW s o U L C S
theorem own_retH {Z : State} {a0 : Array Value} {EL : List (String × Nat)} {vm : Vm} {k : Nat} {h0 h : Heap} {Q : Option Value → Heap → List Loc → Prop} {C S : Nat} {g : JFrame} (X : Stand p l e R (s.setVm vm) m args below meth c T locs cells slots) (hS : s.Since vm k) (hk : k ≤ T.heap.size) (hh : s.heap = h0) (eT : T.heap = h) (hZ : Z.Warmed39 vm) (hEL : EW Z a0 EL) (hC : CHr Z EL s.vm h0 vm h) {v : Option Value} (hv : meth.sig.returnType = none → v = none) (hlocks : meth.locks = false)
    (st : ∀ fs, (∀ (f : JFrame) (acts : List Action), f.method = m → f.locked = none → f.entered = [] → (doReturn e (T.setTop f) acts v).1 = T.setFrames fs) → Steps p.tables e below (T.setTop g) (T.setFrames fs))
    (h1 : cells ≤ C) (h2 : slots ≤ S) (hQ : Q v T.heap locs) : own_Ends p e below (own_FinH Z EL s Q C S) (T.setTop g) := by
  obtain ⟨fs, hr, hrun, hended, a, b, c', d'⟩ := X.leaveW hS hk (v := v) hv hlocks
  have q : CHr Z EL s.vm s.heap T.vm T.heap := by
    rw [hh, eT]; exact hC.trans (CHv.at X hZ hEL hC.1)
  exact ⟨_, _, st fs hr, hrun, hended, _, _, rfl, hQ, q, a, b, c', d'.mono h1 h2⟩
def own_SL (Z : State) (EL : List (String × Nat)) (vm : Vm) (h : Heap) (x : Addr) : Prop := x < h.size ∧ Safe Z EL vm h x
theorem own_SL.go {Z : State} {EL : List (String × Nat)} {vm vm1 : Vm} {h h' : Heap} {x : Addr} (F : own_SL Z EL vm h x) (A : CHr Z EL vm h vm1 h') : own_SL Z EL vm1 h' x := ⟨Nat.lt_of_lt_of_le F.1 A.2.1, A.safe F.1 F.2⟩
theorem own_SL.born {Z : State} {EL : List (String × Nat)} {vm : Vm} {h h' : Heap} {x : Addr} (H : CHv Z EL vm h) (E : Ext h h') (g : x = h.size) (lt : x < h'.size) : own_SL Z EL vm h' x := ⟨lt, Safe.ext E H (Safe.new (Nat.le_of_eq g.symm))⟩
end OwnSteps

/-- the String x of h spells the chars cs (each 0 to 255); it and its bytes lie below B -/
def own_Str (Z : State) (h : Heap) (B : Nat) (x : Addr) (cs : List Int32) : Prop := ∃ (t : Addr) (kb : ClassId), Exa Z h x "java/lang/String" ∧ Fld Z h x "java/lang/String" "coder" "B" (.int 0) ∧ Fld Z h x "java/lang/String" "value" "[B" (.ref t) ∧ Arv Z h t kb .byte (Int32.ofNat cs.length) ((cs.map (fun c => c.toInt8.toInt32)).map Value.int) (.int 0) ∧ (∀ c ∈ cs, ¬ c < 0 ∧ ¬ (255 : Int32) < c) ∧ x < B ∧ t < B
section OwnStr
variable {Z : State} {h h' : Heap} {B B' : Nat} {x : Addr} {cs ds : List Int32} {ws : List Addr}
theorem own_Str.exa (F : own_Str Z h B x cs) : Exa Z h x "java/lang/String" := by obtain ⟨t, kb, E, -⟩ := F; exact E
theorem own_Str.lt (F : own_Str Z h B x cs) : x < h.size := F.exa.lt
theorem own_Str.ext (F : own_Str Z h B x cs) (E : Ext h h') : own_Str Z h' B x cs := by
  obtain ⟨t, kb, f1, f2, f3, f4, f5⟩ := F
  exact ⟨t, kb, f1.ext E, f2.ext E, f3.ext E, f4.ext E, f5⟩
theorem own_Str.keep (F : own_Str Z h B x cs) (K : Keep h h' ws) (q : ∀ w ∈ ws, B ≤ w) : own_Str Z h' B x cs := by
  obtain ⟨t, kb, f1, f2, f3, f4, f5, f6, f7⟩ := F
  have n1 : x ∉ ws := fun m => absurd (q x m) (Nat.not_le.mpr f6)
  have n2 : t ∉ ws := fun m => absurd (q t m) (Nat.not_le.mpr f7)
  exact ⟨t, kb, f1.keep K, f2.keep K n1, f3.keep K n1, f4.keep K n2, f5, f6, f7⟩
theorem own_Str.keepN (F : own_Str Z h B x cs) (K : Keep h h' ws) (q : ∀ w ∈ ws, B ≤ w ∨ ∃ (C : String) (n : Nat) (a0 : Array Value), Exa Z h w C ∧ C ≠ "java/lang/String" ∧ (Jvm.Cond.instantiable C n).before a0 Z = true) : own_Str Z h' B x cs := by
  obtain ⟨t, kb, f1, f2, f3, f4, f5, f6, f7⟩ := F
  have n1 : x ∉ ws := fun m => by
    rcases q x m with g | ⟨C, n, a0, g, g2, g3⟩
    · exact absurd g (Nat.not_le.mpr f6)
    · exact g.ne f1 g2 rfl
  have n2 : t ∉ ws := fun m => by
    rcases q t m with g | ⟨C, n, a0, g, g2, g3⟩
    · exact absurd g (Nat.not_le.mpr f7)
    · exact g.neArv f4 g3 rfl
  exact ⟨t, kb, f1.keep K, f2.keep K n1, f3.keep K n1, f4.keep K n2, f5, f6, f7⟩
theorem own_Str.mono (F : own_Str Z h B x cs) (q : B ≤ B') : own_Str Z h B' x cs := by
  obtain ⟨t, kb, f1, f2, f3, f4, f5, f6, f7⟩ := F
  exact ⟨t, kb, f1, f2, f3, f4, f5, Nat.lt_of_lt_of_le f6 q, Nat.lt_of_lt_of_le f7 q⟩
theorem own_Str.top (F : own_Str Z h B x cs) : own_Str Z h h.size x cs := by
  obtain ⟨t, kb, f1, f2, f3, f4, f5, f6, f7⟩ := F
  exact ⟨t, kb, f1, f2, f3, f4, f5, f1.lt, f4.lt⟩
theorem own_Str.mk {t : Addr} {kb : ClassId} {N : Int32} {vs : List Value} (f1 : Exa Z h x "java/lang/String") (f2 : Fld Z h x "java/lang/String" "coder" "B" (.int 0)) (f3 : Fld Z h x "java/lang/String" "value" "[B" (.ref t)) (f4 : Arv Z h t kb .byte N vs (.int 0)) (e1 : N = Int32.ofNat cs.length) (e2 : vs = (cs.map (fun c => c.toInt8.toInt32)).map Value.int) (f5 : ∀ c ∈ cs, ¬ c < 0 ∧ ¬ (255 : Int32) < c) : own_Str Z h h.size x cs := by
  subst e1 e2
  exact ⟨t, kb, f1, f2, f3, f4, f5, f1.lt, f4.lt⟩
def own_eqv (cs ds : List Int32) : Int32 := if cs = ds then 1 else 0
theorem own_hi {c : Int32} (q : ¬ (255 : Int32) < c) : ¬ (65535 : Int32) < c := fun z => q (by
  rw [Int32.lt_iff_toInt_lt] at z ⊢
  have e1 : (255 : Int32).toInt = 255 := rfl
  have e2 : (65535 : Int32).toInt = 65535 := rfl
  omega)
end OwnStr

theorem own_eqB {p : Program} {l : Launch} {e : Env} {R : Room} {s : State} {args : Array Value} {below : List Frame} {len W : Nat} {Z : State} {a0 : Array Value} {h : Heap} (hZ : Z.Warmed39 s.vm) (hw : ∀ d ∈ tables_1, d.before a0 Z = true) (wi : (Jvm.Cond.instantiable "java/lang/String" 4).before a0 Z = true) {B B' : Nat} {x y : Addr} {cs ds : List Int32} (F : own_Str Z h B x cs) (G : own_Str Z h B' y ds) {z : Int32} (S : Sta Z h "java/lang/String" "COMPACT_STRINGS" "Z" (.int z)) (hz : ¬ z = 0) (l1 : cs.length ≤ 4000) (l2 : ds.length ≤ 4000) (hfr : 2 ≤ R.frames) (hlo : W + 28 ≤ R.locals) :
    Back l R p e below s args (⟨"java/lang/String", "equals", "(Ljava/lang/Object;)Z"⟩ : MethodName) len W (fun P a => a = #[.ref x, .ref y] ∧ P.U.heap = h ∧ P.cells + 0 ≤ R.cells ∧ P.slots + 0 ≤ R.slots)
      (fun P _ v B => ∃ L, (v = some (.int (own_eqv cs ds)) ∧ (∀ k, Fr k L) ∧ B.U.heap = h) ∧ B.locs = P.locs ++ L ∧ B.cells = P.cells + 0 ∧ B.slots = P.slots + 0) := by
  obtain ⟨t, kb, f1, f2, f3, f4, f5, -⟩ := F
  obtain ⟨t', kb', g1, g2, g3, g4, g5, -⟩ := G
  refine Back.mono (StrChars.Road.eqW hZ (fun d hd => hw d ((by decide +kernel : ∀ d ∈ StrChars.Road.wordsEq, d ∈ tables_1) d hd)) wi f1 f3 f2 f4 (StrChars.Road.codOf rfl (fun c hc => (f5 c hc).2)) (fun c hc => ⟨(f5 c hc).1, own_hi (f5 c hc).2⟩) l1 g1 g3 g2 g4 (StrChars.Road.codOf rfl (fun c hc => (g5 c hc).2)) (fun c hc => ⟨(g5 c hc).1, own_hi (g5 c hc).2⟩) l2 S hz hfr hlo) (fun _ _ q => q) (fun P a v B _ q => ?_)
  obtain ⟨L, ⟨q1, q2, q3⟩, r⟩ := q
  refine ⟨L, ⟨?_, by subst q2; exact fun k => Fr.nil k, q3⟩, r⟩
  unfold own_eqv
  rcases q1 with ⟨rfl, q⟩ | ⟨rfl, q⟩
  · rw [if_pos q]
  · rw [if_neg q]

theorem own_c0 {P : Int32 → Prop} : ∀ c ∈ ([] : List Int32), P c := fun _ q => nomatch q
theorem own_cS {P : Int32 → Prop} {y : Int32} {L : List Int32} (q : P y) (r : ∀ c ∈ L, P c) : ∀ c ∈ y :: L, P c := fun c z => (List.mem_cons.mp z).elim (fun u => u ▸ q) (r c)
theorem own_rng {v : Int32} (h : 0 ≤ v.toInt ∧ v.toInt ≤ 255) : ¬ v < 0 ∧ ¬ (255 : Int32) < v := by
  have e0 : (0 : Int32).toInt = 0 := rfl
  have e1 : (255 : Int32).toInt = 255 := rfl
  rw [Int32.lt_iff_toInt_lt, Int32.lt_iff_toInt_lt, e0, e1]; omega
theorem own_rng' {v : Int32} (h : ¬ v < 0 ∧ ¬ (255 : Int32) < v) : 0 ≤ v.toInt ∧ v.toInt ≤ 255 := by
  have e0 : (0 : Int32).toInt = 0 := rfl
  have e1 : (255 : Int32).toInt = 255 := rfl
  rw [Int32.lt_iff_toInt_lt, Int32.lt_iff_toInt_lt, e0, e1] at h; omega
theorem own_c8 {v x : Int32} (e : v = (x &&& (255 : Int32)).toUInt32.toUInt16.toUInt32.toInt32) : ¬ v < 0 ∧ ¬ (255 : Int32) < v := by
  rw [e, i2c_mask]
  have h := c_and x 255 (by decide)
  have e1 : (255 : Int32).toInt = 255 := rfl
  rw [e1] at h
  exact own_rng h
theorem own_narC {v : Int32} (h : ¬ v < 0 ∧ ¬ (255 : Int32) < v) : nar .char v = v := by
  have r := own_rng' h
  have q := c_i2c v
  apply Int32.toInt_inj.mp
  show v.toUInt32.toUInt16.toUInt32.toInt32.toInt = v.toInt
  omega
theorem own_fitC {v : Int32} (h : ¬ v < 0 ∧ ¬ (255 : Int32) < v) : fits .char (.int v) = true := by rw [← own_narC h]; exact fits_nar_char v
theorem own_i2c {v : Int32} (h : ¬ v < 0 ∧ ¬ (255 : Int32) < v) : v.toUInt32.toUInt16.toUInt32.toInt32 = v := own_narC h
theorem own_nar8 (x : Int32) : nar .byte (x.toInt8.toInt32) = x.toInt8.toInt32 := by
  show (x.toInt8.toInt32).toInt8.toInt32 = x.toInt8.toInt32
  rw [Int8.toInt8_toInt32]
theorem own_no {Z : State} {a0 : Array Value} {C S K : String} {n : Nat} (w : (Jvm.Cond.superclass C S).before a0 Z = true) (w0 : (Jvm.Cond.noSuperclass S).before a0 Z = true) (wk : (Jvm.Cond.instantiable K n).before a0 Z = true) (hn : C ≠ K) (hn2 : S ≠ K) : ∃ c t, Z.vm.findClass C = some c ∧ Z.vm.findClass K = some t ∧ Z.vm.assignable c t = false := by
  obtain ⟨t, k', g1, g2, g3, g4, -⟩ := Cond.instantiable_spec wk
  obtain ⟨c0, k0, r1, r2, r3, -, -⟩ := Cond.noSuperclass_spec w0
  obtain ⟨c, h0⟩ := found_sup w
  obtain ⟨p, k, kp, h1, h2, h3, h4, h5, -, h7⟩ := Cond.superclass_spec h0 w
  cases h1.symm.trans r1
  have ne := ids_ne h0 g1 hn
  have ne2 := ids_ne r1 g1 hn2
  refine ⟨c, t, h0, g1, ?_⟩
  simp only [Bool.or_eq_false_iff] at g4
  have n3 : ∀ fuel, Z.vm.isSubclassAux fuel c t = false := fun fuel => by
    cases fuel with
    | zero => rfl
    | succ f =>
      cases f with
      | zero => simp [Vm.isSubclassAux, ne, h2, h4]
      | succ f => simp [Vm.isSubclassAux, ne, h2, h4, ne2, r2, r3]
  show Z.vm.assignableAux (255 + 1) c t = false
  simp [Vm.assignableAux, ne, h2, g2, h5, g3, g4.1, Vm.isSubclass, n3]

theorem own_safeS {Z : State} {EL : List (String × Nat)} {vm : Vm} {h : Heap} {x : Addr} (hal : Z.vm.Alike vm) (E : Exa Z h x "java/lang/String") (V : Fld Z h x "java/lang/String" "value" "[B" .null) : Safe Z EL vm h x := fun B => by
  obtain ⟨cell, k, e1, e2, e3, -, -⟩ := E
  obtain ⟨p, -, u, a, -, q, -, F, rfl | rfl⟩ := B
  · have ha : h[q.sa]? = some q.sC := F.ha
    obtain ⟨cS, ⟨⟨-, -, -, ⟨c1, k1, i1, f1, -⟩, -, -, -, v1, -⟩, -⟩, -⟩ := F
    obtain ⟨cell', cf, kk, i, f, g1, g2, -, -, -, -, g7⟩ := V
    cases g1.symm.trans ha
    obtain ⟨k3, e3', -⟩ := State.fieldFound?_setVm (s := Z) hal g2
    have e4 := (show (Wst Z vm h).fieldFound? _ _ _ = _ from e3').symm.trans f1
    simp only [Option.some.injEq, Prod.mk.injEq] at e4
    rw [e4.2.2.2, v1] at g7; cases g7
  · cases (show h[q.sd]? = some q.SA from F.hd).symm.trans e1
    obtain ⟨cS, -, -, f, -⟩ := F
    have f' : Z.vm.findClass "[B" = some q.SA.cls := by rw [← hal.findClass]; exact f
    obtain ⟨k1, q1, q2⟩ := Vm.findClass_spec f'
    obtain ⟨k2, q3, q4⟩ := Vm.findClass_spec e2
    cases q1.symm.trans q3
    exact absurd (q2.symm.trans q4) (by decide)

theorem own_m3 (x : Int32) : x &&& 3 = 0 ∨ x &&& 3 = 1 ∨ x &&& 3 = 2 ∨ x &&& 3 = 3 := by
  have h := c_mask x 3 2 (by decide) (by decide)
  have e : ∀ k : Int32, (x &&& 3).toInt = k.toInt → x &&& 3 = k := fun k q => Int32.toInt_inj.mp q
  have p : ((2 ^ 2 : Nat) : Int) = 4 := rfl
  rw [p] at h
  have h4 : x.toInt % 4 = 0 ∨ x.toInt % 4 = 1 ∨ x.toInt % 4 = 2 ∨ x.toInt % 4 = 3 := by omega
  rcases h4 with q | q | q | q <;> rw [q] at h
  · exact Or.inl (e 0 h)
  · exact Or.inr (Or.inl (e 1 h))
  · exact Or.inr (Or.inr (Or.inl (e 2 h)))
  · exact Or.inr (Or.inr (Or.inr (e 3 h)))

def own_EL : List (String × Nat) := [("java/lang/String", 7)]
theorem own_EW {Z : State} {a0 : Array Value} (hw : ∀ d ∈ tables_1, d.before a0 Z = true) : EW Z a0 own_EL := (EW.cons (own_g hw 18 rfl) (by decide) EW.nil)

theorem own_sa : ∀ d ∈ Bundle.stringAtoms, d ∈ tables_1 := by decide +kernel
theorem d3_0 : decode jdk_42_method_149_code 0 = .ok (.aload_n 0, 1) := by decide +kernel
theorem d3_1 : decode jdk_42_method_149_code 1 = .ok (.invokespecial 1, 3) := by decide +kernel
theorem d3_4 : decode jdk_42_method_149_code 4 = .ok (.iload_n 3, 1) := by decide +kernel
theorem d3_5 : decode jdk_42_method_149_code 5 = .ok (.ifCond .ne 22, 3) := by decide +kernel
theorem d3_8 : decode jdk_42_method_149_code 8 = .ok (.aload_n 0, 1) := by decide +kernel
theorem d3_9 : decode jdk_42_method_149_code 9 = .ok (.ldc 7, 2) := by decide +kernel
theorem d3_11 : decode jdk_42_method_149_code 11 = .ok (.getfield 9, 3) := by decide +kernel
theorem d3_14 : decode jdk_42_method_149_code 14 = .ok (.putfield 9, 3) := by decide +kernel
theorem d3_17 : decode jdk_42_method_149_code 17 = .ok (.aload_n 0, 1) := by decide +kernel
theorem d3_18 : decode jdk_42_method_149_code 18 = .ok (.ldc 7, 2) := by decide +kernel
theorem d3_20 : decode jdk_42_method_149_code 20 = .ok (.getfield 15, 3) := by decide +kernel
theorem d3_23 : decode jdk_42_method_149_code 23 = .ok (.putfield 15, 3) := by decide +kernel
theorem d3_26 : decode jdk_42_method_149_code 26 = .ok (.return_, 1) := by decide +kernel
theorem pn_java_lang_String : plainName "java/lang/String" = true := by first | (simp [plainName, overriddenIn]; done) | decide +kernel
theorem ef_rm3 (m : MethodId) (x0 : Addr) (x1 : Addr) (x2 : Int32) (x3 : Int32) : entryFrame m #[(.ref x0), (.ref x1), (.int x2), (.int x3), .null] 6 = mkF m 0 #[.val (.ref x0), .val (.ref x1), .val (.int x2), .val (.int x3), .val .null, .unset] [] := by first | (simp [entryFrame, mkF, argsToLocals, Value.category, maxLocals]; done) | rfl
def Q3 (Z : State) (a b : Addr) (h0 : Heap) (n0 : Nat) (v : Option Value) (h : Heap) (L : List Loc) : Prop := v = none ∧ Fr n0 L ∧ Keep h0 h [a] ∧ own_Str Z h h.size a []
set_option maxRecDepth 65536 in
set_option maxHeartbeats 40000000 in
theorem rm3 (l : Launch) (Z : State) (a0 : Array Value) (hw : ∀ d ∈ tables_1, d.before a0 Z = true) (ws : List Jvm.Cond) (a b : Addr) (h0 : Heap) (n0 : Nat) (Z0 : n0 ≤ h0.size) (EX : Exa Z h0 a "java/lang/String") (ge : n0 ≤ a) (F_value : Fld Z h0 a "java/lang/String" "value" "[B" .null) (F_coder : Fld Z h0 a "java/lang/String" "coder" "B" (.int (0 : Int32))) :
    MetFree l (⟨"java/lang/String", "<init>", "([CIILjava/lang/Void;)V"⟩ : MethodName) (head1 (Jvm.Cond.code (⟨"java/lang/String", "<init>", "([CIILjava/lang/Void;)V"⟩ : MethodName) jdk_42_method_149_code 6 none :: ws) ({ frames := 1, cells := 4, slots := 8, locals := 12 } : Room)) (fun ar U => ar = #[(.ref a), (.ref b), (.int (0 : Int32)), (.int (0 : Int32)), .null] ∧ Z.Warmed39 U.vm ∧ U.heap = h0 ∧ CHv Z own_EL U.vm h0) (fun _ _ _ _ _ => True) (fun _ U o U' => ∃ v L, o = .returned v ∧ Q3 Z a b h0 n0 v U'.heap L ∧ CHr Z own_EL U.vm U.heap U'.vm U'.heap ∧ ReturnedEndW U o U' L ({ frames := 1, cells := 4, slots := 8, locals := 12 } : Room).cells ({ frames := 1, cells := 4, slots := 8, locals := 12 } : Room).slots) := by
  refine MetFree.of_bodySF (plainFor_of_name pn_java_lang_String) hisR ?_
  intro p e s m args below meth c s₁ Bd hml0 hP hK
  obtain ⟨rfl, hZ, hh, hH⟩ := hP
  have hx := Bd.exec
  have hby := Bd.bytes
  have hml : c.maxLocals = 6 := hml0
  have hown : s.vm.findClass "java/lang/String" = some m.cls := findClass_of_methodNamed Bd.named
  have hnm := (name_of_methodNamed Bd.named Bd.method).1
  have X0 : Stand p l e ({ frames := 1, cells := 4, slots := 8, locals := 12 } : Room) (s.setVm s.vm) m #[(.ref a), (.ref b), (.int (0 : Int32)), (.int (0 : Int32)), .null] below meth c s₁ [] 0 0 := Stand.of_body Bd
  have e0 : s₁.heap = h0 := by rw [← hh, Bd.state]; rfl
  have N0 := Fr.nil n0
  have hS : s.Since s.vm h0.size := (State.WarmedH.refl s).since _
  have hk := Nat.le_refl h0.size
  have hC0 : CHr Z own_EL s.vm h0 s.vm h0 := CHr.refl hH
  obtain ⟨F, hF⟩ : ∃ F, F = own_FinH Z own_EL s (Q3 Z a b h0 n0) ({ frames := 1, cells := 4, slots := 8, locals := 12 } : Room).cells ({ frames := 1, cells := 4, slots := 8, locals := 12 } : Room).slots := ⟨_, rfl⟩
  show own_Ends p e below (own_FinH Z own_EL s (Q3 Z a b h0 n0) ({ frames := 1, cells := 4, slots := 8, locals := 12 } : Room).cells ({ frames := 1, cells := 4, slots := 8, locals := 12 } : Room).slots) _
  rw [← hF, ef_rm3 m a b (0 : Int32) (0 : Int32)]
  show own_Ends p e below F (s₁.setTop (mkF m 0 #[.val (.ref a), .val (.ref b), .val (.int (0 : Int32)), .val (.int (0 : Int32)), .val .null, .unset] []))
  have sf_a : own_SL Z own_EL s.vm h0 a := ⟨EX.lt, own_safeS hZ.alike EX F_value⟩
  refine own_step (fun _ k => XS.aloadN X0.here hx rfl (hb hby d3_0) rfl rfl k) ?_
  show own_Ends p e below F (s₁.setTop (mkF m 1 #[.val (.ref a), .val (.ref b), .val (.int (0 : Int32)), .val (.int (0 : Int32)), .val .null, .unset] [(.ref a)]))
  obtain ⟨T1, X1, e1, st1⟩ := initO X0 hx hZ hown (own_g hw 15 rfl) (own_g hw 16 rfl) (own_g hw 17 rfl) e0 (g := (mkF m 1 #[.val (.ref a), .val (.ref b), .val (.int (0 : Int32)), .val (.int (0 : Int32)), .val .null, .unset] [(.ref a)])) rfl (by rw [hml]; rfl) rfl (hb hby d3_1) (by decide) (W := 0) (by show 2 * 0 + _ ≤ _; exact Nat.le_of_eq rfl) (by decide)
  refine own_step st1 ?_
  show own_Ends p e below F (T1.setTop (mkF m 4 #[.val (.ref a), .val (.ref b), .val (.int (0 : Int32)), .val (.int (0 : Int32)), .val .null, .unset] []))
  refine own_step (fun _ k => XS.iloadN X1.here hx rfl (hb hby d3_4) rfl k) ?_
  show own_Ends p e below F (T1.setTop (mkF m 5 #[.val (.ref a), .val (.ref b), .val (.int (0 : Int32)), .val (.int (0 : Int32)), .val .null, .unset] [(.int (0 : Int32))]))
  refine own_step (fun _ k => XS.ifNo X1.here hx rfl (hb hby d3_5) rfl ((if0 _ _).trans (teq (by decide : (0 : Int32) = (0 : Int32))).2) k) ?_
  show own_Ends p e below F (T1.setTop (mkF m 8 #[.val (.ref a), .val (.ref b), .val (.int (0 : Int32)), .val (.int (0 : Int32)), .val .null, .unset] []))
  refine own_step (fun _ k => XS.aloadN X1.here hx rfl (hb hby d3_8) rfl rfl k) ?_
  show own_Ends p e below F (T1.setTop (mkF m 9 #[.val (.ref a), .val (.ref b), .val (.int (0 : Int32)), .val (.int (0 : Int32)), .val .null, .unset] [(.ref a)]))
  obtain ⟨a2, T2, h2, kk2, b2, kb2, X2, e2, E2, hS, hk, hZ, hown, fe2, fc2, fv2, fa2, -, -, hr2, -, sf2, st2⟩ := ldcCH X1 hx hZ hown (own_g hw 18 rfl) (fun d hd => hw d (own_sa d hd)) e1 hS hk (own_EW hw) (List.mem_of_getElem? (i := 0) rfl) hC0.1 (vs := []) (z := (0 : Int32)) ⟨by decide, rfl⟩ (by decide) rfl (g := (mkF m 9 #[.val (.ref a), .val (.ref b), .val (.int (0 : Int32)), .val (.int (0 : Int32)), .val .null, .unset] [(.ref a)])) rfl (hb hby d3_9) (n := 0) (by decide) (by decide) (by decide) (by decide)
  have Z2 : n0 ≤ h2.size := Nat.le_trans Z0 E2.1
  have SZ2 : h0.size ≤ h2.size := Nat.le_trans (Nat.le_refl h0.size) E2.1
  have hC2 := hC0.trans hr2
  obtain ⟨ne_a_a2, ne_a_b2⟩ := sf2 a (own_SL.go sf_a hr2).2
  have str2 : own_Str Z h2 h2.size a2 ([] : List Int32) := own_Str.mk fe2 fc2 fv2 fa2 rfl rfl (by decide)
  refine own_step st2 ?_
  show own_Ends p e below F (T2.setTop (mkF m 11 #[.val (.ref a), .val (.ref b), .val (.int (0 : Int32)), .val (.int (0 : Int32)), .val .null, .unset] [(.ref a2), (.ref a)]))
  obtain ⟨T3, X3, e3, st3⟩ := getF X2 hx hZ hown (host := "") (Or.inl (own_g hw 24 rfl)) Via.refl e2 fv2 (g := (mkF m 11 #[.val (.ref a), .val (.ref b), .val (.int (0 : Int32)), .val (.int (0 : Int32)), .val .null, .unset] [(.ref a2), (.ref a)])) rfl rfl (hb hby d3_11)
  refine own_step st3 ?_
  show own_Ends p e below F (T3.setTop (mkF m 14 #[.val (.ref a), .val (.ref b), .val (.int (0 : Int32)), .val (.int (0 : Int32)), .val .null, .unset] [(.ref b2), (.ref a)]))
  obtain ⟨T4, h4, X4, e4, W4, st4⟩ := putF X3 hx hZ hown (host := "") (Or.inl (own_g hw 24 rfl)) Via.refl e3 (F_value.ext E2) (EX.ext E2) (Or.inr ⟨(own_g hw 20 rfl), rfl, hnm⟩) (own_g hw 5 rfl) (ty := (.array .byte)) (by decide) rfl rfl (g := (mkF m 14 #[.val (.ref a), .val (.ref b), .val (.int (0 : Int32)), .val (.int (0 : Int32)), .val .null, .unset] [(.ref b2), (.ref a)])) rfl rfl (hb hby d3_14)
  refine own_step st4 ?_
  have F4 := Fld.same W4 (F_value.ext E2)
  have N4 := Fr.snoc X4 N0 ge
  have Z4 : n0 ≤ h4.size := by rw [W4.size]; exact Z2
  have SZ4 : h0.size ≤ h4.size := by rw [W4.size]; exact SZ2
  have hk := (W4.size.symm ▸ hk : _ ≤ h4.size)
  have hr4 := CHr.wr W4 (own_SL.go sf_a hr2).2 hC2.1
  have hC4 := hC2.trans hr4
  show own_Ends p e below F (T4.setTop (mkF m 17 #[.val (.ref a), .val (.ref b), .val (.int (0 : Int32)), .val (.int (0 : Int32)), .val .null, .unset] []))
  refine own_step (fun _ k => XS.aloadN X4.here hx rfl (hb hby d3_17) rfl rfl k) ?_
  show own_Ends p e below F (T4.setTop (mkF m 18 #[.val (.ref a), .val (.ref b), .val (.int (0 : Int32)), .val (.int (0 : Int32)), .val .null, .unset] [(.ref a)]))
  obtain ⟨a5, T5, h5, kk5, b5, kb5, X5, e5, E5, hS, hk, hZ, hown, fe5, fc5, fv5, fa5, -, -, hr5, -, sf5, st5⟩ := ldcCH X4 hx hZ hown (own_g hw 18 rfl) (fun d hd => hw d (own_sa d hd)) e4 hS hk (own_EW hw) (List.mem_of_getElem? (i := 0) rfl) hC4.1 (vs := []) (z := (0 : Int32)) ⟨by decide, rfl⟩ (by decide) rfl (g := (mkF m 18 #[.val (.ref a), .val (.ref b), .val (.int (0 : Int32)), .val (.int (0 : Int32)), .val .null, .unset] [(.ref a)])) rfl (hb hby d3_18) (n := 0) (by decide) (by decide) (by decide) (by decide)
  have Z5 : n0 ≤ h5.size := Nat.le_trans Z4 E5.1
  have SZ5 : h0.size ≤ h5.size := Nat.le_trans SZ4 E5.1
  have hC5 := hC4.trans hr5
  obtain ⟨ne_a_a5, ne_a_b5⟩ := sf5 a (own_SL.go (own_SL.go (own_SL.go sf_a hr2) hr4) hr5).2
  have str5 : own_Str Z h5 h5.size a5 ([] : List Int32) := own_Str.mk fe5 fc5 fv5 fa5 rfl rfl (by decide)
  refine own_step st5 ?_
  show own_Ends p e below F (T5.setTop (mkF m 20 #[.val (.ref a), .val (.ref b), .val (.int (0 : Int32)), .val (.int (0 : Int32)), .val .null, .unset] [(.ref a5), (.ref a)]))
  obtain ⟨T6, X6, e6, st6⟩ := getF X5 hx hZ hown (host := "") (Or.inl (own_g hw 25 rfl)) Via.refl e5 fc5 (g := (mkF m 20 #[.val (.ref a), .val (.ref b), .val (.int (0 : Int32)), .val (.int (0 : Int32)), .val .null, .unset] [(.ref a5), (.ref a)])) rfl rfl (hb hby d3_20)
  refine own_step st6 ?_
  show own_Ends p e below F (T6.setTop (mkF m 23 #[.val (.ref a), .val (.ref b), .val (.int (0 : Int32)), .val (.int (0 : Int32)), .val .null, .unset] [(.int (0 : Int32)), (.ref a)]))
  obtain ⟨T7, h7, X7, e7, W7, st7⟩ := putFN X6 hx hZ hown (own_g hw 25 rfl) Via.refl e6 ((Fld.other W4 (F_coder.ext E2) (Or.inr (slot_ne (t := .byte) (t' := (.array .byte)) (Or.inr (own_g hw 21 rfl)) (Or.inr (own_g hw 20 rfl)) (by decide) (by decide) (by decide)))).ext E5) (((EX.ext E2).wr W4).ext E5) (Or.inr ⟨(own_g hw 21 rfl), rfl, hnm⟩) (own_g hw 5 rfl) (ty := .byte) (v' := (.int (0 : Int32))) (by decide) rfl rfl (g := (mkF m 23 #[.val (.ref a), .val (.ref b), .val (.int (0 : Int32)), .val (.int (0 : Int32)), .val .null, .unset] [(.int (0 : Int32)), (.ref a)])) rfl rfl (hb hby d3_23)
  refine own_step st7 ?_
  have F7 := Fld.same W7 ((Fld.other W4 (F_coder.ext E2) (Or.inr (slot_ne (t := .byte) (t' := (.array .byte)) (Or.inr (own_g hw 21 rfl)) (Or.inr (own_g hw 20 rfl)) (by decide) (by decide) (by decide)))).ext E5)
  have N7 := Fr.snoc X7 N4 ge
  have Z7 : n0 ≤ h7.size := by rw [W7.size]; exact Z5
  have SZ7 : h0.size ≤ h7.size := by rw [W7.size]; exact SZ5
  have hk := (W7.size.symm ▸ hk : _ ≤ h7.size)
  have hr7 := CHr.wr W7 (own_SL.go (own_SL.go (own_SL.go sf_a hr2) hr4) hr5).2 hC5.1
  have hC7 := hC5.trans hr7
  show own_Ends p e below F (T7.setTop (mkF m 26 #[.val (.ref a), .val (.ref b), .val (.int (0 : Int32)), .val (.int (0 : Int32)), .val .null, .unset] []))
  rw [hF]
  exact own_retH X7 hS (by rw [e7]; exact hk) hh e7 hZ (own_EW hw) hC7 (v := none) (fun _ => rfl) Bd.notSynchronized (fun fs hr => X7.returnOut hx Bd.returns (hb hby d3_26) hr) (by decide) (by decide) (by rw [e7]; exact ⟨rfl, N7, ((Keep.wr (Keep.ext (Keep.wr (Keep.ext (Keep.refl _ _) E2) W4 (Or.inl (List.mem_of_getElem? (i := 0) rfl))) E5) W7 (Or.inl (List.mem_of_getElem? (i := 0) rfl))) : Keep h0 h7 [a]), own_Str.mk (cs := []) ((((EX.ext E2).wr W4).ext E5).wr W7) F7 (Fld.other W7 (F4.ext E5) (Or.inr (slot_ne (t := (.array .byte)) (t' := .byte) (Or.inr (own_g hw 20 rfl)) (Or.inr (own_g hw 21 rfl)) (by decide) (by decide) (by decide)))) (((fa2.other W4 (Ne.symm ne_a_b2)).ext E5).other W7 (Ne.symm ne_a_b2)) rfl rfl own_c0⟩)

theorem d2_0 : decode jdk_42_method_3_code 0 = .ok (.aload_n 0, 1) := by decide +kernel
theorem d2_1 : decode jdk_42_method_3_code 1 = .ok (.aload_n 1, 1) := by decide +kernel
theorem d2_2 : decode jdk_42_method_3_code 2 = .ok (.iconst 0, 1) := by decide +kernel
theorem d2_3 : decode jdk_42_method_3_code 3 = .ok (.aload_n 1, 1) := by decide +kernel
theorem d2_4 : decode jdk_42_method_3_code 4 = .ok (.arraylength, 1) := by decide +kernel
theorem d2_5 : decode jdk_42_method_3_code 5 = .ok (.aconst_null, 1) := by decide +kernel
theorem d2_6 : decode jdk_42_method_3_code 6 = .ok (.invokespecial 27, 3) := by decide +kernel
theorem d2_9 : decode jdk_42_method_3_code 9 = .ok (.return_, 1) := by decide +kernel
theorem pd__28_5bCIILjava_2flang_2fVoid_3b_29V : parseMethodDescriptor "([CIILjava/lang/Void;)V" = some ⟨[(.array .char), .int, .int, (.object "java/lang/Void")], none⟩ := by decide +kernel
theorem ef_rm2 (m : MethodId) (x0 : Addr) (x1 : Addr) : entryFrame m #[(.ref x0), (.ref x1)] 2 = mkF m 0 #[.val (.ref x0), .val (.ref x1)] [] := by first | (simp [entryFrame, mkF, argsToLocals, Value.category, maxLocals]; done) | rfl
def Q2 (Z : State) (a b : Addr) (kb : ClassId) (h0 : Heap) (n0 : Nat) (v : Option Value) (h : Heap) (L : List Loc) : Prop := v = none ∧ Fr n0 L ∧ Keep h0 h [a] ∧ own_Str Z h h.size a []
set_option maxRecDepth 65536 in
set_option maxHeartbeats 40000000 in
theorem rm2 (l : Launch) (Z : State) (a0 : Array Value) (hw : ∀ d ∈ tables_1, d.before a0 Z = true) (ws : List Jvm.Cond) (a b : Addr) (kb : ClassId) (h0 : Heap) (n0 : Nat) (Z0 : n0 ≤ h0.size) (EX : Exa Z h0 a "java/lang/String") (ge : n0 ≤ a) (F_value : Fld Z h0 a "java/lang/String" "value" "[B" .null) (F_coder : Fld Z h0 a "java/lang/String" "coder" "B" (.int (0 : Int32))) (VB : Arv Z h0 b kb .char (0 : Int32) [] (.int (0 : Int32))) :
    MetFree l (⟨"java/lang/String", "<init>", "([C)V"⟩ : MethodName) (head1 (Jvm.Cond.code (⟨"java/lang/String", "<init>", "([C)V"⟩ : MethodName) jdk_42_method_3_code 2 none :: ws) ({ frames := 2, cells := 4, slots := 8, locals := 29 } : Room)) (fun ar U => ar = #[(.ref a), (.ref b)] ∧ Z.Warmed39 U.vm ∧ U.heap = h0 ∧ CHv Z own_EL U.vm h0) (fun _ _ _ _ _ => True) (fun _ U o U' => ∃ v L, o = .returned v ∧ Q2 Z a b kb h0 n0 v U'.heap L ∧ CHr Z own_EL U.vm U.heap U'.vm U'.heap ∧ ReturnedEndW U o U' L ({ frames := 2, cells := 4, slots := 8, locals := 29 } : Room).cells ({ frames := 2, cells := 4, slots := 8, locals := 29 } : Room).slots) := by
  refine MetFree.of_bodySF (plainFor_of_name pn_java_lang_String) hisR ?_
  intro p e s m args below meth c s₁ Bd hml0 hP hK
  obtain ⟨rfl, hZ, hh, hH⟩ := hP
  have hx := Bd.exec
  have hby := Bd.bytes
  have hml : c.maxLocals = 2 := hml0
  have hown : s.vm.findClass "java/lang/String" = some m.cls := findClass_of_methodNamed Bd.named
  have hnm := (name_of_methodNamed Bd.named Bd.method).1
  have X0 : Stand p l e ({ frames := 2, cells := 4, slots := 8, locals := 29 } : Room) (s.setVm s.vm) m #[(.ref a), (.ref b)] below meth c s₁ [] 0 0 := Stand.of_body Bd
  have e0 : s₁.heap = h0 := by rw [← hh, Bd.state]; rfl
  have N0 := Fr.nil n0
  have hS : s.Since s.vm h0.size := (State.WarmedH.refl s).since _
  have hk := Nat.le_refl h0.size
  have hC0 : CHr Z own_EL s.vm h0 s.vm h0 := CHr.refl hH
  obtain ⟨F, hF⟩ : ∃ F, F = own_FinH Z own_EL s (Q2 Z a b kb h0 n0) ({ frames := 2, cells := 4, slots := 8, locals := 29 } : Room).cells ({ frames := 2, cells := 4, slots := 8, locals := 29 } : Room).slots := ⟨_, rfl⟩
  show own_Ends p e below (own_FinH Z own_EL s (Q2 Z a b kb h0 n0) ({ frames := 2, cells := 4, slots := 8, locals := 29 } : Room).cells ({ frames := 2, cells := 4, slots := 8, locals := 29 } : Room).slots) _
  rw [← hF, ef_rm2 m a b]
  show own_Ends p e below F (s₁.setTop (mkF m 0 #[.val (.ref a), .val (.ref b)] []))
  have sf_a : own_SL Z own_EL s.vm h0 a := ⟨EX.lt, own_safeS hZ.alike EX F_value⟩
  refine own_step (fun _ k => XS.aloadN X0.here hx rfl (hb hby d2_0) rfl rfl k) ?_
  show own_Ends p e below F (s₁.setTop (mkF m 1 #[.val (.ref a), .val (.ref b)] [(.ref a)]))
  refine own_step (fun _ k => XS.aloadN X0.here hx rfl (hb hby d2_1) rfl rfl k) ?_
  show own_Ends p e below F (s₁.setTop (mkF m 2 #[.val (.ref a), .val (.ref b)] [(.ref b), (.ref a)]))
  refine own_step (fun _ k => XS.iconst X0.here hx rfl (hb hby d2_2) k) ?_
  show own_Ends p e below F (s₁.setTop (mkF m 3 #[.val (.ref a), .val (.ref b)] [(.int (0 : Int32)), (.ref b), (.ref a)]))
  refine own_step (fun _ k => XS.aloadN X0.here hx rfl (hb hby d2_3) rfl rfl k) ?_
  show own_Ends p e below F (s₁.setTop (mkF m 4 #[.val (.ref a), .val (.ref b)] [(.ref b), (.int (0 : Int32)), (.ref b), (.ref a)]))
  obtain ⟨cl1, Ar1, q1, S1, M1, H1, G1⟩ := id VB
  have al1 := X0.arraylength hx (by rw [e0]; exact Ar1.1) (State.isArrayOf_alike hZ.alike Ar1.2.1) (g := (mkF m 4 #[.val (.ref a), .val (.ref b)] [(.ref b), (.int (0 : Int32)), (.ref b), (.ref a)])) rfl rfl (hb hby d2_4)
  rw [len_of S1 M1] at al1
  refine own_step al1 ?_
  show own_Ends p e below F (s₁.setTop (mkF m 5 #[.val (.ref a), .val (.ref b)] [(.int (0 : Int32)), (.int (0 : Int32)), (.ref b), (.ref a)]))
  refine own_step (fun _ k => XS.aconstNull X0.here hx rfl (hb hby d2_5) k) ?_
  show own_Ends p e below F (s₁.setTop (mkF m 6 #[.val (.ref a), .val (.ref b)] [.null, (.int (0 : Int32)), (.int (0 : Int32)), (.ref b), (.ref a)]))
  obtain ⟨_, _, ⟨T2, L2, k2, n2⟩, -, X2, hS2, gr2, ⟨Lc2, hQ2, l2, y2, z2, hr2⟩, st2⟩ := X0.specialBackS hx (y := (⟨"java/lang/String", "<init>", "([CIILjava/lang/Void;)V"⟩ : MethodName)) rfl hown (mvT hZ (own_g hw 11 rfl)) (mvT hZ (own_g hw 12 rfl)) (mvT hZ (own_g hw 14 rfl)) (by decide) (backOfSH (W := 0) (rm3 l Z a0 hw [] a b h0 n0 Z0 EX ge F_value F_coder) hZ (own_g hw 14 rfl) (own_g hw 6 rfl) (by decide) (by decide) (own_EW hw) hC0.1) (g := (mkF m 6 #[.val (.ref a), .val (.ref b)] [.null, (.int (0 : Int32)), (.int (0 : Int32)), (.ref b), (.ref a)])) rfl (by rw [hml]; rfl) (Steps.refl _) (a := a) (argsL := [(.ref b), (.int (0 : Int32)), (.int (0 : Int32)), .null]) (rest := []) (lenOf pd__28_5bCIILjava_2flang_2fVoid_3b_29V rfl) rfl (by show 2 * 0 + _ ≤ _; exact Nat.le_of_eq rfl) (hb hby d2_6) (fun _ _ => ⟨rfl, e0, (by decide : 0 + 4 ≤ _), (by decide : 0 + 8 ≤ _)⟩)
  dsimp only [Pt.U, Pt.locs, Pt.cells, Pt.slots] at X2 l2 y2 z2 st2 hQ2 hS2 gr2 hr2
  subst l2 y2 z2
  obtain ⟨rfl, Nq2, Kq2, fq0_2⟩ := hQ2
  have N2 := Fr.app N0 Nq2
  have Z2 : n0 ≤ T2.heap.size := Nat.le_trans Z0 Kq2.1
  have SZ2 : h0.size ≤ T2.heap.size := Nat.le_trans (Nat.le_refl h0.size) Kq2.1
  have str2 := fq0_2
  have fe2 := str2.exa
  have hC2 := hC0.trans hr2
  have hZ := own_warm hZ hS2
  have hown := own_find hown hS2
  have hS := foldS hS (by rw [e0]; exact hk) hS2 gr2
  have hk := Nat.le_refl T2.heap.size
  refine own_trans st2 ?_
  show own_Ends p e below F (T2.setTop (mkF m 9 #[.val (.ref a), .val (.ref b)] []))
  rw [hF]
  exact own_retH X2 hS (by exact hk) hh rfl hZ (own_EW hw) hC2 (v := none) (fun _ => rfl) Bd.notSynchronized (fun fs hr => X2.returnOut hx Bd.returns (hb hby d2_9) hr) (by decide) (by decide) (by exact ⟨rfl, N2, ((Keep.trans (Keep.refl _ _) Kq2 (allS (Or.inl (List.mem_of_getElem? (i := 0) rfl)) all0)) : Keep h0 T2.heap [a]), own_Str.top str2⟩)

def own_cs (ln ca cb : Int32) : List Int32 := if ln = (0 : Int32) then [] else if ln = (1 : Int32) then [ca] else [ca, cb]
theorem own_cslen (ln ca cb : Int32) : (own_cs ln ca cb).length ≤ 4000 := by 
  unfold own_cs; split
  · exact Nat.le_of_ble_eq_true rfl
  · split <;> exact Nat.le_of_ble_eq_true rfl
theorem d1_0 : decode method_2_code 0 = .ok (.iload_n 0, 1) := by decide +kernel
theorem d1_1 : decode method_2_code 1 = .ok (.ifCond .ne 14, 3) := by decide +kernel
theorem d1_4 : decode method_2_code 4 = .ok (.new 7, 3) := by decide +kernel
theorem d1_7 : decode method_2_code 7 = .ok (.dup, 1) := by decide +kernel
theorem d1_8 : decode method_2_code 8 = .ok (.iconst 0, 1) := by decide +kernel
theorem d1_9 : decode method_2_code 9 = .ok (.newarray .char, 2) := by decide +kernel
theorem d1_11 : decode method_2_code 11 = .ok (.invokespecial 9, 3) := by decide +kernel
theorem d1_14 : decode method_2_code 14 = .ok (.areturn, 1) := by decide +kernel
theorem d1_15 : decode method_2_code 15 = .ok (.iload_n 0, 1) := by decide +kernel
theorem d1_16 : decode method_2_code 16 = .ok (.iconst 1, 1) := by decide +kernel
theorem d1_17 : decode method_2_code 17 = .ok (.if_icmp .ne 21, 3) := by decide +kernel
theorem d1_20 : decode method_2_code 20 = .ok (.iconst 1, 1) := by decide +kernel
theorem d1_21 : decode method_2_code 21 = .ok (.newarray .char, 2) := by decide +kernel
theorem d1_23 : decode method_2_code 23 = .ok (.astore_n 3, 1) := by decide +kernel
theorem d1_24 : decode method_2_code 24 = .ok (.aload_n 3, 1) := by decide +kernel
theorem d1_25 : decode method_2_code 25 = .ok (.iconst 0, 1) := by decide +kernel
theorem d1_26 : decode method_2_code 26 = .ok (.iload_n 1, 1) := by decide +kernel
theorem d1_27 : decode method_2_code 27 = .ok (.i2c, 1) := by decide +kernel
theorem d1_28 : decode method_2_code 28 = .ok (.castore, 1) := by decide +kernel
theorem d1_29 : decode method_2_code 29 = .ok (.new 7, 3) := by decide +kernel
theorem d1_32 : decode method_2_code 32 = .ok (.dup, 1) := by decide +kernel
theorem d1_33 : decode method_2_code 33 = .ok (.aload_n 3, 1) := by decide +kernel
theorem d1_34 : decode method_2_code 34 = .ok (.invokespecial 9, 3) := by decide +kernel
theorem d1_37 : decode method_2_code 37 = .ok (.areturn, 1) := by decide +kernel
theorem d1_38 : decode method_2_code 38 = .ok (.iconst 2, 1) := by decide +kernel
theorem d1_39 : decode method_2_code 39 = .ok (.newarray .char, 2) := by decide +kernel
theorem d1_41 : decode method_2_code 41 = .ok (.astore_n 3, 1) := by decide +kernel
theorem d1_42 : decode method_2_code 42 = .ok (.aload_n 3, 1) := by decide +kernel
theorem d1_43 : decode method_2_code 43 = .ok (.iconst 0, 1) := by decide +kernel
theorem d1_44 : decode method_2_code 44 = .ok (.iload_n 1, 1) := by decide +kernel
theorem d1_45 : decode method_2_code 45 = .ok (.i2c, 1) := by decide +kernel
theorem d1_46 : decode method_2_code 46 = .ok (.castore, 1) := by decide +kernel
theorem d1_47 : decode method_2_code 47 = .ok (.aload_n 3, 1) := by decide +kernel
theorem d1_48 : decode method_2_code 48 = .ok (.iconst 1, 1) := by decide +kernel
theorem d1_49 : decode method_2_code 49 = .ok (.iload_n 2, 1) := by decide +kernel
theorem d1_50 : decode method_2_code 50 = .ok (.i2c, 1) := by decide +kernel
theorem d1_51 : decode method_2_code 51 = .ok (.castore, 1) := by decide +kernel
theorem d1_52 : decode method_2_code 52 = .ok (.new 7, 3) := by decide +kernel
theorem d1_55 : decode method_2_code 55 = .ok (.dup, 1) := by decide +kernel
theorem d1_56 : decode method_2_code 56 = .ok (.aload_n 3, 1) := by decide +kernel
theorem d1_57 : decode method_2_code 57 = .ok (.invokespecial 9, 3) := by decide +kernel
theorem d1_60 : decode method_2_code 60 = .ok (.areturn, 1) := by decide +kernel
theorem pn_com_example_clock3600_clock3600_queue_QueuedTaskEqualsPinLaw : plainName "com/example/clock3600/clock3600/queue/QueuedTaskEqualsPinLaw" = true := by first | (simp [plainName, overriddenIn]; done) | decide +kernel
theorem pd__28_5bC_29V : parseMethodDescriptor "([C)V" = some ⟨[(.array .char)], none⟩ := by decide +kernel
theorem ef_rm1 (m : MethodId) (x0 : Int32) (x1 : Int32) (x2 : Int32) : entryFrame m #[(.int x0), (.int x1), (.int x2)] 4 = mkF m 0 #[.val (.int x0), .val (.int x1), .val (.int x2), .unset] [] := by first | (simp [entryFrame, mkF, argsToLocals, Value.category, maxLocals]; done) | rfl
def Q1 (Z : State) (ln ca cb zc : Int32) (h0 : Heap) (n0 : Nat) (v : Option Value) (h : Heap) (L : List Loc) : Prop := ∃ c, v = some (.ref c) ∧ Fr n0 L ∧ Keep h0 h [] ∧ h0.size ≤ c ∧ own_Str Z h h.size c (own_cs ln ca cb)
set_option maxRecDepth 65536 in
set_option maxHeartbeats 40000000 in
theorem rm1 (l : Launch) (Z : State) (a0 : Array Value) (hw : ∀ d ∈ tables_1, d.before a0 Z = true) (ws : List Jvm.Cond) (ln ca cb zc : Int32) (h0 : Heap) (n0 : Nat) (Z0 : n0 ≤ h0.size) (SC : Sta Z h0 "java/lang/String" "COMPACT_STRINGS" "Z" (.int zc)) (hz : ¬ zc = 0) (ha : ¬ ca < 0 ∧ ¬ (255 : Int32) < ca) (hb' : ¬ cb < 0 ∧ ¬ (255 : Int32) < cb) :
    MetFree l (⟨"com/example/clock3600/clock3600/queue/QueuedTaskEqualsPinLaw", "mk", "(III)Ljava/lang/String;"⟩ : MethodName) (head1 (Jvm.Cond.code (⟨"com/example/clock3600/clock3600/queue/QueuedTaskEqualsPinLaw", "mk", "(III)Ljava/lang/String;"⟩ : MethodName) method_2_code 4 (some (.object "java/lang/String")) :: ws) ({ frames := 4, cells := 6, slots := 12, locals := 66 } : Room)) (fun ar U => ar = #[(.int ln), (.int ca), (.int cb)] ∧ Z.Warmed39 U.vm ∧ U.heap = h0 ∧ CHv Z own_EL U.vm h0) (fun _ _ _ _ _ => True) (fun _ U o U' => ∃ v L, o = .returned v ∧ Q1 Z ln ca cb zc h0 n0 v U'.heap L ∧ CHr Z own_EL U.vm U.heap U'.vm U'.heap ∧ ReturnedEndW U o U' L ({ frames := 4, cells := 6, slots := 12, locals := 66 } : Room).cells ({ frames := 4, cells := 6, slots := 12, locals := 66 } : Room).slots) := by
  refine MetFree.of_bodySF (plainFor_of_name pn_com_example_clock3600_clock3600_queue_QueuedTaskEqualsPinLaw) hisR ?_
  intro p e s m args below meth c s₁ Bd hml0 hP hK
  obtain ⟨rfl, hZ, hh, hH⟩ := hP
  have hx := Bd.exec
  have hby := Bd.bytes
  have hml : c.maxLocals = 4 := hml0
  have hown : s.vm.findClass "com/example/clock3600/clock3600/queue/QueuedTaskEqualsPinLaw" = some m.cls := findClass_of_methodNamed Bd.named
  have hnm := (name_of_methodNamed Bd.named Bd.method).1
  have X0 : Stand p l e ({ frames := 4, cells := 6, slots := 12, locals := 66 } : Room) (s.setVm s.vm) m #[(.int ln), (.int ca), (.int cb)] below meth c s₁ [] 0 0 := Stand.of_body Bd
  have e0 : s₁.heap = h0 := by rw [← hh, Bd.state]; rfl
  have N0 := Fr.nil n0
  have hS : s.Since s.vm h0.size := (State.WarmedH.refl s).since _
  have hk := Nat.le_refl h0.size
  have hC0 : CHr Z own_EL s.vm h0 s.vm h0 := CHr.refl hH
  obtain ⟨F, hF⟩ : ∃ F, F = own_FinH Z own_EL s (Q1 Z ln ca cb zc h0 n0) ({ frames := 4, cells := 6, slots := 12, locals := 66 } : Room).cells ({ frames := 4, cells := 6, slots := 12, locals := 66 } : Room).slots := ⟨_, rfl⟩
  show own_Ends p e below (own_FinH Z own_EL s (Q1 Z ln ca cb zc h0 n0) ({ frames := 4, cells := 6, slots := 12, locals := 66 } : Room).cells ({ frames := 4, cells := 6, slots := 12, locals := 66 } : Room).slots) _
  rw [← hF, ef_rm1 m ln ca cb]
  show own_Ends p e below F (s₁.setTop (mkF m 0 #[.val (.int ln), .val (.int ca), .val (.int cb), .unset] []))
  refine own_step (fun _ k => XS.iloadN X0.here hx rfl (hb hby d1_0) rfl k) ?_
  show own_Ends p e below F (s₁.setTop (mkF m 1 #[.val (.int ln), .val (.int ca), .val (.int cb), .unset] [(.int ln)]))
  by_cases c1_1 : ln = (0 : Int32)
  · refine own_step (fun _ k => XS.ifNo X0.here hx rfl (hb hby d1_1) rfl ((if0 _ _).trans (teq c1_1).2) k) ?_
    show own_Ends p e below F (s₁.setTop (mkF m 4 #[.val (.int ln), .val (.int ca), .val (.int cb), .unset] []))
    obtain ⟨T2, h2, X2, e2, E2, A2, D2, -, st2⟩ := newO X0 hx hZ hown (own_g hw 4 rfl) (own_g hw 5 rfl) (own_g hw 6 rfl) e0 (g := (mkF m 4 #[.val (.int ln), .val (.int ca), .val (.int cb), .unset] [])) rfl (hb hby d1_4) (by decide) (by decide)
    obtain ⟨a2, g2⟩ : ∃ z, z = h0.size := ⟨_, rfl⟩
    rw [← g2] at A2 D2 st2
    have ge_a2 : n0 ≤ a2 := Nat.le_trans Z0 (Nat.le_of_eq g2.symm)
    have sz_a2 : h0.size ≤ a2 := Nat.le_trans (Nat.le_refl h0.size) (Nat.le_of_eq g2.symm)
    have Z2 : n0 ≤ h2.size := Nat.le_trans Z0 E2.1
    have SZ2 : h0.size ≤ h2.size := Nat.le_trans (Nat.le_refl h0.size) E2.1
    have hk := Nat.le_trans hk E2.1
    have hr2 := CHr.ext E2 hC0.1
    have hC2 := hC0.trans hr2
    have F2_value : Fld Z h2 a2 "java/lang/String" "value" "[B" .null := D2 (Or.inr (own_g hw 20 rfl)) (ty := (.array .byte)) (by decide)
    have F2_coder : Fld Z h2 a2 "java/lang/String" "coder" "B" (.int (0 : Int32)) := D2 (Or.inr (own_g hw 21 rfl)) (ty := .byte) (by decide)
    have sf_a2 : own_SL Z own_EL s.vm h2 a2 := own_SL.born hC0.1 E2 g2 A2.lt
    refine own_step st2 ?_
    show own_Ends p e below F (T2.setTop (mkF m 7 #[.val (.int ln), .val (.int ca), .val (.int cb), .unset] [(.ref a2)]))
    refine own_step (fun _ k => XS.dup X2.here hx rfl (hb hby d1_7) rfl rfl k) ?_
    show own_Ends p e below F (T2.setTop (mkF m 8 #[.val (.int ln), .val (.int ca), .val (.int cb), .unset] [(.ref a2), (.ref a2)]))
    refine own_step (fun _ k => XS.iconst X2.here hx rfl (hb hby d1_8) k) ?_
    show own_Ends p e below F (T2.setTop (mkF m 9 #[.val (.int ln), .val (.int ca), .val (.int cb), .unset] [(.int (0 : Int32)), (.ref a2), (.ref a2)]))
    obtain ⟨T3, h3, k3, X3, e3, E3, A3, st3⟩ := newP X2 hx hZ (own_g hw 7 rfl) e2 (g := (mkF m 9 #[.val (.int ln), .val (.int ca), .val (.int cb), .unset] [(.int (0 : Int32)), (.ref a2), (.ref a2)])) rfl (hb hby d1_9) rfl (by decide) (cap := 0) (by decide) (by decide) (by decide) (by decide)
    obtain ⟨a3, g3⟩ : ∃ z, z = h2.size := ⟨_, rfl⟩
    rw [← g3] at A3 st3
    have ge_a3 : n0 ≤ a3 := Nat.le_trans Z2 (Nat.le_of_eq g3.symm)
    have sz_a3 : h0.size ≤ a3 := Nat.le_trans SZ2 (Nat.le_of_eq g3.symm)
    have ne_a2_a3 : a2 ≠ a3 := Nat.ne_of_lt (by rw [g3]; exact F2_value.lt)
    have Z3 : n0 ≤ h3.size := Nat.le_trans Z2 E3.1
    have SZ3 : h0.size ≤ h3.size := Nat.le_trans SZ2 E3.1
    have hk := Nat.le_trans hk E3.1
    have hr3 := CHr.ext E3 hC2.1
    have hC3 := hC2.trans hr3
    have V3 : Arv Z h3 a3 k3 .char (0 : Int32) [] (.int (0 : Int32)) := Arv.pad (Arv.new A3 (by decide)) (pad_rep [] _ 0)
    have sf_a3 : own_SL Z own_EL s.vm h3 a3 := own_SL.born hC2.1 E3 g3 V3.lt
    refine own_step st3 ?_
    show own_Ends p e below F (T3.setTop (mkF m 11 #[.val (.int ln), .val (.int ca), .val (.int cb), .unset] [(.ref a3), (.ref a2), (.ref a2)]))
    obtain ⟨_, _, ⟨T4, L4, k4, n4⟩, -, X4, hS4, gr4, ⟨Lc4, hQ4, l4, y4, z4, hr4⟩, st4⟩ := X3.specialBackS hx (y := (⟨"java/lang/String", "<init>", "([C)V"⟩ : MethodName)) rfl hown (mvT hZ (own_g hw 8 rfl)) (mvT hZ (own_g hw 9 rfl)) (mvT hZ (own_g hw 10 rfl)) (by decide) (backOfSH (W := 1) (rm2 l Z a0 hw [] a2 a3 k3 h3 n0 Z3 (A2.ext E3) ge_a2 (F2_value.ext E3) (F2_coder.ext E3) V3) hZ (own_g hw 10 rfl) (own_g hw 6 rfl) (by decide) (by decide) (own_EW hw) hC3.1) (g := (mkF m 11 #[.val (.int ln), .val (.int ca), .val (.int cb), .unset] [(.ref a3), (.ref a2), (.ref a2)])) rfl (by rw [hml]; rfl) (Steps.refl _) (a := a2) (argsL := [(.ref a3)]) (rest := [(.ref a2)]) (lenOf pd__28_5bC_29V rfl) rfl (by show 2 * 0 + _ ≤ _; exact Nat.le_of_eq rfl) (hb hby d1_11) (fun _ _ => ⟨rfl, e3, (by decide : 2 + 4 ≤ _), (by decide : 4 + 8 ≤ _)⟩)
    dsimp only [Pt.U, Pt.locs, Pt.cells, Pt.slots] at X4 l4 y4 z4 st4 hQ4 hS4 gr4 hr4
    subst l4 y4 z4
    obtain ⟨rfl, Nq4, Kq4, fq0_4⟩ := hQ4
    have N4 := Fr.app N0 Nq4
    have Z4 : n0 ≤ T4.heap.size := Nat.le_trans Z3 Kq4.1
    have SZ4 : h0.size ≤ T4.heap.size := Nat.le_trans SZ3 Kq4.1
    have S0_4 := own_Sta_keep (Sta.ext E3 (Sta.ext E2 SC)) Kq4 (allS (own_ns_exa (A2.ext E3)) all0)
    have str4 := fq0_4
    have fe4 := str4.exa
    have hC4 := hC3.trans hr4
    have hZ := own_warm hZ hS4
    have hown := own_find hown hS4
    have hS := foldS hS (by rw [e3]; exact hk) hS4 gr4
    have hk := Nat.le_refl T4.heap.size
    refine own_trans st4 ?_
    show own_Ends p e below F (T4.setTop (mkF m 14 #[.val (.int ln), .val (.int ca), .val (.int cb), .unset] [(.ref a2)]))
    rw [hF]
    exact own_retH X4 hS (by exact hk) hh rfl hZ (own_EW hw) hC4 (v := (some (.ref a2))) (fun h => by rw [Bd.returns] at h; cases h) Bd.notSynchronized (fun fs hr => retOut X4 hx (t := (.object "java/lang/String")) (w := (.ref a2)) (i := .areturn) Bd.returns rfl (Or.inr (Or.inr (Or.inr (Or.inr ⟨rfl, rfl, rfl⟩)))) (hb hby d1_14) hr) (by decide) (by decide) (by exact ⟨_, rfl, N4, ((Keep.trans (Keep.ext (Keep.ext (Keep.refl _ _) E2) E3) Kq4 (allS (Or.inr sz_a2) all0)) : Keep h0 T4.heap []), sz_a2, (by simp only [own_cs, c1_1, if_true, if_false]; exact own_Str.top str4)⟩)
  · refine own_step (fun _ k => XS.ifYes X0.here hx rfl (pc0 := 1) (pc' := 15) rfl (hb hby d1_1) rfl ((if0 _ _).trans (feq c1_1).2) (by decide) (by decide) k) ?_
    show own_Ends p e below F (s₁.setTop (mkF m 15 #[.val (.int ln), .val (.int ca), .val (.int cb), .unset] []))
    refine own_step (fun _ k => XS.iloadN X0.here hx rfl (hb hby d1_15) rfl k) ?_
    show own_Ends p e below F (s₁.setTop (mkF m 16 #[.val (.int ln), .val (.int ca), .val (.int cb), .unset] [(.int ln)]))
    refine own_step (fun _ k => XS.iconst X0.here hx rfl (hb hby d1_16) k) ?_
    show own_Ends p e below F (s₁.setTop (mkF m 17 #[.val (.int ln), .val (.int ca), .val (.int cb), .unset] [(.int (1 : Int32)), (.int ln)]))
    by_cases c17_5 : ln = (1 : Int32)
    · refine own_step (fun _ k => XS.icmpNo X0.here hx rfl (hb hby d1_17) rfl (teq c17_5).2 k) ?_
      show own_Ends p e below F (s₁.setTop (mkF m 20 #[.val (.int ln), .val (.int ca), .val (.int cb), .unset] []))
      refine own_step (fun _ k => XS.iconst X0.here hx rfl (hb hby d1_20) k) ?_
      show own_Ends p e below F (s₁.setTop (mkF m 21 #[.val (.int ln), .val (.int ca), .val (.int cb), .unset] [(.int (1 : Int32))]))
      obtain ⟨T6, h6, k6, X6, e6, E6, A6, st6⟩ := newP X0 hx hZ (own_g hw 7 rfl) e0 (g := (mkF m 21 #[.val (.int ln), .val (.int ca), .val (.int cb), .unset] [(.int (1 : Int32))])) rfl (hb hby d1_21) rfl (by decide) (cap := 1) (by decide) (by decide) (by decide) (by decide)
      obtain ⟨a6, g6⟩ : ∃ z, z = h0.size := ⟨_, rfl⟩
      rw [← g6] at A6 st6
      have ge_a6 : n0 ≤ a6 := Nat.le_trans Z0 (Nat.le_of_eq g6.symm)
      have sz_a6 : h0.size ≤ a6 := Nat.le_trans (Nat.le_refl h0.size) (Nat.le_of_eq g6.symm)
      have Z6 : n0 ≤ h6.size := Nat.le_trans Z0 E6.1
      have SZ6 : h0.size ≤ h6.size := Nat.le_trans (Nat.le_refl h0.size) E6.1
      have hk := Nat.le_trans hk E6.1
      have hr6 := CHr.ext E6 hC0.1
      have hC6 := hC0.trans hr6
      have V6 : Arv Z h6 a6 k6 .char (1 : Int32) [(.int (0 : Int32))] (.int (0 : Int32)) := Arv.pad (Arv.new A6 (by decide)) (pad_rep [] _ 1)
      have sf_a6 : own_SL Z own_EL s.vm h6 a6 := own_SL.born hC0.1 E6 g6 V6.lt
      refine own_step st6 ?_
      show own_Ends p e below F (T6.setTop (mkF m 23 #[.val (.int ln), .val (.int ca), .val (.int cb), .unset] [(.ref a6)]))
      refine own_step (fun _ k => XS.astoreN X6.here hx rfl (hb hby d1_23) rfl rfl (l' := #[.val (.int ln), .val (.int ca), .val (.int cb), .val (.ref a6)]) rfl k) ?_
      show own_Ends p e below F (T6.setTop (mkF m 24 #[.val (.int ln), .val (.int ca), .val (.int cb), .val (.ref a6)] []))
      refine own_step (fun _ k => XS.aloadN X6.here hx rfl (hb hby d1_24) rfl rfl k) ?_
      show own_Ends p e below F (T6.setTop (mkF m 25 #[.val (.int ln), .val (.int ca), .val (.int cb), .val (.ref a6)] [(.ref a6)]))
      refine own_step (fun _ k => XS.iconst X6.here hx rfl (hb hby d1_25) k) ?_
      show own_Ends p e below F (T6.setTop (mkF m 26 #[.val (.int ln), .val (.int ca), .val (.int cb), .val (.ref a6)] [(.int (0 : Int32)), (.ref a6)]))
      refine own_step (fun _ k => XS.iloadN X6.here hx rfl (hb hby d1_26) rfl k) ?_
      show own_Ends p e below F (T6.setTop (mkF m 27 #[.val (.int ln), .val (.int ca), .val (.int cb), .val (.ref a6)] [(.int ca), (.int (0 : Int32)), (.ref a6)]))
      refine own_step (fun _ k => XS.i2c X6.here hx rfl (hb hby d1_27) rfl k) ?_
      show own_Ends p e below F (T6.setTop (mkF m 28 #[.val (.int ln), .val (.int ca), .val (.int cb), .val (.ref a6)] [(.int (ca.toUInt32.toUInt16.toUInt32.toInt32)), (.int (0 : Int32)), (.ref a6)]))
      rw [own_i2c ha]
      show own_Ends p e below F (T6.setTop (mkF m 28 #[.val (.int ln), .val (.int ca), .val (.int cb), .val (.ref a6)] [(.int ca), (.int (0 : Int32)), (.ref a6)]))
      obtain ⟨cl7, Ar7, q7, S7, M7, H7, G7⟩ := id V6
      have hin7 : ¬ ((0 : Int32) < 0 ∨ cl7.slots.size ≤ ((0 : Int32) : Int32).toNatClampNeg) := inb_of S7 ⟨by decide, by decide⟩
      obtain ⟨T7, h7, X7, e7, W7, st7⟩ := stC X6 hx hZ e6 Ar7 (j := (0 : Int32)) hin7 (g := (mkF m 28 #[.val (.int ln), .val (.int ca), .val (.int cb), .val (.ref a6)] [(.int ca), (.int (0 : Int32)), (.ref a6)])) rfl rfl (hb hby d1_28)
      rw [own_narC ha] at W7
      have V7 := Arv.set Ar7 q7 S7 M7 H7 G7 (own_fitC ha) W7 0 rfl (Nat.le_of_ble_eq_true rfl)
      have V7 : Arv Z h7 a6 k6 .char (1 : Int32) [(.int ca)] (.int (0 : Int32)) := V7
      refine own_step st7 ?_
      have N7 := Fr.snoc X7 N0 ge_a6
      have Z7 : n0 ≤ h7.size := by rw [W7.size]; exact Z6
      have SZ7 : h0.size ≤ h7.size := by rw [W7.size]; exact SZ6
      have hk := (W7.size.symm ▸ hk : _ ≤ h7.size)
      have hr7 := CHr.wr W7 sf_a6.2 hC6.1
      have hC7 := hC6.trans hr7
      show own_Ends p e below F (T7.setTop (mkF m 29 #[.val (.int ln), .val (.int ca), .val (.int cb), .val (.ref a6)] []))
      obtain ⟨T8, h8, X8, e8, E8, A8, D8, -, st8⟩ := newO X7 hx hZ hown (own_g hw 4 rfl) (own_g hw 5 rfl) (own_g hw 6 rfl) e7 (g := (mkF m 29 #[.val (.int ln), .val (.int ca), .val (.int cb), .val (.ref a6)] [])) rfl (hb hby d1_29) (by decide) (by decide)
      obtain ⟨a8, g8⟩ : ∃ z, z = h7.size := ⟨_, rfl⟩
      rw [← g8] at A8 D8 st8
      have ge_a8 : n0 ≤ a8 := Nat.le_trans Z7 (Nat.le_of_eq g8.symm)
      have sz_a8 : h0.size ≤ a8 := Nat.le_trans SZ7 (Nat.le_of_eq g8.symm)
      have ne_a6_a8 : a6 ≠ a8 := Nat.ne_of_lt (by rw [g8]; exact V7.lt)
      have Z8 : n0 ≤ h8.size := Nat.le_trans Z7 E8.1
      have SZ8 : h0.size ≤ h8.size := Nat.le_trans SZ7 E8.1
      have hk := Nat.le_trans hk E8.1
      have hr8 := CHr.ext E8 hC7.1
      have hC8 := hC7.trans hr8
      have F8_value : Fld Z h8 a8 "java/lang/String" "value" "[B" .null := D8 (Or.inr (own_g hw 20 rfl)) (ty := (.array .byte)) (by decide)
      have F8_coder : Fld Z h8 a8 "java/lang/String" "coder" "B" (.int (0 : Int32)) := D8 (Or.inr (own_g hw 21 rfl)) (ty := .byte) (by decide)
      have sf_a8 : own_SL Z own_EL s.vm h8 a8 := own_SL.born hC7.1 E8 g8 A8.lt
      refine own_step st8 ?_
      show own_Ends p e below F (T8.setTop (mkF m 32 #[.val (.int ln), .val (.int ca), .val (.int cb), .val (.ref a6)] [(.ref a8)]))
      refine own_step (fun _ k => XS.dup X8.here hx rfl (hb hby d1_32) rfl rfl k) ?_
      show own_Ends p e below F (T8.setTop (mkF m 33 #[.val (.int ln), .val (.int ca), .val (.int cb), .val (.ref a6)] [(.ref a8), (.ref a8)]))
      refine own_step (fun _ k => XS.aloadN X8.here hx rfl (hb hby d1_33) rfl rfl k) ?_
      show own_Ends p e below F (T8.setTop (mkF m 34 #[.val (.int ln), .val (.int ca), .val (.int cb), .val (.ref a6)] [(.ref a6), (.ref a8), (.ref a8)]))
      obtain ⟨_, _, ⟨T9, L9, k9, n9⟩, -, X9, ⟨Lc9, hQ9, l9, y9, z9⟩, st9⟩ := X8.specialBack hx (y := (⟨"java/lang/String", "<init>", "([C)V"⟩ : MethodName)) rfl hown (mvT hZ (own_g hw 8 rfl)) (mvT hZ (own_g hw 9 rfl)) (mvT hZ (own_g hw 10 rfl)) (by decide) (StrChars.Road.backV (W := 1) hZ (fun d hd => hw d ((by decide +kernel : ∀ d ∈ StrChars.Road.words, d ∈ tables_1) d hd)) (kI := 4) (own_g hw 5 rfl) (cs := ([ca] : List Int32)) (bs := ([ca] : List Int32).map (fun c => c.toInt8.toInt32)) (n := 1) ge_a8 Z8 A8 F8_value F8_coder (V7.ext E8) (Sta.ext E8 (Sta.wr W7 (Sta.ext E6 SC))) hz rfl rfl (by decide) (by decide) (own_cS ha own_c0) rfl (by decide) (by decide)) (g := (mkF m 34 #[.val (.int ln), .val (.int ca), .val (.int cb), .val (.ref a6)] [(.ref a6), (.ref a8), (.ref a8)])) rfl (by rw [hml]; rfl) (Steps.refl _) (a := a8) (argsL := [(.ref a6)]) (rest := [(.ref a8)]) (lenOf pd__28_5bC_29V rfl) rfl (by show 2 * 0 + _ ≤ _; exact Nat.le_of_eq rfl) (hb hby d1_34) (fun _ _ => ⟨rfl, e8, (by decide : 2 + 1 ≤ _), (by decide : 5 + 1 ≤ _)⟩)
      dsimp only [Pt.U, Pt.locs, Pt.cells, Pt.slots] at X9 l9 y9 z9 st9 hQ9
      subst l9 y9 z9
      obtain ⟨rfl, Nq9, Kq9, fe9, fc9, tt9, kt9, -, -, -, fv9, fa9⟩ := hQ9
      have N9 := Fr.app N7 Nq9
      have Z9 : n0 ≤ T9.heap.size := Nat.le_trans Z8 Kq9.1
      have SZ9 : h0.size ≤ T9.heap.size := Nat.le_trans SZ8 Kq9.1
      have S0_9 := own_Sta_keep (Sta.ext E8 (Sta.wr W7 (Sta.ext E6 SC))) Kq9 (allS (own_ns_exa A8) all0)
      have str9 : own_Str Z T9.heap T9.heap.size a8 ([ca] : List Int32) := own_Str.mk fe9 fc9 fv9 fa9 rfl rfl (own_cS ha own_c0)
      have hr9 := CHr.keep Kq9 (sfS sf_a8.2 sf0) hC8.1
      have hC9 := hC8.trans hr9
      have hk := Nat.le_trans hk Kq9.1
      refine own_trans st9 ?_
      show own_Ends p e below F (T9.setTop (mkF m 37 #[.val (.int ln), .val (.int ca), .val (.int cb), .val (.ref a6)] [(.ref a8)]))
      rw [hF]
      exact own_retH X9 hS (by exact hk) hh rfl hZ (own_EW hw) hC9 (v := (some (.ref a8))) (fun h => by rw [Bd.returns] at h; cases h) Bd.notSynchronized (fun fs hr => retOut X9 hx (t := (.object "java/lang/String")) (w := (.ref a8)) (i := .areturn) Bd.returns rfl (Or.inr (Or.inr (Or.inr (Or.inr ⟨rfl, rfl, rfl⟩)))) (hb hby d1_37) hr) (by decide) (by decide) (by exact ⟨_, rfl, N9, ((Keep.trans (Keep.ext (Keep.wr (Keep.ext (Keep.refl _ _) E6) W7 (Or.inr sz_a6)) E8) Kq9 (allS (Or.inr sz_a8) all0)) : Keep h0 T9.heap []), sz_a8, (by simp only [own_cs, c1_1, c17_5, if_true, if_false]; exact own_Str.top str9)⟩)
    · refine own_step (fun _ k => XS.icmpYes X0.here hx rfl (pc0 := 17) (pc' := 38) rfl (hb hby d1_17) rfl (feq c17_5).2 (by decide) (by decide) k) ?_
      show own_Ends p e below F (s₁.setTop (mkF m 38 #[.val (.int ln), .val (.int ca), .val (.int cb), .unset] []))
      refine own_step (fun _ k => XS.iconst X0.here hx rfl (hb hby d1_38) k) ?_
      show own_Ends p e below F (s₁.setTop (mkF m 39 #[.val (.int ln), .val (.int ca), .val (.int cb), .unset] [(.int (2 : Int32))]))
      obtain ⟨T10, h10, k10, X10, e10, E10, A10, st10⟩ := newP X0 hx hZ (own_g hw 7 rfl) e0 (g := (mkF m 39 #[.val (.int ln), .val (.int ca), .val (.int cb), .unset] [(.int (2 : Int32))])) rfl (hb hby d1_39) rfl (by decide) (cap := 2) (by decide) (by decide) (by decide) (by decide)
      obtain ⟨a10, g10⟩ : ∃ z, z = h0.size := ⟨_, rfl⟩
      rw [← g10] at A10 st10
      have ge_a10 : n0 ≤ a10 := Nat.le_trans Z0 (Nat.le_of_eq g10.symm)
      have sz_a10 : h0.size ≤ a10 := Nat.le_trans (Nat.le_refl h0.size) (Nat.le_of_eq g10.symm)
      have Z10 : n0 ≤ h10.size := Nat.le_trans Z0 E10.1
      have SZ10 : h0.size ≤ h10.size := Nat.le_trans (Nat.le_refl h0.size) E10.1
      have hk := Nat.le_trans hk E10.1
      have hr10 := CHr.ext E10 hC0.1
      have hC10 := hC0.trans hr10
      have V10 : Arv Z h10 a10 k10 .char (2 : Int32) [(.int (0 : Int32)), (.int (0 : Int32))] (.int (0 : Int32)) := Arv.pad (Arv.new A10 (by decide)) (pad_rep [] _ 2)
      have sf_a10 : own_SL Z own_EL s.vm h10 a10 := own_SL.born hC0.1 E10 g10 V10.lt
      refine own_step st10 ?_
      show own_Ends p e below F (T10.setTop (mkF m 41 #[.val (.int ln), .val (.int ca), .val (.int cb), .unset] [(.ref a10)]))
      refine own_step (fun _ k => XS.astoreN X10.here hx rfl (hb hby d1_41) rfl rfl (l' := #[.val (.int ln), .val (.int ca), .val (.int cb), .val (.ref a10)]) rfl k) ?_
      show own_Ends p e below F (T10.setTop (mkF m 42 #[.val (.int ln), .val (.int ca), .val (.int cb), .val (.ref a10)] []))
      refine own_step (fun _ k => XS.aloadN X10.here hx rfl (hb hby d1_42) rfl rfl k) ?_
      show own_Ends p e below F (T10.setTop (mkF m 43 #[.val (.int ln), .val (.int ca), .val (.int cb), .val (.ref a10)] [(.ref a10)]))
      refine own_step (fun _ k => XS.iconst X10.here hx rfl (hb hby d1_43) k) ?_
      show own_Ends p e below F (T10.setTop (mkF m 44 #[.val (.int ln), .val (.int ca), .val (.int cb), .val (.ref a10)] [(.int (0 : Int32)), (.ref a10)]))
      refine own_step (fun _ k => XS.iloadN X10.here hx rfl (hb hby d1_44) rfl k) ?_
      show own_Ends p e below F (T10.setTop (mkF m 45 #[.val (.int ln), .val (.int ca), .val (.int cb), .val (.ref a10)] [(.int ca), (.int (0 : Int32)), (.ref a10)]))
      refine own_step (fun _ k => XS.i2c X10.here hx rfl (hb hby d1_45) rfl k) ?_
      show own_Ends p e below F (T10.setTop (mkF m 46 #[.val (.int ln), .val (.int ca), .val (.int cb), .val (.ref a10)] [(.int (ca.toUInt32.toUInt16.toUInt32.toInt32)), (.int (0 : Int32)), (.ref a10)]))
      rw [own_i2c ha]
      show own_Ends p e below F (T10.setTop (mkF m 46 #[.val (.int ln), .val (.int ca), .val (.int cb), .val (.ref a10)] [(.int ca), (.int (0 : Int32)), (.ref a10)]))
      obtain ⟨cl11, Ar11, q11, S11, M11, H11, G11⟩ := id V10
      have hin11 : ¬ ((0 : Int32) < 0 ∨ cl11.slots.size ≤ ((0 : Int32) : Int32).toNatClampNeg) := inb_of S11 ⟨by decide, by decide⟩
      obtain ⟨T11, h11, X11, e11, W11, st11⟩ := stC X10 hx hZ e10 Ar11 (j := (0 : Int32)) hin11 (g := (mkF m 46 #[.val (.int ln), .val (.int ca), .val (.int cb), .val (.ref a10)] [(.int ca), (.int (0 : Int32)), (.ref a10)])) rfl rfl (hb hby d1_46)
      rw [own_narC ha] at W11
      have V11 := Arv.set Ar11 q11 S11 M11 H11 G11 (own_fitC ha) W11 0 rfl (Nat.le_of_ble_eq_true rfl)
      have V11 : Arv Z h11 a10 k10 .char (2 : Int32) [(.int ca), (.int (0 : Int32))] (.int (0 : Int32)) := V11
      refine own_step st11 ?_
      have N11 := Fr.snoc X11 N0 ge_a10
      have Z11 : n0 ≤ h11.size := by rw [W11.size]; exact Z10
      have SZ11 : h0.size ≤ h11.size := by rw [W11.size]; exact SZ10
      have hk := (W11.size.symm ▸ hk : _ ≤ h11.size)
      have hr11 := CHr.wr W11 sf_a10.2 hC10.1
      have hC11 := hC10.trans hr11
      show own_Ends p e below F (T11.setTop (mkF m 47 #[.val (.int ln), .val (.int ca), .val (.int cb), .val (.ref a10)] []))
      refine own_step (fun _ k => XS.aloadN X11.here hx rfl (hb hby d1_47) rfl rfl k) ?_
      show own_Ends p e below F (T11.setTop (mkF m 48 #[.val (.int ln), .val (.int ca), .val (.int cb), .val (.ref a10)] [(.ref a10)]))
      refine own_step (fun _ k => XS.iconst X11.here hx rfl (hb hby d1_48) k) ?_
      show own_Ends p e below F (T11.setTop (mkF m 49 #[.val (.int ln), .val (.int ca), .val (.int cb), .val (.ref a10)] [(.int (1 : Int32)), (.ref a10)]))
      refine own_step (fun _ k => XS.iloadN X11.here hx rfl (hb hby d1_49) rfl k) ?_
      show own_Ends p e below F (T11.setTop (mkF m 50 #[.val (.int ln), .val (.int ca), .val (.int cb), .val (.ref a10)] [(.int cb), (.int (1 : Int32)), (.ref a10)]))
      refine own_step (fun _ k => XS.i2c X11.here hx rfl (hb hby d1_50) rfl k) ?_
      show own_Ends p e below F (T11.setTop (mkF m 51 #[.val (.int ln), .val (.int ca), .val (.int cb), .val (.ref a10)] [(.int (cb.toUInt32.toUInt16.toUInt32.toInt32)), (.int (1 : Int32)), (.ref a10)]))
      rw [own_i2c hb']
      show own_Ends p e below F (T11.setTop (mkF m 51 #[.val (.int ln), .val (.int ca), .val (.int cb), .val (.ref a10)] [(.int cb), (.int (1 : Int32)), (.ref a10)]))
      obtain ⟨cl12, Ar12, q12, S12, M12, H12, G12⟩ := id V11
      have hin12 : ¬ ((1 : Int32) < 0 ∨ cl12.slots.size ≤ ((1 : Int32) : Int32).toNatClampNeg) := inb_of S12 ⟨by decide, by decide⟩
      obtain ⟨T12, h12, X12, e12, W12, st12⟩ := stC X11 hx hZ e11 Ar12 (j := (1 : Int32)) hin12 (g := (mkF m 51 #[.val (.int ln), .val (.int ca), .val (.int cb), .val (.ref a10)] [(.int cb), (.int (1 : Int32)), (.ref a10)])) rfl rfl (hb hby d1_51)
      rw [own_narC hb'] at W12
      have V12 := Arv.set Ar12 q12 S12 M12 H12 G12 (own_fitC hb') W12 1 rfl (Nat.le_of_ble_eq_true rfl)
      have V12 : Arv Z h12 a10 k10 .char (2 : Int32) [(.int ca), (.int cb)] (.int (0 : Int32)) := V12
      refine own_step st12 ?_
      have N12 := Fr.snoc X12 N11 ge_a10
      have Z12 : n0 ≤ h12.size := by rw [W12.size]; exact Z11
      have SZ12 : h0.size ≤ h12.size := by rw [W12.size]; exact SZ11
      have hk := (W12.size.symm ▸ hk : _ ≤ h12.size)
      have hr12 := CHr.wr W12 (own_SL.go sf_a10 hr11).2 hC11.1
      have hC12 := hC11.trans hr12
      show own_Ends p e below F (T12.setTop (mkF m 52 #[.val (.int ln), .val (.int ca), .val (.int cb), .val (.ref a10)] []))
      obtain ⟨T13, h13, X13, e13, E13, A13, D13, -, st13⟩ := newO X12 hx hZ hown (own_g hw 4 rfl) (own_g hw 5 rfl) (own_g hw 6 rfl) e12 (g := (mkF m 52 #[.val (.int ln), .val (.int ca), .val (.int cb), .val (.ref a10)] [])) rfl (hb hby d1_52) (by decide) (by decide)
      obtain ⟨a13, g13⟩ : ∃ z, z = h12.size := ⟨_, rfl⟩
      rw [← g13] at A13 D13 st13
      have ge_a13 : n0 ≤ a13 := Nat.le_trans Z12 (Nat.le_of_eq g13.symm)
      have sz_a13 : h0.size ≤ a13 := Nat.le_trans SZ12 (Nat.le_of_eq g13.symm)
      have ne_a10_a13 : a10 ≠ a13 := Nat.ne_of_lt (by rw [g13]; exact V12.lt)
      have Z13 : n0 ≤ h13.size := Nat.le_trans Z12 E13.1
      have SZ13 : h0.size ≤ h13.size := Nat.le_trans SZ12 E13.1
      have hk := Nat.le_trans hk E13.1
      have hr13 := CHr.ext E13 hC12.1
      have hC13 := hC12.trans hr13
      have F13_value : Fld Z h13 a13 "java/lang/String" "value" "[B" .null := D13 (Or.inr (own_g hw 20 rfl)) (ty := (.array .byte)) (by decide)
      have F13_coder : Fld Z h13 a13 "java/lang/String" "coder" "B" (.int (0 : Int32)) := D13 (Or.inr (own_g hw 21 rfl)) (ty := .byte) (by decide)
      have sf_a13 : own_SL Z own_EL s.vm h13 a13 := own_SL.born hC12.1 E13 g13 A13.lt
      refine own_step st13 ?_
      show own_Ends p e below F (T13.setTop (mkF m 55 #[.val (.int ln), .val (.int ca), .val (.int cb), .val (.ref a10)] [(.ref a13)]))
      refine own_step (fun _ k => XS.dup X13.here hx rfl (hb hby d1_55) rfl rfl k) ?_
      show own_Ends p e below F (T13.setTop (mkF m 56 #[.val (.int ln), .val (.int ca), .val (.int cb), .val (.ref a10)] [(.ref a13), (.ref a13)]))
      refine own_step (fun _ k => XS.aloadN X13.here hx rfl (hb hby d1_56) rfl rfl k) ?_
      show own_Ends p e below F (T13.setTop (mkF m 57 #[.val (.int ln), .val (.int ca), .val (.int cb), .val (.ref a10)] [(.ref a10), (.ref a13), (.ref a13)]))
      obtain ⟨_, _, ⟨T14, L14, k14, n14⟩, -, X14, ⟨Lc14, hQ14, l14, y14, z14⟩, st14⟩ := X13.specialBack hx (y := (⟨"java/lang/String", "<init>", "([C)V"⟩ : MethodName)) rfl hown (mvT hZ (own_g hw 8 rfl)) (mvT hZ (own_g hw 9 rfl)) (mvT hZ (own_g hw 10 rfl)) (by decide) (StrChars.Road.backV (W := 1) hZ (fun d hd => hw d ((by decide +kernel : ∀ d ∈ StrChars.Road.words, d ∈ tables_1) d hd)) (kI := 4) (own_g hw 5 rfl) (cs := ([ca, cb] : List Int32)) (bs := ([ca, cb] : List Int32).map (fun c => c.toInt8.toInt32)) (n := 2) ge_a13 Z13 A13 F13_value F13_coder (V12.ext E13) (Sta.ext E13 (Sta.wr W12 (Sta.wr W11 (Sta.ext E10 SC)))) hz rfl rfl (by decide) (by decide) (own_cS ha (own_cS hb' own_c0)) rfl (by decide) (by decide)) (g := (mkF m 57 #[.val (.int ln), .val (.int ca), .val (.int cb), .val (.ref a10)] [(.ref a10), (.ref a13), (.ref a13)])) rfl (by rw [hml]; rfl) (Steps.refl _) (a := a13) (argsL := [(.ref a10)]) (rest := [(.ref a13)]) (lenOf pd__28_5bC_29V rfl) rfl (by show 2 * 0 + _ ≤ _; exact Nat.le_of_eq rfl) (hb hby d1_57) (fun _ _ => ⟨rfl, e13, (by decide : 2 + 1 ≤ _), (by decide : 6 + 2 ≤ _)⟩)
      dsimp only [Pt.U, Pt.locs, Pt.cells, Pt.slots] at X14 l14 y14 z14 st14 hQ14
      subst l14 y14 z14
      obtain ⟨rfl, Nq14, Kq14, fe14, fc14, tt14, kt14, -, -, -, fv14, fa14⟩ := hQ14
      have N14 := Fr.app N12 Nq14
      have Z14 : n0 ≤ T14.heap.size := Nat.le_trans Z13 Kq14.1
      have SZ14 : h0.size ≤ T14.heap.size := Nat.le_trans SZ13 Kq14.1
      have S0_14 := own_Sta_keep (Sta.ext E13 (Sta.wr W12 (Sta.wr W11 (Sta.ext E10 SC)))) Kq14 (allS (own_ns_exa A13) all0)
      have str14 : own_Str Z T14.heap T14.heap.size a13 ([ca, cb] : List Int32) := own_Str.mk fe14 fc14 fv14 fa14 rfl rfl (own_cS ha (own_cS hb' own_c0))
      have hr14 := CHr.keep Kq14 (sfS sf_a13.2 sf0) hC13.1
      have hC14 := hC13.trans hr14
      have hk := Nat.le_trans hk Kq14.1
      refine own_trans st14 ?_
      show own_Ends p e below F (T14.setTop (mkF m 60 #[.val (.int ln), .val (.int ca), .val (.int cb), .val (.ref a10)] [(.ref a13)]))
      rw [hF]
      exact own_retH X14 hS (by exact hk) hh rfl hZ (own_EW hw) hC14 (v := (some (.ref a13))) (fun h => by rw [Bd.returns] at h; cases h) Bd.notSynchronized (fun fs hr => retOut X14 hx (t := (.object "java/lang/String")) (w := (.ref a13)) (i := .areturn) Bd.returns rfl (Or.inr (Or.inr (Or.inr (Or.inr ⟨rfl, rfl, rfl⟩)))) (hb hby d1_60) hr) (by decide) (by decide) (by exact ⟨_, rfl, N14, ((Keep.trans (Keep.ext (Keep.wr (Keep.wr (Keep.ext (Keep.refl _ _) E10) W11 (Or.inr sz_a10)) W12 (Or.inr sz_a10)) E13) Kq14 (allS (Or.inr sz_a13) all0)) : Keep h0 T14.heap []), sz_a13, (by simp only [own_cs, c1_1, c17_5, if_true, if_false]; exact own_Str.top str14)⟩)

def own_st (i : Int32) (pe re le : Addr) : Addr := if i = (0 : Int32) then pe else if i = (1 : Int32) then re else le
theorem d5_0 : decode method_4_code 0 = .ok (.iload_n 0, 1) := by decide +kernel
theorem d5_1 : decode method_4_code 1 = .ok (.ifCond .ne 7, 3) := by decide +kernel
theorem d5_4 : decode method_4_code 4 = .ok (.getstatic 12, 3) := by decide +kernel
theorem d5_7 : decode method_4_code 7 = .ok (.areturn, 1) := by decide +kernel
theorem d5_8 : decode method_4_code 8 = .ok (.iload_n 0, 1) := by decide +kernel
theorem d5_9 : decode method_4_code 9 = .ok (.iconst 1, 1) := by decide +kernel
theorem d5_10 : decode method_4_code 10 = .ok (.if_icmp .ne 7, 3) := by decide +kernel
theorem d5_13 : decode method_4_code 13 = .ok (.getstatic 18, 3) := by decide +kernel
theorem d5_16 : decode method_4_code 16 = .ok (.areturn, 1) := by decide +kernel
theorem d5_17 : decode method_4_code 17 = .ok (.getstatic 21, 3) := by decide +kernel
theorem d5_20 : decode method_4_code 20 = .ok (.areturn, 1) := by decide +kernel
theorem ef_rm5 (m : MethodId) (x0 : Int32) : entryFrame m #[(.int x0)] 1 = mkF m 0 #[.val (.int x0)] [] := by first | (simp [entryFrame, mkF, argsToLocals, Value.category, maxLocals]; done) | rfl
def Q5 (Z : State) (p1 : Int32) (pe re le : Addr) (h0 : Heap) (n0 : Nat) (v : Option Value) (h : Heap) (L : List Loc) : Prop := v = some (.ref (own_st p1 pe re le)) ∧ Fr n0 L ∧ h = h0
set_option maxRecDepth 65536 in
set_option maxHeartbeats 40000000 in
theorem rm5 (l : Launch) (Z : State) (a0 : Array Value) (hw : ∀ d ∈ tables_1, d.before a0 Z = true) (ws : List Jvm.Cond) (p1 : Int32) (pe re le : Addr) (h0 : Heap) (n0 : Nat) (Z0 : n0 ≤ h0.size) (Spe : Sta Z h0 "com/example/clock3600/clock3600/queue/TaskState" "PENDING" "Lcom/example/clock3600/clock3600/queue/TaskState;" (.ref pe)) (Sre : Sta Z h0 "com/example/clock3600/clock3600/queue/TaskState" "READY" "Lcom/example/clock3600/clock3600/queue/TaskState;" (.ref re)) (Sle : Sta Z h0 "com/example/clock3600/clock3600/queue/TaskState" "LEASED" "Lcom/example/clock3600/clock3600/queue/TaskState;" (.ref le)) :
    MetFree l (⟨"com/example/clock3600/clock3600/queue/QueuedTaskEqualsPinLaw", "st", "(I)Lcom/example/clock3600/clock3600/queue/TaskState;"⟩ : MethodName) (head1 (Jvm.Cond.code (⟨"com/example/clock3600/clock3600/queue/QueuedTaskEqualsPinLaw", "st", "(I)Lcom/example/clock3600/clock3600/queue/TaskState;"⟩ : MethodName) method_4_code 1 (some (.object "com/example/clock3600/clock3600/queue/TaskState")) :: ws) ({ frames := 0, cells := 0, slots := 0, locals := 0 } : Room)) (fun ar U => ar = #[(.int p1)] ∧ Z.Warmed39 U.vm ∧ U.heap = h0) (fun _ _ _ _ _ => True) (fun _ U o U' => ∃ v L, o = .returned v ∧ Q5 Z p1 pe re le h0 n0 v U'.heap L ∧ FrameEnd U o U' L ({ frames := 0, cells := 0, slots := 0, locals := 0 } : Room).cells ({ frames := 0, cells := 0, slots := 0, locals := 0 } : Room).slots) := by
  refine MetFree.of_bodySF (plainFor_of_name pn_com_example_clock3600_clock3600_queue_QueuedTaskEqualsPinLaw) hisR ?_
  intro p e s m args below meth c s₁ Bd hml0 hP hK
  obtain ⟨rfl, hZ, hh⟩ := hP
  have hx := Bd.exec
  have hby := Bd.bytes
  have hml : c.maxLocals = 1 := hml0
  have hown : s.vm.findClass "com/example/clock3600/clock3600/queue/QueuedTaskEqualsPinLaw" = some m.cls := findClass_of_methodNamed Bd.named
  have hnm := (name_of_methodNamed Bd.named Bd.method).1
  have X0 : Stand p l e ({ frames := 0, cells := 0, slots := 0, locals := 0 } : Room) s m #[(.int p1)] below meth c s₁ [] 0 0 := Stand.of_body Bd
  have e0 : s₁.heap = h0 := by rw [← hh, Bd.state]; rfl
  have N0 := Fr.nil n0
  obtain ⟨F, hF⟩ : ∃ F, F = own_Fin s (Q5 Z p1 pe re le h0 n0) ({ frames := 0, cells := 0, slots := 0, locals := 0 } : Room).cells ({ frames := 0, cells := 0, slots := 0, locals := 0 } : Room).slots := ⟨_, rfl⟩
  show own_Ends p e below (own_Fin s (Q5 Z p1 pe re le h0 n0) ({ frames := 0, cells := 0, slots := 0, locals := 0 } : Room).cells ({ frames := 0, cells := 0, slots := 0, locals := 0 } : Room).slots) _
  rw [← hF, ef_rm5 m p1]
  show own_Ends p e below F (s₁.setTop (mkF m 0 #[.val (.int p1)] []))
  refine own_step (fun _ k => XS.iloadN X0.here hx rfl (hb hby d5_0) rfl k) ?_
  show own_Ends p e below F (s₁.setTop (mkF m 1 #[.val (.int p1)] [(.int p1)]))
  by_cases c1_1 : p1 = (0 : Int32)
  · refine own_step (fun _ k => XS.ifNo X0.here hx rfl (hb hby d5_1) rfl ((if0 _ _).trans (teq c1_1).2) k) ?_
    show own_Ends p e below F (s₁.setTop (mkF m 4 #[.val (.int p1)] []))
    obtain ⟨T2, X2, e2, st2⟩ := getS2 X0 hx hZ hown (host := "") (Or.inl (own_g hw 32 rfl)) Via.refl e0 Spe (g := (mkF m 4 #[.val (.int p1)] [])) rfl (hb hby d5_4)
    refine own_step st2 ?_
    show own_Ends p e below F (T2.setTop (mkF m 7 #[.val (.int p1)] [(.ref pe)]))
    rw [hF]
    exact own_ret X2 (v := (some (.ref pe))) (fun h => by rw [Bd.returns] at h; cases h) Bd.notSynchronized (fun fs hr => retOut X2 hx (t := (.object "com/example/clock3600/clock3600/queue/TaskState")) (w := (.ref pe)) (i := .areturn) Bd.returns rfl (Or.inr (Or.inr (Or.inr (Or.inr ⟨rfl, rfl, rfl⟩)))) (hb hby d5_7) hr) (by decide) (by decide) (by rw [e2]; exact ⟨by (unfold own_st; (first | rw [if_pos c1_1] | rw [if_neg c1_1] | skip); first | done | rfl), N0, rfl⟩)
  · refine own_step (fun _ k => XS.ifYes X0.here hx rfl (pc0 := 1) (pc' := 8) rfl (hb hby d5_1) rfl ((if0 _ _).trans (feq c1_1).2) (by decide) (by decide) k) ?_
    show own_Ends p e below F (s₁.setTop (mkF m 8 #[.val (.int p1)] []))
    refine own_step (fun _ k => XS.iloadN X0.here hx rfl (hb hby d5_8) rfl k) ?_
    show own_Ends p e below F (s₁.setTop (mkF m 9 #[.val (.int p1)] [(.int p1)]))
    refine own_step (fun _ k => XS.iconst X0.here hx rfl (hb hby d5_9) k) ?_
    show own_Ends p e below F (s₁.setTop (mkF m 10 #[.val (.int p1)] [(.int (1 : Int32)), (.int p1)]))
    by_cases c10_3 : p1 = (1 : Int32)
    · refine own_step (fun _ k => XS.icmpNo X0.here hx rfl (hb hby d5_10) rfl (teq c10_3).2 k) ?_
      show own_Ends p e below F (s₁.setTop (mkF m 13 #[.val (.int p1)] []))
      obtain ⟨T4, X4, e4, st4⟩ := getS2 X0 hx hZ hown (host := "") (Or.inl (own_g hw 74 rfl)) Via.refl e0 Sre (g := (mkF m 13 #[.val (.int p1)] [])) rfl (hb hby d5_13)
      refine own_step st4 ?_
      show own_Ends p e below F (T4.setTop (mkF m 16 #[.val (.int p1)] [(.ref re)]))
      rw [hF]
      exact own_ret X4 (v := (some (.ref re))) (fun h => by rw [Bd.returns] at h; cases h) Bd.notSynchronized (fun fs hr => retOut X4 hx (t := (.object "com/example/clock3600/clock3600/queue/TaskState")) (w := (.ref re)) (i := .areturn) Bd.returns rfl (Or.inr (Or.inr (Or.inr (Or.inr ⟨rfl, rfl, rfl⟩)))) (hb hby d5_16) hr) (by decide) (by decide) (by rw [e4]; exact ⟨by (unfold own_st; (first | rw [if_pos c1_1] | rw [if_neg c1_1] | skip); (first | rw [if_pos c10_3] | rw [if_neg c10_3] | skip); first | done | rfl), N0, rfl⟩)
    · refine own_step (fun _ k => XS.icmpYes X0.here hx rfl (pc0 := 10) (pc' := 17) rfl (hb hby d5_10) rfl (feq c10_3).2 (by decide) (by decide) k) ?_
      show own_Ends p e below F (s₁.setTop (mkF m 17 #[.val (.int p1)] []))
      obtain ⟨T5, X5, e5, st5⟩ := getS2 X0 hx hZ hown (host := "") (Or.inl (own_g hw 86 rfl)) Via.refl e0 Sle (g := (mkF m 17 #[.val (.int p1)] [])) rfl (hb hby d5_17)
      refine own_step st5 ?_
      show own_Ends p e below F (T5.setTop (mkF m 20 #[.val (.int p1)] [(.ref le)]))
      rw [hF]
      exact own_ret X5 (v := (some (.ref le))) (fun h => by rw [Bd.returns] at h; cases h) Bd.notSynchronized (fun fs hr => retOut X5 hx (t := (.object "com/example/clock3600/clock3600/queue/TaskState")) (w := (.ref le)) (i := .areturn) Bd.returns rfl (Or.inr (Or.inr (Or.inr (Or.inr ⟨rfl, rfl, rfl⟩)))) (hb hby d5_20) hr) (by decide) (by decide) (by rw [e5]; exact ⟨by (unfold own_st; (first | rw [if_pos c1_1] | rw [if_neg c1_1] | skip); (first | rw [if_pos c10_3] | rw [if_neg c10_3] | skip); first | done | rfl), N0, rfl⟩)

def own_same (la aa ab lb ba bb : Int32) : Int32 := if la = lb then (if la < (1 : Int32) then (if la < (2 : Int32) then 1 else if ab = bb then 1 else 0) else (if aa = ba then (if la < (2 : Int32) then 1 else if ab = bb then 1 else 0) else 0)) else 0
theorem d11_0 : decode method_3_code 0 = .ok (.iload_n 0, 1) := by decide +kernel
theorem d11_1 : decode method_3_code 1 = .ok (.iload_n 3, 1) := by decide +kernel
theorem d11_2 : decode method_3_code 2 = .ok (.if_icmp .eq 5, 3) := by decide +kernel
theorem d11_5 : decode method_3_code 5 = .ok (.iconst 0, 1) := by decide +kernel
theorem d11_6 : decode method_3_code 6 = .ok (.ireturn, 1) := by decide +kernel
theorem d11_7 : decode method_3_code 7 = .ok (.iload_n 0, 1) := by decide +kernel
theorem d11_8 : decode method_3_code 8 = .ok (.iconst 1, 1) := by decide +kernel
theorem d11_9 : decode method_3_code 9 = .ok (.if_icmp .lt 11, 3) := by decide +kernel
theorem d11_12 : decode method_3_code 12 = .ok (.iload_n 1, 1) := by decide +kernel
theorem d11_13 : decode method_3_code 13 = .ok (.iload 4, 2) := by decide +kernel
theorem d11_15 : decode method_3_code 15 = .ok (.if_icmp .eq 5, 3) := by decide +kernel
theorem d11_18 : decode method_3_code 18 = .ok (.iconst 0, 1) := by decide +kernel
theorem d11_19 : decode method_3_code 19 = .ok (.ireturn, 1) := by decide +kernel
theorem d11_20 : decode method_3_code 20 = .ok (.iload_n 0, 1) := by decide +kernel
theorem d11_21 : decode method_3_code 21 = .ok (.iconst 2, 1) := by decide +kernel
theorem d11_22 : decode method_3_code 22 = .ok (.if_icmp .lt 11, 3) := by decide +kernel
theorem d11_25 : decode method_3_code 25 = .ok (.iload_n 2, 1) := by decide +kernel
theorem d11_26 : decode method_3_code 26 = .ok (.iload 5, 2) := by decide +kernel
theorem d11_28 : decode method_3_code 28 = .ok (.if_icmp .eq 5, 3) := by decide +kernel
theorem d11_31 : decode method_3_code 31 = .ok (.iconst 0, 1) := by decide +kernel
theorem d11_32 : decode method_3_code 32 = .ok (.ireturn, 1) := by decide +kernel
theorem d11_33 : decode method_3_code 33 = .ok (.iconst 1, 1) := by decide +kernel
theorem d11_34 : decode method_3_code 34 = .ok (.ireturn, 1) := by decide +kernel
theorem ef_rm11 (m : MethodId) (x0 : Int32) (x1 : Int32) (x2 : Int32) (x3 : Int32) (x4 : Int32) (x5 : Int32) : entryFrame m #[(.int x0), (.int x1), (.int x2), (.int x3), (.int x4), (.int x5)] 6 = mkF m 0 #[.val (.int x0), .val (.int x1), .val (.int x2), .val (.int x3), .val (.int x4), .val (.int x5)] [] := by first | (simp [entryFrame, mkF, argsToLocals, Value.category, maxLocals]; done) | rfl
def Q11 (Z : State) (la aa ab lb ba bb : Int32) (h0 : Heap) (n0 : Nat) (v : Option Value) (h : Heap) (L : List Loc) : Prop := v = some (.int (own_same la aa ab lb ba bb)) ∧ Fr n0 L ∧ h = h0
set_option maxRecDepth 65536 in
set_option maxHeartbeats 40000000 in
theorem rm11 (l : Launch) (Z : State) (a0 : Array Value) (hw : ∀ d ∈ tables_1, d.before a0 Z = true) (ws : List Jvm.Cond) (la aa ab lb ba bb : Int32) (h0 : Heap) (n0 : Nat) (Z0 : n0 ≤ h0.size)  :
    MetFree l (⟨"com/example/clock3600/clock3600/queue/QueuedTaskEqualsPinLaw", "same", "(IIIIII)Z"⟩ : MethodName) (head1 (Jvm.Cond.code (⟨"com/example/clock3600/clock3600/queue/QueuedTaskEqualsPinLaw", "same", "(IIIIII)Z"⟩ : MethodName) method_3_code 6 (some .boolean) :: ws) ({ frames := 0, cells := 0, slots := 0, locals := 0 } : Room)) (fun ar U => ar = #[(.int la), (.int aa), (.int ab), (.int lb), (.int ba), (.int bb)] ∧ Z.Warmed39 U.vm ∧ U.heap = h0) (fun _ _ _ _ _ => True) (fun _ U o U' => ∃ v L, o = .returned v ∧ Q11 Z la aa ab lb ba bb h0 n0 v U'.heap L ∧ FrameEnd U o U' L ({ frames := 0, cells := 0, slots := 0, locals := 0 } : Room).cells ({ frames := 0, cells := 0, slots := 0, locals := 0 } : Room).slots) := by
  refine MetFree.of_bodySF (plainFor_of_name pn_com_example_clock3600_clock3600_queue_QueuedTaskEqualsPinLaw) hisR ?_
  intro p e s m args below meth c s₁ Bd hml0 hP hK
  obtain ⟨rfl, hZ, hh⟩ := hP
  have hx := Bd.exec
  have hby := Bd.bytes
  have hml : c.maxLocals = 6 := hml0
  have hown : s.vm.findClass "com/example/clock3600/clock3600/queue/QueuedTaskEqualsPinLaw" = some m.cls := findClass_of_methodNamed Bd.named
  have hnm := (name_of_methodNamed Bd.named Bd.method).1
  have X0 : Stand p l e ({ frames := 0, cells := 0, slots := 0, locals := 0 } : Room) s m #[(.int la), (.int aa), (.int ab), (.int lb), (.int ba), (.int bb)] below meth c s₁ [] 0 0 := Stand.of_body Bd
  have e0 : s₁.heap = h0 := by rw [← hh, Bd.state]; rfl
  have N0 := Fr.nil n0
  obtain ⟨F, hF⟩ : ∃ F, F = own_Fin s (Q11 Z la aa ab lb ba bb h0 n0) ({ frames := 0, cells := 0, slots := 0, locals := 0 } : Room).cells ({ frames := 0, cells := 0, slots := 0, locals := 0 } : Room).slots := ⟨_, rfl⟩
  show own_Ends p e below (own_Fin s (Q11 Z la aa ab lb ba bb h0 n0) ({ frames := 0, cells := 0, slots := 0, locals := 0 } : Room).cells ({ frames := 0, cells := 0, slots := 0, locals := 0 } : Room).slots) _
  rw [← hF, ef_rm11 m la aa ab lb ba bb]
  show own_Ends p e below F (s₁.setTop (mkF m 0 #[.val (.int la), .val (.int aa), .val (.int ab), .val (.int lb), .val (.int ba), .val (.int bb)] []))
  refine own_step (fun _ k => XS.iloadN X0.here hx rfl (hb hby d11_0) rfl k) ?_
  show own_Ends p e below F (s₁.setTop (mkF m 1 #[.val (.int la), .val (.int aa), .val (.int ab), .val (.int lb), .val (.int ba), .val (.int bb)] [(.int la)]))
  refine own_step (fun _ k => XS.iloadN X0.here hx rfl (hb hby d11_1) rfl k) ?_
  show own_Ends p e below F (s₁.setTop (mkF m 2 #[.val (.int la), .val (.int aa), .val (.int ab), .val (.int lb), .val (.int ba), .val (.int bb)] [(.int lb), (.int la)]))
  by_cases c2_1 : la = lb
  · refine own_step (fun _ k => XS.icmpYes X0.here hx rfl (pc0 := 2) (pc' := 7) rfl (hb hby d11_2) rfl (teq c2_1).1 (by decide) (by decide) k) ?_
    show own_Ends p e below F (s₁.setTop (mkF m 7 #[.val (.int la), .val (.int aa), .val (.int ab), .val (.int lb), .val (.int ba), .val (.int bb)] []))
    refine own_step (fun _ k => XS.iloadN X0.here hx rfl (hb hby d11_7) rfl k) ?_
    show own_Ends p e below F (s₁.setTop (mkF m 8 #[.val (.int la), .val (.int aa), .val (.int ab), .val (.int lb), .val (.int ba), .val (.int bb)] [(.int la)]))
    refine own_step (fun _ k => XS.iconst X0.here hx rfl (hb hby d11_8) k) ?_
    show own_Ends p e below F (s₁.setTop (mkF m 9 #[.val (.int la), .val (.int aa), .val (.int ab), .val (.int lb), .val (.int ba), .val (.int bb)] [(.int (1 : Int32)), (.int la)]))
    by_cases c9_2 : la < (1 : Int32)
    · refine own_step (fun _ k => XS.icmpYes X0.here hx rfl (pc0 := 9) (pc' := 20) rfl (hb hby d11_9) rfl (tlt c9_2).1 (by decide) (by decide) k) ?_
      show own_Ends p e below F (s₁.setTop (mkF m 20 #[.val (.int la), .val (.int aa), .val (.int ab), .val (.int lb), .val (.int ba), .val (.int bb)] []))
      refine own_step (fun _ k => XS.iloadN X0.here hx rfl (hb hby d11_20) rfl k) ?_
      show own_Ends p e below F (s₁.setTop (mkF m 21 #[.val (.int la), .val (.int aa), .val (.int ab), .val (.int lb), .val (.int ba), .val (.int bb)] [(.int la)]))
      refine own_step (fun _ k => XS.iconst X0.here hx rfl (hb hby d11_21) k) ?_
      show own_Ends p e below F (s₁.setTop (mkF m 22 #[.val (.int la), .val (.int aa), .val (.int ab), .val (.int lb), .val (.int ba), .val (.int bb)] [(.int (2 : Int32)), (.int la)]))
      by_cases c22_3 : la < (2 : Int32)
      · refine own_step (fun _ k => XS.icmpYes X0.here hx rfl (pc0 := 22) (pc' := 33) rfl (hb hby d11_22) rfl (tlt c22_3).1 (by decide) (by decide) k) ?_
        show own_Ends p e below F (s₁.setTop (mkF m 33 #[.val (.int la), .val (.int aa), .val (.int ab), .val (.int lb), .val (.int ba), .val (.int bb)] []))
        refine own_step (fun _ k => XS.iconst X0.here hx rfl (hb hby d11_33) k) ?_
        show own_Ends p e below F (s₁.setTop (mkF m 34 #[.val (.int la), .val (.int aa), .val (.int ab), .val (.int lb), .val (.int ba), .val (.int bb)] [(.int (1 : Int32))]))
        rw [hF]
        exact own_ret X0 (v := (some (.int (nar .boolean (1 : Int32))))) (fun h => by rw [Bd.returns] at h; cases h) Bd.notSynchronized (fun fs hr => retN X0 hx (t := .boolean) Bd.returns (by simp) (hb hby d11_34) hr) (by decide) (by decide) (by rw [e0]; exact ⟨by (unfold own_same; (first | rw [if_pos c2_1] | rw [if_neg c2_1] | skip); (first | rw [if_pos c9_2] | rw [if_neg c9_2] | skip); (first | rw [if_pos c22_3] | rw [if_neg c22_3] | skip); first | done | rfl), N0, rfl⟩)
      · refine own_step (fun _ k => XS.icmpNo X0.here hx rfl (hb hby d11_22) rfl (flt c22_3).1 k) ?_
        show own_Ends p e below F (s₁.setTop (mkF m 25 #[.val (.int la), .val (.int aa), .val (.int ab), .val (.int lb), .val (.int ba), .val (.int bb)] []))
        refine own_step (fun _ k => XS.iloadN X0.here hx rfl (hb hby d11_25) rfl k) ?_
        show own_Ends p e below F (s₁.setTop (mkF m 26 #[.val (.int la), .val (.int aa), .val (.int ab), .val (.int lb), .val (.int ba), .val (.int bb)] [(.int ab)]))
        refine own_step (fun _ k => XS.iload X0.here hx rfl (hb hby d11_26) rfl k) ?_
        show own_Ends p e below F (s₁.setTop (mkF m 28 #[.val (.int la), .val (.int aa), .val (.int ab), .val (.int lb), .val (.int ba), .val (.int bb)] [(.int bb), (.int ab)]))
        by_cases c28_4 : ab = bb
        · refine own_step (fun _ k => XS.icmpYes X0.here hx rfl (pc0 := 28) (pc' := 33) rfl (hb hby d11_28) rfl (teq c28_4).1 (by decide) (by decide) k) ?_
          show own_Ends p e below F (s₁.setTop (mkF m 33 #[.val (.int la), .val (.int aa), .val (.int ab), .val (.int lb), .val (.int ba), .val (.int bb)] []))
          refine own_step (fun _ k => XS.iconst X0.here hx rfl (hb hby d11_33) k) ?_
          show own_Ends p e below F (s₁.setTop (mkF m 34 #[.val (.int la), .val (.int aa), .val (.int ab), .val (.int lb), .val (.int ba), .val (.int bb)] [(.int (1 : Int32))]))
          rw [hF]
          exact own_ret X0 (v := (some (.int (nar .boolean (1 : Int32))))) (fun h => by rw [Bd.returns] at h; cases h) Bd.notSynchronized (fun fs hr => retN X0 hx (t := .boolean) Bd.returns (by simp) (hb hby d11_34) hr) (by decide) (by decide) (by rw [e0]; exact ⟨by (unfold own_same; (first | rw [if_pos c2_1] | rw [if_neg c2_1] | skip); (first | rw [if_pos c9_2] | rw [if_neg c9_2] | skip); (first | rw [if_pos c22_3] | rw [if_neg c22_3] | skip); (first | rw [if_pos c28_4] | rw [if_neg c28_4] | skip); first | done | rfl), N0, rfl⟩)
        · refine own_step (fun _ k => XS.icmpNo X0.here hx rfl (hb hby d11_28) rfl (feq c28_4).1 k) ?_
          show own_Ends p e below F (s₁.setTop (mkF m 31 #[.val (.int la), .val (.int aa), .val (.int ab), .val (.int lb), .val (.int ba), .val (.int bb)] []))
          refine own_step (fun _ k => XS.iconst X0.here hx rfl (hb hby d11_31) k) ?_
          show own_Ends p e below F (s₁.setTop (mkF m 32 #[.val (.int la), .val (.int aa), .val (.int ab), .val (.int lb), .val (.int ba), .val (.int bb)] [(.int (0 : Int32))]))
          rw [hF]
          exact own_ret X0 (v := (some (.int (nar .boolean (0 : Int32))))) (fun h => by rw [Bd.returns] at h; cases h) Bd.notSynchronized (fun fs hr => retN X0 hx (t := .boolean) Bd.returns (by simp) (hb hby d11_32) hr) (by decide) (by decide) (by rw [e0]; exact ⟨by (unfold own_same; (first | rw [if_pos c2_1] | rw [if_neg c2_1] | skip); (first | rw [if_pos c9_2] | rw [if_neg c9_2] | skip); (first | rw [if_pos c22_3] | rw [if_neg c22_3] | skip); (first | rw [if_pos c28_4] | rw [if_neg c28_4] | skip); first | done | rfl), N0, rfl⟩)
    · refine own_step (fun _ k => XS.icmpNo X0.here hx rfl (hb hby d11_9) rfl (flt c9_2).1 k) ?_
      show own_Ends p e below F (s₁.setTop (mkF m 12 #[.val (.int la), .val (.int aa), .val (.int ab), .val (.int lb), .val (.int ba), .val (.int bb)] []))
      refine own_step (fun _ k => XS.iloadN X0.here hx rfl (hb hby d11_12) rfl k) ?_
      show own_Ends p e below F (s₁.setTop (mkF m 13 #[.val (.int la), .val (.int aa), .val (.int ab), .val (.int lb), .val (.int ba), .val (.int bb)] [(.int aa)]))
      refine own_step (fun _ k => XS.iload X0.here hx rfl (hb hby d11_13) rfl k) ?_
      show own_Ends p e below F (s₁.setTop (mkF m 15 #[.val (.int la), .val (.int aa), .val (.int ab), .val (.int lb), .val (.int ba), .val (.int bb)] [(.int ba), (.int aa)]))
      by_cases c15_5 : aa = ba
      · refine own_step (fun _ k => XS.icmpYes X0.here hx rfl (pc0 := 15) (pc' := 20) rfl (hb hby d11_15) rfl (teq c15_5).1 (by decide) (by decide) k) ?_
        show own_Ends p e below F (s₁.setTop (mkF m 20 #[.val (.int la), .val (.int aa), .val (.int ab), .val (.int lb), .val (.int ba), .val (.int bb)] []))
        refine own_step (fun _ k => XS.iloadN X0.here hx rfl (hb hby d11_20) rfl k) ?_
        show own_Ends p e below F (s₁.setTop (mkF m 21 #[.val (.int la), .val (.int aa), .val (.int ab), .val (.int lb), .val (.int ba), .val (.int bb)] [(.int la)]))
        refine own_step (fun _ k => XS.iconst X0.here hx rfl (hb hby d11_21) k) ?_
        show own_Ends p e below F (s₁.setTop (mkF m 22 #[.val (.int la), .val (.int aa), .val (.int ab), .val (.int lb), .val (.int ba), .val (.int bb)] [(.int (2 : Int32)), (.int la)]))
        by_cases c22_6 : la < (2 : Int32)
        · refine own_step (fun _ k => XS.icmpYes X0.here hx rfl (pc0 := 22) (pc' := 33) rfl (hb hby d11_22) rfl (tlt c22_6).1 (by decide) (by decide) k) ?_
          show own_Ends p e below F (s₁.setTop (mkF m 33 #[.val (.int la), .val (.int aa), .val (.int ab), .val (.int lb), .val (.int ba), .val (.int bb)] []))
          refine own_step (fun _ k => XS.iconst X0.here hx rfl (hb hby d11_33) k) ?_
          show own_Ends p e below F (s₁.setTop (mkF m 34 #[.val (.int la), .val (.int aa), .val (.int ab), .val (.int lb), .val (.int ba), .val (.int bb)] [(.int (1 : Int32))]))
          rw [hF]
          exact own_ret X0 (v := (some (.int (nar .boolean (1 : Int32))))) (fun h => by rw [Bd.returns] at h; cases h) Bd.notSynchronized (fun fs hr => retN X0 hx (t := .boolean) Bd.returns (by simp) (hb hby d11_34) hr) (by decide) (by decide) (by rw [e0]; exact ⟨by (unfold own_same; (first | rw [if_pos c2_1] | rw [if_neg c2_1] | skip); (first | rw [if_pos c9_2] | rw [if_neg c9_2] | skip); (first | rw [if_pos c15_5] | rw [if_neg c15_5] | skip); (first | rw [if_pos c22_6] | rw [if_neg c22_6] | skip); first | done | rfl), N0, rfl⟩)
        · refine own_step (fun _ k => XS.icmpNo X0.here hx rfl (hb hby d11_22) rfl (flt c22_6).1 k) ?_
          show own_Ends p e below F (s₁.setTop (mkF m 25 #[.val (.int la), .val (.int aa), .val (.int ab), .val (.int lb), .val (.int ba), .val (.int bb)] []))
          refine own_step (fun _ k => XS.iloadN X0.here hx rfl (hb hby d11_25) rfl k) ?_
          show own_Ends p e below F (s₁.setTop (mkF m 26 #[.val (.int la), .val (.int aa), .val (.int ab), .val (.int lb), .val (.int ba), .val (.int bb)] [(.int ab)]))
          refine own_step (fun _ k => XS.iload X0.here hx rfl (hb hby d11_26) rfl k) ?_
          show own_Ends p e below F (s₁.setTop (mkF m 28 #[.val (.int la), .val (.int aa), .val (.int ab), .val (.int lb), .val (.int ba), .val (.int bb)] [(.int bb), (.int ab)]))
          by_cases c28_7 : ab = bb
          · refine own_step (fun _ k => XS.icmpYes X0.here hx rfl (pc0 := 28) (pc' := 33) rfl (hb hby d11_28) rfl (teq c28_7).1 (by decide) (by decide) k) ?_
            show own_Ends p e below F (s₁.setTop (mkF m 33 #[.val (.int la), .val (.int aa), .val (.int ab), .val (.int lb), .val (.int ba), .val (.int bb)] []))
            refine own_step (fun _ k => XS.iconst X0.here hx rfl (hb hby d11_33) k) ?_
            show own_Ends p e below F (s₁.setTop (mkF m 34 #[.val (.int la), .val (.int aa), .val (.int ab), .val (.int lb), .val (.int ba), .val (.int bb)] [(.int (1 : Int32))]))
            rw [hF]
            exact own_ret X0 (v := (some (.int (nar .boolean (1 : Int32))))) (fun h => by rw [Bd.returns] at h; cases h) Bd.notSynchronized (fun fs hr => retN X0 hx (t := .boolean) Bd.returns (by simp) (hb hby d11_34) hr) (by decide) (by decide) (by rw [e0]; exact ⟨by (unfold own_same; (first | rw [if_pos c2_1] | rw [if_neg c2_1] | skip); (first | rw [if_pos c9_2] | rw [if_neg c9_2] | skip); (first | rw [if_pos c15_5] | rw [if_neg c15_5] | skip); (first | rw [if_pos c22_6] | rw [if_neg c22_6] | skip); (first | rw [if_pos c28_7] | rw [if_neg c28_7] | skip); first | done | rfl), N0, rfl⟩)
          · refine own_step (fun _ k => XS.icmpNo X0.here hx rfl (hb hby d11_28) rfl (feq c28_7).1 k) ?_
            show own_Ends p e below F (s₁.setTop (mkF m 31 #[.val (.int la), .val (.int aa), .val (.int ab), .val (.int lb), .val (.int ba), .val (.int bb)] []))
            refine own_step (fun _ k => XS.iconst X0.here hx rfl (hb hby d11_31) k) ?_
            show own_Ends p e below F (s₁.setTop (mkF m 32 #[.val (.int la), .val (.int aa), .val (.int ab), .val (.int lb), .val (.int ba), .val (.int bb)] [(.int (0 : Int32))]))
            rw [hF]
            exact own_ret X0 (v := (some (.int (nar .boolean (0 : Int32))))) (fun h => by rw [Bd.returns] at h; cases h) Bd.notSynchronized (fun fs hr => retN X0 hx (t := .boolean) Bd.returns (by simp) (hb hby d11_32) hr) (by decide) (by decide) (by rw [e0]; exact ⟨by (unfold own_same; (first | rw [if_pos c2_1] | rw [if_neg c2_1] | skip); (first | rw [if_pos c9_2] | rw [if_neg c9_2] | skip); (first | rw [if_pos c15_5] | rw [if_neg c15_5] | skip); (first | rw [if_pos c22_6] | rw [if_neg c22_6] | skip); (first | rw [if_pos c28_7] | rw [if_neg c28_7] | skip); first | done | rfl), N0, rfl⟩)
      · refine own_step (fun _ k => XS.icmpNo X0.here hx rfl (hb hby d11_15) rfl (feq c15_5).1 k) ?_
        show own_Ends p e below F (s₁.setTop (mkF m 18 #[.val (.int la), .val (.int aa), .val (.int ab), .val (.int lb), .val (.int ba), .val (.int bb)] []))
        refine own_step (fun _ k => XS.iconst X0.here hx rfl (hb hby d11_18) k) ?_
        show own_Ends p e below F (s₁.setTop (mkF m 19 #[.val (.int la), .val (.int aa), .val (.int ab), .val (.int lb), .val (.int ba), .val (.int bb)] [(.int (0 : Int32))]))
        rw [hF]
        exact own_ret X0 (v := (some (.int (nar .boolean (0 : Int32))))) (fun h => by rw [Bd.returns] at h; cases h) Bd.notSynchronized (fun fs hr => retN X0 hx (t := .boolean) Bd.returns (by simp) (hb hby d11_19) hr) (by decide) (by decide) (by rw [e0]; exact ⟨by (unfold own_same; (first | rw [if_pos c2_1] | rw [if_neg c2_1] | skip); (first | rw [if_pos c9_2] | rw [if_neg c9_2] | skip); (first | rw [if_pos c15_5] | rw [if_neg c15_5] | skip); first | done | rfl), N0, rfl⟩)
  · refine own_step (fun _ k => XS.icmpNo X0.here hx rfl (hb hby d11_2) rfl (feq c2_1).1 k) ?_
    show own_Ends p e below F (s₁.setTop (mkF m 5 #[.val (.int la), .val (.int aa), .val (.int ab), .val (.int lb), .val (.int ba), .val (.int bb)] []))
    refine own_step (fun _ k => XS.iconst X0.here hx rfl (hb hby d11_5) k) ?_
    show own_Ends p e below F (s₁.setTop (mkF m 6 #[.val (.int la), .val (.int aa), .val (.int ab), .val (.int lb), .val (.int ba), .val (.int bb)] [(.int (0 : Int32))]))
    rw [hF]
    exact own_ret X0 (v := (some (.int (nar .boolean (0 : Int32))))) (fun h => by rw [Bd.returns] at h; cases h) Bd.notSynchronized (fun fs hr => retN X0 hx (t := .boolean) Bd.returns (by simp) (hb hby d11_6) hr) (by decide) (by decide) (by rw [e0]; exact ⟨by (unfold own_same; (first | rw [if_pos c2_1] | rw [if_neg c2_1] | skip); first | done | rfl), N0, rfl⟩)

theorem d6_0 : decode prog_16_method_1_code 0 = .ok (.aload_n 0, 1) := by decide +kernel
theorem d6_1 : decode prog_16_method_1_code 1 = .ok (.invokespecial 1, 3) := by decide +kernel
theorem d6_4 : decode prog_16_method_1_code 4 = .ok (.aload_n 0, 1) := by decide +kernel
theorem d6_5 : decode prog_16_method_1_code 5 = .ok (.aload_n 1, 1) := by decide +kernel
theorem d6_6 : decode prog_16_method_1_code 6 = .ok (.putfield 7, 3) := by decide +kernel
theorem d6_9 : decode prog_16_method_1_code 9 = .ok (.aload_n 0, 1) := by decide +kernel
theorem d6_10 : decode prog_16_method_1_code 10 = .ok (.aload_n 2, 1) := by decide +kernel
theorem d6_11 : decode prog_16_method_1_code 11 = .ok (.putfield 13, 3) := by decide +kernel
theorem d6_14 : decode prog_16_method_1_code 14 = .ok (.aload_n 0, 1) := by decide +kernel
theorem d6_15 : decode prog_16_method_1_code 15 = .ok (.lload_n 3, 1) := by decide +kernel
theorem d6_16 : decode prog_16_method_1_code 16 = .ok (.putfield 16, 3) := by decide +kernel
theorem d6_19 : decode prog_16_method_1_code 19 = .ok (.aload_n 0, 1) := by decide +kernel
theorem d6_20 : decode prog_16_method_1_code 20 = .ok (.aload 5, 2) := by decide +kernel
theorem d6_22 : decode prog_16_method_1_code 22 = .ok (.putfield 20, 3) := by decide +kernel
theorem d6_25 : decode prog_16_method_1_code 25 = .ok (.aload_n 0, 1) := by decide +kernel
theorem d6_26 : decode prog_16_method_1_code 26 = .ok (.aload 6, 2) := by decide +kernel
theorem d6_28 : decode prog_16_method_1_code 28 = .ok (.putfield 23, 3) := by decide +kernel
theorem d6_31 : decode prog_16_method_1_code 31 = .ok (.aload_n 0, 1) := by decide +kernel
theorem d6_32 : decode prog_16_method_1_code 32 = .ok (.iload 7, 2) := by decide +kernel
theorem d6_34 : decode prog_16_method_1_code 34 = .ok (.putfield 27, 3) := by decide +kernel
theorem d6_37 : decode prog_16_method_1_code 37 = .ok (.return_, 1) := by decide +kernel
theorem pn_com_example_clock3600_clock3600_queue_QueuedTask : plainName "com/example/clock3600/clock3600/queue/QueuedTask" = true := by first | (simp [plainName, overriddenIn]; done) | decide +kernel
theorem ef_rm6 (m : MethodId) (x0 : Addr) (x1 : Addr) (x2 : Addr) (x3 : Int64) (x4 : Addr) (x5 : Addr) (x6 : Int32) : entryFrame m #[(.ref x0), (.ref x1), (.ref x2), (.long x3), (.ref x4), (.ref x5), (.int x6)] 8 = mkF m 0 #[.val (.ref x0), .val (.ref x1), .val (.ref x2), .val (.long x3), .second, .val (.ref x4), .val (.ref x5), .val (.int x6)] [] := by first | (simp [entryFrame, mkF, argsToLocals, Value.category, maxLocals]; done) | rfl
def Q6 (Z : State) (a : Addr) (p1 : Addr) (p2 : Addr) (p3 : Int64) (p4 : Addr) (p5 : Addr) (p6 : Int32) (h0 : Heap) (n0 : Nat) (v : Option Value) (h : Heap) (L : List Loc) : Prop := v = none ∧ Fr n0 L ∧ Keep h0 h [a] ∧ Exa Z h a "com/example/clock3600/clock3600/queue/QueuedTask" ∧ Fld Z h a "com/example/clock3600/clock3600/queue/QueuedTask" "queue" "Ljava/lang/String;" (.ref p1) ∧ Fld Z h a "com/example/clock3600/clock3600/queue/QueuedTask" "id" "Ljava/lang/String;" (.ref p2) ∧ Fld Z h a "com/example/clock3600/clock3600/queue/QueuedTask" "dueAtMillis" "J" (.long p3) ∧ Fld Z h a "com/example/clock3600/clock3600/queue/QueuedTask" "payload" "Ljava/lang/String;" (.ref p4) ∧ Fld Z h a "com/example/clock3600/clock3600/queue/QueuedTask" "state" "Lcom/example/clock3600/clock3600/queue/TaskState;" (.ref p5) ∧ Fld Z h a "com/example/clock3600/clock3600/queue/QueuedTask" "attempts" "I" (.int p6)
set_option maxRecDepth 65536 in
set_option maxHeartbeats 40000000 in
theorem rm6 (l : Launch) (Z : State) (a0 : Array Value) (hw : ∀ d ∈ tables_1, d.before a0 Z = true) (ws : List Jvm.Cond) (a : Addr) (p1 : Addr) (p2 : Addr) (p3 : Int64) (p4 : Addr) (p5 : Addr) (p6 : Int32) (h0 : Heap) (n0 : Nat) (Z0 : n0 ≤ h0.size) (EX : Exa Z h0 a "com/example/clock3600/clock3600/queue/QueuedTask") (ge : n0 ≤ a) (F_queue : Fld Z h0 a "com/example/clock3600/clock3600/queue/QueuedTask" "queue" "Ljava/lang/String;" .null) (F_id : Fld Z h0 a "com/example/clock3600/clock3600/queue/QueuedTask" "id" "Ljava/lang/String;" .null) (F_dueAtMillis : Fld Z h0 a "com/example/clock3600/clock3600/queue/QueuedTask" "dueAtMillis" "J" (.long (0 : Int64))) (F_payload : Fld Z h0 a "com/example/clock3600/clock3600/queue/QueuedTask" "payload" "Ljava/lang/String;" .null) (F_state : Fld Z h0 a "com/example/clock3600/clock3600/queue/QueuedTask" "state" "Lcom/example/clock3600/clock3600/queue/TaskState;" .null) (F_attempts : Fld Z h0 a "com/example/clock3600/clock3600/queue/QueuedTask" "attempts" "I" (.int (0 : Int32))) :
    MetFree l (⟨"com/example/clock3600/clock3600/queue/QueuedTask", "<init>", "(Ljava/lang/String;Ljava/lang/String;JLjava/lang/String;Lcom/example/clock3600/clock3600/queue/TaskState;I)V"⟩ : MethodName) (head1 (Jvm.Cond.code (⟨"com/example/clock3600/clock3600/queue/QueuedTask", "<init>", "(Ljava/lang/String;Ljava/lang/String;JLjava/lang/String;Lcom/example/clock3600/clock3600/queue/TaskState;I)V"⟩ : MethodName) prog_16_method_1_code 8 none :: ws) ({ frames := 1, cells := 0, slots := 0, locals := 12 } : Room)) (fun ar U => ar = #[(.ref a), (.ref p1), (.ref p2), (.long p3), (.ref p4), (.ref p5), (.int p6)] ∧ Z.Warmed39 U.vm ∧ U.heap = h0) (fun _ _ _ _ _ => True) (fun _ U o U' => ∃ v L, o = .returned v ∧ Q6 Z a p1 p2 p3 p4 p5 p6 h0 n0 v U'.heap L ∧ FrameEnd U o U' L ({ frames := 1, cells := 0, slots := 0, locals := 12 } : Room).cells ({ frames := 1, cells := 0, slots := 0, locals := 12 } : Room).slots) := by
  refine MetFree.of_bodySF (plainFor_of_name pn_com_example_clock3600_clock3600_queue_QueuedTask) hisR ?_
  intro p e s m args below meth c s₁ Bd hml0 hP hK
  obtain ⟨rfl, hZ, hh⟩ := hP
  have hx := Bd.exec
  have hby := Bd.bytes
  have hml : c.maxLocals = 8 := hml0
  have hown : s.vm.findClass "com/example/clock3600/clock3600/queue/QueuedTask" = some m.cls := findClass_of_methodNamed Bd.named
  have hnm := (name_of_methodNamed Bd.named Bd.method).1
  have X0 : Stand p l e ({ frames := 1, cells := 0, slots := 0, locals := 12 } : Room) s m #[(.ref a), (.ref p1), (.ref p2), (.long p3), (.ref p4), (.ref p5), (.int p6)] below meth c s₁ [] 0 0 := Stand.of_body Bd
  have e0 : s₁.heap = h0 := by rw [← hh, Bd.state]; rfl
  have N0 := Fr.nil n0
  obtain ⟨F, hF⟩ : ∃ F, F = own_Fin s (Q6 Z a p1 p2 p3 p4 p5 p6 h0 n0) ({ frames := 1, cells := 0, slots := 0, locals := 12 } : Room).cells ({ frames := 1, cells := 0, slots := 0, locals := 12 } : Room).slots := ⟨_, rfl⟩
  show own_Ends p e below (own_Fin s (Q6 Z a p1 p2 p3 p4 p5 p6 h0 n0) ({ frames := 1, cells := 0, slots := 0, locals := 12 } : Room).cells ({ frames := 1, cells := 0, slots := 0, locals := 12 } : Room).slots) _
  rw [← hF, ef_rm6 m a p1 p2 p3 p4 p5 p6]
  show own_Ends p e below F (s₁.setTop (mkF m 0 #[.val (.ref a), .val (.ref p1), .val (.ref p2), .val (.long p3), .second, .val (.ref p4), .val (.ref p5), .val (.int p6)] []))
  refine own_step (fun _ k => XS.aloadN X0.here hx rfl (hb hby d6_0) rfl rfl k) ?_
  show own_Ends p e below F (s₁.setTop (mkF m 1 #[.val (.ref a), .val (.ref p1), .val (.ref p2), .val (.long p3), .second, .val (.ref p4), .val (.ref p5), .val (.int p6)] [(.ref a)]))
  obtain ⟨T1, X1, e1, st1⟩ := initO X0 hx hZ hown (own_g hw 38 rfl) (own_g hw 16 rfl) (own_g hw 17 rfl) e0 (g := (mkF m 1 #[.val (.ref a), .val (.ref p1), .val (.ref p2), .val (.long p3), .second, .val (.ref p4), .val (.ref p5), .val (.int p6)] [(.ref a)])) rfl (by rw [hml]; rfl) rfl (hb hby d6_1) (by decide) (W := 0) (by show 2 * 0 + _ ≤ _; exact Nat.le_of_eq rfl) (by decide)
  refine own_step st1 ?_
  show own_Ends p e below F (T1.setTop (mkF m 4 #[.val (.ref a), .val (.ref p1), .val (.ref p2), .val (.long p3), .second, .val (.ref p4), .val (.ref p5), .val (.int p6)] []))
  refine own_step (fun _ k => XS.aloadN X1.here hx rfl (hb hby d6_4) rfl rfl k) ?_
  show own_Ends p e below F (T1.setTop (mkF m 5 #[.val (.ref a), .val (.ref p1), .val (.ref p2), .val (.long p3), .second, .val (.ref p4), .val (.ref p5), .val (.int p6)] [(.ref a)]))
  refine own_step (fun _ k => XS.aloadN X1.here hx rfl (hb hby d6_5) rfl rfl k) ?_
  show own_Ends p e below F (T1.setTop (mkF m 6 #[.val (.ref a), .val (.ref p1), .val (.ref p2), .val (.long p3), .second, .val (.ref p4), .val (.ref p5), .val (.int p6)] [(.ref p1), (.ref a)]))
  obtain ⟨T2, h2, X2, e2, W2, st2⟩ := putF X1 hx hZ hown (host := "") (Or.inl (own_g hw 39 rfl)) Via.refl e1 F_queue EX (Or.inr ⟨(own_g hw 40 rfl), rfl, hnm⟩) (own_g hw 27 rfl) (ty := (.object "java/lang/String")) (by decide) rfl rfl (g := (mkF m 6 #[.val (.ref a), .val (.ref p1), .val (.ref p2), .val (.long p3), .second, .val (.ref p4), .val (.ref p5), .val (.int p6)] [(.ref p1), (.ref a)])) rfl rfl (hb hby d6_6)
  refine own_step st2 ?_
  have F2 := Fld.same W2 F_queue
  have N2 := Fr.snoc X2 N0 ge
  have Z2 : n0 ≤ h2.size := by rw [W2.size]; exact Z0
  have SZ2 : h0.size ≤ h2.size := by rw [W2.size]; exact (Nat.le_refl h0.size)
  show own_Ends p e below F (T2.setTop (mkF m 9 #[.val (.ref a), .val (.ref p1), .val (.ref p2), .val (.long p3), .second, .val (.ref p4), .val (.ref p5), .val (.int p6)] []))
  refine own_step (fun _ k => XS.aloadN X2.here hx rfl (hb hby d6_9) rfl rfl k) ?_
  show own_Ends p e below F (T2.setTop (mkF m 10 #[.val (.ref a), .val (.ref p1), .val (.ref p2), .val (.long p3), .second, .val (.ref p4), .val (.ref p5), .val (.int p6)] [(.ref a)]))
  refine own_step (fun _ k => XS.aloadN X2.here hx rfl (hb hby d6_10) rfl rfl k) ?_
  show own_Ends p e below F (T2.setTop (mkF m 11 #[.val (.ref a), .val (.ref p1), .val (.ref p2), .val (.long p3), .second, .val (.ref p4), .val (.ref p5), .val (.int p6)] [(.ref p2), (.ref a)]))
  obtain ⟨T3, h3, X3, e3, W3, st3⟩ := putF X2 hx hZ hown (host := "") (Or.inl (own_g hw 41 rfl)) Via.refl e2 (Fld.other W2 F_id (Or.inr (slot_ne (t := (.object "java/lang/String")) (t' := (.object "java/lang/String")) (Or.inr (own_g hw 42 rfl)) (Or.inr (own_g hw 40 rfl)) (by decide) (by decide) (by decide)))) (EX.wr W2) (Or.inr ⟨(own_g hw 42 rfl), rfl, hnm⟩) (own_g hw 27 rfl) (ty := (.object "java/lang/String")) (by decide) rfl rfl (g := (mkF m 11 #[.val (.ref a), .val (.ref p1), .val (.ref p2), .val (.long p3), .second, .val (.ref p4), .val (.ref p5), .val (.int p6)] [(.ref p2), (.ref a)])) rfl rfl (hb hby d6_11)
  refine own_step st3 ?_
  have F3 := Fld.same W3 (Fld.other W2 F_id (Or.inr (slot_ne (t := (.object "java/lang/String")) (t' := (.object "java/lang/String")) (Or.inr (own_g hw 42 rfl)) (Or.inr (own_g hw 40 rfl)) (by decide) (by decide) (by decide))))
  have N3 := Fr.snoc X3 N2 ge
  have Z3 : n0 ≤ h3.size := by rw [W3.size]; exact Z2
  have SZ3 : h0.size ≤ h3.size := by rw [W3.size]; exact SZ2
  show own_Ends p e below F (T3.setTop (mkF m 14 #[.val (.ref a), .val (.ref p1), .val (.ref p2), .val (.long p3), .second, .val (.ref p4), .val (.ref p5), .val (.int p6)] []))
  refine own_step (fun _ k => XS.aloadN X3.here hx rfl (hb hby d6_14) rfl rfl k) ?_
  show own_Ends p e below F (T3.setTop (mkF m 15 #[.val (.ref a), .val (.ref p1), .val (.ref p2), .val (.long p3), .second, .val (.ref p4), .val (.ref p5), .val (.int p6)] [(.ref a)]))
  refine own_step (fun _ k => XS.lloadN X3.here hx rfl (hb hby d6_15) rfl k) ?_
  show own_Ends p e below F (T3.setTop (mkF m 16 #[.val (.ref a), .val (.ref p1), .val (.ref p2), .val (.long p3), .second, .val (.ref p4), .val (.ref p5), .val (.int p6)] [(.long p3), (.ref a)]))
  obtain ⟨T4, h4, X4, e4, W4, st4⟩ := putF X3 hx hZ hown (host := "") (Or.inl (own_g hw 43 rfl)) Via.refl e3 (Fld.other W3 (Fld.other W2 F_dueAtMillis (Or.inr (slot_ne (t := .long) (t' := (.object "java/lang/String")) (Or.inr (own_g hw 44 rfl)) (Or.inr (own_g hw 40 rfl)) (by decide) (by decide) (by decide)))) (Or.inr (slot_ne (t := .long) (t' := (.object "java/lang/String")) (Or.inr (own_g hw 44 rfl)) (Or.inr (own_g hw 42 rfl)) (by decide) (by decide) (by decide)))) ((EX.wr W2).wr W3) (Or.inr ⟨(own_g hw 44 rfl), rfl, hnm⟩) (own_g hw 27 rfl) (ty := .long) (by decide) rfl rfl (g := (mkF m 16 #[.val (.ref a), .val (.ref p1), .val (.ref p2), .val (.long p3), .second, .val (.ref p4), .val (.ref p5), .val (.int p6)] [(.long p3), (.ref a)])) rfl rfl (hb hby d6_16)
  refine own_step st4 ?_
  have F4 := Fld.same W4 (Fld.other W3 (Fld.other W2 F_dueAtMillis (Or.inr (slot_ne (t := .long) (t' := (.object "java/lang/String")) (Or.inr (own_g hw 44 rfl)) (Or.inr (own_g hw 40 rfl)) (by decide) (by decide) (by decide)))) (Or.inr (slot_ne (t := .long) (t' := (.object "java/lang/String")) (Or.inr (own_g hw 44 rfl)) (Or.inr (own_g hw 42 rfl)) (by decide) (by decide) (by decide))))
  have N4 := Fr.snoc X4 N3 ge
  have Z4 : n0 ≤ h4.size := by rw [W4.size]; exact Z3
  have SZ4 : h0.size ≤ h4.size := by rw [W4.size]; exact SZ3
  show own_Ends p e below F (T4.setTop (mkF m 19 #[.val (.ref a), .val (.ref p1), .val (.ref p2), .val (.long p3), .second, .val (.ref p4), .val (.ref p5), .val (.int p6)] []))
  refine own_step (fun _ k => XS.aloadN X4.here hx rfl (hb hby d6_19) rfl rfl k) ?_
  show own_Ends p e below F (T4.setTop (mkF m 20 #[.val (.ref a), .val (.ref p1), .val (.ref p2), .val (.long p3), .second, .val (.ref p4), .val (.ref p5), .val (.int p6)] [(.ref a)]))
  refine own_step (fun _ k => XS.aload X4.here hx rfl (hb hby d6_20) rfl rfl k) ?_
  show own_Ends p e below F (T4.setTop (mkF m 22 #[.val (.ref a), .val (.ref p1), .val (.ref p2), .val (.long p3), .second, .val (.ref p4), .val (.ref p5), .val (.int p6)] [(.ref p4), (.ref a)]))
  obtain ⟨T5, h5, X5, e5, W5, st5⟩ := putF X4 hx hZ hown (host := "") (Or.inl (own_g hw 45 rfl)) Via.refl e4 (Fld.other W4 (Fld.other W3 (Fld.other W2 F_payload (Or.inr (slot_ne (t := (.object "java/lang/String")) (t' := (.object "java/lang/String")) (Or.inr (own_g hw 46 rfl)) (Or.inr (own_g hw 40 rfl)) (by decide) (by decide) (by decide)))) (Or.inr (slot_ne (t := (.object "java/lang/String")) (t' := (.object "java/lang/String")) (Or.inr (own_g hw 46 rfl)) (Or.inr (own_g hw 42 rfl)) (by decide) (by decide) (by decide)))) (Or.inr (slot_ne (t := (.object "java/lang/String")) (t' := .long) (Or.inr (own_g hw 46 rfl)) (Or.inr (own_g hw 44 rfl)) (by decide) (by decide) (by decide)))) (((EX.wr W2).wr W3).wr W4) (Or.inr ⟨(own_g hw 46 rfl), rfl, hnm⟩) (own_g hw 27 rfl) (ty := (.object "java/lang/String")) (by decide) rfl rfl (g := (mkF m 22 #[.val (.ref a), .val (.ref p1), .val (.ref p2), .val (.long p3), .second, .val (.ref p4), .val (.ref p5), .val (.int p6)] [(.ref p4), (.ref a)])) rfl rfl (hb hby d6_22)
  refine own_step st5 ?_
  have F5 := Fld.same W5 (Fld.other W4 (Fld.other W3 (Fld.other W2 F_payload (Or.inr (slot_ne (t := (.object "java/lang/String")) (t' := (.object "java/lang/String")) (Or.inr (own_g hw 46 rfl)) (Or.inr (own_g hw 40 rfl)) (by decide) (by decide) (by decide)))) (Or.inr (slot_ne (t := (.object "java/lang/String")) (t' := (.object "java/lang/String")) (Or.inr (own_g hw 46 rfl)) (Or.inr (own_g hw 42 rfl)) (by decide) (by decide) (by decide)))) (Or.inr (slot_ne (t := (.object "java/lang/String")) (t' := .long) (Or.inr (own_g hw 46 rfl)) (Or.inr (own_g hw 44 rfl)) (by decide) (by decide) (by decide))))
  have N5 := Fr.snoc X5 N4 ge
  have Z5 : n0 ≤ h5.size := by rw [W5.size]; exact Z4
  have SZ5 : h0.size ≤ h5.size := by rw [W5.size]; exact SZ4
  show own_Ends p e below F (T5.setTop (mkF m 25 #[.val (.ref a), .val (.ref p1), .val (.ref p2), .val (.long p3), .second, .val (.ref p4), .val (.ref p5), .val (.int p6)] []))
  refine own_step (fun _ k => XS.aloadN X5.here hx rfl (hb hby d6_25) rfl rfl k) ?_
  show own_Ends p e below F (T5.setTop (mkF m 26 #[.val (.ref a), .val (.ref p1), .val (.ref p2), .val (.long p3), .second, .val (.ref p4), .val (.ref p5), .val (.int p6)] [(.ref a)]))
  refine own_step (fun _ k => XS.aload X5.here hx rfl (hb hby d6_26) rfl rfl k) ?_
  show own_Ends p e below F (T5.setTop (mkF m 28 #[.val (.ref a), .val (.ref p1), .val (.ref p2), .val (.long p3), .second, .val (.ref p4), .val (.ref p5), .val (.int p6)] [(.ref p5), (.ref a)]))
  obtain ⟨T6, h6, X6, e6, W6, st6⟩ := putF X5 hx hZ hown (host := "") (Or.inl (own_g hw 47 rfl)) Via.refl e5 (Fld.other W5 (Fld.other W4 (Fld.other W3 (Fld.other W2 F_state (Or.inr (slot_ne (t := (.object "com/example/clock3600/clock3600/queue/TaskState")) (t' := (.object "java/lang/String")) (Or.inr (own_g hw 48 rfl)) (Or.inr (own_g hw 40 rfl)) (by decide) (by decide) (by decide)))) (Or.inr (slot_ne (t := (.object "com/example/clock3600/clock3600/queue/TaskState")) (t' := (.object "java/lang/String")) (Or.inr (own_g hw 48 rfl)) (Or.inr (own_g hw 42 rfl)) (by decide) (by decide) (by decide)))) (Or.inr (slot_ne (t := (.object "com/example/clock3600/clock3600/queue/TaskState")) (t' := .long) (Or.inr (own_g hw 48 rfl)) (Or.inr (own_g hw 44 rfl)) (by decide) (by decide) (by decide)))) (Or.inr (slot_ne (t := (.object "com/example/clock3600/clock3600/queue/TaskState")) (t' := (.object "java/lang/String")) (Or.inr (own_g hw 48 rfl)) (Or.inr (own_g hw 46 rfl)) (by decide) (by decide) (by decide)))) ((((EX.wr W2).wr W3).wr W4).wr W5) (Or.inr ⟨(own_g hw 48 rfl), rfl, hnm⟩) (own_g hw 27 rfl) (ty := (.object "com/example/clock3600/clock3600/queue/TaskState")) (by decide) rfl rfl (g := (mkF m 28 #[.val (.ref a), .val (.ref p1), .val (.ref p2), .val (.long p3), .second, .val (.ref p4), .val (.ref p5), .val (.int p6)] [(.ref p5), (.ref a)])) rfl rfl (hb hby d6_28)
  refine own_step st6 ?_
  have F6 := Fld.same W6 (Fld.other W5 (Fld.other W4 (Fld.other W3 (Fld.other W2 F_state (Or.inr (slot_ne (t := (.object "com/example/clock3600/clock3600/queue/TaskState")) (t' := (.object "java/lang/String")) (Or.inr (own_g hw 48 rfl)) (Or.inr (own_g hw 40 rfl)) (by decide) (by decide) (by decide)))) (Or.inr (slot_ne (t := (.object "com/example/clock3600/clock3600/queue/TaskState")) (t' := (.object "java/lang/String")) (Or.inr (own_g hw 48 rfl)) (Or.inr (own_g hw 42 rfl)) (by decide) (by decide) (by decide)))) (Or.inr (slot_ne (t := (.object "com/example/clock3600/clock3600/queue/TaskState")) (t' := .long) (Or.inr (own_g hw 48 rfl)) (Or.inr (own_g hw 44 rfl)) (by decide) (by decide) (by decide)))) (Or.inr (slot_ne (t := (.object "com/example/clock3600/clock3600/queue/TaskState")) (t' := (.object "java/lang/String")) (Or.inr (own_g hw 48 rfl)) (Or.inr (own_g hw 46 rfl)) (by decide) (by decide) (by decide))))
  have N6 := Fr.snoc X6 N5 ge
  have Z6 : n0 ≤ h6.size := by rw [W6.size]; exact Z5
  have SZ6 : h0.size ≤ h6.size := by rw [W6.size]; exact SZ5
  show own_Ends p e below F (T6.setTop (mkF m 31 #[.val (.ref a), .val (.ref p1), .val (.ref p2), .val (.long p3), .second, .val (.ref p4), .val (.ref p5), .val (.int p6)] []))
  refine own_step (fun _ k => XS.aloadN X6.here hx rfl (hb hby d6_31) rfl rfl k) ?_
  show own_Ends p e below F (T6.setTop (mkF m 32 #[.val (.ref a), .val (.ref p1), .val (.ref p2), .val (.long p3), .second, .val (.ref p4), .val (.ref p5), .val (.int p6)] [(.ref a)]))
  refine own_step (fun _ k => XS.iload X6.here hx rfl (hb hby d6_32) rfl k) ?_
  show own_Ends p e below F (T6.setTop (mkF m 34 #[.val (.ref a), .val (.ref p1), .val (.ref p2), .val (.long p3), .second, .val (.ref p4), .val (.ref p5), .val (.int p6)] [(.int p6), (.ref a)]))
  obtain ⟨T7, h7, X7, e7, W7, st7⟩ := putF X6 hx hZ hown (host := "") (Or.inl (own_g hw 49 rfl)) Via.refl e6 (Fld.other W6 (Fld.other W5 (Fld.other W4 (Fld.other W3 (Fld.other W2 F_attempts (Or.inr (slot_ne (t := .int) (t' := (.object "java/lang/String")) (Or.inr (own_g hw 50 rfl)) (Or.inr (own_g hw 40 rfl)) (by decide) (by decide) (by decide)))) (Or.inr (slot_ne (t := .int) (t' := (.object "java/lang/String")) (Or.inr (own_g hw 50 rfl)) (Or.inr (own_g hw 42 rfl)) (by decide) (by decide) (by decide)))) (Or.inr (slot_ne (t := .int) (t' := .long) (Or.inr (own_g hw 50 rfl)) (Or.inr (own_g hw 44 rfl)) (by decide) (by decide) (by decide)))) (Or.inr (slot_ne (t := .int) (t' := (.object "java/lang/String")) (Or.inr (own_g hw 50 rfl)) (Or.inr (own_g hw 46 rfl)) (by decide) (by decide) (by decide)))) (Or.inr (slot_ne (t := .int) (t' := (.object "com/example/clock3600/clock3600/queue/TaskState")) (Or.inr (own_g hw 50 rfl)) (Or.inr (own_g hw 48 rfl)) (by decide) (by decide) (by decide)))) (((((EX.wr W2).wr W3).wr W4).wr W5).wr W6) (Or.inr ⟨(own_g hw 50 rfl), rfl, hnm⟩) (own_g hw 27 rfl) (ty := .int) (by decide) rfl rfl (g := (mkF m 34 #[.val (.ref a), .val (.ref p1), .val (.ref p2), .val (.long p3), .second, .val (.ref p4), .val (.ref p5), .val (.int p6)] [(.int p6), (.ref a)])) rfl rfl (hb hby d6_34)
  refine own_step st7 ?_
  have F7 := Fld.same W7 (Fld.other W6 (Fld.other W5 (Fld.other W4 (Fld.other W3 (Fld.other W2 F_attempts (Or.inr (slot_ne (t := .int) (t' := (.object "java/lang/String")) (Or.inr (own_g hw 50 rfl)) (Or.inr (own_g hw 40 rfl)) (by decide) (by decide) (by decide)))) (Or.inr (slot_ne (t := .int) (t' := (.object "java/lang/String")) (Or.inr (own_g hw 50 rfl)) (Or.inr (own_g hw 42 rfl)) (by decide) (by decide) (by decide)))) (Or.inr (slot_ne (t := .int) (t' := .long) (Or.inr (own_g hw 50 rfl)) (Or.inr (own_g hw 44 rfl)) (by decide) (by decide) (by decide)))) (Or.inr (slot_ne (t := .int) (t' := (.object "java/lang/String")) (Or.inr (own_g hw 50 rfl)) (Or.inr (own_g hw 46 rfl)) (by decide) (by decide) (by decide)))) (Or.inr (slot_ne (t := .int) (t' := (.object "com/example/clock3600/clock3600/queue/TaskState")) (Or.inr (own_g hw 50 rfl)) (Or.inr (own_g hw 48 rfl)) (by decide) (by decide) (by decide))))
  have N7 := Fr.snoc X7 N6 ge
  have Z7 : n0 ≤ h7.size := by rw [W7.size]; exact Z6
  have SZ7 : h0.size ≤ h7.size := by rw [W7.size]; exact SZ6
  show own_Ends p e below F (T7.setTop (mkF m 37 #[.val (.ref a), .val (.ref p1), .val (.ref p2), .val (.long p3), .second, .val (.ref p4), .val (.ref p5), .val (.int p6)] []))
  rw [hF]
  exact own_ret X7 (v := none) (fun _ => rfl) Bd.notSynchronized (fun fs hr => X7.returnOut hx Bd.returns (hb hby d6_37) hr) (by decide) (by decide) (by rw [e7]; exact ⟨rfl, N7, ((Keep.wr (Keep.wr (Keep.wr (Keep.wr (Keep.wr (Keep.wr (Keep.refl _ _) W2 (Or.inl (List.mem_of_getElem? (i := 0) rfl))) W3 (Or.inl (List.mem_of_getElem? (i := 0) rfl))) W4 (Or.inl (List.mem_of_getElem? (i := 0) rfl))) W5 (Or.inl (List.mem_of_getElem? (i := 0) rfl))) W6 (Or.inl (List.mem_of_getElem? (i := 0) rfl))) W7 (Or.inl (List.mem_of_getElem? (i := 0) rfl))) : Keep h0 h7 [a]), ((((((EX.wr W2).wr W3).wr W4).wr W5).wr W6).wr W7), (Fld.other W7 (Fld.other W6 (Fld.other W5 (Fld.other W4 (Fld.other W3 F2 (Or.inr (slot_ne (t := (.object "java/lang/String")) (t' := (.object "java/lang/String")) (Or.inr (own_g hw 40 rfl)) (Or.inr (own_g hw 42 rfl)) (by decide) (by decide) (by decide)))) (Or.inr (slot_ne (t := (.object "java/lang/String")) (t' := .long) (Or.inr (own_g hw 40 rfl)) (Or.inr (own_g hw 44 rfl)) (by decide) (by decide) (by decide)))) (Or.inr (slot_ne (t := (.object "java/lang/String")) (t' := (.object "java/lang/String")) (Or.inr (own_g hw 40 rfl)) (Or.inr (own_g hw 46 rfl)) (by decide) (by decide) (by decide)))) (Or.inr (slot_ne (t := (.object "java/lang/String")) (t' := (.object "com/example/clock3600/clock3600/queue/TaskState")) (Or.inr (own_g hw 40 rfl)) (Or.inr (own_g hw 48 rfl)) (by decide) (by decide) (by decide)))) (Or.inr (slot_ne (t := (.object "java/lang/String")) (t' := .int) (Or.inr (own_g hw 40 rfl)) (Or.inr (own_g hw 50 rfl)) (by decide) (by decide) (by decide)))), (Fld.other W7 (Fld.other W6 (Fld.other W5 (Fld.other W4 F3 (Or.inr (slot_ne (t := (.object "java/lang/String")) (t' := .long) (Or.inr (own_g hw 42 rfl)) (Or.inr (own_g hw 44 rfl)) (by decide) (by decide) (by decide)))) (Or.inr (slot_ne (t := (.object "java/lang/String")) (t' := (.object "java/lang/String")) (Or.inr (own_g hw 42 rfl)) (Or.inr (own_g hw 46 rfl)) (by decide) (by decide) (by decide)))) (Or.inr (slot_ne (t := (.object "java/lang/String")) (t' := (.object "com/example/clock3600/clock3600/queue/TaskState")) (Or.inr (own_g hw 42 rfl)) (Or.inr (own_g hw 48 rfl)) (by decide) (by decide) (by decide)))) (Or.inr (slot_ne (t := (.object "java/lang/String")) (t' := .int) (Or.inr (own_g hw 42 rfl)) (Or.inr (own_g hw 50 rfl)) (by decide) (by decide) (by decide)))), (Fld.other W7 (Fld.other W6 (Fld.other W5 F4 (Or.inr (slot_ne (t := .long) (t' := (.object "java/lang/String")) (Or.inr (own_g hw 44 rfl)) (Or.inr (own_g hw 46 rfl)) (by decide) (by decide) (by decide)))) (Or.inr (slot_ne (t := .long) (t' := (.object "com/example/clock3600/clock3600/queue/TaskState")) (Or.inr (own_g hw 44 rfl)) (Or.inr (own_g hw 48 rfl)) (by decide) (by decide) (by decide)))) (Or.inr (slot_ne (t := .long) (t' := .int) (Or.inr (own_g hw 44 rfl)) (Or.inr (own_g hw 50 rfl)) (by decide) (by decide) (by decide)))), (Fld.other W7 (Fld.other W6 F5 (Or.inr (slot_ne (t := (.object "java/lang/String")) (t' := (.object "com/example/clock3600/clock3600/queue/TaskState")) (Or.inr (own_g hw 46 rfl)) (Or.inr (own_g hw 48 rfl)) (by decide) (by decide) (by decide)))) (Or.inr (slot_ne (t := (.object "java/lang/String")) (t' := .int) (Or.inr (own_g hw 46 rfl)) (Or.inr (own_g hw 50 rfl)) (by decide) (by decide) (by decide)))), (Fld.other W7 F6 (Or.inr (slot_ne (t := (.object "com/example/clock3600/clock3600/queue/TaskState")) (t' := .int) (Or.inr (own_g hw 48 rfl)) (Or.inr (own_g hw 50 rfl)) (by decide) (by decide) (by decide)))), F7⟩)

theorem d7_0 : decode prog_16_method_8_code 0 = .ok (.aload_n 0, 1) := by decide +kernel
theorem d7_1 : decode prog_16_method_8_code 1 = .ok (.aload_n 1, 1) := by decide +kernel
theorem d7_2 : decode prog_16_method_8_code 2 = .ok (.if_acmp .ne 5, 3) := by decide +kernel
theorem d7_5 : decode prog_16_method_8_code 5 = .ok (.iconst 1, 1) := by decide +kernel
theorem d7_6 : decode prog_16_method_8_code 6 = .ok (.ireturn, 1) := by decide +kernel
theorem ef_rm7a (m : MethodId) (x0 : Addr) (x1 : Addr) : entryFrame m #[(.ref x0), (.ref x1)] 3 = mkF m 0 #[.val (.ref x0), .val (.ref x1), .unset] [] := by first | (simp [entryFrame, mkF, argsToLocals, Value.category, maxLocals]; done) | rfl
def Q7a (Z : State) (a : Addr) (h0 : Heap) (n0 : Nat) (v : Option Value) (h : Heap) (L : List Loc) : Prop := v = some (.int 1) ∧ Fr n0 L ∧ h = h0
set_option maxRecDepth 65536 in
set_option maxHeartbeats 40000000 in
theorem rm7a (l : Launch) (Z : State) (a0 : Array Value) (hw : ∀ d ∈ tables_1, d.before a0 Z = true) (ws : List Jvm.Cond) (a : Addr) (h0 : Heap) (n0 : Nat) (Z0 : n0 ≤ h0.size)  :
    MetFree l (⟨"com/example/clock3600/clock3600/queue/QueuedTask", "equals", "(Ljava/lang/Object;)Z"⟩ : MethodName) (head1 (Jvm.Cond.code (⟨"com/example/clock3600/clock3600/queue/QueuedTask", "equals", "(Ljava/lang/Object;)Z"⟩ : MethodName) prog_16_method_8_code 3 (some .boolean) :: ws) ({ frames := 0, cells := 0, slots := 0, locals := 0 } : Room)) (fun ar U => ar = #[(.ref a), (.ref a)] ∧ Z.Warmed39 U.vm ∧ U.heap = h0) (fun _ _ _ _ _ => True) (fun _ U o U' => ∃ v L, o = .returned v ∧ Q7a Z a h0 n0 v U'.heap L ∧ FrameEnd U o U' L ({ frames := 0, cells := 0, slots := 0, locals := 0 } : Room).cells ({ frames := 0, cells := 0, slots := 0, locals := 0 } : Room).slots) := by
  refine MetFree.of_bodySF (plainFor_of_name pn_com_example_clock3600_clock3600_queue_QueuedTask) hisR ?_
  intro p e s m args below meth c s₁ Bd hml0 hP hK
  obtain ⟨rfl, hZ, hh⟩ := hP
  have hx := Bd.exec
  have hby := Bd.bytes
  have hml : c.maxLocals = 3 := hml0
  have hown : s.vm.findClass "com/example/clock3600/clock3600/queue/QueuedTask" = some m.cls := findClass_of_methodNamed Bd.named
  have hnm := (name_of_methodNamed Bd.named Bd.method).1
  have X0 : Stand p l e ({ frames := 0, cells := 0, slots := 0, locals := 0 } : Room) s m #[(.ref a), (.ref a)] below meth c s₁ [] 0 0 := Stand.of_body Bd
  have e0 : s₁.heap = h0 := by rw [← hh, Bd.state]; rfl
  have N0 := Fr.nil n0
  obtain ⟨F, hF⟩ : ∃ F, F = own_Fin s (Q7a Z a h0 n0) ({ frames := 0, cells := 0, slots := 0, locals := 0 } : Room).cells ({ frames := 0, cells := 0, slots := 0, locals := 0 } : Room).slots := ⟨_, rfl⟩
  show own_Ends p e below (own_Fin s (Q7a Z a h0 n0) ({ frames := 0, cells := 0, slots := 0, locals := 0 } : Room).cells ({ frames := 0, cells := 0, slots := 0, locals := 0 } : Room).slots) _
  rw [← hF, ef_rm7a m a a]
  show own_Ends p e below F (s₁.setTop (mkF m 0 #[.val (.ref a), .val (.ref a), .unset] []))
  refine own_step (fun _ k => XS.aloadN X0.here hx rfl (hb hby d7_0) rfl rfl k) ?_
  show own_Ends p e below F (s₁.setTop (mkF m 1 #[.val (.ref a), .val (.ref a), .unset] [(.ref a)]))
  refine own_step (fun _ k => XS.aloadN X0.here hx rfl (hb hby d7_1) rfl rfl k) ?_
  show own_Ends p e below F (s₁.setTop (mkF m 2 #[.val (.ref a), .val (.ref a), .unset] [(.ref a), (.ref a)]))
  refine own_step (fun _ k => Jvm.RoadKit.acmp (below := below) (g := (mkF m 2 #[.val (.ref a), .val (.ref a), .unset] [(.ref a), (.ref a)])) X0 hx rfl rfl rfl (pc0 := 2) (pc' := 5) (same := true) rfl (hb hby d7_2) rfl (decide_eq_true rfl) (by decide) (by decide) k) ?_
  show own_Ends p e below F (s₁.setTop (mkF m 5 #[.val (.ref a), .val (.ref a), .unset] []))
  refine own_step (fun _ k => XS.iconst X0.here hx rfl (hb hby d7_5) k) ?_
  show own_Ends p e below F (s₁.setTop (mkF m 6 #[.val (.ref a), .val (.ref a), .unset] [(.int (1 : Int32))]))
  rw [hF]
  exact own_ret X0 (v := (some (.int (nar .boolean (1 : Int32))))) (fun h => by rw [Bd.returns] at h; cases h) Bd.notSynchronized (fun fs hr => retN X0 hx (t := .boolean) Bd.returns (by simp) (hb hby d7_6) hr) (by decide) (by decide) (by rw [e0]; exact ⟨rfl, N0, rfl⟩)

theorem d7_7 : decode prog_16_method_8_code 7 = .ok (.aload_n 1, 1) := by decide +kernel
theorem d7_8 : decode prog_16_method_8_code 8 = .ok (.instanceof 8, 3) := by decide +kernel
theorem d7_11 : decode prog_16_method_8_code 11 = .ok (.ifCond .ne 5, 3) := by decide +kernel
theorem d7_14 : decode prog_16_method_8_code 14 = .ok (.iconst 0, 1) := by decide +kernel
theorem d7_15 : decode prog_16_method_8_code 15 = .ok (.ireturn, 1) := by decide +kernel
theorem ef_rm7b (m : MethodId) (x0 : Addr) : entryFrame m #[(.ref x0), .null] 3 = mkF m 0 #[.val (.ref x0), .val .null, .unset] [] := by first | (simp [entryFrame, mkF, argsToLocals, Value.category, maxLocals]; done) | rfl
def Q7b (Z : State) (a : Addr) (h0 : Heap) (n0 : Nat) (v : Option Value) (h : Heap) (L : List Loc) : Prop := v = some (.int 0) ∧ Fr n0 L ∧ h = h0
set_option maxRecDepth 65536 in
set_option maxHeartbeats 40000000 in
theorem rm7b (l : Launch) (Z : State) (a0 : Array Value) (hw : ∀ d ∈ tables_1, d.before a0 Z = true) (ws : List Jvm.Cond) (a : Addr) (h0 : Heap) (n0 : Nat) (Z0 : n0 ≤ h0.size)  :
    MetFree l (⟨"com/example/clock3600/clock3600/queue/QueuedTask", "equals", "(Ljava/lang/Object;)Z"⟩ : MethodName) (head1 (Jvm.Cond.code (⟨"com/example/clock3600/clock3600/queue/QueuedTask", "equals", "(Ljava/lang/Object;)Z"⟩ : MethodName) prog_16_method_8_code 3 (some .boolean) :: ws) ({ frames := 0, cells := 0, slots := 0, locals := 0 } : Room)) (fun ar U => ar = #[(.ref a), .null] ∧ Z.Warmed39 U.vm ∧ U.heap = h0) (fun _ _ _ _ _ => True) (fun _ U o U' => ∃ v L, o = .returned v ∧ Q7b Z a h0 n0 v U'.heap L ∧ FrameEnd U o U' L ({ frames := 0, cells := 0, slots := 0, locals := 0 } : Room).cells ({ frames := 0, cells := 0, slots := 0, locals := 0 } : Room).slots) := by
  refine MetFree.of_bodySF (plainFor_of_name pn_com_example_clock3600_clock3600_queue_QueuedTask) hisR ?_
  intro p e s m args below meth c s₁ Bd hml0 hP hK
  obtain ⟨rfl, hZ, hh⟩ := hP
  have hx := Bd.exec
  have hby := Bd.bytes
  have hml : c.maxLocals = 3 := hml0
  have hown : s.vm.findClass "com/example/clock3600/clock3600/queue/QueuedTask" = some m.cls := findClass_of_methodNamed Bd.named
  have hnm := (name_of_methodNamed Bd.named Bd.method).1
  have X0 : Stand p l e ({ frames := 0, cells := 0, slots := 0, locals := 0 } : Room) s m #[(.ref a), .null] below meth c s₁ [] 0 0 := Stand.of_body Bd
  have e0 : s₁.heap = h0 := by rw [← hh, Bd.state]; rfl
  have N0 := Fr.nil n0
  obtain ⟨F, hF⟩ : ∃ F, F = own_Fin s (Q7b Z a h0 n0) ({ frames := 0, cells := 0, slots := 0, locals := 0 } : Room).cells ({ frames := 0, cells := 0, slots := 0, locals := 0 } : Room).slots := ⟨_, rfl⟩
  show own_Ends p e below (own_Fin s (Q7b Z a h0 n0) ({ frames := 0, cells := 0, slots := 0, locals := 0 } : Room).cells ({ frames := 0, cells := 0, slots := 0, locals := 0 } : Room).slots) _
  rw [← hF, ef_rm7b m a]
  show own_Ends p e below F (s₁.setTop (mkF m 0 #[.val (.ref a), .val .null, .unset] []))
  refine own_step (fun _ k => XS.aloadN X0.here hx rfl (hb hby d7_0) rfl rfl k) ?_
  show own_Ends p e below F (s₁.setTop (mkF m 1 #[.val (.ref a), .val .null, .unset] [(.ref a)]))
  refine own_step (fun _ k => XS.aloadN X0.here hx rfl (hb hby d7_1) rfl rfl k) ?_
  show own_Ends p e below F (s₁.setTop (mkF m 2 #[.val (.ref a), .val .null, .unset] [.null, (.ref a)]))
  refine own_step (fun _ k => Jvm.RoadKit.acmp (below := below) (g := (mkF m 2 #[.val (.ref a), .val .null, .unset] [.null, (.ref a)])) X0 hx rfl rfl rfl (pc0 := 2) (pc' := 7) (same := false) rfl (hb hby d7_2) rfl (decide_eq_false nofun) (by decide) (by decide) k) ?_
  show own_Ends p e below F (s₁.setTop (mkF m 7 #[.val (.ref a), .val .null, .unset] []))
  refine own_step (fun _ k => XS.aloadN X0.here hx rfl (hb hby d7_7) rfl rfl k) ?_
  show own_Ends p e below F (s₁.setTop (mkF m 8 #[.val (.ref a), .val .null, .unset] [.null]))
  refine own_step (X0.instanceofNull hx (g := (mkF m 8 #[.val (.ref a), .val .null, .unset] [.null])) rfl rfl (hb hby d7_8)) ?_
  show own_Ends p e below F (s₁.setTop (mkF m 11 #[.val (.ref a), .val .null, .unset] [(.int (0 : Int32))]))
  refine own_step (fun _ k => XS.ifNo X0.here hx rfl (hb hby d7_11) rfl ((if0 _ _).trans (teq (by decide : (0 : Int32) = (0 : Int32))).2) k) ?_
  show own_Ends p e below F (s₁.setTop (mkF m 14 #[.val (.ref a), .val .null, .unset] []))
  refine own_step (fun _ k => XS.iconst X0.here hx rfl (hb hby d7_14) k) ?_
  show own_Ends p e below F (s₁.setTop (mkF m 15 #[.val (.ref a), .val .null, .unset] [(.int (0 : Int32))]))
  rw [hF]
  exact own_ret X0 (v := (some (.int (nar .boolean (0 : Int32))))) (fun h => by rw [Bd.returns] at h; cases h) Bd.notSynchronized (fun fs hr => retN X0 hx (t := .boolean) Bd.returns (by simp) (hb hby d7_15) hr) (by decide) (by decide) (by rw [e0]; exact ⟨rfl, N0, rfl⟩)

theorem ef_rm7c (m : MethodId) (x0 : Addr) (x1 : Addr) : entryFrame m #[(.ref x0), (.ref x1)] 3 = mkF m 0 #[.val (.ref x0), .val (.ref x1), .unset] [] := by first | (simp [entryFrame, mkF, argsToLocals, Value.category, maxLocals]; done) | rfl
def Q7c (Z : State) (a b : Addr) (h0 : Heap) (n0 : Nat) (v : Option Value) (h : Heap) (L : List Loc) : Prop := v = some (.int 0) ∧ Fr n0 L ∧ h = h0
set_option maxRecDepth 65536 in
set_option maxHeartbeats 40000000 in
theorem rm7c (l : Launch) (Z : State) (a0 : Array Value) (hw : ∀ d ∈ tables_1, d.before a0 Z = true) (ws : List Jvm.Cond) (a b : Addr) (h0 : Heap) (n0 : Nat) (Z0 : n0 ≤ h0.size) (EB : Exa Z h0 b "java/lang/String") (ne : a ≠ b) :
    MetFree l (⟨"com/example/clock3600/clock3600/queue/QueuedTask", "equals", "(Ljava/lang/Object;)Z"⟩ : MethodName) (head1 (Jvm.Cond.code (⟨"com/example/clock3600/clock3600/queue/QueuedTask", "equals", "(Ljava/lang/Object;)Z"⟩ : MethodName) prog_16_method_8_code 3 (some .boolean) :: ws) ({ frames := 0, cells := 0, slots := 0, locals := 0 } : Room)) (fun ar U => ar = #[(.ref a), (.ref b)] ∧ Z.Warmed39 U.vm ∧ U.heap = h0) (fun _ _ _ _ _ => True) (fun _ U o U' => ∃ v L, o = .returned v ∧ Q7c Z a b h0 n0 v U'.heap L ∧ FrameEnd U o U' L ({ frames := 0, cells := 0, slots := 0, locals := 0 } : Room).cells ({ frames := 0, cells := 0, slots := 0, locals := 0 } : Room).slots) := by
  refine MetFree.of_bodySF (plainFor_of_name pn_com_example_clock3600_clock3600_queue_QueuedTask) hisR ?_
  intro p e s m args below meth c s₁ Bd hml0 hP hK
  obtain ⟨rfl, hZ, hh⟩ := hP
  have hx := Bd.exec
  have hby := Bd.bytes
  have hml : c.maxLocals = 3 := hml0
  have hown : s.vm.findClass "com/example/clock3600/clock3600/queue/QueuedTask" = some m.cls := findClass_of_methodNamed Bd.named
  have hnm := (name_of_methodNamed Bd.named Bd.method).1
  have X0 : Stand p l e ({ frames := 0, cells := 0, slots := 0, locals := 0 } : Room) s m #[(.ref a), (.ref b)] below meth c s₁ [] 0 0 := Stand.of_body Bd
  have e0 : s₁.heap = h0 := by rw [← hh, Bd.state]; rfl
  have N0 := Fr.nil n0
  obtain ⟨F, hF⟩ : ∃ F, F = own_Fin s (Q7c Z a b h0 n0) ({ frames := 0, cells := 0, slots := 0, locals := 0 } : Room).cells ({ frames := 0, cells := 0, slots := 0, locals := 0 } : Room).slots := ⟨_, rfl⟩
  show own_Ends p e below (own_Fin s (Q7c Z a b h0 n0) ({ frames := 0, cells := 0, slots := 0, locals := 0 } : Room).cells ({ frames := 0, cells := 0, slots := 0, locals := 0 } : Room).slots) _
  rw [← hF, ef_rm7c m a b]
  show own_Ends p e below F (s₁.setTop (mkF m 0 #[.val (.ref a), .val (.ref b), .unset] []))
  refine own_step (fun _ k => XS.aloadN X0.here hx rfl (hb hby d7_0) rfl rfl k) ?_
  show own_Ends p e below F (s₁.setTop (mkF m 1 #[.val (.ref a), .val (.ref b), .unset] [(.ref a)]))
  refine own_step (fun _ k => XS.aloadN X0.here hx rfl (hb hby d7_1) rfl rfl k) ?_
  show own_Ends p e below F (s₁.setTop (mkF m 2 #[.val (.ref a), .val (.ref b), .unset] [(.ref b), (.ref a)]))
  refine own_step (fun _ k => Jvm.RoadKit.acmp (below := below) (g := (mkF m 2 #[.val (.ref a), .val (.ref b), .unset] [(.ref b), (.ref a)])) X0 hx rfl rfl rfl (pc0 := 2) (pc' := 7) (same := false) rfl (hb hby d7_2) rfl (decide_eq_false fun q => ne (Value.ref.inj q)) (by decide) (by decide) k) ?_
  show own_Ends p e below F (s₁.setTop (mkF m 7 #[.val (.ref a), .val (.ref b), .unset] []))
  refine own_step (fun _ k => XS.aloadN X0.here hx rfl (hb hby d7_7) rfl rfl k) ?_
  show own_Ends p e below F (s₁.setTop (mkF m 8 #[.val (.ref a), .val (.ref b), .unset] [(.ref b)]))
  obtain ⟨T1, X1, e1, st1⟩ := instNo X0 hx hZ hown (own_g hw 56 rfl) e0 EB (own_no (own_g hw 72 rfl) (own_g hw 73 rfl) (own_g hw 27 rfl) (by decide) (by decide)) (g := (mkF m 8 #[.val (.ref a), .val (.ref b), .unset] [(.ref b)])) rfl rfl (hb hby d7_8)
  refine own_step st1 ?_
  show own_Ends p e below F (T1.setTop (mkF m 11 #[.val (.ref a), .val (.ref b), .unset] [(.int (0 : Int32))]))
  refine own_step (fun _ k => XS.ifNo X1.here hx rfl (hb hby d7_11) rfl ((if0 _ _).trans (teq (by decide : (0 : Int32) = (0 : Int32))).2) k) ?_
  show own_Ends p e below F (T1.setTop (mkF m 14 #[.val (.ref a), .val (.ref b), .unset] []))
  refine own_step (fun _ k => XS.iconst X1.here hx rfl (hb hby d7_14) k) ?_
  show own_Ends p e below F (T1.setTop (mkF m 15 #[.val (.ref a), .val (.ref b), .unset] [(.int (0 : Int32))]))
  rw [hF]
  exact own_ret X1 (v := (some (.int (nar .boolean (0 : Int32))))) (fun h => by rw [Bd.returns] at h; cases h) Bd.notSynchronized (fun fs hr => retN X1 hx (t := .boolean) Bd.returns (by simp) (hb hby d7_15) hr) (by decide) (by decide) (by rw [e1]; exact ⟨rfl, N0, rfl⟩)

def own_qeq (da db : Int64) (ta tb : Int32) (qa qb ia ib ya yb : List Int32) (ga gb : Addr) : Int32 :=
  if da = db then (if ta = tb then (if own_eqv qa qb = 0 then 0 else if own_eqv ia ib = 0 then 0 else if own_eqv ya yb = 0 then 0 else if (Value.ref ga) = .ref gb then 1 else 0) else 0) else 0
theorem d7_16 : decode prog_16_method_8_code 16 = .ok (.aload_n 1, 1) := by decide +kernel
theorem d7_17 : decode prog_16_method_8_code 17 = .ok (.checkcast 8, 3) := by decide +kernel
theorem d7_20 : decode prog_16_method_8_code 20 = .ok (.astore_n 2, 1) := by decide +kernel
theorem d7_21 : decode prog_16_method_8_code 21 = .ok (.aload_n 0, 1) := by decide +kernel
theorem d7_22 : decode prog_16_method_8_code 22 = .ok (.getfield 16, 3) := by decide +kernel
theorem d7_25 : decode prog_16_method_8_code 25 = .ok (.aload_n 2, 1) := by decide +kernel
theorem d7_26 : decode prog_16_method_8_code 26 = .ok (.getfield 16, 3) := by decide +kernel
theorem d7_29 : decode prog_16_method_8_code 29 = .ok (.lcmp, 1) := by decide +kernel
theorem d7_30 : decode prog_16_method_8_code 30 = .ok (.ifCond .ne 71, 3) := by decide +kernel
theorem d7_33 : decode prog_16_method_8_code 33 = .ok (.aload_n 0, 1) := by decide +kernel
theorem d7_34 : decode prog_16_method_8_code 34 = .ok (.getfield 27, 3) := by decide +kernel
theorem d7_37 : decode prog_16_method_8_code 37 = .ok (.aload_n 2, 1) := by decide +kernel
theorem d7_38 : decode prog_16_method_8_code 38 = .ok (.getfield 27, 3) := by decide +kernel
theorem d7_41 : decode prog_16_method_8_code 41 = .ok (.if_icmp .ne 60, 3) := by decide +kernel
theorem d7_44 : decode prog_16_method_8_code 44 = .ok (.aload_n 0, 1) := by decide +kernel
theorem d7_45 : decode prog_16_method_8_code 45 = .ok (.getfield 7, 3) := by decide +kernel
theorem d7_48 : decode prog_16_method_8_code 48 = .ok (.aload_n 2, 1) := by decide +kernel
theorem d7_49 : decode prog_16_method_8_code 49 = .ok (.getfield 7, 3) := by decide +kernel
theorem d7_52 : decode prog_16_method_8_code 52 = .ok (.invokevirtual 31, 3) := by decide +kernel
theorem d7_55 : decode prog_16_method_8_code 55 = .ok (.ifCond .eq 46, 3) := by decide +kernel
theorem d7_58 : decode prog_16_method_8_code 58 = .ok (.aload_n 0, 1) := by decide +kernel
theorem d7_59 : decode prog_16_method_8_code 59 = .ok (.getfield 13, 3) := by decide +kernel
theorem d7_62 : decode prog_16_method_8_code 62 = .ok (.aload_n 2, 1) := by decide +kernel
theorem d7_63 : decode prog_16_method_8_code 63 = .ok (.getfield 13, 3) := by decide +kernel
theorem d7_66 : decode prog_16_method_8_code 66 = .ok (.invokevirtual 31, 3) := by decide +kernel
theorem d7_69 : decode prog_16_method_8_code 69 = .ok (.ifCond .eq 32, 3) := by decide +kernel
theorem d7_72 : decode prog_16_method_8_code 72 = .ok (.aload_n 0, 1) := by decide +kernel
theorem d7_73 : decode prog_16_method_8_code 73 = .ok (.getfield 20, 3) := by decide +kernel
theorem d7_76 : decode prog_16_method_8_code 76 = .ok (.aload_n 2, 1) := by decide +kernel
theorem d7_77 : decode prog_16_method_8_code 77 = .ok (.getfield 20, 3) := by decide +kernel
theorem d7_80 : decode prog_16_method_8_code 80 = .ok (.invokevirtual 31, 3) := by decide +kernel
theorem d7_83 : decode prog_16_method_8_code 83 = .ok (.ifCond .eq 18, 3) := by decide +kernel
theorem d7_86 : decode prog_16_method_8_code 86 = .ok (.aload_n 0, 1) := by decide +kernel
theorem d7_87 : decode prog_16_method_8_code 87 = .ok (.getfield 23, 3) := by decide +kernel
theorem d7_90 : decode prog_16_method_8_code 90 = .ok (.aload_n 2, 1) := by decide +kernel
theorem d7_91 : decode prog_16_method_8_code 91 = .ok (.getfield 23, 3) := by decide +kernel
theorem d7_94 : decode prog_16_method_8_code 94 = .ok (.if_acmp .ne 7, 3) := by decide +kernel
theorem d7_97 : decode prog_16_method_8_code 97 = .ok (.iconst 1, 1) := by decide +kernel
theorem d7_98 : decode prog_16_method_8_code 98 = .ok (.goto 4, 3) := by decide +kernel
theorem d7_101 : decode prog_16_method_8_code 101 = .ok (.iconst 0, 1) := by decide +kernel
theorem d7_102 : decode prog_16_method_8_code 102 = .ok (.ireturn, 1) := by decide +kernel
theorem pd__28Ljava_2flang_2fObject_3b_29Z : parseMethodDescriptor "(Ljava/lang/Object;)Z" = some ⟨[(.object "java/lang/Object")], some .boolean⟩ := by decide +kernel
theorem ef_rm7d (m : MethodId) (x0 : Addr) (x1 : Addr) : entryFrame m #[(.ref x0), (.ref x1)] 3 = mkF m 0 #[.val (.ref x0), .val (.ref x1), .unset] [] := by first | (simp [entryFrame, mkF, argsToLocals, Value.category, maxLocals]; done) | rfl
def Q7d (Z : State) (a b : Addr) (da db : Int64) (ta tb : Int32) (sqa sqb sia sib sya syb : Addr) (qa qb ia ib ya yb : List Int32) (ga gb : Addr) (Bq : Nat) (zc : Int32) (h0 : Heap) (n0 : Nat) (v : Option Value) (h : Heap) (L : List Loc) : Prop := v = some (.int (own_qeq da db ta tb qa qb ia ib ya yb ga gb)) ∧ Fr n0 L ∧ h = h0
set_option maxRecDepth 65536 in
set_option maxHeartbeats 40000000 in
theorem rm7d (l : Launch) (Z : State) (a0 : Array Value) (hw : ∀ d ∈ tables_1, d.before a0 Z = true) (ws : List Jvm.Cond) (a b : Addr) (da db : Int64) (ta tb : Int32) (sqa sqb sia sib sya syb : Addr) (qa qb ia ib ya yb : List Int32) (ga gb : Addr) (Bq : Nat) (zc : Int32) (h0 : Heap) (n0 : Nat) (Z0 : n0 ≤ h0.size) (EB : Exa Z h0 b "com/example/clock3600/clock3600/queue/QueuedTask") (ne : a ≠ b) (SC : Sta Z h0 "java/lang/String" "COMPACT_STRINGS" "Z" (.int zc)) (hz : ¬ zc = 0) (Fda : Fld Z h0 a "com/example/clock3600/clock3600/queue/QueuedTask" "dueAtMillis" "J" (.long da)) (Fta : Fld Z h0 a "com/example/clock3600/clock3600/queue/QueuedTask" "attempts" "I" (.int ta)) (Fqa : Fld Z h0 a "com/example/clock3600/clock3600/queue/QueuedTask" "queue" "Ljava/lang/String;" (.ref sqa)) (Tqa : own_Str Z h0 Bq sqa qa) (Lqa : qa.length ≤ 4000) (Fia : Fld Z h0 a "com/example/clock3600/clock3600/queue/QueuedTask" "id" "Ljava/lang/String;" (.ref sia)) (Tia : own_Str Z h0 Bq sia ia) (Lia : ia.length ≤ 4000) (Fya : Fld Z h0 a "com/example/clock3600/clock3600/queue/QueuedTask" "payload" "Ljava/lang/String;" (.ref sya)) (Tya : own_Str Z h0 Bq sya ya) (Lya : ya.length ≤ 4000) (Fga : Fld Z h0 a "com/example/clock3600/clock3600/queue/QueuedTask" "state" "Lcom/example/clock3600/clock3600/queue/TaskState;" (.ref ga)) (Fdb : Fld Z h0 b "com/example/clock3600/clock3600/queue/QueuedTask" "dueAtMillis" "J" (.long db)) (Ftb : Fld Z h0 b "com/example/clock3600/clock3600/queue/QueuedTask" "attempts" "I" (.int tb)) (Fqb : Fld Z h0 b "com/example/clock3600/clock3600/queue/QueuedTask" "queue" "Ljava/lang/String;" (.ref sqb)) (Tqb : own_Str Z h0 Bq sqb qb) (Lqb : qb.length ≤ 4000) (Fib : Fld Z h0 b "com/example/clock3600/clock3600/queue/QueuedTask" "id" "Ljava/lang/String;" (.ref sib)) (Tib : own_Str Z h0 Bq sib ib) (Lib : ib.length ≤ 4000) (Fyb : Fld Z h0 b "com/example/clock3600/clock3600/queue/QueuedTask" "payload" "Ljava/lang/String;" (.ref syb)) (Tyb : own_Str Z h0 Bq syb yb) (Lyb : yb.length ≤ 4000) (Fgb : Fld Z h0 b "com/example/clock3600/clock3600/queue/QueuedTask" "state" "Lcom/example/clock3600/clock3600/queue/TaskState;" (.ref gb)) :
    MetFree l (⟨"com/example/clock3600/clock3600/queue/QueuedTask", "equals", "(Ljava/lang/Object;)Z"⟩ : MethodName) (head1 (Jvm.Cond.code (⟨"com/example/clock3600/clock3600/queue/QueuedTask", "equals", "(Ljava/lang/Object;)Z"⟩ : MethodName) prog_16_method_8_code 3 (some .boolean) :: ws) ({ frames := 2, cells := 0, slots := 0, locals := 28 } : Room)) (fun ar U => ar = #[(.ref a), (.ref b)] ∧ Z.Warmed39 U.vm ∧ U.heap = h0) (fun _ _ _ _ _ => True) (fun _ U o U' => ∃ v L, o = .returned v ∧ Q7d Z a b da db ta tb sqa sqb sia sib sya syb qa qb ia ib ya yb ga gb Bq zc h0 n0 v U'.heap L ∧ FrameEnd U o U' L ({ frames := 2, cells := 0, slots := 0, locals := 28 } : Room).cells ({ frames := 2, cells := 0, slots := 0, locals := 28 } : Room).slots) := by
  refine MetFree.of_bodySF (plainFor_of_name pn_com_example_clock3600_clock3600_queue_QueuedTask) hisR ?_
  intro p e s m args below meth c s₁ Bd hml0 hP hK
  obtain ⟨rfl, hZ, hh⟩ := hP
  have hx := Bd.exec
  have hby := Bd.bytes
  have hml : c.maxLocals = 3 := hml0
  have hown : s.vm.findClass "com/example/clock3600/clock3600/queue/QueuedTask" = some m.cls := findClass_of_methodNamed Bd.named
  have hnm := (name_of_methodNamed Bd.named Bd.method).1
  have X0 : Stand p l e ({ frames := 2, cells := 0, slots := 0, locals := 28 } : Room) s m #[(.ref a), (.ref b)] below meth c s₁ [] 0 0 := Stand.of_body Bd
  have e0 : s₁.heap = h0 := by rw [← hh, Bd.state]; rfl
  have N0 := Fr.nil n0
  obtain ⟨F, hF⟩ : ∃ F, F = own_Fin s (Q7d Z a b da db ta tb sqa sqb sia sib sya syb qa qb ia ib ya yb ga gb Bq zc h0 n0) ({ frames := 2, cells := 0, slots := 0, locals := 28 } : Room).cells ({ frames := 2, cells := 0, slots := 0, locals := 28 } : Room).slots := ⟨_, rfl⟩
  show own_Ends p e below (own_Fin s (Q7d Z a b da db ta tb sqa sqb sia sib sya syb qa qb ia ib ya yb ga gb Bq zc h0 n0) ({ frames := 2, cells := 0, slots := 0, locals := 28 } : Room).cells ({ frames := 2, cells := 0, slots := 0, locals := 28 } : Room).slots) _
  rw [← hF, ef_rm7d m a b]
  show own_Ends p e below F (s₁.setTop (mkF m 0 #[.val (.ref a), .val (.ref b), .unset] []))
  refine own_step (fun _ k => XS.aloadN X0.here hx rfl (hb hby d7_0) rfl rfl k) ?_
  show own_Ends p e below F (s₁.setTop (mkF m 1 #[.val (.ref a), .val (.ref b), .unset] [(.ref a)]))
  refine own_step (fun _ k => XS.aloadN X0.here hx rfl (hb hby d7_1) rfl rfl k) ?_
  show own_Ends p e below F (s₁.setTop (mkF m 2 #[.val (.ref a), .val (.ref b), .unset] [(.ref b), (.ref a)]))
  refine own_step (fun _ k => Jvm.RoadKit.acmp (below := below) (g := (mkF m 2 #[.val (.ref a), .val (.ref b), .unset] [(.ref b), (.ref a)])) X0 hx rfl rfl rfl (pc0 := 2) (pc' := 7) (same := false) rfl (hb hby d7_2) rfl (decide_eq_false fun q => ne (Value.ref.inj q)) (by decide) (by decide) k) ?_
  show own_Ends p e below F (s₁.setTop (mkF m 7 #[.val (.ref a), .val (.ref b), .unset] []))
  refine own_step (fun _ k => XS.aloadN X0.here hx rfl (hb hby d7_7) rfl rfl k) ?_
  show own_Ends p e below F (s₁.setTop (mkF m 8 #[.val (.ref a), .val (.ref b), .unset] [(.ref b)]))
  obtain ⟨T1, X1, e1, st1⟩ := instY X0 hx hZ hown (own_g hw 56 rfl) e0 (Ins.self EB) (g := (mkF m 8 #[.val (.ref a), .val (.ref b), .unset] [(.ref b)])) rfl rfl (hb hby d7_8)
  refine own_step st1 ?_
  show own_Ends p e below F (T1.setTop (mkF m 11 #[.val (.ref a), .val (.ref b), .unset] [(.int (1 : Int32))]))
  refine own_step (fun _ k => XS.ifYes X1.here hx rfl (pc0 := 11) (pc' := 16) rfl (hb hby d7_11) rfl ((if0 _ _).trans (feq (by decide : ¬ ((1 : Int32) = (0 : Int32)))).2) (by decide) (by decide) k) ?_
  show own_Ends p e below F (T1.setTop (mkF m 16 #[.val (.ref a), .val (.ref b), .unset] []))
  refine own_step (fun _ k => XS.aloadN X1.here hx rfl (hb hby d7_16) rfl rfl k) ?_
  show own_Ends p e below F (T1.setTop (mkF m 17 #[.val (.ref a), .val (.ref b), .unset] [(.ref b)]))
  obtain ⟨T2, X2, e2, st2⟩ := castY X1 hx hZ hown (own_g hw 56 rfl) e1 (Ins.self EB) (g := (mkF m 17 #[.val (.ref a), .val (.ref b), .unset] [(.ref b)])) rfl rfl (hb hby d7_17)
  refine own_step st2 ?_
  show own_Ends p e below F (T2.setTop (mkF m 20 #[.val (.ref a), .val (.ref b), .unset] [(.ref b)]))
  refine own_step (fun _ k => XS.astoreN X2.here hx rfl (hb hby d7_20) rfl rfl (l' := #[.val (.ref a), .val (.ref b), .val (.ref b)]) rfl k) ?_
  show own_Ends p e below F (T2.setTop (mkF m 21 #[.val (.ref a), .val (.ref b), .val (.ref b)] []))
  refine own_step (fun _ k => XS.aloadN X2.here hx rfl (hb hby d7_21) rfl rfl k) ?_
  show own_Ends p e below F (T2.setTop (mkF m 22 #[.val (.ref a), .val (.ref b), .val (.ref b)] [(.ref a)]))
  obtain ⟨T3, X3, e3, st3⟩ := getF X2 hx hZ hown (host := "") (Or.inl (own_g hw 43 rfl)) Via.refl e2 Fda (g := (mkF m 22 #[.val (.ref a), .val (.ref b), .val (.ref b)] [(.ref a)])) rfl rfl (hb hby d7_22)
  refine own_step st3 ?_
  show own_Ends p e below F (T3.setTop (mkF m 25 #[.val (.ref a), .val (.ref b), .val (.ref b)] [(.long da)]))
  refine own_step (fun _ k => XS.aloadN X3.here hx rfl (hb hby d7_25) rfl rfl k) ?_
  show own_Ends p e below F (T3.setTop (mkF m 26 #[.val (.ref a), .val (.ref b), .val (.ref b)] [(.ref b), (.long da)]))
  obtain ⟨T4, X4, e4, st4⟩ := getF X3 hx hZ hown (host := "") (Or.inl (own_g hw 43 rfl)) Via.refl e3 Fdb (g := (mkF m 26 #[.val (.ref a), .val (.ref b), .val (.ref b)] [(.ref b), (.long da)])) rfl rfl (hb hby d7_26)
  refine own_step st4 ?_
  show own_Ends p e below F (T4.setTop (mkF m 29 #[.val (.ref a), .val (.ref b), .val (.ref b)] [(.long db), (.long da)]))
  refine own_step (fun _ k => XS.lcmp X4.here hx rfl (hb hby d7_29) rfl k) ?_
  show own_Ends p e below F (T4.setTop (mkF m 30 #[.val (.ref a), .val (.ref b), .val (.ref b)] [(.int (lcmpW da db))]))
  by_cases c30_5 : da = db
  · refine own_step (fun _ k => XS.ifNo X4.here hx rfl (hb hby d7_30) rfl ((if0 _ _).trans (teq ((lw_eq _ _).mpr c30_5)).2) k) ?_
    show own_Ends p e below F (T4.setTop (mkF m 33 #[.val (.ref a), .val (.ref b), .val (.ref b)] []))
    refine own_step (fun _ k => XS.aloadN X4.here hx rfl (hb hby d7_33) rfl rfl k) ?_
    show own_Ends p e below F (T4.setTop (mkF m 34 #[.val (.ref a), .val (.ref b), .val (.ref b)] [(.ref a)]))
    obtain ⟨T6, X6, e6, st6⟩ := getF X4 hx hZ hown (host := "") (Or.inl (own_g hw 49 rfl)) Via.refl e4 Fta (g := (mkF m 34 #[.val (.ref a), .val (.ref b), .val (.ref b)] [(.ref a)])) rfl rfl (hb hby d7_34)
    refine own_step st6 ?_
    show own_Ends p e below F (T6.setTop (mkF m 37 #[.val (.ref a), .val (.ref b), .val (.ref b)] [(.int ta)]))
    refine own_step (fun _ k => XS.aloadN X6.here hx rfl (hb hby d7_37) rfl rfl k) ?_
    show own_Ends p e below F (T6.setTop (mkF m 38 #[.val (.ref a), .val (.ref b), .val (.ref b)] [(.ref b), (.int ta)]))
    obtain ⟨T7, X7, e7, st7⟩ := getF X6 hx hZ hown (host := "") (Or.inl (own_g hw 49 rfl)) Via.refl e6 Ftb (g := (mkF m 38 #[.val (.ref a), .val (.ref b), .val (.ref b)] [(.ref b), (.int ta)])) rfl rfl (hb hby d7_38)
    refine own_step st7 ?_
    show own_Ends p e below F (T7.setTop (mkF m 41 #[.val (.ref a), .val (.ref b), .val (.ref b)] [(.int tb), (.int ta)]))
    by_cases c41_8 : ta = tb
    · refine own_step (fun _ k => XS.icmpNo X7.here hx rfl (hb hby d7_41) rfl (teq c41_8).2 k) ?_
      show own_Ends p e below F (T7.setTop (mkF m 44 #[.val (.ref a), .val (.ref b), .val (.ref b)] []))
      refine own_step (fun _ k => XS.aloadN X7.here hx rfl (hb hby d7_44) rfl rfl k) ?_
      show own_Ends p e below F (T7.setTop (mkF m 45 #[.val (.ref a), .val (.ref b), .val (.ref b)] [(.ref a)]))
      obtain ⟨T9, X9, e9, st9⟩ := getF X7 hx hZ hown (host := "") (Or.inl (own_g hw 39 rfl)) Via.refl e7 Fqa (g := (mkF m 45 #[.val (.ref a), .val (.ref b), .val (.ref b)] [(.ref a)])) rfl rfl (hb hby d7_45)
      refine own_step st9 ?_
      show own_Ends p e below F (T9.setTop (mkF m 48 #[.val (.ref a), .val (.ref b), .val (.ref b)] [(.ref sqa)]))
      refine own_step (fun _ k => XS.aloadN X9.here hx rfl (hb hby d7_48) rfl rfl k) ?_
      show own_Ends p e below F (T9.setTop (mkF m 49 #[.val (.ref a), .val (.ref b), .val (.ref b)] [(.ref b), (.ref sqa)]))
      obtain ⟨T10, X10, e10, st10⟩ := getF X9 hx hZ hown (host := "") (Or.inl (own_g hw 39 rfl)) Via.refl e9 Fqb (g := (mkF m 49 #[.val (.ref a), .val (.ref b), .val (.ref b)] [(.ref b), (.ref sqa)])) rfl rfl (hb hby d7_49)
      refine own_step st10 ?_
      show own_Ends p e below F (T10.setTop (mkF m 52 #[.val (.ref a), .val (.ref b), .val (.ref b)] [(.ref sqb), (.ref sqa)]))
      obtain ⟨cq11, kq11, qa11, qb11, qc11⟩ := isOf hZ e10 Tqa.exa
      obtain ⟨_, _, ⟨T11, L11, k11, n11⟩, -, X11, ⟨Lc11, hQ11, l11, y11, z11⟩, st11⟩ := X10.virtualBack hx (y := (⟨"java/lang/String", "equals", "(Ljava/lang/Object;)Z"⟩ : MethodName)) (z := (⟨"java/lang/String", "equals", "(Ljava/lang/Object;)Z"⟩ : MethodName)) hown (mvT hZ (own_g hw 76 rfl)) (mvT hZ (own_g hw 77 rfl)) (notFace_of_selects (args := #[]) (mvT hZ (own_g hw 79 rfl))) (mvT hZ (own_g hw 79 rfl)) (mvT hZ (own_g hw 78 rfl)) (by decide) (own_eqB (W := 0) hZ hw (own_g hw 5 rfl) Tqa Tqb SC hz Lqa Lqb (by decide) (by decide)) qa11 qc11 (g := (mkF m 52 #[.val (.ref a), .val (.ref b), .val (.ref b)] [(.ref sqb), (.ref sqa)])) rfl (by rw [hml]; rfl) (Steps.refl _) (argsL := [(.ref sqb)]) (rest := []) (lenOf pd__28Ljava_2flang_2fObject_3b_29Z rfl) rfl (by show 2 * 0 + _ ≤ _; exact Nat.le_of_eq rfl) (hb hby d7_52) (fun _ _ => ⟨rfl, e10, (by decide : 0 + 0 ≤ _), (by decide : 0 + 0 ≤ _)⟩)
      dsimp only [Pt.U, Pt.locs, Pt.cells, Pt.slots] at X11 l11 y11 z11 st11 hQ11
      subst l11 y11 z11
      obtain ⟨rfl, Nr11, eq11⟩ := hQ11
      have N11 := Fr.app N0 (Nr11 n0)
      refine own_trans st11 ?_
      show own_Ends p e below F (T11.setTop (mkF m 55 #[.val (.ref a), .val (.ref b), .val (.ref b)] [(.int (own_eqv qa qb))]))
      by_cases c55_12 : (own_eqv qa qb) = (0 : Int32)
      · refine own_step (fun _ k => XS.ifYes X11.here hx rfl (pc0 := 55) (pc' := 101) rfl (hb hby d7_55) rfl ((if0 _ _).trans (teq c55_12).1) (by decide) (by decide) k) ?_
        show own_Ends p e below F (T11.setTop (mkF m 101 #[.val (.ref a), .val (.ref b), .val (.ref b)] []))
        refine own_step (fun _ k => XS.iconst X11.here hx rfl (hb hby d7_101) k) ?_
        show own_Ends p e below F (T11.setTop (mkF m 102 #[.val (.ref a), .val (.ref b), .val (.ref b)] [(.int (0 : Int32))]))
        rw [hF]
        exact own_ret X11 (v := (some (.int (nar .boolean (0 : Int32))))) (fun h => by rw [Bd.returns] at h; cases h) Bd.notSynchronized (fun fs hr => retN X11 hx (t := .boolean) Bd.returns (by simp) (hb hby d7_102) hr) (by decide) (by decide) (by rw [eq11]; exact ⟨by simp only [own_qeq, c30_5, c41_8, c55_12, if_true, if_false]; rfl, N11, rfl⟩)
      · refine own_step (fun _ k => XS.ifNo X11.here hx rfl (hb hby d7_55) rfl ((if0 _ _).trans (feq c55_12).1) k) ?_
        show own_Ends p e below F (T11.setTop (mkF m 58 #[.val (.ref a), .val (.ref b), .val (.ref b)] []))
        refine own_step (fun _ k => XS.aloadN X11.here hx rfl (hb hby d7_58) rfl rfl k) ?_
        show own_Ends p e below F (T11.setTop (mkF m 59 #[.val (.ref a), .val (.ref b), .val (.ref b)] [(.ref a)]))
        obtain ⟨T13, X13, e13, st13⟩ := getF X11 hx hZ hown (host := "") (Or.inl (own_g hw 41 rfl)) Via.refl eq11 Fia (g := (mkF m 59 #[.val (.ref a), .val (.ref b), .val (.ref b)] [(.ref a)])) rfl rfl (hb hby d7_59)
        refine own_step st13 ?_
        show own_Ends p e below F (T13.setTop (mkF m 62 #[.val (.ref a), .val (.ref b), .val (.ref b)] [(.ref sia)]))
        refine own_step (fun _ k => XS.aloadN X13.here hx rfl (hb hby d7_62) rfl rfl k) ?_
        show own_Ends p e below F (T13.setTop (mkF m 63 #[.val (.ref a), .val (.ref b), .val (.ref b)] [(.ref b), (.ref sia)]))
        obtain ⟨T14, X14, e14, st14⟩ := getF X13 hx hZ hown (host := "") (Or.inl (own_g hw 41 rfl)) Via.refl e13 Fib (g := (mkF m 63 #[.val (.ref a), .val (.ref b), .val (.ref b)] [(.ref b), (.ref sia)])) rfl rfl (hb hby d7_63)
        refine own_step st14 ?_
        show own_Ends p e below F (T14.setTop (mkF m 66 #[.val (.ref a), .val (.ref b), .val (.ref b)] [(.ref sib), (.ref sia)]))
        obtain ⟨cq15, kq15, qa15, qb15, qc15⟩ := isOf hZ e14 Tia.exa
        obtain ⟨_, _, ⟨T15, L15, k15, n15⟩, -, X15, ⟨Lc15, hQ15, l15, y15, z15⟩, st15⟩ := X14.virtualBack hx (y := (⟨"java/lang/String", "equals", "(Ljava/lang/Object;)Z"⟩ : MethodName)) (z := (⟨"java/lang/String", "equals", "(Ljava/lang/Object;)Z"⟩ : MethodName)) hown (mvT hZ (own_g hw 76 rfl)) (mvT hZ (own_g hw 77 rfl)) (notFace_of_selects (args := #[]) (mvT hZ (own_g hw 79 rfl))) (mvT hZ (own_g hw 79 rfl)) (mvT hZ (own_g hw 78 rfl)) (by decide) (own_eqB (W := 0) hZ hw (own_g hw 5 rfl) Tia Tib SC hz Lia Lib (by decide) (by decide)) qa15 qc15 (g := (mkF m 66 #[.val (.ref a), .val (.ref b), .val (.ref b)] [(.ref sib), (.ref sia)])) rfl (by rw [hml]; rfl) (Steps.refl _) (argsL := [(.ref sib)]) (rest := []) (lenOf pd__28Ljava_2flang_2fObject_3b_29Z rfl) rfl (by show 2 * 0 + _ ≤ _; exact Nat.le_of_eq rfl) (hb hby d7_66) (fun _ _ => ⟨rfl, e14, (by decide : 0 + 0 ≤ _), (by decide : 0 + 0 ≤ _)⟩)
        dsimp only [Pt.U, Pt.locs, Pt.cells, Pt.slots] at X15 l15 y15 z15 st15 hQ15
        subst l15 y15 z15
        obtain ⟨rfl, Nr15, eq15⟩ := hQ15
        have N15 := Fr.app N11 (Nr15 n0)
        refine own_trans st15 ?_
        show own_Ends p e below F (T15.setTop (mkF m 69 #[.val (.ref a), .val (.ref b), .val (.ref b)] [(.int (own_eqv ia ib))]))
        by_cases c69_16 : (own_eqv ia ib) = (0 : Int32)
        · refine own_step (fun _ k => XS.ifYes X15.here hx rfl (pc0 := 69) (pc' := 101) rfl (hb hby d7_69) rfl ((if0 _ _).trans (teq c69_16).1) (by decide) (by decide) k) ?_
          show own_Ends p e below F (T15.setTop (mkF m 101 #[.val (.ref a), .val (.ref b), .val (.ref b)] []))
          refine own_step (fun _ k => XS.iconst X15.here hx rfl (hb hby d7_101) k) ?_
          show own_Ends p e below F (T15.setTop (mkF m 102 #[.val (.ref a), .val (.ref b), .val (.ref b)] [(.int (0 : Int32))]))
          rw [hF]
          exact own_ret X15 (v := (some (.int (nar .boolean (0 : Int32))))) (fun h => by rw [Bd.returns] at h; cases h) Bd.notSynchronized (fun fs hr => retN X15 hx (t := .boolean) Bd.returns (by simp) (hb hby d7_102) hr) (by decide) (by decide) (by rw [eq15]; exact ⟨by simp only [own_qeq, c30_5, c41_8, c55_12, c69_16, if_true, if_false]; rfl, N15, rfl⟩)
        · refine own_step (fun _ k => XS.ifNo X15.here hx rfl (hb hby d7_69) rfl ((if0 _ _).trans (feq c69_16).1) k) ?_
          show own_Ends p e below F (T15.setTop (mkF m 72 #[.val (.ref a), .val (.ref b), .val (.ref b)] []))
          refine own_step (fun _ k => XS.aloadN X15.here hx rfl (hb hby d7_72) rfl rfl k) ?_
          show own_Ends p e below F (T15.setTop (mkF m 73 #[.val (.ref a), .val (.ref b), .val (.ref b)] [(.ref a)]))
          obtain ⟨T17, X17, e17, st17⟩ := getF X15 hx hZ hown (host := "") (Or.inl (own_g hw 45 rfl)) Via.refl eq15 Fya (g := (mkF m 73 #[.val (.ref a), .val (.ref b), .val (.ref b)] [(.ref a)])) rfl rfl (hb hby d7_73)
          refine own_step st17 ?_
          show own_Ends p e below F (T17.setTop (mkF m 76 #[.val (.ref a), .val (.ref b), .val (.ref b)] [(.ref sya)]))
          refine own_step (fun _ k => XS.aloadN X17.here hx rfl (hb hby d7_76) rfl rfl k) ?_
          show own_Ends p e below F (T17.setTop (mkF m 77 #[.val (.ref a), .val (.ref b), .val (.ref b)] [(.ref b), (.ref sya)]))
          obtain ⟨T18, X18, e18, st18⟩ := getF X17 hx hZ hown (host := "") (Or.inl (own_g hw 45 rfl)) Via.refl e17 Fyb (g := (mkF m 77 #[.val (.ref a), .val (.ref b), .val (.ref b)] [(.ref b), (.ref sya)])) rfl rfl (hb hby d7_77)
          refine own_step st18 ?_
          show own_Ends p e below F (T18.setTop (mkF m 80 #[.val (.ref a), .val (.ref b), .val (.ref b)] [(.ref syb), (.ref sya)]))
          obtain ⟨cq19, kq19, qa19, qb19, qc19⟩ := isOf hZ e18 Tya.exa
          obtain ⟨_, _, ⟨T19, L19, k19, n19⟩, -, X19, ⟨Lc19, hQ19, l19, y19, z19⟩, st19⟩ := X18.virtualBack hx (y := (⟨"java/lang/String", "equals", "(Ljava/lang/Object;)Z"⟩ : MethodName)) (z := (⟨"java/lang/String", "equals", "(Ljava/lang/Object;)Z"⟩ : MethodName)) hown (mvT hZ (own_g hw 76 rfl)) (mvT hZ (own_g hw 77 rfl)) (notFace_of_selects (args := #[]) (mvT hZ (own_g hw 79 rfl))) (mvT hZ (own_g hw 79 rfl)) (mvT hZ (own_g hw 78 rfl)) (by decide) (own_eqB (W := 0) hZ hw (own_g hw 5 rfl) Tya Tyb SC hz Lya Lyb (by decide) (by decide)) qa19 qc19 (g := (mkF m 80 #[.val (.ref a), .val (.ref b), .val (.ref b)] [(.ref syb), (.ref sya)])) rfl (by rw [hml]; rfl) (Steps.refl _) (argsL := [(.ref syb)]) (rest := []) (lenOf pd__28Ljava_2flang_2fObject_3b_29Z rfl) rfl (by show 2 * 0 + _ ≤ _; exact Nat.le_of_eq rfl) (hb hby d7_80) (fun _ _ => ⟨rfl, e18, (by decide : 0 + 0 ≤ _), (by decide : 0 + 0 ≤ _)⟩)
          dsimp only [Pt.U, Pt.locs, Pt.cells, Pt.slots] at X19 l19 y19 z19 st19 hQ19
          subst l19 y19 z19
          obtain ⟨rfl, Nr19, eq19⟩ := hQ19
          have N19 := Fr.app N15 (Nr19 n0)
          refine own_trans st19 ?_
          show own_Ends p e below F (T19.setTop (mkF m 83 #[.val (.ref a), .val (.ref b), .val (.ref b)] [(.int (own_eqv ya yb))]))
          by_cases c83_20 : (own_eqv ya yb) = (0 : Int32)
          · refine own_step (fun _ k => XS.ifYes X19.here hx rfl (pc0 := 83) (pc' := 101) rfl (hb hby d7_83) rfl ((if0 _ _).trans (teq c83_20).1) (by decide) (by decide) k) ?_
            show own_Ends p e below F (T19.setTop (mkF m 101 #[.val (.ref a), .val (.ref b), .val (.ref b)] []))
            refine own_step (fun _ k => XS.iconst X19.here hx rfl (hb hby d7_101) k) ?_
            show own_Ends p e below F (T19.setTop (mkF m 102 #[.val (.ref a), .val (.ref b), .val (.ref b)] [(.int (0 : Int32))]))
            rw [hF]
            exact own_ret X19 (v := (some (.int (nar .boolean (0 : Int32))))) (fun h => by rw [Bd.returns] at h; cases h) Bd.notSynchronized (fun fs hr => retN X19 hx (t := .boolean) Bd.returns (by simp) (hb hby d7_102) hr) (by decide) (by decide) (by rw [eq19]; exact ⟨by simp only [own_qeq, c30_5, c41_8, c55_12, c69_16, c83_20, if_true, if_false]; rfl, N19, rfl⟩)
          · refine own_step (fun _ k => XS.ifNo X19.here hx rfl (hb hby d7_83) rfl ((if0 _ _).trans (feq c83_20).1) k) ?_
            show own_Ends p e below F (T19.setTop (mkF m 86 #[.val (.ref a), .val (.ref b), .val (.ref b)] []))
            refine own_step (fun _ k => XS.aloadN X19.here hx rfl (hb hby d7_86) rfl rfl k) ?_
            show own_Ends p e below F (T19.setTop (mkF m 87 #[.val (.ref a), .val (.ref b), .val (.ref b)] [(.ref a)]))
            obtain ⟨T21, X21, e21, st21⟩ := getF X19 hx hZ hown (host := "") (Or.inl (own_g hw 47 rfl)) Via.refl eq19 Fga (g := (mkF m 87 #[.val (.ref a), .val (.ref b), .val (.ref b)] [(.ref a)])) rfl rfl (hb hby d7_87)
            refine own_step st21 ?_
            show own_Ends p e below F (T21.setTop (mkF m 90 #[.val (.ref a), .val (.ref b), .val (.ref b)] [(.ref ga)]))
            refine own_step (fun _ k => XS.aloadN X21.here hx rfl (hb hby d7_90) rfl rfl k) ?_
            show own_Ends p e below F (T21.setTop (mkF m 91 #[.val (.ref a), .val (.ref b), .val (.ref b)] [(.ref b), (.ref ga)]))
            obtain ⟨T22, X22, e22, st22⟩ := getF X21 hx hZ hown (host := "") (Or.inl (own_g hw 47 rfl)) Via.refl e21 Fgb (g := (mkF m 91 #[.val (.ref a), .val (.ref b), .val (.ref b)] [(.ref b), (.ref ga)])) rfl rfl (hb hby d7_91)
            refine own_step st22 ?_
            show own_Ends p e below F (T22.setTop (mkF m 94 #[.val (.ref a), .val (.ref b), .val (.ref b)] [(.ref gb), (.ref ga)]))
            by_cases c94_23 : ((.ref ga) : Value) = (.ref gb)
            · refine own_step (fun _ k => Jvm.RoadKit.acmp (below := below) (g := (mkF m 94 #[.val (.ref a), .val (.ref b), .val (.ref b)] [(.ref gb), (.ref ga)])) X22 hx rfl rfl rfl (pc0 := 94) (pc' := 97) (same := true) rfl (hb hby d7_94) rfl (decide_eq_true c94_23) (by decide) (by decide) k) ?_
              show own_Ends p e below F (T22.setTop (mkF m 97 #[.val (.ref a), .val (.ref b), .val (.ref b)] []))
              refine own_step (fun _ k => XS.iconst X22.here hx rfl (hb hby d7_97) k) ?_
              show own_Ends p e below F (T22.setTop (mkF m 98 #[.val (.ref a), .val (.ref b), .val (.ref b)] [(.int (1 : Int32))]))
              refine own_step (fun _ k => XS.goto X22.here hx rfl (pc0 := 98) (pc' := 102) rfl (hb hby d7_98) (by decide) (by decide) k) ?_
              show own_Ends p e below F (T22.setTop (mkF m 102 #[.val (.ref a), .val (.ref b), .val (.ref b)] [(.int (1 : Int32))]))
              rw [hF]
              exact own_ret X22 (v := (some (.int (nar .boolean (1 : Int32))))) (fun h => by rw [Bd.returns] at h; cases h) Bd.notSynchronized (fun fs hr => retN X22 hx (t := .boolean) Bd.returns (by simp) (hb hby d7_102) hr) (by decide) (by decide) (by rw [e22]; exact ⟨by simp only [own_qeq, c30_5, c41_8, c55_12, c69_16, c83_20, c94_23, if_true, if_false]; rfl, N19, rfl⟩)
            · refine own_step (fun _ k => Jvm.RoadKit.acmp (below := below) (g := (mkF m 94 #[.val (.ref a), .val (.ref b), .val (.ref b)] [(.ref gb), (.ref ga)])) X22 hx rfl rfl rfl (pc0 := 94) (pc' := 101) (same := false) rfl (hb hby d7_94) rfl (decide_eq_false c94_23) (by decide) (by decide) k) ?_
              show own_Ends p e below F (T22.setTop (mkF m 101 #[.val (.ref a), .val (.ref b), .val (.ref b)] []))
              refine own_step (fun _ k => XS.iconst X22.here hx rfl (hb hby d7_101) k) ?_
              show own_Ends p e below F (T22.setTop (mkF m 102 #[.val (.ref a), .val (.ref b), .val (.ref b)] [(.int (0 : Int32))]))
              rw [hF]
              exact own_ret X22 (v := (some (.int (nar .boolean (0 : Int32))))) (fun h => by rw [Bd.returns] at h; cases h) Bd.notSynchronized (fun fs hr => retN X22 hx (t := .boolean) Bd.returns (by simp) (hb hby d7_102) hr) (by decide) (by decide) (by rw [e22]; exact ⟨by simp only [own_qeq, c30_5, c41_8, c55_12, c69_16, c83_20, c94_23, if_true, if_false]; rfl, N19, rfl⟩)
    · refine own_step (fun _ k => XS.icmpYes X7.here hx rfl (pc0 := 41) (pc' := 101) rfl (hb hby d7_41) rfl (feq c41_8).2 (by decide) (by decide) k) ?_
      show own_Ends p e below F (T7.setTop (mkF m 101 #[.val (.ref a), .val (.ref b), .val (.ref b)] []))
      refine own_step (fun _ k => XS.iconst X7.here hx rfl (hb hby d7_101) k) ?_
      show own_Ends p e below F (T7.setTop (mkF m 102 #[.val (.ref a), .val (.ref b), .val (.ref b)] [(.int (0 : Int32))]))
      rw [hF]
      exact own_ret X7 (v := (some (.int (nar .boolean (0 : Int32))))) (fun h => by rw [Bd.returns] at h; cases h) Bd.notSynchronized (fun fs hr => retN X7 hx (t := .boolean) Bd.returns (by simp) (hb hby d7_102) hr) (by decide) (by decide) (by rw [e7]; exact ⟨by simp only [own_qeq, c30_5, c41_8, if_true, if_false]; rfl, N0, rfl⟩)
  · refine own_step (fun _ k => XS.ifYes X4.here hx rfl (pc0 := 30) (pc' := 101) rfl (hb hby d7_30) rfl ((if0 _ _).trans (feq (fun q => c30_5 ((lw_eq _ _).mp q))).2) (by decide) (by decide) k) ?_
    show own_Ends p e below F (T4.setTop (mkF m 101 #[.val (.ref a), .val (.ref b), .val (.ref b)] []))
    refine own_step (fun _ k => XS.iconst X4.here hx rfl (hb hby d7_101) k) ?_
    show own_Ends p e below F (T4.setTop (mkF m 102 #[.val (.ref a), .val (.ref b), .val (.ref b)] [(.int (0 : Int32))]))
    rw [hF]
    exact own_ret X4 (v := (some (.int (nar .boolean (0 : Int32))))) (fun h => by rw [Bd.returns] at h; cases h) Bd.notSynchronized (fun fs hr => retN X4 hx (t := .boolean) Bd.returns (by simp) (hb hby d7_102) hr) (by decide) (by decide) (by rw [e4]; exact ⟨by simp only [own_qeq, c30_5, if_true, if_false]; rfl, N0, rfl⟩)

theorem own_b8 {v x : Int32} (e : v = x &&& (255 : Int32)) : ¬ v < 0 ∧ ¬ (255 : Int32) < v := by
  rw [e]
  have h := c_and x 255 (by decide)
  have e1 : (255 : Int32).toInt = 255 := rfl
  rw [e1] at h
  exact own_rng h
theorem own_b8i {z v x c : Int32} (e : z = if c = (0 : Int32) then x &&& (255 : Int32) else v) (h : ¬ v < 0 ∧ ¬ (255 : Int32) < v) : ¬ z < 0 ∧ ¬ (255 : Int32) < z := by
  subst e
  split
  · exact own_b8 rfl
  · exact h
def own_in3 (x : Int32) : Prop := x = 0 ∨ x = 1 ∨ x = 2
theorem own_in3m (x : Int32) : own_in3 ((x &&& (3 : Int32)) % (3 : Int32)) := by
  rcases own_m3 x with q | q | q | q <;> rw [q]
  · exact Or.inl rfl
  · exact Or.inr (Or.inl rfl)
  · exact Or.inr (Or.inr rfl)
  · exact Or.inl rfl
theorem own_in31 (x : Int32) : own_in3 (x &&& (1 : Int32)) := (and_one x).elim Or.inl (fun q => Or.inr (Or.inl q))
theorem own_in3i {z v x c : Int32} (e : z = if c = (0 : Int32) then x else v) (h : own_in3 v) (k : own_in3 x) : own_in3 z := by
  subst e
  split
  · exact k
  · exact h
theorem own_ifs {α β : Type} [DecidableEq α] (a b : α) (x y : β) : (if a = b then x else y) = if b = a then x else y := by
  by_cases h : a = b
  · rw [if_pos h, if_pos h.symm]
  · rw [if_neg h, if_neg (Ne.symm h)]
theorem own_eqs (c d : List Int32) : own_eqv c d = own_eqv d c := by
  unfold own_eqv
  exact own_ifs c d 1 0
theorem own_sames {l a b l' a' b' : Int32} (h : own_in3 l) (h' : own_in3 l') : own_eqv (own_cs l a b) (own_cs l' a' b') = own_same l a b l' a' b' := by
  have e10 : ¬ (1 : Int32) = 0 := by decide
  have e20 : ¬ (2 : Int32) = 0 := by decide
  have e21 : ¬ (2 : Int32) = 1 := by decide
  have e01 : ¬ (0 : Int32) = 1 := by decide
  have e02 : ¬ (0 : Int32) = 2 := by decide
  have e12 : ¬ (1 : Int32) = 2 := by decide
  have l01 : (0 : Int32) < 1 := by decide
  have l02 : (0 : Int32) < 2 := by decide
  have l11 : ¬ (1 : Int32) < 1 := by decide
  have l12 : (1 : Int32) < 2 := by decide
  have l21 : ¬ (2 : Int32) < 1 := by decide
  have l22 : ¬ (2 : Int32) < 2 := by decide
  rcases h with rfl | rfl | rfl <;> rcases h' with rfl | rfl | rfl <;> simp only [own_eqv, own_cs, own_same, e10, e20, e21, e01, e02, e12, l01, l02, l11, l12, l21, l22, if_true, if_false, ↓reduceIte]
  all_goals first | rfl | (by_cases g : a = a' <;> by_cases g2 : b = b' <;> simp [g, g2])
theorem own_stv {u v : Int32} {pe re le : Addr} (h : own_in3 u) (h' : own_in3 v) (n1 : pe ≠ re) (n2 : pe ≠ le) (n3 : re ≠ le) : ((Value.ref (own_st u pe re le)) = .ref (own_st v pe re le)) ↔ u = v := by
  have e10 : ¬ (1 : Int32) = 0 := by decide
  have e20 : ¬ (2 : Int32) = 0 := by decide
  have e21 : ¬ (2 : Int32) = 1 := by decide
  have e01 : ¬ (0 : Int32) = 1 := by decide
  have e02 : ¬ (0 : Int32) = 2 := by decide
  have e12 : ¬ (1 : Int32) = 2 := by decide
  have m1 := n1.symm
  have m2 := n2.symm
  have m3 := n3.symm
  rw [Value.ref.injEq]
  rcases h with rfl | rfl | rfl <;> rcases h' with rfl | rfl | rfl <;> simp only [own_st, e10, e20, e21, e01, e02, e12, if_true, if_false, ↓reduceIte, n1, n2, n3, m1, m2, m3, ne_eq, not_false_eq_true]
theorem own_qeqs (da db : Int64) (ta tb : Int32) (qa qb ia ib ya yb : List Int32) (ga gb : Addr) : own_qeq da db ta tb qa qb ia ib ya yb ga gb = own_qeq db da tb ta qb qa ib ia yb ya gb ga := by
  unfold own_qeq
  rw [own_ifs da db, own_ifs ta tb, own_eqs qa qb, own_eqs ia ib, own_eqs ya yb, own_ifs (Value.ref ga) (.ref gb)]
theorem own_main1 {m1 m2 m3 m4 m5 m6 m7 m8 v2 v4 v6 v8 v10 v12 v14 v16 z57 z62 z67 z72 z77 z82 z87 z92 z122 c1 c2 c3 c4 : Int32} {d d' : Int64} {t t' : Int32} {pe re le : Addr}
    (e2 : v2 = (m1 &&& (3 : Int32)) % (3 : Int32)) (e4 : v4 = m2 &&& (1 : Int32)) (e6 : v6 = m3 &&& (1 : Int32))
    (h57 : z57 = if c1 = (0 : Int32) then (m4 &&& (3 : Int32)) % (3 : Int32) else v2) (h72 : z72 = if c2 = (0 : Int32) then m5 &&& (1 : Int32) else v4) (h82 : z82 = if c3 = (0 : Int32) then m6 &&& (1 : Int32) else v6)
    (e16 : v16 = (m7 &&& (3 : Int32)) % (3 : Int32)) (h92 : z92 = if c4 = (0 : Int32) then (m8 &&& (3 : Int32)) % (3 : Int32) else v16)
    (h : z122 = (if d = d' then (if t = t' then (if (own_same v2 v8 v10 z57 z62 z67) = (0 : Int32) then (0 : Int32) else (if (own_same v4 v12 (0 : Int32) z72 z77 (0 : Int32)) = (0 : Int32) then (0 : Int32) else (if (own_same v6 v14 (0 : Int32) z82 z87 (0 : Int32)) = (0 : Int32) then (0 : Int32) else (if v16 = z92 then (1 : Int32) else (0 : Int32))))) else (0 : Int32)) else (0 : Int32)))
    (hpr : pe ≠ re) (hpl : pe ≠ le) (hrl : re ≠ le) :
    own_qeq d d' t t' (own_cs v2 v8 v10) (own_cs z57 z62 z67) (own_cs v4 v12 (0 : Int32)) (own_cs z72 z77 (0 : Int32)) (own_cs v6 v14 (0 : Int32)) (own_cs z82 z87 (0 : Int32)) (own_st v16 pe re le) (own_st z92 pe re le) = z122 := by
  have i2 : own_in3 v2 := by rw [e2]; exact own_in3m _
  have i4 : own_in3 v4 := by rw [e4]; exact own_in31 _
  have i6 : own_in3 v6 := by rw [e6]; exact own_in31 _
  have i16 : own_in3 v16 := by rw [e16]; exact own_in3m _
  have j1 := own_in3i h57 i2 (own_in3m _)
  have j2 := own_in3i h72 i4 (own_in31 _)
  have j3 := own_in3i h82 i6 (own_in31 _)
  have j4 := own_in3i h92 i16 (own_in3m _)
  rw [h]
  unfold own_qeq
  rw [own_sames i2 j1, own_sames i4 j2, own_sames i6 j3]
  by_cases g : v16 = z92
  · rw [if_pos g, if_pos ((own_stv i16 j4 hpr hpl hrl).mpr g)]
  · rw [if_neg g, if_neg (fun k => g ((own_stv i16 j4 hpr hpl hrl).mp k))]
theorem own_main2 {m1 m2 m3 m4 m5 m6 m7 m8 v2 v4 v6 v8 v10 v12 v14 v16 z57 z62 z67 z72 z77 z82 z87 z92 z122 c1 c2 c3 c4 : Int32} {d d' : Int64} {t t' : Int32} {pe re le : Addr}
    (e2 : v2 = (m1 &&& (3 : Int32)) % (3 : Int32)) (e4 : v4 = m2 &&& (1 : Int32)) (e6 : v6 = m3 &&& (1 : Int32))
    (h57 : z57 = if c1 = (0 : Int32) then (m4 &&& (3 : Int32)) % (3 : Int32) else v2) (h72 : z72 = if c2 = (0 : Int32) then m5 &&& (1 : Int32) else v4) (h82 : z82 = if c3 = (0 : Int32) then m6 &&& (1 : Int32) else v6)
    (e16 : v16 = (m7 &&& (3 : Int32)) % (3 : Int32)) (h92 : z92 = if c4 = (0 : Int32) then (m8 &&& (3 : Int32)) % (3 : Int32) else v16)
    (h : z122 = (if d = d' then (if t = t' then (if (own_same v2 v8 v10 z57 z62 z67) = (0 : Int32) then (0 : Int32) else (if (own_same v4 v12 (0 : Int32) z72 z77 (0 : Int32)) = (0 : Int32) then (0 : Int32) else (if (own_same v6 v14 (0 : Int32) z82 z87 (0 : Int32)) = (0 : Int32) then (0 : Int32) else (if v16 = z92 then (1 : Int32) else (0 : Int32))))) else (0 : Int32)) else (0 : Int32)))
    (hpr : pe ≠ re) (hpl : pe ≠ le) (hrl : re ≠ le) :
    own_qeq d' d t' t (own_cs z57 z62 z67) (own_cs v2 v8 v10) (own_cs z72 z77 (0 : Int32)) (own_cs v4 v12 (0 : Int32)) (own_cs z82 z87 (0 : Int32)) (own_cs v6 v14 (0 : Int32)) (own_st z92 pe re le) (own_st v16 pe re le) = z122 := (own_qeqs _ _ _ _ _ _ _ _ _ _ _ _).trans (own_main1 e2 e4 e6 h57 h72 h82 e16 h92 h hpr hpl hrl)

theorem pd__28III_29Ljava_2flang_2fString_3b : parseMethodDescriptor "(III)Ljava/lang/String;" = some ⟨[.int, .int, .int], some (.object "java/lang/String")⟩ := by decide +kernel
theorem pd__28I_29Lcom_2fexample_2fclock3600_2fclock3600_2fqueue_2fTaskState_3b : parseMethodDescriptor "(I)Lcom/example/clock3600/clock3600/queue/TaskState;" = some ⟨[.int], some (.object "com/example/clock3600/clock3600/queue/TaskState")⟩ := by decide +kernel
theorem pd__28Ljava_2flang_2fString_3bLjava_2flang_2fString_3bJLjava_2flang_2fString_3bLcom_2fexample_2fclock3600_2fclock3600_2fqueue_2fTaskState_3bI_29V : parseMethodDescriptor "(Ljava/lang/String;Ljava/lang/String;JLjava/lang/String;Lcom/example/clock3600/clock3600/queue/TaskState;I)V" = some ⟨[(.object "java/lang/String"), (.object "java/lang/String"), .long, (.object "java/lang/String"), (.object "com/example/clock3600/clock3600/queue/TaskState"), .int], none⟩ := by decide +kernel
theorem pd__28IIIIII_29Z : parseMethodDescriptor "(IIIIII)Z" = some ⟨[.int, .int, .int, .int, .int, .int], some .boolean⟩ := by decide +kernel
theorem ef_rm0 (m : MethodId) (x0 : Int64) (x1 : Int64) (x2 : Int64) (x3 : Int32) (x4 : Int32) (x5 : Int32) : entryFrame m #[(.long x0), (.long x1), (.long x2), (.int x3), (.int x4), (.int x5)] maxLocals = mkF m 0 #[.val (.long x0), .second, .val (.long x1), .second, .val (.long x2), .second, .val (.int x3), .val (.int x4), .val (.int x5), .unset, .unset, .unset, .unset, .unset, .unset, .unset, .unset, .unset, .unset, .unset, .unset, .unset, .unset, .unset, .unset, .unset, .unset, .unset, .unset, .unset, .unset, .unset, .unset, .unset, .unset, .unset, .unset, .unset, .unset, .unset, .unset, .unset] [] := by first | (simp [entryFrame, mkF, argsToLocals, Value.category, maxLocals]; done) | rfl
def Q0 (Z : State) (p1 p2 p3 : Int64) (p4 p5 p6 : Int32) (zc : Int32) (pe re le : Addr) (h0 : Heap) (n0 : Nat) (v : Option Value) (h : Heap) (L : List Loc) : Prop := v = some (.int 1) ∧ Fr n0 L
set_option maxRecDepth 65536 in
set_option maxHeartbeats 40000000 in
theorem rm0 (l : Launch) (Z : State) (a0 : Array Value) (hw : ∀ d ∈ tables_1, d.before a0 Z = true) (ws : List Jvm.Cond) (p1 p2 p3 : Int64) (p4 p5 p6 : Int32) (zc : Int32) (pe re le : Addr) (h0 : Heap) (n0 : Nat) (Z0 : n0 ≤ h0.size) (SC : Sta Z h0 "java/lang/String" "COMPACT_STRINGS" "Z" (.int zc)) (hz : ¬ zc = 0) (Spe : Sta Z h0 "com/example/clock3600/clock3600/queue/TaskState" "PENDING" "Lcom/example/clock3600/clock3600/queue/TaskState;" (.ref pe)) (Sre : Sta Z h0 "com/example/clock3600/clock3600/queue/TaskState" "READY" "Lcom/example/clock3600/clock3600/queue/TaskState;" (.ref re)) (Sle : Sta Z h0 "com/example/clock3600/clock3600/queue/TaskState" "LEASED" "Lcom/example/clock3600/clock3600/queue/TaskState;" (.ref le)) (hpr : pe ≠ re) (hpl : pe ≠ le) (hrl : re ≠ le) :
    MetFree l x (head1 (Jvm.Cond.code x code maxLocals ret :: ws) room_1) (fun ar U => ar = #[(.long p1), (.long p2), (.long p3), (.int p4), (.int p5), (.int p6)] ∧ Z.Warmed39 U.vm ∧ U.heap = h0 ∧ CHv Z own_EL U.vm h0) (fun _ _ _ _ _ => True) (fun _ U o U' => ∃ v L, o = .returned v ∧ Q0 Z p1 p2 p3 p4 p5 p6 zc pe re le h0 n0 v U'.heap L ∧ CHr Z own_EL U.vm U.heap U'.vm U'.heap ∧ ReturnedEndW U o U' L room_1.cells room_1.slots) := by
  refine MetFree.of_bodySF (plainFor_of_name pn_com_example_clock3600_clock3600_queue_QueuedTaskEqualsPinLaw) hisR ?_
  intro p e s m args below meth c s₁ Bd hml0 hP hK
  obtain ⟨rfl, hZ, hh, hH⟩ := hP
  have hx := Bd.exec
  have hby := Bd.bytes
  have hml : c.maxLocals = 42 := hml0
  have hown : s.vm.findClass "com/example/clock3600/clock3600/queue/QueuedTaskEqualsPinLaw" = some m.cls := findClass_of_methodNamed Bd.named
  have hnm := (name_of_methodNamed Bd.named Bd.method).1
  have X0 : Stand p l e room_1 (s.setVm s.vm) m #[(.long p1), (.long p2), (.long p3), (.int p4), (.int p5), (.int p6)] below meth c s₁ [] 0 0 := Stand.of_body Bd
  have e0 : s₁.heap = h0 := by rw [← hh, Bd.state]; rfl
  have N0 := Fr.nil n0
  have hS : s.Since s.vm h0.size := (State.WarmedH.refl s).since _
  have hk := Nat.le_refl h0.size
  have hC0 : CHr Z own_EL s.vm h0 s.vm h0 := CHr.refl hH
  obtain ⟨F, hF⟩ : ∃ F, F = own_FinH Z own_EL s (Q0 Z p1 p2 p3 p4 p5 p6 zc pe re le h0 n0) room_1.cells room_1.slots := ⟨_, rfl⟩
  show own_Ends p e below (own_FinH Z own_EL s (Q0 Z p1 p2 p3 p4 p5 p6 zc pe re le h0 n0) room_1.cells room_1.slots) _
  rw [← hF, ef_rm0 m p1 p2 p3 p4 p5 p6]
  show own_Ends p e below F (s₁.setTop (mkF m 0 #[.val (.long p1), .second, .val (.long p2), .second, .val (.long p3), .second, .val (.int p4), .val (.int p5), .val (.int p6), .unset, .unset, .unset, .unset, .unset, .unset, .unset, .unset, .unset, .unset, .unset, .unset, .unset, .unset, .unset, .unset, .unset, .unset, .unset, .unset, .unset, .unset, .unset, .unset, .unset, .unset, .unset, .unset, .unset, .unset, .unset, .unset, .unset] []))
  obtain ⟨A1, hA1⟩ : ∃ z : Array Slot, z = #[.val (.long p1), .second, .val (.long p2), .second, .val (.long p3), .second, .val (.int p4), .val (.int p5), .val (.int p6), .unset, .unset, .unset, .unset, .unset, .unset, .unset, .unset, .unset, .unset, .unset, .unset, .unset, .unset, .unset, .unset, .unset, .unset, .unset, .unset, .unset, .unset, .unset, .unset, .unset, .unset, .unset, .unset, .unset, .unset, .unset, .unset, .unset] := ⟨_, rfl⟩
  rw [← hA1]
  show own_Ends p e below F (s₁.setTop (mkF m 0 A1 []))
  refine own_step (fun _ k => XS.iload X0.here hx rfl (hb hby at_0) (by rw [hA1]; rfl) k) ?_
  show own_Ends p e below F (s₁.setTop (mkF m 2 A1 [(.int p6)]))
  refine own_step (fun _ k => XS.iconst X0.here hx rfl (hb hby at_2) k) ?_
  show own_Ends p e below F (s₁.setTop (mkF m 3 A1 [(.int (3 : Int32)), (.int p6)]))
  refine own_step (fun _ k => XS.iand X0.here hx rfl (hb hby at_3) rfl k) ?_
  show own_Ends p e below F (s₁.setTop (mkF m 4 A1 [(.int (p6 &&& (3 : Int32)))]))
  refine own_step (fun _ k => XS.iconst X0.here hx rfl (hb hby at_4) k) ?_
  show own_Ends p e below F (s₁.setTop (mkF m 5 A1 [(.int (3 : Int32)), (.int (p6 &&& (3 : Int32)))]))
  refine own_step (fun _ k => iremM (below := below) X0 hx rfl (hb hby at_5) rfl (by decide) k) ?_
  show own_Ends p e below F (s₁.setTop (mkF m 6 A1 [(.int ((p6 &&& (3 : Int32)) % (3 : Int32)))]))
  obtain ⟨v2, ev2⟩ : ∃ z : Int32, z = ((p6 &&& (3 : Int32)) % (3 : Int32)) := ⟨_, rfl⟩
  rw [← ev2]
  show own_Ends p e below F (s₁.setTop (mkF m 6 A1 [(.int v2)]))
  obtain ⟨A3, hA3⟩ : ∃ z : Array Slot, z = #[.val (.long p1), .second, .val (.long p2), .second, .val (.long p3), .second, .val (.int p4), .val (.int p5), .val (.int p6), .val (.int v2), .unset, .unset, .unset, .unset, .unset, .unset, .unset, .unset, .unset, .unset, .unset, .unset, .unset, .unset, .unset, .unset, .unset, .unset, .unset, .unset, .unset, .unset, .unset, .unset, .unset, .unset, .unset, .unset, .unset, .unset, .unset, .unset] := ⟨_, rfl⟩
  refine own_step (fun _ k => XS.istore X0.here hx rfl (hb hby at_6) rfl (l' := A3) (by rw [hA1, hA3]; exact rfl) k) ?_
  show own_Ends p e below F (s₁.setTop (mkF m 8 A3 []))
  refine own_step (fun _ k => XS.iload X0.here hx rfl (hb hby at_8) (by rw [hA3]; rfl) k) ?_
  show own_Ends p e below F (s₁.setTop (mkF m 10 A3 [(.int p6)]))
  refine own_step (fun _ k => XS.iconst X0.here hx rfl (hb hby at_10) k) ?_
  show own_Ends p e below F (s₁.setTop (mkF m 11 A3 [(.int (2 : Int32)), (.int p6)]))
  refine own_step (fun _ k => XS.iushr X0.here hx rfl (hb hby at_11) rfl k) ?_
  show own_Ends p e below F (s₁.setTop (mkF m 12 A3 [(.int ((p6.toUInt32 >>> ((2 : Int32) &&& 31).toUInt32).toInt32))]))
  refine own_step (fun _ k => XS.iconst X0.here hx rfl (hb hby at_12) k) ?_
  show own_Ends p e below F (s₁.setTop (mkF m 13 A3 [(.int (1 : Int32)), (.int ((p6.toUInt32 >>> ((2 : Int32) &&& 31).toUInt32).toInt32))]))
  refine own_step (fun _ k => XS.iand X0.here hx rfl (hb hby at_13) rfl k) ?_
  show own_Ends p e below F (s₁.setTop (mkF m 14 A3 [(.int (((p6.toUInt32 >>> ((2 : Int32) &&& 31).toUInt32).toInt32) &&& (1 : Int32)))]))
  obtain ⟨v4, ev4⟩ : ∃ z : Int32, z = (((p6.toUInt32 >>> ((2 : Int32) &&& 31).toUInt32).toInt32) &&& (1 : Int32)) := ⟨_, rfl⟩
  rw [← ev4]
  show own_Ends p e below F (s₁.setTop (mkF m 14 A3 [(.int v4)]))
  obtain ⟨A5, hA5⟩ : ∃ z : Array Slot, z = #[.val (.long p1), .second, .val (.long p2), .second, .val (.long p3), .second, .val (.int p4), .val (.int p5), .val (.int p6), .val (.int v2), .val (.int v4), .unset, .unset, .unset, .unset, .unset, .unset, .unset, .unset, .unset, .unset, .unset, .unset, .unset, .unset, .unset, .unset, .unset, .unset, .unset, .unset, .unset, .unset, .unset, .unset, .unset, .unset, .unset, .unset, .unset, .unset, .unset] := ⟨_, rfl⟩
  refine own_step (fun _ k => XS.istore X0.here hx rfl (hb hby at_14) rfl (l' := A5) (by rw [hA3, hA5]; exact rfl) k) ?_
  show own_Ends p e below F (s₁.setTop (mkF m 16 A5 []))
  refine own_step (fun _ k => XS.iload X0.here hx rfl (hb hby at_16) (by rw [hA5]; rfl) k) ?_
  show own_Ends p e below F (s₁.setTop (mkF m 18 A5 [(.int p6)]))
  refine own_step (fun _ k => XS.iconst X0.here hx rfl (hb hby at_18) k) ?_
  show own_Ends p e below F (s₁.setTop (mkF m 19 A5 [(.int (3 : Int32)), (.int p6)]))
  refine own_step (fun _ k => XS.iushr X0.here hx rfl (hb hby at_19) rfl k) ?_
  show own_Ends p e below F (s₁.setTop (mkF m 20 A5 [(.int ((p6.toUInt32 >>> ((3 : Int32) &&& 31).toUInt32).toInt32))]))
  refine own_step (fun _ k => XS.iconst X0.here hx rfl (hb hby at_20) k) ?_
  show own_Ends p e below F (s₁.setTop (mkF m 21 A5 [(.int (1 : Int32)), (.int ((p6.toUInt32 >>> ((3 : Int32) &&& 31).toUInt32).toInt32))]))
  refine own_step (fun _ k => XS.iand X0.here hx rfl (hb hby at_21) rfl k) ?_
  show own_Ends p e below F (s₁.setTop (mkF m 22 A5 [(.int (((p6.toUInt32 >>> ((3 : Int32) &&& 31).toUInt32).toInt32) &&& (1 : Int32)))]))
  obtain ⟨v6, ev6⟩ : ∃ z : Int32, z = (((p6.toUInt32 >>> ((3 : Int32) &&& 31).toUInt32).toInt32) &&& (1 : Int32)) := ⟨_, rfl⟩
  rw [← ev6]
  show own_Ends p e below F (s₁.setTop (mkF m 22 A5 [(.int v6)]))
  obtain ⟨A7, hA7⟩ : ∃ z : Array Slot, z = #[.val (.long p1), .second, .val (.long p2), .second, .val (.long p3), .second, .val (.int p4), .val (.int p5), .val (.int p6), .val (.int v2), .val (.int v4), .val (.int v6), .unset, .unset, .unset, .unset, .unset, .unset, .unset, .unset, .unset, .unset, .unset, .unset, .unset, .unset, .unset, .unset, .unset, .unset, .unset, .unset, .unset, .unset, .unset, .unset, .unset, .unset, .unset, .unset, .unset, .unset] := ⟨_, rfl⟩
  refine own_step (fun _ k => XS.istore X0.here hx rfl (hb hby at_22) rfl (l' := A7) (by rw [hA5, hA7]; exact rfl) k) ?_
  show own_Ends p e below F (s₁.setTop (mkF m 24 A7 []))
  refine own_step (fun _ k => XS.iload X0.here hx rfl (hb hby at_24) (by rw [hA7]; rfl) k) ?_
  show own_Ends p e below F (s₁.setTop (mkF m 26 A7 [(.int p4)]))
  refine own_step (fun _ k => XS.sipush X0.here hx rfl (hb hby at_26) k) ?_
  show own_Ends p e below F (s₁.setTop (mkF m 29 A7 [(.int (255 : Int32)), (.int p4)]))
  refine own_step (fun _ k => XS.iand X0.here hx rfl (hb hby at_29) rfl k) ?_
  show own_Ends p e below F (s₁.setTop (mkF m 30 A7 [(.int (p4 &&& (255 : Int32)))]))
  obtain ⟨v8, ev8⟩ : ∃ z : Int32, z = (p4 &&& (255 : Int32)) := ⟨_, rfl⟩
  rw [← ev8]
  show own_Ends p e below F (s₁.setTop (mkF m 30 A7 [(.int v8)]))
  obtain ⟨A9, hA9⟩ : ∃ z : Array Slot, z = #[.val (.long p1), .second, .val (.long p2), .second, .val (.long p3), .second, .val (.int p4), .val (.int p5), .val (.int p6), .val (.int v2), .val (.int v4), .val (.int v6), .val (.int v8), .unset, .unset, .unset, .unset, .unset, .unset, .unset, .unset, .unset, .unset, .unset, .unset, .unset, .unset, .unset, .unset, .unset, .unset, .unset, .unset, .unset, .unset, .unset, .unset, .unset, .unset, .unset, .unset, .unset] := ⟨_, rfl⟩
  refine own_step (fun _ k => XS.istore X0.here hx rfl (hb hby at_30) rfl (l' := A9) (by rw [hA7, hA9]; exact rfl) k) ?_
  show own_Ends p e below F (s₁.setTop (mkF m 32 A9 []))
  refine own_step (fun _ k => XS.iload X0.here hx rfl (hb hby at_32) (by rw [hA9]; rfl) k) ?_
  show own_Ends p e below F (s₁.setTop (mkF m 34 A9 [(.int p4)]))
  refine own_step (fun _ k => XS.bipush X0.here hx rfl (hb hby at_34) k) ?_
  show own_Ends p e below F (s₁.setTop (mkF m 36 A9 [(.int (8 : Int32)), (.int p4)]))
  refine own_step (fun _ k => XS.iushr X0.here hx rfl (hb hby at_36) rfl k) ?_
  show own_Ends p e below F (s₁.setTop (mkF m 37 A9 [(.int ((p4.toUInt32 >>> ((8 : Int32) &&& 31).toUInt32).toInt32))]))
  refine own_step (fun _ k => XS.sipush X0.here hx rfl (hb hby at_37) k) ?_
  show own_Ends p e below F (s₁.setTop (mkF m 40 A9 [(.int (255 : Int32)), (.int ((p4.toUInt32 >>> ((8 : Int32) &&& 31).toUInt32).toInt32))]))
  refine own_step (fun _ k => XS.iand X0.here hx rfl (hb hby at_40) rfl k) ?_
  show own_Ends p e below F (s₁.setTop (mkF m 41 A9 [(.int (((p4.toUInt32 >>> ((8 : Int32) &&& 31).toUInt32).toInt32) &&& (255 : Int32)))]))
  obtain ⟨v10, ev10⟩ : ∃ z : Int32, z = (((p4.toUInt32 >>> ((8 : Int32) &&& 31).toUInt32).toInt32) &&& (255 : Int32)) := ⟨_, rfl⟩
  rw [← ev10]
  show own_Ends p e below F (s₁.setTop (mkF m 41 A9 [(.int v10)]))
  obtain ⟨A11, hA11⟩ : ∃ z : Array Slot, z = #[.val (.long p1), .second, .val (.long p2), .second, .val (.long p3), .second, .val (.int p4), .val (.int p5), .val (.int p6), .val (.int v2), .val (.int v4), .val (.int v6), .val (.int v8), .val (.int v10), .unset, .unset, .unset, .unset, .unset, .unset, .unset, .unset, .unset, .unset, .unset, .unset, .unset, .unset, .unset, .unset, .unset, .unset, .unset, .unset, .unset, .unset, .unset, .unset, .unset, .unset, .unset, .unset] := ⟨_, rfl⟩
  refine own_step (fun _ k => XS.istore X0.here hx rfl (hb hby at_41) rfl (l' := A11) (by rw [hA9, hA11]; exact rfl) k) ?_
  show own_Ends p e below F (s₁.setTop (mkF m 43 A11 []))
  refine own_step (fun _ k => XS.iload X0.here hx rfl (hb hby at_43) (by rw [hA11]; rfl) k) ?_
  show own_Ends p e below F (s₁.setTop (mkF m 45 A11 [(.int p4)]))
  refine own_step (fun _ k => XS.bipush X0.here hx rfl (hb hby at_45) k) ?_
  show own_Ends p e below F (s₁.setTop (mkF m 47 A11 [(.int (16 : Int32)), (.int p4)]))
  refine own_step (fun _ k => XS.iushr X0.here hx rfl (hb hby at_47) rfl k) ?_
  show own_Ends p e below F (s₁.setTop (mkF m 48 A11 [(.int ((p4.toUInt32 >>> ((16 : Int32) &&& 31).toUInt32).toInt32))]))
  refine own_step (fun _ k => XS.sipush X0.here hx rfl (hb hby at_48) k) ?_
  show own_Ends p e below F (s₁.setTop (mkF m 51 A11 [(.int (255 : Int32)), (.int ((p4.toUInt32 >>> ((16 : Int32) &&& 31).toUInt32).toInt32))]))
  refine own_step (fun _ k => XS.iand X0.here hx rfl (hb hby at_51) rfl k) ?_
  show own_Ends p e below F (s₁.setTop (mkF m 52 A11 [(.int (((p4.toUInt32 >>> ((16 : Int32) &&& 31).toUInt32).toInt32) &&& (255 : Int32)))]))
  obtain ⟨v12, ev12⟩ : ∃ z : Int32, z = (((p4.toUInt32 >>> ((16 : Int32) &&& 31).toUInt32).toInt32) &&& (255 : Int32)) := ⟨_, rfl⟩
  rw [← ev12]
  show own_Ends p e below F (s₁.setTop (mkF m 52 A11 [(.int v12)]))
  obtain ⟨A13, hA13⟩ : ∃ z : Array Slot, z = #[.val (.long p1), .second, .val (.long p2), .second, .val (.long p3), .second, .val (.int p4), .val (.int p5), .val (.int p6), .val (.int v2), .val (.int v4), .val (.int v6), .val (.int v8), .val (.int v10), .val (.int v12), .unset, .unset, .unset, .unset, .unset, .unset, .unset, .unset, .unset, .unset, .unset, .unset, .unset, .unset, .unset, .unset, .unset, .unset, .unset, .unset, .unset, .unset, .unset, .unset, .unset, .unset, .unset] := ⟨_, rfl⟩
  refine own_step (fun _ k => XS.istore X0.here hx rfl (hb hby at_52) rfl (l' := A13) (by rw [hA11, hA13]; exact rfl) k) ?_
  show own_Ends p e below F (s₁.setTop (mkF m 54 A13 []))
  refine own_step (fun _ k => XS.iload X0.here hx rfl (hb hby at_54) (by rw [hA13]; rfl) k) ?_
  show own_Ends p e below F (s₁.setTop (mkF m 56 A13 [(.int p4)]))
  refine own_step (fun _ k => XS.bipush X0.here hx rfl (hb hby at_56) k) ?_
  show own_Ends p e below F (s₁.setTop (mkF m 58 A13 [(.int (24 : Int32)), (.int p4)]))
  refine own_step (fun _ k => XS.iushr X0.here hx rfl (hb hby at_58) rfl k) ?_
  show own_Ends p e below F (s₁.setTop (mkF m 59 A13 [(.int ((p4.toUInt32 >>> ((24 : Int32) &&& 31).toUInt32).toInt32))]))
  refine own_step (fun _ k => XS.sipush X0.here hx rfl (hb hby at_59) k) ?_
  show own_Ends p e below F (s₁.setTop (mkF m 62 A13 [(.int (255 : Int32)), (.int ((p4.toUInt32 >>> ((24 : Int32) &&& 31).toUInt32).toInt32))]))
  refine own_step (fun _ k => XS.iand X0.here hx rfl (hb hby at_62) rfl k) ?_
  show own_Ends p e below F (s₁.setTop (mkF m 63 A13 [(.int (((p4.toUInt32 >>> ((24 : Int32) &&& 31).toUInt32).toInt32) &&& (255 : Int32)))]))
  obtain ⟨v14, ev14⟩ : ∃ z : Int32, z = (((p4.toUInt32 >>> ((24 : Int32) &&& 31).toUInt32).toInt32) &&& (255 : Int32)) := ⟨_, rfl⟩
  rw [← ev14]
  show own_Ends p e below F (s₁.setTop (mkF m 63 A13 [(.int v14)]))
  obtain ⟨A15, hA15⟩ : ∃ z : Array Slot, z = #[.val (.long p1), .second, .val (.long p2), .second, .val (.long p3), .second, .val (.int p4), .val (.int p5), .val (.int p6), .val (.int v2), .val (.int v4), .val (.int v6), .val (.int v8), .val (.int v10), .val (.int v12), .val (.int v14), .unset, .unset, .unset, .unset, .unset, .unset, .unset, .unset, .unset, .unset, .unset, .unset, .unset, .unset, .unset, .unset, .unset, .unset, .unset, .unset, .unset, .unset, .unset, .unset, .unset, .unset] := ⟨_, rfl⟩
  refine own_step (fun _ k => XS.istore X0.here hx rfl (hb hby at_63) rfl (l' := A15) (by rw [hA13, hA15]; exact rfl) k) ?_
  show own_Ends p e below F (s₁.setTop (mkF m 65 A15 []))
  refine own_step (fun _ k => XS.iload X0.here hx rfl (hb hby at_65) (by rw [hA15]; rfl) k) ?_
  show own_Ends p e below F (s₁.setTop (mkF m 67 A15 [(.int p6)]))
  refine own_step (fun _ k => XS.bipush X0.here hx rfl (hb hby at_67) k) ?_
  show own_Ends p e below F (s₁.setTop (mkF m 69 A15 [(.int (14 : Int32)), (.int p6)]))
  refine own_step (fun _ k => XS.iushr X0.here hx rfl (hb hby at_69) rfl k) ?_
  show own_Ends p e below F (s₁.setTop (mkF m 70 A15 [(.int ((p6.toUInt32 >>> ((14 : Int32) &&& 31).toUInt32).toInt32))]))
  refine own_step (fun _ k => XS.iconst X0.here hx rfl (hb hby at_70) k) ?_
  show own_Ends p e below F (s₁.setTop (mkF m 71 A15 [(.int (3 : Int32)), (.int ((p6.toUInt32 >>> ((14 : Int32) &&& 31).toUInt32).toInt32))]))
  refine own_step (fun _ k => XS.iand X0.here hx rfl (hb hby at_71) rfl k) ?_
  show own_Ends p e below F (s₁.setTop (mkF m 72 A15 [(.int (((p6.toUInt32 >>> ((14 : Int32) &&& 31).toUInt32).toInt32) &&& (3 : Int32)))]))
  refine own_step (fun _ k => XS.iconst X0.here hx rfl (hb hby at_72) k) ?_
  show own_Ends p e below F (s₁.setTop (mkF m 73 A15 [(.int (3 : Int32)), (.int (((p6.toUInt32 >>> ((14 : Int32) &&& 31).toUInt32).toInt32) &&& (3 : Int32)))]))
  refine own_step (fun _ k => iremM (below := below) X0 hx rfl (hb hby at_73) rfl (by decide) k) ?_
  show own_Ends p e below F (s₁.setTop (mkF m 74 A15 [(.int ((((p6.toUInt32 >>> ((14 : Int32) &&& 31).toUInt32).toInt32) &&& (3 : Int32)) % (3 : Int32)))]))
  obtain ⟨v16, ev16⟩ : ∃ z : Int32, z = ((((p6.toUInt32 >>> ((14 : Int32) &&& 31).toUInt32).toInt32) &&& (3 : Int32)) % (3 : Int32)) := ⟨_, rfl⟩
  rw [← ev16]
  show own_Ends p e below F (s₁.setTop (mkF m 74 A15 [(.int v16)]))
  obtain ⟨A17, hA17⟩ : ∃ z : Array Slot, z = #[.val (.long p1), .second, .val (.long p2), .second, .val (.long p3), .second, .val (.int p4), .val (.int p5), .val (.int p6), .val (.int v2), .val (.int v4), .val (.int v6), .val (.int v8), .val (.int v10), .val (.int v12), .val (.int v14), .val (.int v16), .unset, .unset, .unset, .unset, .unset, .unset, .unset, .unset, .unset, .unset, .unset, .unset, .unset, .unset, .unset, .unset, .unset, .unset, .unset, .unset, .unset, .unset, .unset, .unset, .unset] := ⟨_, rfl⟩
  refine own_step (fun _ k => XS.istore X0.here hx rfl (hb hby at_74) rfl (l' := A17) (by rw [hA15, hA17]; exact rfl) k) ?_
  show own_Ends p e below F (s₁.setTop (mkF m 76 A17 []))
  refine own_step (fun _ k => XS.lload X0.here hx rfl (hb hby at_76) (by rw [hA17]; rfl) k) ?_
  show own_Ends p e below F (s₁.setTop (mkF m 78 A17 [(.long p3)]))
  refine own_step (fun _ k => XS.l2i X0.here hx rfl (hb hby at_78) rfl k) ?_
  show own_Ends p e below F (s₁.setTop (mkF m 79 A17 [(.int (p3.toInt32))]))
  obtain ⟨v18, ev18⟩ : ∃ z : Int32, z = (p3.toInt32) := ⟨_, rfl⟩
  rw [← ev18]
  show own_Ends p e below F (s₁.setTop (mkF m 79 A17 [(.int v18)]))
  obtain ⟨A19, hA19⟩ : ∃ z : Array Slot, z = #[.val (.long p1), .second, .val (.long p2), .second, .val (.long p3), .second, .val (.int p4), .val (.int p5), .val (.int p6), .val (.int v2), .val (.int v4), .val (.int v6), .val (.int v8), .val (.int v10), .val (.int v12), .val (.int v14), .val (.int v16), .val (.int v18), .unset, .unset, .unset, .unset, .unset, .unset, .unset, .unset, .unset, .unset, .unset, .unset, .unset, .unset, .unset, .unset, .unset, .unset, .unset, .unset, .unset, .unset, .unset, .unset] := ⟨_, rfl⟩
  refine own_step (fun _ k => XS.istore X0.here hx rfl (hb hby at_79) rfl (l' := A19) (by rw [hA17, hA19]; exact rfl) k) ?_
  show own_Ends p e below F (s₁.setTop (mkF m 81 A19 []))
  refine own_step (fun _ k => XS.iload X0.here hx rfl (hb hby at_81) (by rw [hA19]; rfl) k) ?_
  show own_Ends p e below F (s₁.setTop (mkF m 83 A19 [(.int p6)]))
  refine own_step (fun _ k => XS.bipush X0.here hx rfl (hb hby at_83) k) ?_
  show own_Ends p e below F (s₁.setTop (mkF m 85 A19 [(.int (21 : Int32)), (.int p6)]))
  refine own_step (fun _ k => XS.iushr X0.here hx rfl (hb hby at_85) rfl k) ?_
  show own_Ends p e below F (s₁.setTop (mkF m 86 A19 [(.int ((p6.toUInt32 >>> ((21 : Int32) &&& 31).toUInt32).toInt32))]))
  refine own_step (fun _ k => XS.iconst X0.here hx rfl (hb hby at_86) k) ?_
  show own_Ends p e below F (s₁.setTop (mkF m 87 A19 [(.int (1 : Int32)), (.int ((p6.toUInt32 >>> ((21 : Int32) &&& 31).toUInt32).toInt32))]))
  refine own_step (fun _ k => XS.iand X0.here hx rfl (hb hby at_87) rfl k) ?_
  show own_Ends p e below F (s₁.setTop (mkF m 88 A19 [(.int (((p6.toUInt32 >>> ((21 : Int32) &&& 31).toUInt32).toInt32) &&& (1 : Int32)))]))
  have J88_21 : ∀ (z20 : Int32) (hz20 : z20 = (if (((p6.toUInt32 >>> ((21 : Int32) &&& 31).toUInt32).toInt32) &&& (1 : Int32)) = (0 : Int32) then (0 : Int32) else (1 : Int32))), own_Ends p e below F (s₁.setTop (mkF m 96 #[.val (.long p1), .second, .val (.long p2), .second, .val (.long p3), .second, .val (.int p4), .val (.int p5), .val (.int p6), .val (.int v2), .val (.int v4), .val (.int v6), .val (.int v8), .val (.int v10), .val (.int v12), .val (.int v14), .val (.int v16), .val (.int v18), .unset, .unset, .unset, .unset, .unset, .unset, .unset, .unset, .unset, .unset, .unset, .unset, .unset, .unset, .unset, .unset, .unset, .unset, .unset, .unset, .unset, .unset, .unset, .unset] [(.int z20)])) := by
    intro z20 hz20
    obtain ⟨A23, hA23⟩ : ∃ z : Array Slot, z = #[.val (.long p1), .second, .val (.long p2), .second, .val (.long p3), .second, .val (.int p4), .val (.int p5), .val (.int p6), .val (.int v2), .val (.int v4), .val (.int v6), .val (.int v8), .val (.int v10), .val (.int v12), .val (.int v14), .val (.int v16), .val (.int v18), .unset, .unset, .unset, .unset, .unset, .unset, .unset, .unset, .unset, .unset, .unset, .unset, .unset, .unset, .unset, .unset, .unset, .unset, .unset, .unset, .unset, .unset, .unset, .unset] := ⟨_, rfl⟩
    rw [← hA23]
    show own_Ends p e below F (s₁.setTop (mkF m 96 A23 [(.int z20)]))
    obtain ⟨A24, hA24⟩ : ∃ z : Array Slot, z = #[.val (.long p1), .second, .val (.long p2), .second, .val (.long p3), .second, .val (.int p4), .val (.int p5), .val (.int p6), .val (.int v2), .val (.int v4), .val (.int v6), .val (.int v8), .val (.int v10), .val (.int v12), .val (.int v14), .val (.int v16), .val (.int v18), .val (.int z20), .unset, .unset, .unset, .unset, .unset, .unset, .unset, .unset, .unset, .unset, .unset, .unset, .unset, .unset, .unset, .unset, .unset, .unset, .unset, .unset, .unset, .unset, .unset] := ⟨_, rfl⟩
    refine own_step (fun _ k => XS.istore X0.here hx rfl (hb hby at_96) rfl (l' := A24) (by rw [hA23, hA24]; exact rfl) k) ?_
    show own_Ends p e below F (s₁.setTop (mkF m 98 A24 []))
    refine own_step (fun _ k => XS.iload X0.here hx rfl (hb hby at_98) (by rw [hA24]; rfl) k) ?_
    show own_Ends p e below F (s₁.setTop (mkF m 100 A24 [(.int p6)]))
    refine own_step (fun _ k => XS.bipush X0.here hx rfl (hb hby at_100) k) ?_
    show own_Ends p e below F (s₁.setTop (mkF m 102 A24 [(.int (22 : Int32)), (.int p6)]))
    refine own_step (fun _ k => XS.iushr X0.here hx rfl (hb hby at_102) rfl k) ?_
    show own_Ends p e below F (s₁.setTop (mkF m 103 A24 [(.int ((p6.toUInt32 >>> ((22 : Int32) &&& 31).toUInt32).toInt32))]))
    refine own_step (fun _ k => XS.bipush X0.here hx rfl (hb hby at_103) k) ?_
    show own_Ends p e below F (s₁.setTop (mkF m 105 A24 [(.int (7 : Int32)), (.int ((p6.toUInt32 >>> ((22 : Int32) &&& 31).toUInt32).toInt32))]))
    refine own_step (fun _ k => XS.iand X0.here hx rfl (hb hby at_105) rfl k) ?_
    show own_Ends p e below F (s₁.setTop (mkF m 106 A24 [(.int (((p6.toUInt32 >>> ((22 : Int32) &&& 31).toUInt32).toInt32) &&& (7 : Int32)))]))
    obtain ⟨v25, ev25⟩ : ∃ z : Int32, z = (((p6.toUInt32 >>> ((22 : Int32) &&& 31).toUInt32).toInt32) &&& (7 : Int32)) := ⟨_, rfl⟩
    rw [← ev25]
    show own_Ends p e below F (s₁.setTop (mkF m 106 A24 [(.int v25)]))
    obtain ⟨A26, hA26⟩ : ∃ z : Array Slot, z = #[.val (.long p1), .second, .val (.long p2), .second, .val (.long p3), .second, .val (.int p4), .val (.int p5), .val (.int p6), .val (.int v2), .val (.int v4), .val (.int v6), .val (.int v8), .val (.int v10), .val (.int v12), .val (.int v14), .val (.int v16), .val (.int v18), .val (.int z20), .val (.int v25), .unset, .unset, .unset, .unset, .unset, .unset, .unset, .unset, .unset, .unset, .unset, .unset, .unset, .unset, .unset, .unset, .unset, .unset, .unset, .unset, .unset, .unset] := ⟨_, rfl⟩
    refine own_step (fun _ k => XS.istore X0.here hx rfl (hb hby at_106) rfl (l' := A26) (by rw [hA24, hA26]; exact rfl) k) ?_
    show own_Ends p e below F (s₁.setTop (mkF m 108 A26 []))
    refine own_step (fun _ k => XS.iload X0.here hx rfl (hb hby at_108) (by rw [hA26]; rfl) k) ?_
    show own_Ends p e below F (s₁.setTop (mkF m 110 A26 [(.int z20)]))
    have J110_28 : ∀ (z27 : Int32) (hz27 : z27 = (if z20 = (0 : Int32) then (if (((p6.toUInt32 >>> ((8 : Int32) &&& 31).toUInt32).toInt32) &&& (1 : Int32)) = (0 : Int32) then (0 : Int32) else (1 : Int32)) else (if v25 = (0 : Int32) then (0 : Int32) else (1 : Int32)))), own_Ends p e below F (s₁.setTop (mkF m 141 #[.val (.long p1), .second, .val (.long p2), .second, .val (.long p3), .second, .val (.int p4), .val (.int p5), .val (.int p6), .val (.int v2), .val (.int v4), .val (.int v6), .val (.int v8), .val (.int v10), .val (.int v12), .val (.int v14), .val (.int v16), .val (.int v18), .val (.int z20), .val (.int v25), .unset, .unset, .unset, .unset, .unset, .unset, .unset, .unset, .unset, .unset, .unset, .unset, .unset, .unset, .unset, .unset, .unset, .unset, .unset, .unset, .unset, .unset] [(.int z27)])) := by
      intro z27 hz27
      obtain ⟨A30, hA30⟩ : ∃ z : Array Slot, z = #[.val (.long p1), .second, .val (.long p2), .second, .val (.long p3), .second, .val (.int p4), .val (.int p5), .val (.int p6), .val (.int v2), .val (.int v4), .val (.int v6), .val (.int v8), .val (.int v10), .val (.int v12), .val (.int v14), .val (.int v16), .val (.int v18), .val (.int z20), .val (.int v25), .unset, .unset, .unset, .unset, .unset, .unset, .unset, .unset, .unset, .unset, .unset, .unset, .unset, .unset, .unset, .unset, .unset, .unset, .unset, .unset, .unset, .unset] := ⟨_, rfl⟩
      rw [← hA30]
      show own_Ends p e below F (s₁.setTop (mkF m 141 A30 [(.int z27)]))
      obtain ⟨A31, hA31⟩ : ∃ z : Array Slot, z = #[.val (.long p1), .second, .val (.long p2), .second, .val (.long p3), .second, .val (.int p4), .val (.int p5), .val (.int p6), .val (.int v2), .val (.int v4), .val (.int v6), .val (.int v8), .val (.int v10), .val (.int v12), .val (.int v14), .val (.int v16), .val (.int v18), .val (.int z20), .val (.int v25), .val (.int z27), .unset, .unset, .unset, .unset, .unset, .unset, .unset, .unset, .unset, .unset, .unset, .unset, .unset, .unset, .unset, .unset, .unset, .unset, .unset, .unset, .unset] := ⟨_, rfl⟩
      refine own_step (fun _ k => XS.istore X0.here hx rfl (hb hby at_141) rfl (l' := A31) (by rw [hA30, hA31]; exact rfl) k) ?_
      show own_Ends p e below F (s₁.setTop (mkF m 143 A31 []))
      refine own_step (fun _ k => XS.iload X0.here hx rfl (hb hby at_143) (by rw [hA31]; rfl) k) ?_
      show own_Ends p e below F (s₁.setTop (mkF m 145 A31 [(.int z20)]))
      have J145_33 : ∀ (z32 : Int32) (hz32 : z32 = (if z20 = (0 : Int32) then (if (((p6.toUInt32 >>> ((9 : Int32) &&& 31).toUInt32).toInt32) &&& (1 : Int32)) = (0 : Int32) then (0 : Int32) else (1 : Int32)) else (if v25 = (1 : Int32) then (0 : Int32) else (1 : Int32)))), own_Ends p e below F (s₁.setTop (mkF m 177 #[.val (.long p1), .second, .val (.long p2), .second, .val (.long p3), .second, .val (.int p4), .val (.int p5), .val (.int p6), .val (.int v2), .val (.int v4), .val (.int v6), .val (.int v8), .val (.int v10), .val (.int v12), .val (.int v14), .val (.int v16), .val (.int v18), .val (.int z20), .val (.int v25), .val (.int z27), .unset, .unset, .unset, .unset, .unset, .unset, .unset, .unset, .unset, .unset, .unset, .unset, .unset, .unset, .unset, .unset, .unset, .unset, .unset, .unset, .unset] [(.int z32)])) := by
        intro z32 hz32
        obtain ⟨A35, hA35⟩ : ∃ z : Array Slot, z = #[.val (.long p1), .second, .val (.long p2), .second, .val (.long p3), .second, .val (.int p4), .val (.int p5), .val (.int p6), .val (.int v2), .val (.int v4), .val (.int v6), .val (.int v8), .val (.int v10), .val (.int v12), .val (.int v14), .val (.int v16), .val (.int v18), .val (.int z20), .val (.int v25), .val (.int z27), .unset, .unset, .unset, .unset, .unset, .unset, .unset, .unset, .unset, .unset, .unset, .unset, .unset, .unset, .unset, .unset, .unset, .unset, .unset, .unset, .unset] := ⟨_, rfl⟩
        rw [← hA35]
        show own_Ends p e below F (s₁.setTop (mkF m 177 A35 [(.int z32)]))
        obtain ⟨A36, hA36⟩ : ∃ z : Array Slot, z = #[.val (.long p1), .second, .val (.long p2), .second, .val (.long p3), .second, .val (.int p4), .val (.int p5), .val (.int p6), .val (.int v2), .val (.int v4), .val (.int v6), .val (.int v8), .val (.int v10), .val (.int v12), .val (.int v14), .val (.int v16), .val (.int v18), .val (.int z20), .val (.int v25), .val (.int z27), .val (.int z32), .unset, .unset, .unset, .unset, .unset, .unset, .unset, .unset, .unset, .unset, .unset, .unset, .unset, .unset, .unset, .unset, .unset, .unset, .unset, .unset] := ⟨_, rfl⟩
        refine own_step (fun _ k => XS.istore X0.here hx rfl (hb hby at_177) rfl (l' := A36) (by rw [hA35, hA36]; exact rfl) k) ?_
        show own_Ends p e below F (s₁.setTop (mkF m 179 A36 []))
        refine own_step (fun _ k => XS.iload X0.here hx rfl (hb hby at_179) (by rw [hA36]; rfl) k) ?_
        show own_Ends p e below F (s₁.setTop (mkF m 181 A36 [(.int z20)]))
        have J181_38 : ∀ (z37 : Int32) (hz37 : z37 = (if z20 = (0 : Int32) then (if (((p6.toUInt32 >>> ((10 : Int32) &&& 31).toUInt32).toInt32) &&& (1 : Int32)) = (0 : Int32) then (0 : Int32) else (1 : Int32)) else (if v25 = (2 : Int32) then (0 : Int32) else (1 : Int32)))), own_Ends p e below F (s₁.setTop (mkF m 213 #[.val (.long p1), .second, .val (.long p2), .second, .val (.long p3), .second, .val (.int p4), .val (.int p5), .val (.int p6), .val (.int v2), .val (.int v4), .val (.int v6), .val (.int v8), .val (.int v10), .val (.int v12), .val (.int v14), .val (.int v16), .val (.int v18), .val (.int z20), .val (.int v25), .val (.int z27), .val (.int z32), .unset, .unset, .unset, .unset, .unset, .unset, .unset, .unset, .unset, .unset, .unset, .unset, .unset, .unset, .unset, .unset, .unset, .unset, .unset, .unset] [(.int z37)])) := by
          intro z37 hz37
          obtain ⟨A40, hA40⟩ : ∃ z : Array Slot, z = #[.val (.long p1), .second, .val (.long p2), .second, .val (.long p3), .second, .val (.int p4), .val (.int p5), .val (.int p6), .val (.int v2), .val (.int v4), .val (.int v6), .val (.int v8), .val (.int v10), .val (.int v12), .val (.int v14), .val (.int v16), .val (.int v18), .val (.int z20), .val (.int v25), .val (.int z27), .val (.int z32), .unset, .unset, .unset, .unset, .unset, .unset, .unset, .unset, .unset, .unset, .unset, .unset, .unset, .unset, .unset, .unset, .unset, .unset, .unset, .unset] := ⟨_, rfl⟩
          rw [← hA40]
          show own_Ends p e below F (s₁.setTop (mkF m 213 A40 [(.int z37)]))
          obtain ⟨A41, hA41⟩ : ∃ z : Array Slot, z = #[.val (.long p1), .second, .val (.long p2), .second, .val (.long p3), .second, .val (.int p4), .val (.int p5), .val (.int p6), .val (.int v2), .val (.int v4), .val (.int v6), .val (.int v8), .val (.int v10), .val (.int v12), .val (.int v14), .val (.int v16), .val (.int v18), .val (.int z20), .val (.int v25), .val (.int z27), .val (.int z32), .val (.int z37), .unset, .unset, .unset, .unset, .unset, .unset, .unset, .unset, .unset, .unset, .unset, .unset, .unset, .unset, .unset, .unset, .unset, .unset, .unset] := ⟨_, rfl⟩
          refine own_step (fun _ k => XS.istore X0.here hx rfl (hb hby at_213) rfl (l' := A41) (by rw [hA40, hA41]; exact rfl) k) ?_
          show own_Ends p e below F (s₁.setTop (mkF m 215 A41 []))
          refine own_step (fun _ k => XS.iload X0.here hx rfl (hb hby at_215) (by rw [hA41]; rfl) k) ?_
          show own_Ends p e below F (s₁.setTop (mkF m 217 A41 [(.int z20)]))
          have J217_43 : ∀ (z42 : Int32) (hz42 : z42 = (if z20 = (0 : Int32) then (if (((p6.toUInt32 >>> ((11 : Int32) &&& 31).toUInt32).toInt32) &&& (1 : Int32)) = (0 : Int32) then (0 : Int32) else (1 : Int32)) else (if v25 = (3 : Int32) then (0 : Int32) else (1 : Int32)))), own_Ends p e below F (s₁.setTop (mkF m 249 #[.val (.long p1), .second, .val (.long p2), .second, .val (.long p3), .second, .val (.int p4), .val (.int p5), .val (.int p6), .val (.int v2), .val (.int v4), .val (.int v6), .val (.int v8), .val (.int v10), .val (.int v12), .val (.int v14), .val (.int v16), .val (.int v18), .val (.int z20), .val (.int v25), .val (.int z27), .val (.int z32), .val (.int z37), .unset, .unset, .unset, .unset, .unset, .unset, .unset, .unset, .unset, .unset, .unset, .unset, .unset, .unset, .unset, .unset, .unset, .unset, .unset] [(.int z42)])) := by
            intro z42 hz42
            obtain ⟨A45, hA45⟩ : ∃ z : Array Slot, z = #[.val (.long p1), .second, .val (.long p2), .second, .val (.long p3), .second, .val (.int p4), .val (.int p5), .val (.int p6), .val (.int v2), .val (.int v4), .val (.int v6), .val (.int v8), .val (.int v10), .val (.int v12), .val (.int v14), .val (.int v16), .val (.int v18), .val (.int z20), .val (.int v25), .val (.int z27), .val (.int z32), .val (.int z37), .unset, .unset, .unset, .unset, .unset, .unset, .unset, .unset, .unset, .unset, .unset, .unset, .unset, .unset, .unset, .unset, .unset, .unset, .unset] := ⟨_, rfl⟩
            rw [← hA45]
            show own_Ends p e below F (s₁.setTop (mkF m 249 A45 [(.int z42)]))
            obtain ⟨A46, hA46⟩ : ∃ z : Array Slot, z = #[.val (.long p1), .second, .val (.long p2), .second, .val (.long p3), .second, .val (.int p4), .val (.int p5), .val (.int p6), .val (.int v2), .val (.int v4), .val (.int v6), .val (.int v8), .val (.int v10), .val (.int v12), .val (.int v14), .val (.int v16), .val (.int v18), .val (.int z20), .val (.int v25), .val (.int z27), .val (.int z32), .val (.int z37), .val (.int z42), .unset, .unset, .unset, .unset, .unset, .unset, .unset, .unset, .unset, .unset, .unset, .unset, .unset, .unset, .unset, .unset, .unset, .unset] := ⟨_, rfl⟩
            refine own_step (fun _ k => XS.istore X0.here hx rfl (hb hby at_249) rfl (l' := A46) (by rw [hA45, hA46]; exact rfl) k) ?_
            show own_Ends p e below F (s₁.setTop (mkF m 251 A46 []))
            refine own_step (fun _ k => XS.iload X0.here hx rfl (hb hby at_251) (by rw [hA46]; rfl) k) ?_
            show own_Ends p e below F (s₁.setTop (mkF m 253 A46 [(.int z20)]))
            have J253_48 : ∀ (z47 : Int32) (hz47 : z47 = (if z20 = (0 : Int32) then (if (((p6.toUInt32 >>> ((12 : Int32) &&& 31).toUInt32).toInt32) &&& (1 : Int32)) = (0 : Int32) then (0 : Int32) else (1 : Int32)) else (if v25 = (4 : Int32) then (0 : Int32) else (1 : Int32)))), own_Ends p e below F (s₁.setTop (mkF m 285 #[.val (.long p1), .second, .val (.long p2), .second, .val (.long p3), .second, .val (.int p4), .val (.int p5), .val (.int p6), .val (.int v2), .val (.int v4), .val (.int v6), .val (.int v8), .val (.int v10), .val (.int v12), .val (.int v14), .val (.int v16), .val (.int v18), .val (.int z20), .val (.int v25), .val (.int z27), .val (.int z32), .val (.int z37), .val (.int z42), .unset, .unset, .unset, .unset, .unset, .unset, .unset, .unset, .unset, .unset, .unset, .unset, .unset, .unset, .unset, .unset, .unset, .unset] [(.int z47)])) := by
              intro z47 hz47
              obtain ⟨A50, hA50⟩ : ∃ z : Array Slot, z = #[.val (.long p1), .second, .val (.long p2), .second, .val (.long p3), .second, .val (.int p4), .val (.int p5), .val (.int p6), .val (.int v2), .val (.int v4), .val (.int v6), .val (.int v8), .val (.int v10), .val (.int v12), .val (.int v14), .val (.int v16), .val (.int v18), .val (.int z20), .val (.int v25), .val (.int z27), .val (.int z32), .val (.int z37), .val (.int z42), .unset, .unset, .unset, .unset, .unset, .unset, .unset, .unset, .unset, .unset, .unset, .unset, .unset, .unset, .unset, .unset, .unset, .unset] := ⟨_, rfl⟩
              rw [← hA50]
              show own_Ends p e below F (s₁.setTop (mkF m 285 A50 [(.int z47)]))
              obtain ⟨A51, hA51⟩ : ∃ z : Array Slot, z = #[.val (.long p1), .second, .val (.long p2), .second, .val (.long p3), .second, .val (.int p4), .val (.int p5), .val (.int p6), .val (.int v2), .val (.int v4), .val (.int v6), .val (.int v8), .val (.int v10), .val (.int v12), .val (.int v14), .val (.int v16), .val (.int v18), .val (.int z20), .val (.int v25), .val (.int z27), .val (.int z32), .val (.int z37), .val (.int z42), .val (.int z47), .unset, .unset, .unset, .unset, .unset, .unset, .unset, .unset, .unset, .unset, .unset, .unset, .unset, .unset, .unset, .unset, .unset] := ⟨_, rfl⟩
              refine own_step (fun _ k => XS.istore X0.here hx rfl (hb hby at_285) rfl (l' := A51) (by rw [hA50, hA51]; exact rfl) k) ?_
              show own_Ends p e below F (s₁.setTop (mkF m 287 A51 []))
              refine own_step (fun _ k => XS.iload X0.here hx rfl (hb hby at_287) (by rw [hA51]; rfl) k) ?_
              show own_Ends p e below F (s₁.setTop (mkF m 289 A51 [(.int z20)]))
              have J289_53 : ∀ (z52 : Int32) (hz52 : z52 = (if z20 = (0 : Int32) then (if (((p6.toUInt32 >>> ((13 : Int32) &&& 31).toUInt32).toInt32) &&& (1 : Int32)) = (0 : Int32) then (0 : Int32) else (1 : Int32)) else (if v25 = (5 : Int32) then (0 : Int32) else (1 : Int32)))), own_Ends p e below F (s₁.setTop (mkF m 321 #[.val (.long p1), .second, .val (.long p2), .second, .val (.long p3), .second, .val (.int p4), .val (.int p5), .val (.int p6), .val (.int v2), .val (.int v4), .val (.int v6), .val (.int v8), .val (.int v10), .val (.int v12), .val (.int v14), .val (.int v16), .val (.int v18), .val (.int z20), .val (.int v25), .val (.int z27), .val (.int z32), .val (.int z37), .val (.int z42), .val (.int z47), .unset, .unset, .unset, .unset, .unset, .unset, .unset, .unset, .unset, .unset, .unset, .unset, .unset, .unset, .unset, .unset, .unset] [(.int z52)])) := by
                intro z52 hz52
                obtain ⟨A55, hA55⟩ : ∃ z : Array Slot, z = #[.val (.long p1), .second, .val (.long p2), .second, .val (.long p3), .second, .val (.int p4), .val (.int p5), .val (.int p6), .val (.int v2), .val (.int v4), .val (.int v6), .val (.int v8), .val (.int v10), .val (.int v12), .val (.int v14), .val (.int v16), .val (.int v18), .val (.int z20), .val (.int v25), .val (.int z27), .val (.int z32), .val (.int z37), .val (.int z42), .val (.int z47), .unset, .unset, .unset, .unset, .unset, .unset, .unset, .unset, .unset, .unset, .unset, .unset, .unset, .unset, .unset, .unset, .unset] := ⟨_, rfl⟩
                rw [← hA55]
                show own_Ends p e below F (s₁.setTop (mkF m 321 A55 [(.int z52)]))
                obtain ⟨A56, hA56⟩ : ∃ z : Array Slot, z = #[.val (.long p1), .second, .val (.long p2), .second, .val (.long p3), .second, .val (.int p4), .val (.int p5), .val (.int p6), .val (.int v2), .val (.int v4), .val (.int v6), .val (.int v8), .val (.int v10), .val (.int v12), .val (.int v14), .val (.int v16), .val (.int v18), .val (.int z20), .val (.int v25), .val (.int z27), .val (.int z32), .val (.int z37), .val (.int z42), .val (.int z47), .val (.int z52), .unset, .unset, .unset, .unset, .unset, .unset, .unset, .unset, .unset, .unset, .unset, .unset, .unset, .unset, .unset, .unset] := ⟨_, rfl⟩
                refine own_step (fun _ k => XS.istore X0.here hx rfl (hb hby at_321) rfl (l' := A56) (by rw [hA55, hA56]; exact rfl) k) ?_
                show own_Ends p e below F (s₁.setTop (mkF m 323 A56 []))
                refine own_step (fun _ k => XS.iload X0.here hx rfl (hb hby at_323) (by rw [hA56]; rfl) k) ?_
                show own_Ends p e below F (s₁.setTop (mkF m 325 A56 [(.int z27)]))
                have J325_58 : ∀ (z57 : Int32) (hz57 : z57 = (if z27 = (0 : Int32) then ((((p6.toUInt32 >>> ((4 : Int32) &&& 31).toUInt32).toInt32) &&& (3 : Int32)) % (3 : Int32)) else v2)), own_Ends p e below F (s₁.setTop (mkF m 341 #[.val (.long p1), .second, .val (.long p2), .second, .val (.long p3), .second, .val (.int p4), .val (.int p5), .val (.int p6), .val (.int v2), .val (.int v4), .val (.int v6), .val (.int v8), .val (.int v10), .val (.int v12), .val (.int v14), .val (.int v16), .val (.int v18), .val (.int z20), .val (.int v25), .val (.int z27), .val (.int z32), .val (.int z37), .val (.int z42), .val (.int z47), .val (.int z52), .unset, .unset, .unset, .unset, .unset, .unset, .unset, .unset, .unset, .unset, .unset, .unset, .unset, .unset, .unset, .unset] [(.int z57)])) := by
                  intro z57 hz57
                  obtain ⟨A60, hA60⟩ : ∃ z : Array Slot, z = #[.val (.long p1), .second, .val (.long p2), .second, .val (.long p3), .second, .val (.int p4), .val (.int p5), .val (.int p6), .val (.int v2), .val (.int v4), .val (.int v6), .val (.int v8), .val (.int v10), .val (.int v12), .val (.int v14), .val (.int v16), .val (.int v18), .val (.int z20), .val (.int v25), .val (.int z27), .val (.int z32), .val (.int z37), .val (.int z42), .val (.int z47), .val (.int z52), .unset, .unset, .unset, .unset, .unset, .unset, .unset, .unset, .unset, .unset, .unset, .unset, .unset, .unset, .unset, .unset] := ⟨_, rfl⟩
                  rw [← hA60]
                  show own_Ends p e below F (s₁.setTop (mkF m 341 A60 [(.int z57)]))
                  obtain ⟨A61, hA61⟩ : ∃ z : Array Slot, z = #[.val (.long p1), .second, .val (.long p2), .second, .val (.long p3), .second, .val (.int p4), .val (.int p5), .val (.int p6), .val (.int v2), .val (.int v4), .val (.int v6), .val (.int v8), .val (.int v10), .val (.int v12), .val (.int v14), .val (.int v16), .val (.int v18), .val (.int z20), .val (.int v25), .val (.int z27), .val (.int z32), .val (.int z37), .val (.int z42), .val (.int z47), .val (.int z52), .val (.int z57), .unset, .unset, .unset, .unset, .unset, .unset, .unset, .unset, .unset, .unset, .unset, .unset, .unset, .unset, .unset] := ⟨_, rfl⟩
                  refine own_step (fun _ k => XS.istore X0.here hx rfl (hb hby at_341) rfl (l' := A61) (by rw [hA60, hA61]; exact rfl) k) ?_
                  show own_Ends p e below F (s₁.setTop (mkF m 343 A61 []))
                  refine own_step (fun _ k => XS.iload X0.here hx rfl (hb hby at_343) (by rw [hA61]; rfl) k) ?_
                  show own_Ends p e below F (s₁.setTop (mkF m 345 A61 [(.int z27)]))
                  have J345_63 : ∀ (z62 : Int32) (hz62 : z62 = (if z27 = (0 : Int32) then (p5 &&& (255 : Int32)) else v8)), own_Ends p e below F (s₁.setTop (mkF m 359 #[.val (.long p1), .second, .val (.long p2), .second, .val (.long p3), .second, .val (.int p4), .val (.int p5), .val (.int p6), .val (.int v2), .val (.int v4), .val (.int v6), .val (.int v8), .val (.int v10), .val (.int v12), .val (.int v14), .val (.int v16), .val (.int v18), .val (.int z20), .val (.int v25), .val (.int z27), .val (.int z32), .val (.int z37), .val (.int z42), .val (.int z47), .val (.int z52), .val (.int z57), .unset, .unset, .unset, .unset, .unset, .unset, .unset, .unset, .unset, .unset, .unset, .unset, .unset, .unset, .unset] [(.int z62)])) := by
                    intro z62 hz62
                    obtain ⟨A65, hA65⟩ : ∃ z : Array Slot, z = #[.val (.long p1), .second, .val (.long p2), .second, .val (.long p3), .second, .val (.int p4), .val (.int p5), .val (.int p6), .val (.int v2), .val (.int v4), .val (.int v6), .val (.int v8), .val (.int v10), .val (.int v12), .val (.int v14), .val (.int v16), .val (.int v18), .val (.int z20), .val (.int v25), .val (.int z27), .val (.int z32), .val (.int z37), .val (.int z42), .val (.int z47), .val (.int z52), .val (.int z57), .unset, .unset, .unset, .unset, .unset, .unset, .unset, .unset, .unset, .unset, .unset, .unset, .unset, .unset, .unset] := ⟨_, rfl⟩
                    rw [← hA65]
                    show own_Ends p e below F (s₁.setTop (mkF m 359 A65 [(.int z62)]))
                    obtain ⟨A66, hA66⟩ : ∃ z : Array Slot, z = #[.val (.long p1), .second, .val (.long p2), .second, .val (.long p3), .second, .val (.int p4), .val (.int p5), .val (.int p6), .val (.int v2), .val (.int v4), .val (.int v6), .val (.int v8), .val (.int v10), .val (.int v12), .val (.int v14), .val (.int v16), .val (.int v18), .val (.int z20), .val (.int v25), .val (.int z27), .val (.int z32), .val (.int z37), .val (.int z42), .val (.int z47), .val (.int z52), .val (.int z57), .val (.int z62), .unset, .unset, .unset, .unset, .unset, .unset, .unset, .unset, .unset, .unset, .unset, .unset, .unset, .unset] := ⟨_, rfl⟩
                    refine own_step (fun _ k => XS.istore X0.here hx rfl (hb hby at_359) rfl (l' := A66) (by rw [hA65, hA66]; exact rfl) k) ?_
                    show own_Ends p e below F (s₁.setTop (mkF m 361 A66 []))
                    refine own_step (fun _ k => XS.iload X0.here hx rfl (hb hby at_361) (by rw [hA66]; rfl) k) ?_
                    show own_Ends p e below F (s₁.setTop (mkF m 363 A66 [(.int z27)]))
                    have J363_68 : ∀ (z67 : Int32) (hz67 : z67 = (if z27 = (0 : Int32) then (((p5.toUInt32 >>> ((8 : Int32) &&& 31).toUInt32).toInt32) &&& (255 : Int32)) else v10)), own_Ends p e below F (s₁.setTop (mkF m 380 #[.val (.long p1), .second, .val (.long p2), .second, .val (.long p3), .second, .val (.int p4), .val (.int p5), .val (.int p6), .val (.int v2), .val (.int v4), .val (.int v6), .val (.int v8), .val (.int v10), .val (.int v12), .val (.int v14), .val (.int v16), .val (.int v18), .val (.int z20), .val (.int v25), .val (.int z27), .val (.int z32), .val (.int z37), .val (.int z42), .val (.int z47), .val (.int z52), .val (.int z57), .val (.int z62), .unset, .unset, .unset, .unset, .unset, .unset, .unset, .unset, .unset, .unset, .unset, .unset, .unset, .unset] [(.int z67)])) := by
                      intro z67 hz67
                      obtain ⟨A70, hA70⟩ : ∃ z : Array Slot, z = #[.val (.long p1), .second, .val (.long p2), .second, .val (.long p3), .second, .val (.int p4), .val (.int p5), .val (.int p6), .val (.int v2), .val (.int v4), .val (.int v6), .val (.int v8), .val (.int v10), .val (.int v12), .val (.int v14), .val (.int v16), .val (.int v18), .val (.int z20), .val (.int v25), .val (.int z27), .val (.int z32), .val (.int z37), .val (.int z42), .val (.int z47), .val (.int z52), .val (.int z57), .val (.int z62), .unset, .unset, .unset, .unset, .unset, .unset, .unset, .unset, .unset, .unset, .unset, .unset, .unset, .unset] := ⟨_, rfl⟩
                      rw [← hA70]
                      show own_Ends p e below F (s₁.setTop (mkF m 380 A70 [(.int z67)]))
                      obtain ⟨A71, hA71⟩ : ∃ z : Array Slot, z = #[.val (.long p1), .second, .val (.long p2), .second, .val (.long p3), .second, .val (.int p4), .val (.int p5), .val (.int p6), .val (.int v2), .val (.int v4), .val (.int v6), .val (.int v8), .val (.int v10), .val (.int v12), .val (.int v14), .val (.int v16), .val (.int v18), .val (.int z20), .val (.int v25), .val (.int z27), .val (.int z32), .val (.int z37), .val (.int z42), .val (.int z47), .val (.int z52), .val (.int z57), .val (.int z62), .val (.int z67), .unset, .unset, .unset, .unset, .unset, .unset, .unset, .unset, .unset, .unset, .unset, .unset, .unset] := ⟨_, rfl⟩
                      refine own_step (fun _ k => XS.istore X0.here hx rfl (hb hby at_380) rfl (l' := A71) (by rw [hA70, hA71]; exact rfl) k) ?_
                      show own_Ends p e below F (s₁.setTop (mkF m 382 A71 []))
                      refine own_step (fun _ k => XS.iload X0.here hx rfl (hb hby at_382) (by rw [hA71]; rfl) k) ?_
                      show own_Ends p e below F (s₁.setTop (mkF m 384 A71 [(.int z32)]))
                      have J384_73 : ∀ (z72 : Int32) (hz72 : z72 = (if z32 = (0 : Int32) then (((p6.toUInt32 >>> ((6 : Int32) &&& 31).toUInt32).toInt32) &&& (1 : Int32)) else v4)), own_Ends p e below F (s₁.setTop (mkF m 399 #[.val (.long p1), .second, .val (.long p2), .second, .val (.long p3), .second, .val (.int p4), .val (.int p5), .val (.int p6), .val (.int v2), .val (.int v4), .val (.int v6), .val (.int v8), .val (.int v10), .val (.int v12), .val (.int v14), .val (.int v16), .val (.int v18), .val (.int z20), .val (.int v25), .val (.int z27), .val (.int z32), .val (.int z37), .val (.int z42), .val (.int z47), .val (.int z52), .val (.int z57), .val (.int z62), .val (.int z67), .unset, .unset, .unset, .unset, .unset, .unset, .unset, .unset, .unset, .unset, .unset, .unset, .unset] [(.int z72)])) := by
                        intro z72 hz72
                        obtain ⟨A75, hA75⟩ : ∃ z : Array Slot, z = #[.val (.long p1), .second, .val (.long p2), .second, .val (.long p3), .second, .val (.int p4), .val (.int p5), .val (.int p6), .val (.int v2), .val (.int v4), .val (.int v6), .val (.int v8), .val (.int v10), .val (.int v12), .val (.int v14), .val (.int v16), .val (.int v18), .val (.int z20), .val (.int v25), .val (.int z27), .val (.int z32), .val (.int z37), .val (.int z42), .val (.int z47), .val (.int z52), .val (.int z57), .val (.int z62), .val (.int z67), .unset, .unset, .unset, .unset, .unset, .unset, .unset, .unset, .unset, .unset, .unset, .unset, .unset] := ⟨_, rfl⟩
                        rw [← hA75]
                        show own_Ends p e below F (s₁.setTop (mkF m 399 A75 [(.int z72)]))
                        obtain ⟨A76, hA76⟩ : ∃ z : Array Slot, z = #[.val (.long p1), .second, .val (.long p2), .second, .val (.long p3), .second, .val (.int p4), .val (.int p5), .val (.int p6), .val (.int v2), .val (.int v4), .val (.int v6), .val (.int v8), .val (.int v10), .val (.int v12), .val (.int v14), .val (.int v16), .val (.int v18), .val (.int z20), .val (.int v25), .val (.int z27), .val (.int z32), .val (.int z37), .val (.int z42), .val (.int z47), .val (.int z52), .val (.int z57), .val (.int z62), .val (.int z67), .val (.int z72), .unset, .unset, .unset, .unset, .unset, .unset, .unset, .unset, .unset, .unset, .unset, .unset] := ⟨_, rfl⟩
                        refine own_step (fun _ k => XS.istore X0.here hx rfl (hb hby at_399) rfl (l' := A76) (by rw [hA75, hA76]; exact rfl) k) ?_
                        show own_Ends p e below F (s₁.setTop (mkF m 401 A76 []))
                        refine own_step (fun _ k => XS.iload X0.here hx rfl (hb hby at_401) (by rw [hA76]; rfl) k) ?_
                        show own_Ends p e below F (s₁.setTop (mkF m 403 A76 [(.int z32)]))
                        have J403_78 : ∀ (z77 : Int32) (hz77 : z77 = (if z32 = (0 : Int32) then (((p5.toUInt32 >>> ((16 : Int32) &&& 31).toUInt32).toInt32) &&& (255 : Int32)) else v12)), own_Ends p e below F (s₁.setTop (mkF m 420 #[.val (.long p1), .second, .val (.long p2), .second, .val (.long p3), .second, .val (.int p4), .val (.int p5), .val (.int p6), .val (.int v2), .val (.int v4), .val (.int v6), .val (.int v8), .val (.int v10), .val (.int v12), .val (.int v14), .val (.int v16), .val (.int v18), .val (.int z20), .val (.int v25), .val (.int z27), .val (.int z32), .val (.int z37), .val (.int z42), .val (.int z47), .val (.int z52), .val (.int z57), .val (.int z62), .val (.int z67), .val (.int z72), .unset, .unset, .unset, .unset, .unset, .unset, .unset, .unset, .unset, .unset, .unset, .unset] [(.int z77)])) := by
                          intro z77 hz77
                          obtain ⟨A80, hA80⟩ : ∃ z : Array Slot, z = #[.val (.long p1), .second, .val (.long p2), .second, .val (.long p3), .second, .val (.int p4), .val (.int p5), .val (.int p6), .val (.int v2), .val (.int v4), .val (.int v6), .val (.int v8), .val (.int v10), .val (.int v12), .val (.int v14), .val (.int v16), .val (.int v18), .val (.int z20), .val (.int v25), .val (.int z27), .val (.int z32), .val (.int z37), .val (.int z42), .val (.int z47), .val (.int z52), .val (.int z57), .val (.int z62), .val (.int z67), .val (.int z72), .unset, .unset, .unset, .unset, .unset, .unset, .unset, .unset, .unset, .unset, .unset, .unset] := ⟨_, rfl⟩
                          rw [← hA80]
                          show own_Ends p e below F (s₁.setTop (mkF m 420 A80 [(.int z77)]))
                          obtain ⟨A81, hA81⟩ : ∃ z : Array Slot, z = #[.val (.long p1), .second, .val (.long p2), .second, .val (.long p3), .second, .val (.int p4), .val (.int p5), .val (.int p6), .val (.int v2), .val (.int v4), .val (.int v6), .val (.int v8), .val (.int v10), .val (.int v12), .val (.int v14), .val (.int v16), .val (.int v18), .val (.int z20), .val (.int v25), .val (.int z27), .val (.int z32), .val (.int z37), .val (.int z42), .val (.int z47), .val (.int z52), .val (.int z57), .val (.int z62), .val (.int z67), .val (.int z72), .val (.int z77), .unset, .unset, .unset, .unset, .unset, .unset, .unset, .unset, .unset, .unset, .unset] := ⟨_, rfl⟩
                          refine own_step (fun _ k => XS.istore X0.here hx rfl (hb hby at_420) rfl (l' := A81) (by rw [hA80, hA81]; exact rfl) k) ?_
                          show own_Ends p e below F (s₁.setTop (mkF m 422 A81 []))
                          refine own_step (fun _ k => XS.iload X0.here hx rfl (hb hby at_422) (by rw [hA81]; rfl) k) ?_
                          show own_Ends p e below F (s₁.setTop (mkF m 424 A81 [(.int z37)]))
                          have J424_83 : ∀ (z82 : Int32) (hz82 : z82 = (if z37 = (0 : Int32) then (((p6.toUInt32 >>> ((7 : Int32) &&& 31).toUInt32).toInt32) &&& (1 : Int32)) else v6)), own_Ends p e below F (s₁.setTop (mkF m 439 #[.val (.long p1), .second, .val (.long p2), .second, .val (.long p3), .second, .val (.int p4), .val (.int p5), .val (.int p6), .val (.int v2), .val (.int v4), .val (.int v6), .val (.int v8), .val (.int v10), .val (.int v12), .val (.int v14), .val (.int v16), .val (.int v18), .val (.int z20), .val (.int v25), .val (.int z27), .val (.int z32), .val (.int z37), .val (.int z42), .val (.int z47), .val (.int z52), .val (.int z57), .val (.int z62), .val (.int z67), .val (.int z72), .val (.int z77), .unset, .unset, .unset, .unset, .unset, .unset, .unset, .unset, .unset, .unset, .unset] [(.int z82)])) := by
                            intro z82 hz82
                            obtain ⟨A85, hA85⟩ : ∃ z : Array Slot, z = #[.val (.long p1), .second, .val (.long p2), .second, .val (.long p3), .second, .val (.int p4), .val (.int p5), .val (.int p6), .val (.int v2), .val (.int v4), .val (.int v6), .val (.int v8), .val (.int v10), .val (.int v12), .val (.int v14), .val (.int v16), .val (.int v18), .val (.int z20), .val (.int v25), .val (.int z27), .val (.int z32), .val (.int z37), .val (.int z42), .val (.int z47), .val (.int z52), .val (.int z57), .val (.int z62), .val (.int z67), .val (.int z72), .val (.int z77), .unset, .unset, .unset, .unset, .unset, .unset, .unset, .unset, .unset, .unset, .unset] := ⟨_, rfl⟩
                            rw [← hA85]
                            show own_Ends p e below F (s₁.setTop (mkF m 439 A85 [(.int z82)]))
                            obtain ⟨A86, hA86⟩ : ∃ z : Array Slot, z = #[.val (.long p1), .second, .val (.long p2), .second, .val (.long p3), .second, .val (.int p4), .val (.int p5), .val (.int p6), .val (.int v2), .val (.int v4), .val (.int v6), .val (.int v8), .val (.int v10), .val (.int v12), .val (.int v14), .val (.int v16), .val (.int v18), .val (.int z20), .val (.int v25), .val (.int z27), .val (.int z32), .val (.int z37), .val (.int z42), .val (.int z47), .val (.int z52), .val (.int z57), .val (.int z62), .val (.int z67), .val (.int z72), .val (.int z77), .val (.int z82), .unset, .unset, .unset, .unset, .unset, .unset, .unset, .unset, .unset, .unset] := ⟨_, rfl⟩
                            refine own_step (fun _ k => XS.istore X0.here hx rfl (hb hby at_439) rfl (l' := A86) (by rw [hA85, hA86]; exact rfl) k) ?_
                            show own_Ends p e below F (s₁.setTop (mkF m 441 A86 []))
                            refine own_step (fun _ k => XS.iload X0.here hx rfl (hb hby at_441) (by rw [hA86]; rfl) k) ?_
                            show own_Ends p e below F (s₁.setTop (mkF m 443 A86 [(.int z37)]))
                            have J443_88 : ∀ (z87 : Int32) (hz87 : z87 = (if z37 = (0 : Int32) then (((p5.toUInt32 >>> ((24 : Int32) &&& 31).toUInt32).toInt32) &&& (255 : Int32)) else v14)), own_Ends p e below F (s₁.setTop (mkF m 460 #[.val (.long p1), .second, .val (.long p2), .second, .val (.long p3), .second, .val (.int p4), .val (.int p5), .val (.int p6), .val (.int v2), .val (.int v4), .val (.int v6), .val (.int v8), .val (.int v10), .val (.int v12), .val (.int v14), .val (.int v16), .val (.int v18), .val (.int z20), .val (.int v25), .val (.int z27), .val (.int z32), .val (.int z37), .val (.int z42), .val (.int z47), .val (.int z52), .val (.int z57), .val (.int z62), .val (.int z67), .val (.int z72), .val (.int z77), .val (.int z82), .unset, .unset, .unset, .unset, .unset, .unset, .unset, .unset, .unset, .unset] [(.int z87)])) := by
                              intro z87 hz87
                              obtain ⟨A90, hA90⟩ : ∃ z : Array Slot, z = #[.val (.long p1), .second, .val (.long p2), .second, .val (.long p3), .second, .val (.int p4), .val (.int p5), .val (.int p6), .val (.int v2), .val (.int v4), .val (.int v6), .val (.int v8), .val (.int v10), .val (.int v12), .val (.int v14), .val (.int v16), .val (.int v18), .val (.int z20), .val (.int v25), .val (.int z27), .val (.int z32), .val (.int z37), .val (.int z42), .val (.int z47), .val (.int z52), .val (.int z57), .val (.int z62), .val (.int z67), .val (.int z72), .val (.int z77), .val (.int z82), .unset, .unset, .unset, .unset, .unset, .unset, .unset, .unset, .unset, .unset] := ⟨_, rfl⟩
                              rw [← hA90]
                              show own_Ends p e below F (s₁.setTop (mkF m 460 A90 [(.int z87)]))
                              obtain ⟨A91, hA91⟩ : ∃ z : Array Slot, z = #[.val (.long p1), .second, .val (.long p2), .second, .val (.long p3), .second, .val (.int p4), .val (.int p5), .val (.int p6), .val (.int v2), .val (.int v4), .val (.int v6), .val (.int v8), .val (.int v10), .val (.int v12), .val (.int v14), .val (.int v16), .val (.int v18), .val (.int z20), .val (.int v25), .val (.int z27), .val (.int z32), .val (.int z37), .val (.int z42), .val (.int z47), .val (.int z52), .val (.int z57), .val (.int z62), .val (.int z67), .val (.int z72), .val (.int z77), .val (.int z82), .val (.int z87), .unset, .unset, .unset, .unset, .unset, .unset, .unset, .unset, .unset] := ⟨_, rfl⟩
                              refine own_step (fun _ k => XS.istore X0.here hx rfl (hb hby at_460) rfl (l' := A91) (by rw [hA90, hA91]; exact rfl) k) ?_
                              show own_Ends p e below F (s₁.setTop (mkF m 462 A91 []))
                              refine own_step (fun _ k => XS.iload X0.here hx rfl (hb hby at_462) (by rw [hA91]; rfl) k) ?_
                              show own_Ends p e below F (s₁.setTop (mkF m 464 A91 [(.int z42)]))
                              have J464_93 : ∀ (z92 : Int32) (hz92 : z92 = (if z42 = (0 : Int32) then ((((p6.toUInt32 >>> ((16 : Int32) &&& 31).toUInt32).toInt32) &&& (3 : Int32)) % (3 : Int32)) else v16)), own_Ends p e below F (s₁.setTop (mkF m 481 #[.val (.long p1), .second, .val (.long p2), .second, .val (.long p3), .second, .val (.int p4), .val (.int p5), .val (.int p6), .val (.int v2), .val (.int v4), .val (.int v6), .val (.int v8), .val (.int v10), .val (.int v12), .val (.int v14), .val (.int v16), .val (.int v18), .val (.int z20), .val (.int v25), .val (.int z27), .val (.int z32), .val (.int z37), .val (.int z42), .val (.int z47), .val (.int z52), .val (.int z57), .val (.int z62), .val (.int z67), .val (.int z72), .val (.int z77), .val (.int z82), .val (.int z87), .unset, .unset, .unset, .unset, .unset, .unset, .unset, .unset, .unset] [(.int z92)])) := by
                                intro z92 hz92
                                obtain ⟨A95, hA95⟩ : ∃ z : Array Slot, z = #[.val (.long p1), .second, .val (.long p2), .second, .val (.long p3), .second, .val (.int p4), .val (.int p5), .val (.int p6), .val (.int v2), .val (.int v4), .val (.int v6), .val (.int v8), .val (.int v10), .val (.int v12), .val (.int v14), .val (.int v16), .val (.int v18), .val (.int z20), .val (.int v25), .val (.int z27), .val (.int z32), .val (.int z37), .val (.int z42), .val (.int z47), .val (.int z52), .val (.int z57), .val (.int z62), .val (.int z67), .val (.int z72), .val (.int z77), .val (.int z82), .val (.int z87), .unset, .unset, .unset, .unset, .unset, .unset, .unset, .unset, .unset] := ⟨_, rfl⟩
                                rw [← hA95]
                                show own_Ends p e below F (s₁.setTop (mkF m 481 A95 [(.int z92)]))
                                obtain ⟨A96, hA96⟩ : ∃ z : Array Slot, z = #[.val (.long p1), .second, .val (.long p2), .second, .val (.long p3), .second, .val (.int p4), .val (.int p5), .val (.int p6), .val (.int v2), .val (.int v4), .val (.int v6), .val (.int v8), .val (.int v10), .val (.int v12), .val (.int v14), .val (.int v16), .val (.int v18), .val (.int z20), .val (.int v25), .val (.int z27), .val (.int z32), .val (.int z37), .val (.int z42), .val (.int z47), .val (.int z52), .val (.int z57), .val (.int z62), .val (.int z67), .val (.int z72), .val (.int z77), .val (.int z82), .val (.int z87), .val (.int z92), .unset, .unset, .unset, .unset, .unset, .unset, .unset, .unset] := ⟨_, rfl⟩
                                refine own_step (fun _ k => XS.istore X0.here hx rfl (hb hby at_481) rfl (l' := A96) (by rw [hA95, hA96]; exact rfl) k) ?_
                                show own_Ends p e below F (s₁.setTop (mkF m 483 A96 []))
                                refine own_step (fun _ k => XS.iload X0.here hx rfl (hb hby at_483) (by rw [hA96]; rfl) k) ?_
                                show own_Ends p e below F (s₁.setTop (mkF m 485 A96 [(.int z47)]))
                                have J485_98 : ∀ (z97 : Int64) (hz97 : z97 = (if z47 = (0 : Int32) then p2 else p1)), own_Ends p e below F (s₁.setTop (mkF m 493 #[.val (.long p1), .second, .val (.long p2), .second, .val (.long p3), .second, .val (.int p4), .val (.int p5), .val (.int p6), .val (.int v2), .val (.int v4), .val (.int v6), .val (.int v8), .val (.int v10), .val (.int v12), .val (.int v14), .val (.int v16), .val (.int v18), .val (.int z20), .val (.int v25), .val (.int z27), .val (.int z32), .val (.int z37), .val (.int z42), .val (.int z47), .val (.int z52), .val (.int z57), .val (.int z62), .val (.int z67), .val (.int z72), .val (.int z77), .val (.int z82), .val (.int z87), .val (.int z92), .unset, .unset, .unset, .unset, .unset, .unset, .unset, .unset] [(.long z97)])) := by
                                  intro z97 hz97
                                  obtain ⟨A100, hA100⟩ : ∃ z : Array Slot, z = #[.val (.long p1), .second, .val (.long p2), .second, .val (.long p3), .second, .val (.int p4), .val (.int p5), .val (.int p6), .val (.int v2), .val (.int v4), .val (.int v6), .val (.int v8), .val (.int v10), .val (.int v12), .val (.int v14), .val (.int v16), .val (.int v18), .val (.int z20), .val (.int v25), .val (.int z27), .val (.int z32), .val (.int z37), .val (.int z42), .val (.int z47), .val (.int z52), .val (.int z57), .val (.int z62), .val (.int z67), .val (.int z72), .val (.int z77), .val (.int z82), .val (.int z87), .val (.int z92), .unset, .unset, .unset, .unset, .unset, .unset, .unset, .unset] := ⟨_, rfl⟩
                                  rw [← hA100]
                                  show own_Ends p e below F (s₁.setTop (mkF m 493 A100 [(.long z97)]))
                                  obtain ⟨A101, hA101⟩ : ∃ z : Array Slot, z = #[.val (.long p1), .second, .val (.long p2), .second, .val (.long p3), .second, .val (.int p4), .val (.int p5), .val (.int p6), .val (.int v2), .val (.int v4), .val (.int v6), .val (.int v8), .val (.int v10), .val (.int v12), .val (.int v14), .val (.int v16), .val (.int v18), .val (.int z20), .val (.int v25), .val (.int z27), .val (.int z32), .val (.int z37), .val (.int z42), .val (.int z47), .val (.int z52), .val (.int z57), .val (.int z62), .val (.int z67), .val (.int z72), .val (.int z77), .val (.int z82), .val (.int z87), .val (.int z92), .val (.long z97), .second, .unset, .unset, .unset, .unset, .unset, .unset] := ⟨_, rfl⟩
                                  refine own_step (fun _ k => XS.lstore X0.here hx rfl (hb hby at_493) rfl (l' := A101) (by rw [hA100, hA101]; exact rfl) k) ?_
                                  show own_Ends p e below F (s₁.setTop (mkF m 495 A101 []))
                                  refine own_step (fun _ k => XS.iload X0.here hx rfl (hb hby at_495) (by rw [hA101]; rfl) k) ?_
                                  show own_Ends p e below F (s₁.setTop (mkF m 497 A101 [(.int z52)]))
                                  have J497_103 : ∀ (z102 : Int32) (hz102 : z102 = (if z52 = (0 : Int32) then (((p3.toUInt64 >>> ((32 : Int32) &&& 0x3f).toInt64.toUInt64).toInt64).toInt32) else v18)), own_Ends p e below F (s₁.setTop (mkF m 511 #[.val (.long p1), .second, .val (.long p2), .second, .val (.long p3), .second, .val (.int p4), .val (.int p5), .val (.int p6), .val (.int v2), .val (.int v4), .val (.int v6), .val (.int v8), .val (.int v10), .val (.int v12), .val (.int v14), .val (.int v16), .val (.int v18), .val (.int z20), .val (.int v25), .val (.int z27), .val (.int z32), .val (.int z37), .val (.int z42), .val (.int z47), .val (.int z52), .val (.int z57), .val (.int z62), .val (.int z67), .val (.int z72), .val (.int z77), .val (.int z82), .val (.int z87), .val (.int z92), .val (.long z97), .second, .unset, .unset, .unset, .unset, .unset, .unset] [(.int z102)])) := by
                                    intro z102 hz102
                                    obtain ⟨A105, hA105⟩ : ∃ z : Array Slot, z = #[.val (.long p1), .second, .val (.long p2), .second, .val (.long p3), .second, .val (.int p4), .val (.int p5), .val (.int p6), .val (.int v2), .val (.int v4), .val (.int v6), .val (.int v8), .val (.int v10), .val (.int v12), .val (.int v14), .val (.int v16), .val (.int v18), .val (.int z20), .val (.int v25), .val (.int z27), .val (.int z32), .val (.int z37), .val (.int z42), .val (.int z47), .val (.int z52), .val (.int z57), .val (.int z62), .val (.int z67), .val (.int z72), .val (.int z77), .val (.int z82), .val (.int z87), .val (.int z92), .val (.long z97), .second, .unset, .unset, .unset, .unset, .unset, .unset] := ⟨_, rfl⟩
                                    rw [← hA105]
                                    show own_Ends p e below F (s₁.setTop (mkF m 511 A105 [(.int z102)]))
                                    obtain ⟨A106, hA106⟩ : ∃ z : Array Slot, z = #[.val (.long p1), .second, .val (.long p2), .second, .val (.long p3), .second, .val (.int p4), .val (.int p5), .val (.int p6), .val (.int v2), .val (.int v4), .val (.int v6), .val (.int v8), .val (.int v10), .val (.int v12), .val (.int v14), .val (.int v16), .val (.int v18), .val (.int z20), .val (.int v25), .val (.int z27), .val (.int z32), .val (.int z37), .val (.int z42), .val (.int z47), .val (.int z52), .val (.int z57), .val (.int z62), .val (.int z67), .val (.int z72), .val (.int z77), .val (.int z82), .val (.int z87), .val (.int z92), .val (.long z97), .second, .val (.int z102), .unset, .unset, .unset, .unset, .unset] := ⟨_, rfl⟩
                                    refine own_step (fun _ k => XS.istore X0.here hx rfl (hb hby at_511) rfl (l' := A106) (by rw [hA105, hA106]; exact rfl) k) ?_
                                    show own_Ends p e below F (s₁.setTop (mkF m 513 A106 []))
                                    have ch12 := own_b8 ev8
                                    have ch13 := own_b8 ev10
                                    have ch14 := own_b8 ev12
                                    have ch15 := own_b8 ev14
                                    have ch27 := own_b8i hz62 ch12
                                    have ch28 := own_b8i hz67 ch13
                                    have ch30 := own_b8i hz77 ch14
                                    have ch32 := own_b8i hz87 ch15
                                    refine own_step (fun _ k => XS.iload X0.here hx rfl (hb hby at_513) (by rw [hA106]; rfl) k) ?_
                                    show own_Ends p e below F (s₁.setTop (mkF m 515 A106 [(.int v2)]))
                                    refine own_step (fun _ k => XS.iload X0.here hx rfl (hb hby at_515) (by rw [hA106]; rfl) k) ?_
                                    show own_Ends p e below F (s₁.setTop (mkF m 517 A106 [(.int v8), (.int v2)]))
                                    refine own_step (fun _ k => XS.iload X0.here hx rfl (hb hby at_517) (by rw [hA106]; rfl) k) ?_
                                    show own_Ends p e below F (s₁.setTop (mkF m 519 A106 [(.int v10), (.int v8), (.int v2)]))
                                    obtain ⟨_, _, ⟨T107, L107, k107, n107⟩, -, X107, hS107, gr107, ⟨Lc107, hQ107, l107, y107, z107, hr107⟩, st107⟩ := callSS X0 hx (y := (⟨"com/example/clock3600/clock3600/queue/QueuedTaskEqualsPinLaw", "mk", "(III)Ljava/lang/String;"⟩ : MethodName)) hown (mvT hZ (own_g hw 0 rfl)) (mvT hZ (own_g hw 1 rfl)) (mvT hZ (own_g hw 2 rfl)) (mvT hZ (own_g hw 3 rfl)) (by decide) (backOfSH (W := 0) (rm1 l Z a0 hw [] v2 v8 v10 zc h0 n0 Z0 SC hz ch12 ch13) hZ (own_g hw 3 rfl) (own_g hw 2 rfl) (by decide) (by decide) (own_EW hw) hC0.1) (g := (mkF m 519 A106 [(.int v10), (.int v8), (.int v2)])) rfl (by rw [hml]; show A106.size = _; rw [hA106]; rfl) (argsL := [(.int v2), (.int v8), (.int v10)]) (rest := []) (lenOf pd__28III_29Ljava_2flang_2fString_3b rfl) rfl (by show 2 * 0 + _ ≤ _; exact Nat.le_of_eq rfl) (hb hby at_519) (fun _ _ => ⟨rfl, e0, (by decide : 0 + 6 ≤ _), (by decide : 0 + 12 ≤ _)⟩)
                                    dsimp only [Pt.U, Pt.locs, Pt.cells, Pt.slots] at X107 l107 y107 z107 st107 hQ107 hS107 gr107 hr107
                                    subst l107 y107 z107
                                    obtain ⟨c107, rfl, Nq107, Kq107, fq0_107, fq1_107⟩ := hQ107
                                    have N107 := Fr.app N0 Nq107
                                    have Z107 : n0 ≤ T107.heap.size := Nat.le_trans Z0 Kq107.1
                                    have SZ107 : h0.size ≤ T107.heap.size := Nat.le_trans (Nat.le_refl h0.size) Kq107.1
                                    have S0_107 := own_Sta_keep SC Kq107 all0
                                    have S1_107 := own_Sta_keep Spe Kq107 all0
                                    have S2_107 := own_Sta_keep Sre Kq107 all0
                                    have S3_107 := own_Sta_keep Sle Kq107 all0
                                    have ge_c107 : n0 ≤ c107 := Nat.le_trans Z0 fq0_107
                                    have sz_c107 : h0.size ≤ c107 := Nat.le_trans (Nat.le_refl h0.size) fq0_107
                                    have str107 := fq1_107
                                    have fe107 := str107.exa
                                    have hC107 := hC0.trans hr107
                                    have hZ := own_warm hZ hS107
                                    have hown := own_find hown hS107
                                    have hS := foldS hS (by rw [e0]; exact hk) hS107 gr107
                                    have hk := Nat.le_refl T107.heap.size
                                    refine own_trans st107 ?_
                                    show own_Ends p e below F (T107.setTop (mkF m 522 A106 [(.ref c107)]))
                                    obtain ⟨A108, hA108⟩ : ∃ z : Array Slot, z = #[.val (.long p1), .second, .val (.long p2), .second, .val (.long p3), .second, .val (.int p4), .val (.int p5), .val (.int p6), .val (.int v2), .val (.int v4), .val (.int v6), .val (.int v8), .val (.int v10), .val (.int v12), .val (.int v14), .val (.int v16), .val (.int v18), .val (.int z20), .val (.int v25), .val (.int z27), .val (.int z32), .val (.int z37), .val (.int z42), .val (.int z47), .val (.int z52), .val (.int z57), .val (.int z62), .val (.int z67), .val (.int z72), .val (.int z77), .val (.int z82), .val (.int z87), .val (.int z92), .val (.long z97), .second, .val (.int z102), .val (.ref c107), .unset, .unset, .unset, .unset] := ⟨_, rfl⟩
                                    refine own_step (fun _ k => XS.astore X107.here hx rfl (hb hby at_522) rfl rfl (l' := A108) (by rw [hA106, hA108]; exact rfl) k) ?_
                                    show own_Ends p e below F (T107.setTop (mkF m 524 A108 []))
                                    obtain ⟨T109, h109, X109, e109, E109, A109, D109, -, st109⟩ := newO X107 hx hZ hown (own_g hw 26 rfl) (own_g hw 27 rfl) (own_g hw 28 rfl) rfl (g := (mkF m 524 A108 [])) rfl (hb hby at_524) (by decide) (by decide)
                                    obtain ⟨a109, g109⟩ : ∃ z, z = T107.heap.size := ⟨_, rfl⟩
                                    rw [← g109] at A109 D109 st109
                                    have ge_a109 : n0 ≤ a109 := Nat.le_trans Z107 (Nat.le_of_eq g109.symm)
                                    have sz_a109 : h0.size ≤ a109 := Nat.le_trans SZ107 (Nat.le_of_eq g109.symm)
                                    have ne_c107_a109 : c107 ≠ a109 := Nat.ne_of_lt (by rw [g109]; exact str107.lt)
                                    have bd109_T107_heap_size : T107.heap.size ≤ a109 := by rw [g109]; exact (Nat.le_refl T107.heap.size)
                                    have Z109 : n0 ≤ h109.size := Nat.le_trans Z107 E109.1
                                    have SZ109 : h0.size ≤ h109.size := Nat.le_trans SZ107 E109.1
                                    have hk := Nat.le_trans hk E109.1
                                    have hr109 := CHr.ext E109 hC107.1
                                    have hC109 := hC107.trans hr109
                                    have F109_queue : Fld Z h109 a109 "com/example/clock3600/clock3600/queue/QueuedTask" "queue" "Ljava/lang/String;" .null := D109 (Or.inr (own_g hw 40 rfl)) (ty := (.object "java/lang/String")) (by decide)
                                    have F109_id : Fld Z h109 a109 "com/example/clock3600/clock3600/queue/QueuedTask" "id" "Ljava/lang/String;" .null := D109 (Or.inr (own_g hw 42 rfl)) (ty := (.object "java/lang/String")) (by decide)
                                    have F109_dueAtMillis : Fld Z h109 a109 "com/example/clock3600/clock3600/queue/QueuedTask" "dueAtMillis" "J" (.long (0 : Int64)) := D109 (Or.inr (own_g hw 44 rfl)) (ty := .long) (by decide)
                                    have F109_payload : Fld Z h109 a109 "com/example/clock3600/clock3600/queue/QueuedTask" "payload" "Ljava/lang/String;" .null := D109 (Or.inr (own_g hw 46 rfl)) (ty := (.object "java/lang/String")) (by decide)
                                    have F109_state : Fld Z h109 a109 "com/example/clock3600/clock3600/queue/QueuedTask" "state" "Lcom/example/clock3600/clock3600/queue/TaskState;" .null := D109 (Or.inr (own_g hw 48 rfl)) (ty := (.object "com/example/clock3600/clock3600/queue/TaskState")) (by decide)
                                    have F109_attempts : Fld Z h109 a109 "com/example/clock3600/clock3600/queue/QueuedTask" "attempts" "I" (.int (0 : Int32)) := D109 (Or.inr (own_g hw 50 rfl)) (ty := .int) (by decide)
                                    have sf_a109 : own_SL Z own_EL T107.vm h109 a109 := own_SL.born hC107.1 E109 g109 A109.lt
                                    refine own_step st109 ?_
                                    show own_Ends p e below F (T109.setTop (mkF m 527 A108 [(.ref a109)]))
                                    refine own_step (fun _ k => XS.dup X109.here hx rfl (hb hby at_527) rfl rfl k) ?_
                                    show own_Ends p e below F (T109.setTop (mkF m 528 A108 [(.ref a109), (.ref a109)]))
                                    refine own_step (fun _ k => XS.aload X109.here hx rfl (hb hby at_528) (by rw [hA108]; rfl) rfl k) ?_
                                    show own_Ends p e below F (T109.setTop (mkF m 530 A108 [(.ref c107), (.ref a109), (.ref a109)]))
                                    refine own_step (fun _ k => XS.iload X109.here hx rfl (hb hby at_530) (by rw [hA108]; rfl) k) ?_
                                    show own_Ends p e below F (T109.setTop (mkF m 532 A108 [(.int v4), (.ref c107), (.ref a109), (.ref a109)]))
                                    refine own_step (fun _ k => XS.iload X109.here hx rfl (hb hby at_532) (by rw [hA108]; rfl) k) ?_
                                    show own_Ends p e below F (T109.setTop (mkF m 534 A108 [(.int v12), (.int v4), (.ref c107), (.ref a109), (.ref a109)]))
                                    refine own_step (fun _ k => XS.iconst X109.here hx rfl (hb hby at_534) k) ?_
                                    show own_Ends p e below F (T109.setTop (mkF m 535 A108 [(.int (0 : Int32)), (.int v12), (.int v4), (.ref c107), (.ref a109), (.ref a109)]))
                                    obtain ⟨_, _, ⟨T110, L110, k110, n110⟩, -, X110, hS110, gr110, ⟨Lc110, hQ110, l110, y110, z110, hr110⟩, st110⟩ := callSS X109 hx (y := (⟨"com/example/clock3600/clock3600/queue/QueuedTaskEqualsPinLaw", "mk", "(III)Ljava/lang/String;"⟩ : MethodName)) hown (mvT hZ (own_g hw 0 rfl)) (mvT hZ (own_g hw 1 rfl)) (mvT hZ (own_g hw 2 rfl)) (mvT hZ (own_g hw 3 rfl)) (by decide) (backOfSH (W := 3) (rm1 l Z a0 hw [] v4 v12 (0 : Int32) zc h109 n0 Z109 (Sta.ext E109 S0_107) hz ch14 (⟨by decide, by decide⟩ : ¬ (0 : Int32) < 0 ∧ ¬ (255 : Int32) < 0)) hZ (own_g hw 3 rfl) (own_g hw 2 rfl) (by decide) (by decide) (own_EW hw) hC109.1) (g := (mkF m 535 A108 [(.int (0 : Int32)), (.int v12), (.int v4), (.ref c107), (.ref a109), (.ref a109)])) rfl (by rw [hml]; show A108.size = _; rw [hA108]; rfl) (argsL := [(.int v4), (.int v12), (.int (0 : Int32))]) (rest := [(.ref c107), (.ref a109), (.ref a109)]) (lenOf pd__28III_29Ljava_2flang_2fString_3b rfl) rfl (by show 2 * 0 + _ ≤ _; exact Nat.le_of_eq rfl) (hb hby at_535) (fun _ _ => ⟨rfl, e109, (by decide : 7 + 6 ≤ _), (by decide : 18 + 12 ≤ _)⟩)
                                    dsimp only [Pt.U, Pt.locs, Pt.cells, Pt.slots] at X110 l110 y110 z110 st110 hQ110 hS110 gr110 hr110
                                    subst l110 y110 z110
                                    obtain ⟨c110, rfl, Nq110, Kq110, fq0_110, fq1_110⟩ := hQ110
                                    have N110 := Fr.app N107 Nq110
                                    have Z110 : n0 ≤ T110.heap.size := Nat.le_trans Z109 Kq110.1
                                    have SZ110 : h0.size ≤ T110.heap.size := Nat.le_trans SZ109 Kq110.1
                                    have S0_110 := own_Sta_keep (Sta.ext E109 S0_107) Kq110 all0
                                    have S1_110 := own_Sta_keep (Sta.ext E109 S1_107) Kq110 all0
                                    have S2_110 := own_Sta_keep (Sta.ext E109 S2_107) Kq110 all0
                                    have S3_110 := own_Sta_keep (Sta.ext E109 S3_107) Kq110 all0
                                    have bd110_c110_T107_heap_size : T107.heap.size ≤ c110 := Nat.le_trans (Nat.le_trans (Nat.le_refl T107.heap.size) E109.1) fq0_110
                                    have ne_c107_c110 : c107 ≠ c110 := Nat.ne_of_lt (Nat.lt_of_lt_of_le ((str107.ext E109)).lt fq0_110)
                                    have ne_a109_c110 : a109 ≠ c110 := Nat.ne_of_lt (Nat.lt_of_lt_of_le (F109_queue).lt fq0_110)
                                    have ge_c110 : n0 ≤ c110 := Nat.le_trans Z109 fq0_110
                                    have sz_c110 : h0.size ≤ c110 := Nat.le_trans SZ109 fq0_110
                                    have str110 := fq1_110
                                    have fe110 := str110.exa
                                    have hC110 := hC109.trans hr110
                                    have hZ := own_warm hZ hS110
                                    have hown := own_find hown hS110
                                    have hS := foldS hS (by rw [e109]; exact hk) hS110 gr110
                                    have hk := Nat.le_refl T110.heap.size
                                    refine own_trans st110 ?_
                                    show own_Ends p e below F (T110.setTop (mkF m 538 A108 [(.ref c110), (.ref c107), (.ref a109), (.ref a109)]))
                                    refine own_step (fun _ k => XS.lloadN X110.here hx rfl (hb hby at_538) (by rw [hA108]; rfl) k) ?_
                                    show own_Ends p e below F (T110.setTop (mkF m 539 A108 [(.long p1), (.ref c110), (.ref c107), (.ref a109), (.ref a109)]))
                                    refine own_step (fun _ k => XS.iload X110.here hx rfl (hb hby at_539) (by rw [hA108]; rfl) k) ?_
                                    show own_Ends p e below F (T110.setTop (mkF m 541 A108 [(.int v6), (.long p1), (.ref c110), (.ref c107), (.ref a109), (.ref a109)]))
                                    refine own_step (fun _ k => XS.iload X110.here hx rfl (hb hby at_541) (by rw [hA108]; rfl) k) ?_
                                    show own_Ends p e below F (T110.setTop (mkF m 543 A108 [(.int v14), (.int v6), (.long p1), (.ref c110), (.ref c107), (.ref a109), (.ref a109)]))
                                    refine own_step (fun _ k => XS.iconst X110.here hx rfl (hb hby at_543) k) ?_
                                    show own_Ends p e below F (T110.setTop (mkF m 544 A108 [(.int (0 : Int32)), (.int v14), (.int v6), (.long p1), (.ref c110), (.ref c107), (.ref a109), (.ref a109)]))
                                    obtain ⟨_, _, ⟨T111, L111, k111, n111⟩, -, X111, hS111, gr111, ⟨Lc111, hQ111, l111, y111, z111, hr111⟩, st111⟩ := callSS X110 hx (y := (⟨"com/example/clock3600/clock3600/queue/QueuedTaskEqualsPinLaw", "mk", "(III)Ljava/lang/String;"⟩ : MethodName)) hown (mvT hZ (own_g hw 0 rfl)) (mvT hZ (own_g hw 1 rfl)) (mvT hZ (own_g hw 2 rfl)) (mvT hZ (own_g hw 3 rfl)) (by decide) (backOfSH (W := 6) (rm1 l Z a0 hw [] v6 v14 (0 : Int32) zc T110.heap n0 Z110 S0_110 hz ch15 (⟨by decide, by decide⟩ : ¬ (0 : Int32) < 0 ∧ ¬ (255 : Int32) < 0)) hZ (own_g hw 3 rfl) (own_g hw 2 rfl) (by decide) (by decide) (own_EW hw) hC110.1) (g := (mkF m 544 A108 [(.int (0 : Int32)), (.int v14), (.int v6), (.long p1), (.ref c110), (.ref c107), (.ref a109), (.ref a109)])) rfl (by rw [hml]; show A108.size = _; rw [hA108]; rfl) (argsL := [(.int v6), (.int v14), (.int (0 : Int32))]) (rest := [(.long p1), (.ref c110), (.ref c107), (.ref a109), (.ref a109)]) (lenOf pd__28III_29Ljava_2flang_2fString_3b rfl) rfl (by show 2 * 0 + _ ≤ _; exact Nat.le_of_eq rfl) (hb hby at_544) (fun _ _ => ⟨rfl, rfl, (by decide : 13 + 6 ≤ _), (by decide : 30 + 12 ≤ _)⟩)
                                    dsimp only [Pt.U, Pt.locs, Pt.cells, Pt.slots] at X111 l111 y111 z111 st111 hQ111 hS111 gr111 hr111
                                    subst l111 y111 z111
                                    obtain ⟨c111, rfl, Nq111, Kq111, fq0_111, fq1_111⟩ := hQ111
                                    have N111 := Fr.app N110 Nq111
                                    have Z111 : n0 ≤ T111.heap.size := Nat.le_trans Z110 Kq111.1
                                    have SZ111 : h0.size ≤ T111.heap.size := Nat.le_trans SZ110 Kq111.1
                                    have S0_111 := own_Sta_keep S0_110 Kq111 all0
                                    have S1_111 := own_Sta_keep S1_110 Kq111 all0
                                    have S2_111 := own_Sta_keep S2_110 Kq111 all0
                                    have S3_111 := own_Sta_keep S3_110 Kq111 all0
                                    have bd111_c111_T107_heap_size : T107.heap.size ≤ c111 := Nat.le_trans (Nat.le_trans (Nat.le_trans (Nat.le_refl T107.heap.size) E109.1) Kq110.1) fq0_111
                                    have bd111_c111_T110_heap_size : T110.heap.size ≤ c111 := Nat.le_trans (Nat.le_refl T110.heap.size) fq0_111
                                    have ne_c107_c111 : c107 ≠ c111 := Nat.ne_of_lt (Nat.lt_of_lt_of_le ((own_Str.keep (str107.ext E109) Kq110 all0)).lt fq0_111)
                                    have ne_a109_c111 : a109 ≠ c111 := Nat.ne_of_lt (Nat.lt_of_lt_of_le ((F109_queue.keep Kq110 nin0)).lt fq0_111)
                                    have ne_c110_c111 : c110 ≠ c111 := Nat.ne_of_lt (Nat.lt_of_lt_of_le (str110).lt fq0_111)
                                    have ge_c111 : n0 ≤ c111 := Nat.le_trans Z110 fq0_111
                                    have sz_c111 : h0.size ≤ c111 := Nat.le_trans SZ110 fq0_111
                                    have str111 := fq1_111
                                    have fe111 := str111.exa
                                    have hC111 := hC110.trans hr111
                                    have hZ := own_warm hZ hS111
                                    have hown := own_find hown hS111
                                    have hS := foldS hS (by exact hk) hS111 gr111
                                    have hk := Nat.le_refl T111.heap.size
                                    refine own_trans st111 ?_
                                    show own_Ends p e below F (T111.setTop (mkF m 547 A108 [(.ref c111), (.long p1), (.ref c110), (.ref c107), (.ref a109), (.ref a109)]))
                                    refine own_step (fun _ k => XS.iload X111.here hx rfl (hb hby at_547) (by rw [hA108]; rfl) k) ?_
                                    show own_Ends p e below F (T111.setTop (mkF m 549 A108 [(.int v16), (.ref c111), (.long p1), (.ref c110), (.ref c107), (.ref a109), (.ref a109)]))
                                    obtain ⟨_, _, ⟨T112, L112, k112, n112⟩, -, X112, ⟨Lc112, hQ112, l112, y112, z112⟩, st112⟩ := Jvm.LawKit.callS X111 hx (y := (⟨"com/example/clock3600/clock3600/queue/QueuedTaskEqualsPinLaw", "st", "(I)Lcom/example/clock3600/clock3600/queue/TaskState;"⟩ : MethodName)) hown (mvT hZ (own_g hw 29 rfl)) (mvT hZ (own_g hw 30 rfl)) (mvT hZ (own_g hw 2 rfl)) (mvT hZ (own_g hw 31 rfl)) (by decide) (backOf (W := 7) (rm5 l Z a0 hw [] v16 pe re le T111.heap n0 Z111 S1_111 S2_111 S3_111) hZ (own_g hw 31 rfl) (own_g hw 2 rfl) (by decide) (by decide)) (g := (mkF m 549 A108 [(.int v16), (.ref c111), (.long p1), (.ref c110), (.ref c107), (.ref a109), (.ref a109)])) rfl (by rw [hml]; show A108.size = _; rw [hA108]; rfl) (argsL := [(.int v16)]) (rest := [(.ref c111), (.long p1), (.ref c110), (.ref c107), (.ref a109), (.ref a109)]) (lenOf pd__28I_29Lcom_2fexample_2fclock3600_2fclock3600_2fqueue_2fTaskState_3b rfl) rfl (by show 2 * 0 + _ ≤ _; exact Nat.le_of_eq rfl) (hb hby at_549) (fun _ _ => ⟨rfl, rfl, (by decide : 19 + 0 ≤ _), (by decide : 42 + 0 ≤ _)⟩)
                                    dsimp only [Pt.U, Pt.locs, Pt.cells, Pt.slots] at X112 l112 y112 z112 st112 hQ112
                                    subst l112 y112 z112
                                    obtain ⟨rfl, Nq112, eq112⟩ := hQ112
                                    have N112 := Fr.app N111 Nq112
                                    refine own_step st112 ?_
                                    show own_Ends p e below F (T112.setTop (mkF m 552 A108 [(.ref (own_st v16 pe re le)), (.ref c111), (.long p1), (.ref c110), (.ref c107), (.ref a109), (.ref a109)]))
                                    refine own_step (fun _ k => XS.iload X112.here hx rfl (hb hby at_552) (by rw [hA108]; rfl) k) ?_
                                    show own_Ends p e below F (T112.setTop (mkF m 554 A108 [(.int v18), (.ref (own_st v16 pe re le)), (.ref c111), (.long p1), (.ref c110), (.ref c107), (.ref a109), (.ref a109)]))
                                    obtain ⟨_, _, ⟨T113, L113, k113, n113⟩, -, X113, ⟨Lc113, hQ113, l113, y113, z113⟩, st113⟩ := X112.specialBack hx (y := (⟨"com/example/clock3600/clock3600/queue/QueuedTask", "<init>", "(Ljava/lang/String;Ljava/lang/String;JLjava/lang/String;Lcom/example/clock3600/clock3600/queue/TaskState;I)V"⟩ : MethodName)) rfl hown (mvT hZ (own_g hw 35 rfl)) (mvT hZ (own_g hw 36 rfl)) (mvT hZ (own_g hw 37 rfl)) (by decide) (backOf (W := 1) (rm6 l Z a0 hw [] a109 c107 c110 p1 c111 (own_st v16 pe re le) v18 T111.heap n0 Z111 ((A109.keep Kq110).keep Kq111) ge_a109 ((F109_queue.keep Kq110 nin0).keep Kq111 nin0) ((F109_id.keep Kq110 nin0).keep Kq111 nin0) ((F109_dueAtMillis.keep Kq110 nin0).keep Kq111 nin0) ((F109_payload.keep Kq110 nin0).keep Kq111 nin0) ((F109_state.keep Kq110 nin0).keep Kq111 nin0) ((F109_attempts.keep Kq110 nin0).keep Kq111 nin0)) hZ (own_g hw 37 rfl) (own_g hw 28 rfl) (by decide) (by decide)) (g := (mkF m 554 A108 [(.int v18), (.ref (own_st v16 pe re le)), (.ref c111), (.long p1), (.ref c110), (.ref c107), (.ref a109), (.ref a109)])) rfl (by rw [hml]; show A108.size = _; rw [hA108]; rfl) (Steps.refl _) (a := a109) (argsL := [(.ref c107), (.ref c110), (.long p1), (.ref c111), (.ref (own_st v16 pe re le)), (.int v18)]) (rest := [(.ref a109)]) (lenOf pd__28Ljava_2flang_2fString_3bLjava_2flang_2fString_3bJLjava_2flang_2fString_3bLcom_2fexample_2fclock3600_2fclock3600_2fqueue_2fTaskState_3bI_29V rfl) rfl (by show 2 * 0 + _ ≤ _; exact Nat.le_of_eq rfl) (hb hby at_554) (fun _ _ => ⟨rfl, eq112, (by decide : 19 + 0 ≤ _), (by decide : 42 + 0 ≤ _)⟩)
                                    dsimp only [Pt.U, Pt.locs, Pt.cells, Pt.slots] at X113 l113 y113 z113 st113 hQ113
                                    subst l113 y113 z113
                                    obtain ⟨rfl, Nq113, Kq113, fq0_113, fq1_113, fq2_113, fq3_113, fq4_113, fq5_113, fq6_113⟩ := hQ113
                                    have N113 := Fr.app N112 Nq113
                                    have Z113 : n0 ≤ T113.heap.size := Nat.le_trans Z111 Kq113.1
                                    have SZ113 : h0.size ≤ T113.heap.size := Nat.le_trans SZ111 Kq113.1
                                    have S0_113 := own_Sta_keep S0_111 Kq113 (allS (own_ns_exa ((A109.keep Kq110).keep Kq111)) all0)
                                    have S1_113 := own_Sta_keep S1_111 Kq113 (allS (own_ns_exa ((A109.keep Kq110).keep Kq111)) all0)
                                    have S2_113 := own_Sta_keep S2_111 Kq113 (allS (own_ns_exa ((A109.keep Kq110).keep Kq111)) all0)
                                    have S3_113 := own_Sta_keep S3_111 Kq113 (allS (own_ns_exa ((A109.keep Kq110).keep Kq111)) all0)
                                    have hr113 := CHr.keep Kq113 (sfS (own_SL.go (own_SL.go sf_a109 hr110) hr111).2 sf0) hC111.1
                                    have hC113 := hC111.trans hr113
                                    have hk := Nat.le_trans hk Kq113.1
                                    refine own_trans st113 ?_
                                    show own_Ends p e below F (T113.setTop (mkF m 557 A108 [(.ref a109)]))
                                    obtain ⟨A114, hA114⟩ : ∃ z : Array Slot, z = #[.val (.long p1), .second, .val (.long p2), .second, .val (.long p3), .second, .val (.int p4), .val (.int p5), .val (.int p6), .val (.int v2), .val (.int v4), .val (.int v6), .val (.int v8), .val (.int v10), .val (.int v12), .val (.int v14), .val (.int v16), .val (.int v18), .val (.int z20), .val (.int v25), .val (.int z27), .val (.int z32), .val (.int z37), .val (.int z42), .val (.int z47), .val (.int z52), .val (.int z57), .val (.int z62), .val (.int z67), .val (.int z72), .val (.int z77), .val (.int z82), .val (.int z87), .val (.int z92), .val (.long z97), .second, .val (.int z102), .val (.ref c107), .val (.ref a109), .unset, .unset, .unset] := ⟨_, rfl⟩
                                    refine own_step (fun _ k => XS.astore X113.here hx rfl (hb hby at_557) rfl rfl (l' := A114) (by rw [hA108, hA114]; exact rfl) k) ?_
                                    show own_Ends p e below F (T113.setTop (mkF m 559 A114 []))
                                    obtain ⟨T115, h115, X115, e115, E115, A115, D115, -, st115⟩ := newO X113 hx hZ hown (own_g hw 26 rfl) (own_g hw 27 rfl) (own_g hw 28 rfl) rfl (g := (mkF m 559 A114 [])) rfl (hb hby at_559) (by decide) (by decide)
                                    obtain ⟨a115, g115⟩ : ∃ z, z = T113.heap.size := ⟨_, rfl⟩
                                    rw [← g115] at A115 D115 st115
                                    have ge_a115 : n0 ≤ a115 := Nat.le_trans Z113 (Nat.le_of_eq g115.symm)
                                    have sz_a115 : h0.size ≤ a115 := Nat.le_trans SZ113 (Nat.le_of_eq g115.symm)
                                    have ne_c107_a115 : c107 ≠ a115 := Nat.ne_of_lt (by rw [g115]; exact (own_Str.keep (own_Str.keep (own_Str.keep (str107.ext E109) Kq110 all0) Kq111 all0) Kq113 (allS bd109_T107_heap_size all0)).lt)
                                    have ne_a109_a115 : a109 ≠ a115 := Nat.ne_of_lt (by rw [g115]; exact fq1_113.lt)
                                    have ne_c110_a115 : c110 ≠ a115 := Nat.ne_of_lt (by rw [g115]; exact (own_Str.keepN (own_Str.keep str110 Kq111 all0) Kq113 (allS (Or.inr ⟨_, _, _, ((A109.keep Kq110).keep Kq111), by decide, (own_g hw 27 rfl)⟩) all0)).lt)
                                    have ne_c111_a115 : c111 ≠ a115 := Nat.ne_of_lt (by rw [g115]; exact (own_Str.keepN str111 Kq113 (allS (Or.inr ⟨_, _, _, ((A109.keep Kq110).keep Kq111), by decide, (own_g hw 27 rfl)⟩) all0)).lt)
                                    have bd115_T107_heap_size : T107.heap.size ≤ a115 := by rw [g115]; exact (Nat.le_trans (Nat.le_trans (Nat.le_trans (Nat.le_trans (Nat.le_refl T107.heap.size) E109.1) Kq110.1) Kq111.1) Kq113.1)
                                    have bd115_T110_heap_size : T110.heap.size ≤ a115 := by rw [g115]; exact (Nat.le_trans (Nat.le_trans (Nat.le_refl T110.heap.size) Kq111.1) Kq113.1)
                                    have bd115_T111_heap_size : T111.heap.size ≤ a115 := by rw [g115]; exact (Nat.le_trans (Nat.le_refl T111.heap.size) Kq113.1)
                                    have Z115 : n0 ≤ h115.size := Nat.le_trans Z113 E115.1
                                    have SZ115 : h0.size ≤ h115.size := Nat.le_trans SZ113 E115.1
                                    have hk := Nat.le_trans hk E115.1
                                    have hr115 := CHr.ext E115 hC113.1
                                    have hC115 := hC113.trans hr115
                                    have F115_queue : Fld Z h115 a115 "com/example/clock3600/clock3600/queue/QueuedTask" "queue" "Ljava/lang/String;" .null := D115 (Or.inr (own_g hw 40 rfl)) (ty := (.object "java/lang/String")) (by decide)
                                    have F115_id : Fld Z h115 a115 "com/example/clock3600/clock3600/queue/QueuedTask" "id" "Ljava/lang/String;" .null := D115 (Or.inr (own_g hw 42 rfl)) (ty := (.object "java/lang/String")) (by decide)
                                    have F115_dueAtMillis : Fld Z h115 a115 "com/example/clock3600/clock3600/queue/QueuedTask" "dueAtMillis" "J" (.long (0 : Int64)) := D115 (Or.inr (own_g hw 44 rfl)) (ty := .long) (by decide)
                                    have F115_payload : Fld Z h115 a115 "com/example/clock3600/clock3600/queue/QueuedTask" "payload" "Ljava/lang/String;" .null := D115 (Or.inr (own_g hw 46 rfl)) (ty := (.object "java/lang/String")) (by decide)
                                    have F115_state : Fld Z h115 a115 "com/example/clock3600/clock3600/queue/QueuedTask" "state" "Lcom/example/clock3600/clock3600/queue/TaskState;" .null := D115 (Or.inr (own_g hw 48 rfl)) (ty := (.object "com/example/clock3600/clock3600/queue/TaskState")) (by decide)
                                    have F115_attempts : Fld Z h115 a115 "com/example/clock3600/clock3600/queue/QueuedTask" "attempts" "I" (.int (0 : Int32)) := D115 (Or.inr (own_g hw 50 rfl)) (ty := .int) (by decide)
                                    have sf_a115 : own_SL Z own_EL T111.vm h115 a115 := own_SL.born hC113.1 E115 g115 A115.lt
                                    refine own_step st115 ?_
                                    show own_Ends p e below F (T115.setTop (mkF m 562 A114 [(.ref a115)]))
                                    refine own_step (fun _ k => XS.dup X115.here hx rfl (hb hby at_562) rfl rfl k) ?_
                                    show own_Ends p e below F (T115.setTop (mkF m 563 A114 [(.ref a115), (.ref a115)]))
                                    refine own_step (fun _ k => XS.iload X115.here hx rfl (hb hby at_563) (by rw [hA114]; rfl) k) ?_
                                    show own_Ends p e below F (T115.setTop (mkF m 565 A114 [(.int z57), (.ref a115), (.ref a115)]))
                                    refine own_step (fun _ k => XS.iload X115.here hx rfl (hb hby at_565) (by rw [hA114]; rfl) k) ?_
                                    show own_Ends p e below F (T115.setTop (mkF m 567 A114 [(.int z62), (.int z57), (.ref a115), (.ref a115)]))
                                    refine own_step (fun _ k => XS.iload X115.here hx rfl (hb hby at_567) (by rw [hA114]; rfl) k) ?_
                                    show own_Ends p e below F (T115.setTop (mkF m 569 A114 [(.int z67), (.int z62), (.int z57), (.ref a115), (.ref a115)]))
                                    obtain ⟨_, _, ⟨T116, L116, k116, n116⟩, -, X116, hS116, gr116, ⟨Lc116, hQ116, l116, y116, z116, hr116⟩, st116⟩ := callSS X115 hx (y := (⟨"com/example/clock3600/clock3600/queue/QueuedTaskEqualsPinLaw", "mk", "(III)Ljava/lang/String;"⟩ : MethodName)) hown (mvT hZ (own_g hw 0 rfl)) (mvT hZ (own_g hw 1 rfl)) (mvT hZ (own_g hw 2 rfl)) (mvT hZ (own_g hw 3 rfl)) (by decide) (backOfSH (W := 2) (rm1 l Z a0 hw [] z57 z62 z67 zc h115 n0 Z115 (Sta.ext E115 S0_113) hz ch27 ch28) hZ (own_g hw 3 rfl) (own_g hw 2 rfl) (by decide) (by decide) (own_EW hw) hC115.1) (g := (mkF m 569 A114 [(.int z67), (.int z62), (.int z57), (.ref a115), (.ref a115)])) rfl (by rw [hml]; show A114.size = _; rw [hA114]; rfl) (argsL := [(.int z57), (.int z62), (.int z67)]) (rest := [(.ref a115), (.ref a115)]) (lenOf pd__28III_29Ljava_2flang_2fString_3b rfl) rfl (by show 2 * 0 + _ ≤ _; exact Nat.le_of_eq rfl) (hb hby at_569) (fun _ _ => ⟨rfl, e115, (by decide : 20 + 6 ≤ _), (by decide : 48 + 12 ≤ _)⟩)
                                    dsimp only [Pt.U, Pt.locs, Pt.cells, Pt.slots] at X116 l116 y116 z116 st116 hQ116 hS116 gr116 hr116
                                    subst l116 y116 z116
                                    obtain ⟨c116, rfl, Nq116, Kq116, fq0_116, fq1_116⟩ := hQ116
                                    have N116 := Fr.app N113 Nq116
                                    have Z116 : n0 ≤ T116.heap.size := Nat.le_trans Z115 Kq116.1
                                    have SZ116 : h0.size ≤ T116.heap.size := Nat.le_trans SZ115 Kq116.1
                                    have S0_116 := own_Sta_keep (Sta.ext E115 S0_113) Kq116 all0
                                    have S1_116 := own_Sta_keep (Sta.ext E115 S1_113) Kq116 all0
                                    have S2_116 := own_Sta_keep (Sta.ext E115 S2_113) Kq116 all0
                                    have S3_116 := own_Sta_keep (Sta.ext E115 S3_113) Kq116 all0
                                    have bd116_c116_T107_heap_size : T107.heap.size ≤ c116 := Nat.le_trans (Nat.le_trans (Nat.le_trans (Nat.le_trans (Nat.le_trans (Nat.le_trans (Nat.le_refl T107.heap.size) E109.1) Kq110.1) Kq111.1) Kq113.1) E115.1) fq0_116
                                    have bd116_c116_T110_heap_size : T110.heap.size ≤ c116 := Nat.le_trans (Nat.le_trans (Nat.le_trans (Nat.le_trans (Nat.le_refl T110.heap.size) Kq111.1) Kq113.1) E115.1) fq0_116
                                    have bd116_c116_T111_heap_size : T111.heap.size ≤ c116 := Nat.le_trans (Nat.le_trans (Nat.le_trans (Nat.le_refl T111.heap.size) Kq113.1) E115.1) fq0_116
                                    have ne_c107_c116 : c107 ≠ c116 := Nat.ne_of_lt (Nat.lt_of_lt_of_le (((own_Str.keep (own_Str.keep (own_Str.keep (str107.ext E109) Kq110 all0) Kq111 all0) Kq113 (allS bd109_T107_heap_size all0)).ext E115)).lt fq0_116)
                                    have ne_a109_c116 : a109 ≠ c116 := Nat.ne_of_lt (Nat.lt_of_lt_of_le ((fq1_113.ext E115)).lt fq0_116)
                                    have ne_c110_c116 : c110 ≠ c116 := Nat.ne_of_lt (Nat.lt_of_lt_of_le (((own_Str.keepN (own_Str.keep str110 Kq111 all0) Kq113 (allS (Or.inr ⟨_, _, _, ((A109.keep Kq110).keep Kq111), by decide, (own_g hw 27 rfl)⟩) all0)).ext E115)).lt fq0_116)
                                    have ne_c111_c116 : c111 ≠ c116 := Nat.ne_of_lt (Nat.lt_of_lt_of_le (((own_Str.keepN str111 Kq113 (allS (Or.inr ⟨_, _, _, ((A109.keep Kq110).keep Kq111), by decide, (own_g hw 27 rfl)⟩) all0)).ext E115)).lt fq0_116)
                                    have ne_a115_c116 : a115 ≠ c116 := Nat.ne_of_lt (Nat.lt_of_lt_of_le (F115_queue).lt fq0_116)
                                    have ge_c116 : n0 ≤ c116 := Nat.le_trans Z115 fq0_116
                                    have sz_c116 : h0.size ≤ c116 := Nat.le_trans SZ115 fq0_116
                                    have str116 := fq1_116
                                    have fe116 := str116.exa
                                    have hC116 := hC115.trans hr116
                                    have hZ := own_warm hZ hS116
                                    have hown := own_find hown hS116
                                    have hS := foldS hS (by rw [e115]; exact hk) hS116 gr116
                                    have hk := Nat.le_refl T116.heap.size
                                    refine own_trans st116 ?_
                                    show own_Ends p e below F (T116.setTop (mkF m 572 A114 [(.ref c116), (.ref a115), (.ref a115)]))
                                    refine own_step (fun _ k => XS.iload X116.here hx rfl (hb hby at_572) (by rw [hA114]; rfl) k) ?_
                                    show own_Ends p e below F (T116.setTop (mkF m 574 A114 [(.int z72), (.ref c116), (.ref a115), (.ref a115)]))
                                    refine own_step (fun _ k => XS.iload X116.here hx rfl (hb hby at_574) (by rw [hA114]; rfl) k) ?_
                                    show own_Ends p e below F (T116.setTop (mkF m 576 A114 [(.int z77), (.int z72), (.ref c116), (.ref a115), (.ref a115)]))
                                    refine own_step (fun _ k => XS.iconst X116.here hx rfl (hb hby at_576) k) ?_
                                    show own_Ends p e below F (T116.setTop (mkF m 577 A114 [(.int (0 : Int32)), (.int z77), (.int z72), (.ref c116), (.ref a115), (.ref a115)]))
                                    obtain ⟨_, _, ⟨T117, L117, k117, n117⟩, -, X117, hS117, gr117, ⟨Lc117, hQ117, l117, y117, z117, hr117⟩, st117⟩ := callSS X116 hx (y := (⟨"com/example/clock3600/clock3600/queue/QueuedTaskEqualsPinLaw", "mk", "(III)Ljava/lang/String;"⟩ : MethodName)) hown (mvT hZ (own_g hw 0 rfl)) (mvT hZ (own_g hw 1 rfl)) (mvT hZ (own_g hw 2 rfl)) (mvT hZ (own_g hw 3 rfl)) (by decide) (backOfSH (W := 3) (rm1 l Z a0 hw [] z72 z77 (0 : Int32) zc T116.heap n0 Z116 S0_116 hz ch30 (⟨by decide, by decide⟩ : ¬ (0 : Int32) < 0 ∧ ¬ (255 : Int32) < 0)) hZ (own_g hw 3 rfl) (own_g hw 2 rfl) (by decide) (by decide) (own_EW hw) hC116.1) (g := (mkF m 577 A114 [(.int (0 : Int32)), (.int z77), (.int z72), (.ref c116), (.ref a115), (.ref a115)])) rfl (by rw [hml]; show A114.size = _; rw [hA114]; rfl) (argsL := [(.int z72), (.int z77), (.int (0 : Int32))]) (rest := [(.ref c116), (.ref a115), (.ref a115)]) (lenOf pd__28III_29Ljava_2flang_2fString_3b rfl) rfl (by show 2 * 0 + _ ≤ _; exact Nat.le_of_eq rfl) (hb hby at_577) (fun _ _ => ⟨rfl, rfl, (by decide : 26 + 6 ≤ _), (by decide : 60 + 12 ≤ _)⟩)
                                    dsimp only [Pt.U, Pt.locs, Pt.cells, Pt.slots] at X117 l117 y117 z117 st117 hQ117 hS117 gr117 hr117
                                    subst l117 y117 z117
                                    obtain ⟨c117, rfl, Nq117, Kq117, fq0_117, fq1_117⟩ := hQ117
                                    have N117 := Fr.app N116 Nq117
                                    have Z117 : n0 ≤ T117.heap.size := Nat.le_trans Z116 Kq117.1
                                    have SZ117 : h0.size ≤ T117.heap.size := Nat.le_trans SZ116 Kq117.1
                                    have S0_117 := own_Sta_keep S0_116 Kq117 all0
                                    have S1_117 := own_Sta_keep S1_116 Kq117 all0
                                    have S2_117 := own_Sta_keep S2_116 Kq117 all0
                                    have S3_117 := own_Sta_keep S3_116 Kq117 all0
                                    have bd117_c117_T107_heap_size : T107.heap.size ≤ c117 := Nat.le_trans (Nat.le_trans (Nat.le_trans (Nat.le_trans (Nat.le_trans (Nat.le_trans (Nat.le_trans (Nat.le_refl T107.heap.size) E109.1) Kq110.1) Kq111.1) Kq113.1) E115.1) Kq116.1) fq0_117
                                    have bd117_c117_T110_heap_size : T110.heap.size ≤ c117 := Nat.le_trans (Nat.le_trans (Nat.le_trans (Nat.le_trans (Nat.le_trans (Nat.le_refl T110.heap.size) Kq111.1) Kq113.1) E115.1) Kq116.1) fq0_117
                                    have bd117_c117_T111_heap_size : T111.heap.size ≤ c117 := Nat.le_trans (Nat.le_trans (Nat.le_trans (Nat.le_trans (Nat.le_refl T111.heap.size) Kq113.1) E115.1) Kq116.1) fq0_117
                                    have bd117_c117_T116_heap_size : T116.heap.size ≤ c117 := Nat.le_trans (Nat.le_refl T116.heap.size) fq0_117
                                    have ne_c107_c117 : c107 ≠ c117 := Nat.ne_of_lt (Nat.lt_of_lt_of_le ((own_Str.keep ((own_Str.keep (own_Str.keep (own_Str.keep (str107.ext E109) Kq110 all0) Kq111 all0) Kq113 (allS bd109_T107_heap_size all0)).ext E115) Kq116 all0)).lt fq0_117)
                                    have ne_a109_c117 : a109 ≠ c117 := Nat.ne_of_lt (Nat.lt_of_lt_of_le (((fq1_113.ext E115).keep Kq116 nin0)).lt fq0_117)
                                    have ne_c110_c117 : c110 ≠ c117 := Nat.ne_of_lt (Nat.lt_of_lt_of_le ((own_Str.keep ((own_Str.keepN (own_Str.keep str110 Kq111 all0) Kq113 (allS (Or.inr ⟨_, _, _, ((A109.keep Kq110).keep Kq111), by decide, (own_g hw 27 rfl)⟩) all0)).ext E115) Kq116 all0)).lt fq0_117)
                                    have ne_c111_c117 : c111 ≠ c117 := Nat.ne_of_lt (Nat.lt_of_lt_of_le ((own_Str.keep ((own_Str.keepN str111 Kq113 (allS (Or.inr ⟨_, _, _, ((A109.keep Kq110).keep Kq111), by decide, (own_g hw 27 rfl)⟩) all0)).ext E115) Kq116 all0)).lt fq0_117)
                                    have ne_a115_c117 : a115 ≠ c117 := Nat.ne_of_lt (Nat.lt_of_lt_of_le ((F115_queue.keep Kq116 nin0)).lt fq0_117)
                                    have ne_c116_c117 : c116 ≠ c117 := Nat.ne_of_lt (Nat.lt_of_lt_of_le (str116).lt fq0_117)
                                    have ge_c117 : n0 ≤ c117 := Nat.le_trans Z116 fq0_117
                                    have sz_c117 : h0.size ≤ c117 := Nat.le_trans SZ116 fq0_117
                                    have str117 := fq1_117
                                    have fe117 := str117.exa
                                    have hC117 := hC116.trans hr117
                                    have hZ := own_warm hZ hS117
                                    have hown := own_find hown hS117
                                    have hS := foldS hS (by exact hk) hS117 gr117
                                    have hk := Nat.le_refl T117.heap.size
                                    refine own_trans st117 ?_
                                    show own_Ends p e below F (T117.setTop (mkF m 580 A114 [(.ref c117), (.ref c116), (.ref a115), (.ref a115)]))
                                    refine own_step (fun _ k => XS.lload X117.here hx rfl (hb hby at_580) (by rw [hA114]; rfl) k) ?_
                                    show own_Ends p e below F (T117.setTop (mkF m 582 A114 [(.long z97), (.ref c117), (.ref c116), (.ref a115), (.ref a115)]))
                                    refine own_step (fun _ k => XS.iload X117.here hx rfl (hb hby at_582) (by rw [hA114]; rfl) k) ?_
                                    show own_Ends p e below F (T117.setTop (mkF m 584 A114 [(.int z82), (.long z97), (.ref c117), (.ref c116), (.ref a115), (.ref a115)]))
                                    refine own_step (fun _ k => XS.iload X117.here hx rfl (hb hby at_584) (by rw [hA114]; rfl) k) ?_
                                    show own_Ends p e below F (T117.setTop (mkF m 586 A114 [(.int z87), (.int z82), (.long z97), (.ref c117), (.ref c116), (.ref a115), (.ref a115)]))
                                    refine own_step (fun _ k => XS.iconst X117.here hx rfl (hb hby at_586) k) ?_
                                    show own_Ends p e below F (T117.setTop (mkF m 587 A114 [(.int (0 : Int32)), (.int z87), (.int z82), (.long z97), (.ref c117), (.ref c116), (.ref a115), (.ref a115)]))
                                    obtain ⟨_, _, ⟨T118, L118, k118, n118⟩, -, X118, hS118, gr118, ⟨Lc118, hQ118, l118, y118, z118, hr118⟩, st118⟩ := callSS X117 hx (y := (⟨"com/example/clock3600/clock3600/queue/QueuedTaskEqualsPinLaw", "mk", "(III)Ljava/lang/String;"⟩ : MethodName)) hown (mvT hZ (own_g hw 0 rfl)) (mvT hZ (own_g hw 1 rfl)) (mvT hZ (own_g hw 2 rfl)) (mvT hZ (own_g hw 3 rfl)) (by decide) (backOfSH (W := 6) (rm1 l Z a0 hw [] z82 z87 (0 : Int32) zc T117.heap n0 Z117 S0_117 hz ch32 (⟨by decide, by decide⟩ : ¬ (0 : Int32) < 0 ∧ ¬ (255 : Int32) < 0)) hZ (own_g hw 3 rfl) (own_g hw 2 rfl) (by decide) (by decide) (own_EW hw) hC117.1) (g := (mkF m 587 A114 [(.int (0 : Int32)), (.int z87), (.int z82), (.long z97), (.ref c117), (.ref c116), (.ref a115), (.ref a115)])) rfl (by rw [hml]; show A114.size = _; rw [hA114]; rfl) (argsL := [(.int z82), (.int z87), (.int (0 : Int32))]) (rest := [(.long z97), (.ref c117), (.ref c116), (.ref a115), (.ref a115)]) (lenOf pd__28III_29Ljava_2flang_2fString_3b rfl) rfl (by show 2 * 0 + _ ≤ _; exact Nat.le_of_eq rfl) (hb hby at_587) (fun _ _ => ⟨rfl, rfl, (by decide : 32 + 6 ≤ _), (by decide : 72 + 12 ≤ _)⟩)
                                    dsimp only [Pt.U, Pt.locs, Pt.cells, Pt.slots] at X118 l118 y118 z118 st118 hQ118 hS118 gr118 hr118
                                    subst l118 y118 z118
                                    obtain ⟨c118, rfl, Nq118, Kq118, fq0_118, fq1_118⟩ := hQ118
                                    have N118 := Fr.app N117 Nq118
                                    have Z118 : n0 ≤ T118.heap.size := Nat.le_trans Z117 Kq118.1
                                    have SZ118 : h0.size ≤ T118.heap.size := Nat.le_trans SZ117 Kq118.1
                                    have S0_118 := own_Sta_keep S0_117 Kq118 all0
                                    have S1_118 := own_Sta_keep S1_117 Kq118 all0
                                    have S2_118 := own_Sta_keep S2_117 Kq118 all0
                                    have S3_118 := own_Sta_keep S3_117 Kq118 all0
                                    have bd118_c118_T107_heap_size : T107.heap.size ≤ c118 := Nat.le_trans (Nat.le_trans (Nat.le_trans (Nat.le_trans (Nat.le_trans (Nat.le_trans (Nat.le_trans (Nat.le_trans (Nat.le_refl T107.heap.size) E109.1) Kq110.1) Kq111.1) Kq113.1) E115.1) Kq116.1) Kq117.1) fq0_118
                                    have bd118_c118_T110_heap_size : T110.heap.size ≤ c118 := Nat.le_trans (Nat.le_trans (Nat.le_trans (Nat.le_trans (Nat.le_trans (Nat.le_trans (Nat.le_refl T110.heap.size) Kq111.1) Kq113.1) E115.1) Kq116.1) Kq117.1) fq0_118
                                    have bd118_c118_T111_heap_size : T111.heap.size ≤ c118 := Nat.le_trans (Nat.le_trans (Nat.le_trans (Nat.le_trans (Nat.le_trans (Nat.le_refl T111.heap.size) Kq113.1) E115.1) Kq116.1) Kq117.1) fq0_118
                                    have bd118_c118_T116_heap_size : T116.heap.size ≤ c118 := Nat.le_trans (Nat.le_trans (Nat.le_refl T116.heap.size) Kq117.1) fq0_118
                                    have bd118_c118_T117_heap_size : T117.heap.size ≤ c118 := Nat.le_trans (Nat.le_refl T117.heap.size) fq0_118
                                    have ne_c107_c118 : c107 ≠ c118 := Nat.ne_of_lt (Nat.lt_of_lt_of_le ((own_Str.keep (own_Str.keep ((own_Str.keep (own_Str.keep (own_Str.keep (str107.ext E109) Kq110 all0) Kq111 all0) Kq113 (allS bd109_T107_heap_size all0)).ext E115) Kq116 all0) Kq117 all0)).lt fq0_118)
                                    have ne_a109_c118 : a109 ≠ c118 := Nat.ne_of_lt (Nat.lt_of_lt_of_le ((((fq1_113.ext E115).keep Kq116 nin0).keep Kq117 nin0)).lt fq0_118)
                                    have ne_c110_c118 : c110 ≠ c118 := Nat.ne_of_lt (Nat.lt_of_lt_of_le ((own_Str.keep (own_Str.keep ((own_Str.keepN (own_Str.keep str110 Kq111 all0) Kq113 (allS (Or.inr ⟨_, _, _, ((A109.keep Kq110).keep Kq111), by decide, (own_g hw 27 rfl)⟩) all0)).ext E115) Kq116 all0) Kq117 all0)).lt fq0_118)
                                    have ne_c111_c118 : c111 ≠ c118 := Nat.ne_of_lt (Nat.lt_of_lt_of_le ((own_Str.keep (own_Str.keep ((own_Str.keepN str111 Kq113 (allS (Or.inr ⟨_, _, _, ((A109.keep Kq110).keep Kq111), by decide, (own_g hw 27 rfl)⟩) all0)).ext E115) Kq116 all0) Kq117 all0)).lt fq0_118)
                                    have ne_a115_c118 : a115 ≠ c118 := Nat.ne_of_lt (Nat.lt_of_lt_of_le (((F115_queue.keep Kq116 nin0).keep Kq117 nin0)).lt fq0_118)
                                    have ne_c116_c118 : c116 ≠ c118 := Nat.ne_of_lt (Nat.lt_of_lt_of_le ((own_Str.keep str116 Kq117 all0)).lt fq0_118)
                                    have ne_c117_c118 : c117 ≠ c118 := Nat.ne_of_lt (Nat.lt_of_lt_of_le (str117).lt fq0_118)
                                    have ge_c118 : n0 ≤ c118 := Nat.le_trans Z117 fq0_118
                                    have sz_c118 : h0.size ≤ c118 := Nat.le_trans SZ117 fq0_118
                                    have str118 := fq1_118
                                    have fe118 := str118.exa
                                    have hC118 := hC117.trans hr118
                                    have hZ := own_warm hZ hS118
                                    have hown := own_find hown hS118
                                    have hS := foldS hS (by exact hk) hS118 gr118
                                    have hk := Nat.le_refl T118.heap.size
                                    refine own_trans st118 ?_
                                    show own_Ends p e below F (T118.setTop (mkF m 590 A114 [(.ref c118), (.long z97), (.ref c117), (.ref c116), (.ref a115), (.ref a115)]))
                                    refine own_step (fun _ k => XS.iload X118.here hx rfl (hb hby at_590) (by rw [hA114]; rfl) k) ?_
                                    show own_Ends p e below F (T118.setTop (mkF m 592 A114 [(.int z92), (.ref c118), (.long z97), (.ref c117), (.ref c116), (.ref a115), (.ref a115)]))
                                    obtain ⟨_, _, ⟨T119, L119, k119, n119⟩, -, X119, ⟨Lc119, hQ119, l119, y119, z119⟩, st119⟩ := Jvm.LawKit.callS X118 hx (y := (⟨"com/example/clock3600/clock3600/queue/QueuedTaskEqualsPinLaw", "st", "(I)Lcom/example/clock3600/clock3600/queue/TaskState;"⟩ : MethodName)) hown (mvT hZ (own_g hw 29 rfl)) (mvT hZ (own_g hw 30 rfl)) (mvT hZ (own_g hw 2 rfl)) (mvT hZ (own_g hw 31 rfl)) (by decide) (backOf (W := 7) (rm5 l Z a0 hw [] z92 pe re le T118.heap n0 Z118 S1_118 S2_118 S3_118) hZ (own_g hw 31 rfl) (own_g hw 2 rfl) (by decide) (by decide)) (g := (mkF m 592 A114 [(.int z92), (.ref c118), (.long z97), (.ref c117), (.ref c116), (.ref a115), (.ref a115)])) rfl (by rw [hml]; show A114.size = _; rw [hA114]; rfl) (argsL := [(.int z92)]) (rest := [(.ref c118), (.long z97), (.ref c117), (.ref c116), (.ref a115), (.ref a115)]) (lenOf pd__28I_29Lcom_2fexample_2fclock3600_2fclock3600_2fqueue_2fTaskState_3b rfl) rfl (by show 2 * 0 + _ ≤ _; exact Nat.le_of_eq rfl) (hb hby at_592) (fun _ _ => ⟨rfl, rfl, (by decide : 38 + 0 ≤ _), (by decide : 84 + 0 ≤ _)⟩)
                                    dsimp only [Pt.U, Pt.locs, Pt.cells, Pt.slots] at X119 l119 y119 z119 st119 hQ119
                                    subst l119 y119 z119
                                    obtain ⟨rfl, Nq119, eq119⟩ := hQ119
                                    have N119 := Fr.app N118 Nq119
                                    refine own_step st119 ?_
                                    show own_Ends p e below F (T119.setTop (mkF m 595 A114 [(.ref (own_st z92 pe re le)), (.ref c118), (.long z97), (.ref c117), (.ref c116), (.ref a115), (.ref a115)]))
                                    refine own_step (fun _ k => XS.iload X119.here hx rfl (hb hby at_595) (by rw [hA114]; rfl) k) ?_
                                    show own_Ends p e below F (T119.setTop (mkF m 597 A114 [(.int z102), (.ref (own_st z92 pe re le)), (.ref c118), (.long z97), (.ref c117), (.ref c116), (.ref a115), (.ref a115)]))
                                    obtain ⟨_, _, ⟨T120, L120, k120, n120⟩, -, X120, ⟨Lc120, hQ120, l120, y120, z120⟩, st120⟩ := X119.specialBack hx (y := (⟨"com/example/clock3600/clock3600/queue/QueuedTask", "<init>", "(Ljava/lang/String;Ljava/lang/String;JLjava/lang/String;Lcom/example/clock3600/clock3600/queue/TaskState;I)V"⟩ : MethodName)) rfl hown (mvT hZ (own_g hw 35 rfl)) (mvT hZ (own_g hw 36 rfl)) (mvT hZ (own_g hw 37 rfl)) (by decide) (backOf (W := 1) (rm6 l Z a0 hw [] a115 c116 c117 z97 c118 (own_st z92 pe re le) z102 T118.heap n0 Z118 (((A115.keep Kq116).keep Kq117).keep Kq118) ge_a115 (((F115_queue.keep Kq116 nin0).keep Kq117 nin0).keep Kq118 nin0) (((F115_id.keep Kq116 nin0).keep Kq117 nin0).keep Kq118 nin0) (((F115_dueAtMillis.keep Kq116 nin0).keep Kq117 nin0).keep Kq118 nin0) (((F115_payload.keep Kq116 nin0).keep Kq117 nin0).keep Kq118 nin0) (((F115_state.keep Kq116 nin0).keep Kq117 nin0).keep Kq118 nin0) (((F115_attempts.keep Kq116 nin0).keep Kq117 nin0).keep Kq118 nin0)) hZ (own_g hw 37 rfl) (own_g hw 28 rfl) (by decide) (by decide)) (g := (mkF m 597 A114 [(.int z102), (.ref (own_st z92 pe re le)), (.ref c118), (.long z97), (.ref c117), (.ref c116), (.ref a115), (.ref a115)])) rfl (by rw [hml]; show A114.size = _; rw [hA114]; rfl) (Steps.refl _) (a := a115) (argsL := [(.ref c116), (.ref c117), (.long z97), (.ref c118), (.ref (own_st z92 pe re le)), (.int z102)]) (rest := [(.ref a115)]) (lenOf pd__28Ljava_2flang_2fString_3bLjava_2flang_2fString_3bJLjava_2flang_2fString_3bLcom_2fexample_2fclock3600_2fclock3600_2fqueue_2fTaskState_3bI_29V rfl) rfl (by show 2 * 0 + _ ≤ _; exact Nat.le_of_eq rfl) (hb hby at_597) (fun _ _ => ⟨rfl, eq119, (by decide : 38 + 0 ≤ _), (by decide : 84 + 0 ≤ _)⟩)
                                    dsimp only [Pt.U, Pt.locs, Pt.cells, Pt.slots] at X120 l120 y120 z120 st120 hQ120
                                    subst l120 y120 z120
                                    obtain ⟨rfl, Nq120, Kq120, fq0_120, fq1_120, fq2_120, fq3_120, fq4_120, fq5_120, fq6_120⟩ := hQ120
                                    have N120 := Fr.app N119 Nq120
                                    have Z120 : n0 ≤ T120.heap.size := Nat.le_trans Z118 Kq120.1
                                    have SZ120 : h0.size ≤ T120.heap.size := Nat.le_trans SZ118 Kq120.1
                                    have S0_120 := own_Sta_keep S0_118 Kq120 (allS (own_ns_exa (((A115.keep Kq116).keep Kq117).keep Kq118)) all0)
                                    have S1_120 := own_Sta_keep S1_118 Kq120 (allS (own_ns_exa (((A115.keep Kq116).keep Kq117).keep Kq118)) all0)
                                    have S2_120 := own_Sta_keep S2_118 Kq120 (allS (own_ns_exa (((A115.keep Kq116).keep Kq117).keep Kq118)) all0)
                                    have S3_120 := own_Sta_keep S3_118 Kq120 (allS (own_ns_exa (((A115.keep Kq116).keep Kq117).keep Kq118)) all0)
                                    have hr120 := CHr.keep Kq120 (sfS (own_SL.go (own_SL.go (own_SL.go sf_a115 hr116) hr117) hr118).2 sf0) hC118.1
                                    have hC120 := hC118.trans hr120
                                    have hk := Nat.le_trans hk Kq120.1
                                    refine own_trans st120 ?_
                                    show own_Ends p e below F (T120.setTop (mkF m 600 A114 [(.ref a115)]))
                                    obtain ⟨A121, hA121⟩ : ∃ z : Array Slot, z = #[.val (.long p1), .second, .val (.long p2), .second, .val (.long p3), .second, .val (.int p4), .val (.int p5), .val (.int p6), .val (.int v2), .val (.int v4), .val (.int v6), .val (.int v8), .val (.int v10), .val (.int v12), .val (.int v14), .val (.int v16), .val (.int v18), .val (.int z20), .val (.int v25), .val (.int z27), .val (.int z32), .val (.int z37), .val (.int z42), .val (.int z47), .val (.int z52), .val (.int z57), .val (.int z62), .val (.int z67), .val (.int z72), .val (.int z77), .val (.int z82), .val (.int z87), .val (.int z92), .val (.long z97), .second, .val (.int z102), .val (.ref c107), .val (.ref a109), .val (.ref a115), .unset, .unset] := ⟨_, rfl⟩
                                    refine own_step (fun _ k => XS.astore X120.here hx rfl (hb hby at_600) rfl rfl (l' := A121) (by rw [hA114, hA121]; exact rfl) k) ?_
                                    show own_Ends p e below F (T120.setTop (mkF m 602 A121 []))
                                    refine own_step (fun _ k => XS.lloadN X120.here hx rfl (hb hby at_602) (by rw [hA121]; rfl) k) ?_
                                    show own_Ends p e below F (T120.setTop (mkF m 603 A121 [(.long p1)]))
                                    refine own_step (fun _ k => XS.lload X120.here hx rfl (hb hby at_603) (by rw [hA121]; rfl) k) ?_
                                    show own_Ends p e below F (T120.setTop (mkF m 605 A121 [(.long z97), (.long p1)]))
                                    refine own_step (fun _ k => XS.lcmp X120.here hx rfl (hb hby at_605) rfl k) ?_
                                    show own_Ends p e below F (T120.setTop (mkF m 606 A121 [(.int (lcmpW p1 z97))]))
                                    have J606_123 : ∀ (T124 : State) (l124 : List Loc) (X124 : Stand p l e room_1 (s.setVm T118.vm) m #[(.long p1), (.long p2), (.long p3), (.int p4), (.int p5), (.int p6)] below meth c T124 l124 38 84) (e124 : T124.heap = T120.heap) (N124 : Fr n0 l124) (z122 : Int32) (hz122 : z122 = (if p1 = z97 then (if v18 = z102 then (if (own_same v2 v8 v10 z57 z62 z67) = (0 : Int32) then (0 : Int32) else (if (own_same v4 v12 (0 : Int32) z72 z77 (0 : Int32)) = (0 : Int32) then (0 : Int32) else (if (own_same v6 v14 (0 : Int32) z82 z87 (0 : Int32)) = (0 : Int32) then (0 : Int32) else (if v16 = z92 then (1 : Int32) else (0 : Int32))))) else (0 : Int32)) else (0 : Int32))), own_Ends p e below F (T124.setTop (mkF m 678 #[.val (.long p1), .second, .val (.long p2), .second, .val (.long p3), .second, .val (.int p4), .val (.int p5), .val (.int p6), .val (.int v2), .val (.int v4), .val (.int v6), .val (.int v8), .val (.int v10), .val (.int v12), .val (.int v14), .val (.int v16), .val (.int v18), .val (.int z20), .val (.int v25), .val (.int z27), .val (.int z32), .val (.int z37), .val (.int z42), .val (.int z47), .val (.int z52), .val (.int z57), .val (.int z62), .val (.int z67), .val (.int z72), .val (.int z77), .val (.int z82), .val (.int z87), .val (.int z92), .val (.long z97), .second, .val (.int z102), .val (.ref c107), .val (.ref a109), .val (.ref a115), .unset, .unset] [(.int z122)])) := by
                                      intro T124 l124 X124 e124 N124 z122 hz122
                                      obtain ⟨A125, hA125⟩ : ∃ z : Array Slot, z = #[.val (.long p1), .second, .val (.long p2), .second, .val (.long p3), .second, .val (.int p4), .val (.int p5), .val (.int p6), .val (.int v2), .val (.int v4), .val (.int v6), .val (.int v8), .val (.int v10), .val (.int v12), .val (.int v14), .val (.int v16), .val (.int v18), .val (.int z20), .val (.int v25), .val (.int z27), .val (.int z32), .val (.int z37), .val (.int z42), .val (.int z47), .val (.int z52), .val (.int z57), .val (.int z62), .val (.int z67), .val (.int z72), .val (.int z77), .val (.int z82), .val (.int z87), .val (.int z92), .val (.long z97), .second, .val (.int z102), .val (.ref c107), .val (.ref a109), .val (.ref a115), .unset, .unset] := ⟨_, rfl⟩
                                      rw [← hA125]
                                      show own_Ends p e below F (T124.setTop (mkF m 678 A125 [(.int z122)]))
                                      obtain ⟨A126, hA126⟩ : ∃ z : Array Slot, z = #[.val (.long p1), .second, .val (.long p2), .second, .val (.long p3), .second, .val (.int p4), .val (.int p5), .val (.int p6), .val (.int v2), .val (.int v4), .val (.int v6), .val (.int v8), .val (.int v10), .val (.int v12), .val (.int v14), .val (.int v16), .val (.int v18), .val (.int z20), .val (.int v25), .val (.int z27), .val (.int z32), .val (.int z37), .val (.int z42), .val (.int z47), .val (.int z52), .val (.int z57), .val (.int z62), .val (.int z67), .val (.int z72), .val (.int z77), .val (.int z82), .val (.int z87), .val (.int z92), .val (.long z97), .second, .val (.int z102), .val (.ref c107), .val (.ref a109), .val (.ref a115), .val (.int z122), .unset] := ⟨_, rfl⟩
                                      refine own_step (fun _ k => XS.istore X124.here hx rfl (hb hby at_678) rfl (l' := A126) (by rw [hA125, hA126]; exact rfl) k) ?_
                                      show own_Ends p e below F (T124.setTop (mkF m 680 A126 []))
                                      refine own_step (fun _ k => XS.iload X124.here hx rfl (hb hby at_680) (by rw [hA126]; rfl) k) ?_
                                      show own_Ends p e below F (T124.setTop (mkF m 682 A126 [(.int p6)]))
                                      refine own_step (fun _ k => XS.bipush X124.here hx rfl (hb hby at_682) k) ?_
                                      show own_Ends p e below F (T124.setTop (mkF m 684 A126 [(.int (18 : Int32)), (.int p6)]))
                                      refine own_step (fun _ k => XS.iushr X124.here hx rfl (hb hby at_684) rfl k) ?_
                                      show own_Ends p e below F (T124.setTop (mkF m 685 A126 [(.int ((p6.toUInt32 >>> ((18 : Int32) &&& 31).toUInt32).toInt32))]))
                                      refine own_step (fun _ k => XS.bipush X124.here hx rfl (hb hby at_685) k) ?_
                                      show own_Ends p e below F (T124.setTop (mkF m 687 A126 [(.int (7 : Int32)), (.int ((p6.toUInt32 >>> ((18 : Int32) &&& 31).toUInt32).toInt32))]))
                                      refine own_step (fun _ k => XS.iand X124.here hx rfl (hb hby at_687) rfl k) ?_
                                      show own_Ends p e below F (T124.setTop (mkF m 688 A126 [(.int (((p6.toUInt32 >>> ((18 : Int32) &&& 31).toUInt32).toInt32) &&& (7 : Int32)))]))
                                      obtain ⟨v127, ev127⟩ : ∃ z : Int32, z = (((p6.toUInt32 >>> ((18 : Int32) &&& 31).toUInt32).toInt32) &&& (7 : Int32)) := ⟨_, rfl⟩
                                      rw [← ev127]
                                      show own_Ends p e below F (T124.setTop (mkF m 688 A126 [(.int v127)]))
                                      obtain ⟨A128, hA128⟩ : ∃ z : Array Slot, z = #[.val (.long p1), .second, .val (.long p2), .second, .val (.long p3), .second, .val (.int p4), .val (.int p5), .val (.int p6), .val (.int v2), .val (.int v4), .val (.int v6), .val (.int v8), .val (.int v10), .val (.int v12), .val (.int v14), .val (.int v16), .val (.int v18), .val (.int z20), .val (.int v25), .val (.int z27), .val (.int z32), .val (.int z37), .val (.int z42), .val (.int z47), .val (.int z52), .val (.int z57), .val (.int z62), .val (.int z67), .val (.int z72), .val (.int z77), .val (.int z82), .val (.int z87), .val (.int z92), .val (.long z97), .second, .val (.int z102), .val (.ref c107), .val (.ref a109), .val (.ref a115), .val (.int z122), .val (.int v127)] := ⟨_, rfl⟩
                                      refine own_step (fun _ k => XS.istore X124.here hx rfl (hb hby at_688) rfl (l' := A128) (by rw [hA126, hA128]; exact rfl) k) ?_
                                      show own_Ends p e below F (T124.setTop (mkF m 690 A128 []))
                                      refine own_step (fun _ k => XS.iload X124.here hx rfl (hb hby at_690) (by rw [hA128]; rfl) k) ?_
                                      show own_Ends p e below F (T124.setTop (mkF m 692 A128 [(.int v127)]))
                                      refine own_step (fun _ k => XS.iconst X124.here hx rfl (hb hby at_692) k) ?_
                                      show own_Ends p e below F (T124.setTop (mkF m 693 A128 [(.int (5 : Int32)), (.int v127)]))
                                      by_cases c693_129 : v127 = (5 : Int32)
                                      · refine own_step (fun _ k => XS.icmpNo X124.here hx rfl (hb hby at_693) rfl (teq c693_129).2 k) ?_
                                        show own_Ends p e below F (T124.setTop (mkF m 696 A128 []))
                                        refine own_step (fun _ k => XS.aload X124.here hx rfl (hb hby at_696) (by rw [hA128]; rfl) rfl k) ?_
                                        show own_Ends p e below F (T124.setTop (mkF m 698 A128 [(.ref a109)]))
                                        refine own_step (fun _ k => XS.aload X124.here hx rfl (hb hby at_698) (by rw [hA128]; rfl) rfl k) ?_
                                        show own_Ends p e below F (T124.setTop (mkF m 700 A128 [(.ref a109), (.ref a109)]))
                                        obtain ⟨cq130, kq130, qa130, qb130, qc130⟩ := isOf hZ e124 (((((fq0_113.ext E115).keep Kq116).keep Kq117).keep Kq118).keep Kq120)
                                        obtain ⟨_, _, ⟨T130, L130, k130, n130⟩, -, X130, ⟨Lc130, hQ130, l130, y130, z130⟩, st130⟩ := X124.virtualBack hx (y := (⟨"com/example/clock3600/clock3600/queue/QueuedTask", "equals", "(Ljava/lang/Object;)Z"⟩ : MethodName)) (z := (⟨"com/example/clock3600/clock3600/queue/QueuedTask", "equals", "(Ljava/lang/Object;)Z"⟩ : MethodName)) hown (mvT hZ (own_g hw 51 rfl)) (mvT hZ (own_g hw 52 rfl)) (notFace_of_selects (args := #[]) (mvT hZ (own_g hw 54 rfl))) (mvT hZ (own_g hw 54 rfl)) (mvT hZ (own_g hw 53 rfl)) (by decide) (backOf (W := 0) (rm7a l Z a0 hw [] a109 T120.heap n0 Z120) hZ (own_g hw 55 rfl) (own_g hw 28 rfl) (by decide) (by decide)) qa130 qc130 (g := (mkF m 700 A128 [(.ref a109), (.ref a109)])) rfl (by rw [hml]; show A128.size = _; rw [hA128]; rfl) (Steps.refl _) (argsL := [(.ref a109)]) (rest := []) (lenOf pd__28Ljava_2flang_2fObject_3b_29Z rfl) rfl (by show 2 * 0 + _ ≤ _; exact Nat.le_of_eq rfl) (hb hby at_700) (fun _ _ => ⟨rfl, e124, (by decide : 38 + 0 ≤ _), (by decide : 84 + 0 ≤ _)⟩)
                                        dsimp only [Pt.U, Pt.locs, Pt.cells, Pt.slots] at X130 l130 y130 z130 st130 hQ130
                                        subst l130 y130 z130
                                        obtain ⟨rfl, Nq130, eq130⟩ := hQ130
                                        have N130 := Fr.app N124 Nq130
                                        refine own_trans st130 ?_
                                        show own_Ends p e below F (T130.setTop (mkF m 703 A128 [(.int (1 : Int32))]))
                                        rw [hF]
                                        exact own_retH X130 hS (by rw [eq130]; exact hk) hh eq130 hZ (own_EW hw) hC120 (v := (some (.int (nar .boolean (1 : Int32))))) (fun h => by rw [Bd.returns] at h; cases h) Bd.notSynchronized (fun fs hr => retN X130 hx (t := .boolean) Bd.returns (by simp) (hb hby at_703) hr) (by decide) (by decide) (by rw [eq130]; exact ⟨rfl, N130⟩)
                                      · refine own_step (fun _ k => XS.icmpYes X124.here hx rfl (pc0 := 693) (pc' := 704) rfl (hb hby at_693) rfl (feq c693_129).2 (by decide) (by decide) k) ?_
                                        show own_Ends p e below F (T124.setTop (mkF m 704 A128 []))
                                        refine own_step (fun _ k => XS.iload X124.here hx rfl (hb hby at_704) (by rw [hA128]; rfl) k) ?_
                                        show own_Ends p e below F (T124.setTop (mkF m 706 A128 [(.int v127)]))
                                        refine own_step (fun _ k => XS.bipush X124.here hx rfl (hb hby at_706) k) ?_
                                        show own_Ends p e below F (T124.setTop (mkF m 708 A128 [(.int (6 : Int32)), (.int v127)]))
                                        by_cases c708_131 : v127 = (6 : Int32)
                                        · refine own_step (fun _ k => XS.icmpNo X124.here hx rfl (hb hby at_708) rfl (teq c708_131).2 k) ?_
                                          show own_Ends p e below F (T124.setTop (mkF m 711 A128 []))
                                          refine own_step (fun _ k => XS.aload X124.here hx rfl (hb hby at_711) (by rw [hA128]; rfl) rfl k) ?_
                                          show own_Ends p e below F (T124.setTop (mkF m 713 A128 [(.ref a109)]))
                                          refine own_step (fun _ k => XS.aconstNull X124.here hx rfl (hb hby at_713) k) ?_
                                          show own_Ends p e below F (T124.setTop (mkF m 714 A128 [.null, (.ref a109)]))
                                          obtain ⟨cq132, kq132, qa132, qb132, qc132⟩ := isOf hZ e124 (((((fq0_113.ext E115).keep Kq116).keep Kq117).keep Kq118).keep Kq120)
                                          obtain ⟨_, _, ⟨T132, L132, k132, n132⟩, -, X132, ⟨Lc132, hQ132, l132, y132, z132⟩, st132⟩ := X124.virtualBack hx (y := (⟨"com/example/clock3600/clock3600/queue/QueuedTask", "equals", "(Ljava/lang/Object;)Z"⟩ : MethodName)) (z := (⟨"com/example/clock3600/clock3600/queue/QueuedTask", "equals", "(Ljava/lang/Object;)Z"⟩ : MethodName)) hown (mvT hZ (own_g hw 51 rfl)) (mvT hZ (own_g hw 52 rfl)) (notFace_of_selects (args := #[]) (mvT hZ (own_g hw 54 rfl))) (mvT hZ (own_g hw 54 rfl)) (mvT hZ (own_g hw 53 rfl)) (by decide) (backOf (W := 0) (rm7b l Z a0 hw [] a109 T120.heap n0 Z120) hZ (own_g hw 55 rfl) (own_g hw 28 rfl) (by decide) (by decide)) qa132 qc132 (g := (mkF m 714 A128 [.null, (.ref a109)])) rfl (by rw [hml]; show A128.size = _; rw [hA128]; rfl) (Steps.refl _) (argsL := [.null]) (rest := []) (lenOf pd__28Ljava_2flang_2fObject_3b_29Z rfl) rfl (by show 2 * 0 + _ ≤ _; exact Nat.le_of_eq rfl) (hb hby at_714) (fun _ _ => ⟨rfl, e124, (by decide : 38 + 0 ≤ _), (by decide : 84 + 0 ≤ _)⟩)
                                          dsimp only [Pt.U, Pt.locs, Pt.cells, Pt.slots] at X132 l132 y132 z132 st132 hQ132
                                          subst l132 y132 z132
                                          obtain ⟨rfl, Nq132, eq132⟩ := hQ132
                                          have N132 := Fr.app N124 Nq132
                                          refine own_trans st132 ?_
                                          show own_Ends p e below F (T132.setTop (mkF m 717 A128 [(.int (0 : Int32))]))
                                          refine own_step (fun _ k => XS.ifNo X132.here hx rfl (hb hby at_717) rfl ((if0 _ _).trans (teq (by decide : (0 : Int32) = (0 : Int32))).2) k) ?_
                                          show own_Ends p e below F (T132.setTop (mkF m 720 A128 []))
                                          refine own_step (fun _ k => XS.iconst X132.here hx rfl (hb hby at_720) k) ?_
                                          show own_Ends p e below F (T132.setTop (mkF m 721 A128 [(.int (1 : Int32))]))
                                          refine own_step (fun _ k => XS.goto X132.here hx rfl (pc0 := 721) (pc' := 725) rfl (hb hby at_721) (by decide) (by decide) k) ?_
                                          show own_Ends p e below F (T132.setTop (mkF m 725 A128 [(.int (1 : Int32))]))
                                          rw [hF]
                                          exact own_retH X132 hS (by rw [eq132]; exact hk) hh eq132 hZ (own_EW hw) hC120 (v := (some (.int (nar .boolean (1 : Int32))))) (fun h => by rw [Bd.returns] at h; cases h) Bd.notSynchronized (fun fs hr => retN X132 hx (t := .boolean) Bd.returns (by simp) (hb hby at_725) hr) (by decide) (by decide) (by rw [eq132]; exact ⟨rfl, N132⟩)
                                        · refine own_step (fun _ k => XS.icmpYes X124.here hx rfl (pc0 := 708) (pc' := 726) rfl (hb hby at_708) rfl (feq c708_131).2 (by decide) (by decide) k) ?_
                                          show own_Ends p e below F (T124.setTop (mkF m 726 A128 []))
                                          refine own_step (fun _ k => XS.iload X124.here hx rfl (hb hby at_726) (by rw [hA128]; rfl) k) ?_
                                          show own_Ends p e below F (T124.setTop (mkF m 728 A128 [(.int v127)]))
                                          refine own_step (fun _ k => XS.bipush X124.here hx rfl (hb hby at_728) k) ?_
                                          show own_Ends p e below F (T124.setTop (mkF m 730 A128 [(.int (7 : Int32)), (.int v127)]))
                                          by_cases c730_133 : v127 = (7 : Int32)
                                          · refine own_step (fun _ k => XS.icmpNo X124.here hx rfl (hb hby at_730) rfl (teq c730_133).2 k) ?_
                                            show own_Ends p e below F (T124.setTop (mkF m 733 A128 []))
                                            refine own_step (fun _ k => XS.aload X124.here hx rfl (hb hby at_733) (by rw [hA128]; rfl) rfl k) ?_
                                            show own_Ends p e below F (T124.setTop (mkF m 735 A128 [(.ref a109)]))
                                            refine own_step (fun _ k => XS.aload X124.here hx rfl (hb hby at_735) (by rw [hA128]; rfl) rfl k) ?_
                                            show own_Ends p e below F (T124.setTop (mkF m 737 A128 [(.ref c107), (.ref a109)]))
                                            obtain ⟨cq134, kq134, qa134, qb134, qc134⟩ := isOf hZ e124 (((((fq0_113.ext E115).keep Kq116).keep Kq117).keep Kq118).keep Kq120)
                                            obtain ⟨_, _, ⟨T134, L134, k134, n134⟩, -, X134, ⟨Lc134, hQ134, l134, y134, z134⟩, st134⟩ := X124.virtualBack hx (y := (⟨"com/example/clock3600/clock3600/queue/QueuedTask", "equals", "(Ljava/lang/Object;)Z"⟩ : MethodName)) (z := (⟨"com/example/clock3600/clock3600/queue/QueuedTask", "equals", "(Ljava/lang/Object;)Z"⟩ : MethodName)) hown (mvT hZ (own_g hw 51 rfl)) (mvT hZ (own_g hw 52 rfl)) (notFace_of_selects (args := #[]) (mvT hZ (own_g hw 54 rfl))) (mvT hZ (own_g hw 54 rfl)) (mvT hZ (own_g hw 53 rfl)) (by decide) (backOf (W := 0) (rm7c l Z a0 hw [] a109 c107 T120.heap n0 Z120 (((((((((fe107.ext E109).keep Kq110).keep Kq111).keep Kq113).ext E115).keep Kq116).keep Kq117).keep Kq118).keep Kq120) (Ne.symm ne_c107_a109)) hZ (own_g hw 55 rfl) (own_g hw 28 rfl) (by decide) (by decide)) qa134 qc134 (g := (mkF m 737 A128 [(.ref c107), (.ref a109)])) rfl (by rw [hml]; show A128.size = _; rw [hA128]; rfl) (Steps.refl _) (argsL := [(.ref c107)]) (rest := []) (lenOf pd__28Ljava_2flang_2fObject_3b_29Z rfl) rfl (by show 2 * 0 + _ ≤ _; exact Nat.le_of_eq rfl) (hb hby at_737) (fun _ _ => ⟨rfl, e124, (by decide : 38 + 0 ≤ _), (by decide : 84 + 0 ≤ _)⟩)
                                            dsimp only [Pt.U, Pt.locs, Pt.cells, Pt.slots] at X134 l134 y134 z134 st134 hQ134
                                            subst l134 y134 z134
                                            obtain ⟨rfl, Nq134, eq134⟩ := hQ134
                                            have N134 := Fr.app N124 Nq134
                                            refine own_trans st134 ?_
                                            show own_Ends p e below F (T134.setTop (mkF m 740 A128 [(.int (0 : Int32))]))
                                            refine own_step (fun _ k => XS.ifNo X134.here hx rfl (hb hby at_740) rfl ((if0 _ _).trans (teq (by decide : (0 : Int32) = (0 : Int32))).2) k) ?_
                                            show own_Ends p e below F (T134.setTop (mkF m 743 A128 []))
                                            refine own_step (fun _ k => XS.iconst X134.here hx rfl (hb hby at_743) k) ?_
                                            show own_Ends p e below F (T134.setTop (mkF m 744 A128 [(.int (1 : Int32))]))
                                            refine own_step (fun _ k => XS.goto X134.here hx rfl (pc0 := 744) (pc' := 748) rfl (hb hby at_744) (by decide) (by decide) k) ?_
                                            show own_Ends p e below F (T134.setTop (mkF m 748 A128 [(.int (1 : Int32))]))
                                            rw [hF]
                                            exact own_retH X134 hS (by rw [eq134]; exact hk) hh eq134 hZ (own_EW hw) hC120 (v := (some (.int (nar .boolean (1 : Int32))))) (fun h => by rw [Bd.returns] at h; cases h) Bd.notSynchronized (fun fs hr => retN X134 hx (t := .boolean) Bd.returns (by simp) (hb hby at_748) hr) (by decide) (by decide) (by rw [eq134]; exact ⟨rfl, N134⟩)
                                          · refine own_step (fun _ k => XS.icmpYes X124.here hx rfl (pc0 := 730) (pc' := 749) rfl (hb hby at_730) rfl (feq c730_133).2 (by decide) (by decide) k) ?_
                                            show own_Ends p e below F (T124.setTop (mkF m 749 A128 []))
                                            refine own_step (fun _ k => XS.aload X124.here hx rfl (hb hby at_749) (by rw [hA128]; rfl) rfl k) ?_
                                            show own_Ends p e below F (T124.setTop (mkF m 751 A128 [(.ref a109)]))
                                            refine own_step (fun _ k => XS.aload X124.here hx rfl (hb hby at_751) (by rw [hA128]; rfl) rfl k) ?_
                                            show own_Ends p e below F (T124.setTop (mkF m 753 A128 [(.ref a115), (.ref a109)]))
                                            obtain ⟨cq135, kq135, qa135, qb135, qc135⟩ := isOf hZ e124 (((((fq0_113.ext E115).keep Kq116).keep Kq117).keep Kq118).keep Kq120)
                                            obtain ⟨_, _, ⟨T135, L135, k135, n135⟩, -, X135, ⟨Lc135, hQ135, l135, y135, z135⟩, st135⟩ := X124.virtualBack hx (y := (⟨"com/example/clock3600/clock3600/queue/QueuedTask", "equals", "(Ljava/lang/Object;)Z"⟩ : MethodName)) (z := (⟨"com/example/clock3600/clock3600/queue/QueuedTask", "equals", "(Ljava/lang/Object;)Z"⟩ : MethodName)) hown (mvT hZ (own_g hw 51 rfl)) (mvT hZ (own_g hw 52 rfl)) (notFace_of_selects (args := #[]) (mvT hZ (own_g hw 54 rfl))) (mvT hZ (own_g hw 54 rfl)) (mvT hZ (own_g hw 53 rfl)) (by decide) (backOf (W := 0) (rm7d l Z a0 hw [] a109 a115 p1 z97 v18 z102 c107 c116 c110 c117 c111 c118 (own_cs v2 v8 v10) (own_cs z57 z62 z67) (own_cs v4 v12 (0 : Int32)) (own_cs z72 z77 (0 : Int32)) (own_cs v6 v14 (0 : Int32)) (own_cs z82 z87 (0 : Int32)) (own_st v16 pe re le) (own_st z92 pe re le) T120.heap.size zc T120.heap n0 Z120 fq0_120 ne_a109_a115 S0_120 hz (((((fq3_113.ext E115).keep Kq116 nin0).keep Kq117 nin0).keep Kq118 nin0).keep Kq120 (ninS ne_a109_a115 nin0)) (((((fq6_113.ext E115).keep Kq116 nin0).keep Kq117 nin0).keep Kq118 nin0).keep Kq120 (ninS ne_a109_a115 nin0)) (((((fq1_113.ext E115).keep Kq116 nin0).keep Kq117 nin0).keep Kq118 nin0).keep Kq120 (ninS ne_a109_a115 nin0)) (own_Str.top (own_Str.keep (own_Str.keep (own_Str.keep (own_Str.keep ((own_Str.keep (own_Str.keep (own_Str.keep (str107.ext E109) Kq110 all0) Kq111 all0) Kq113 (allS bd109_T107_heap_size all0)).ext E115) Kq116 all0) Kq117 all0) Kq118 all0) Kq120 (allS bd115_T107_heap_size all0))) (own_cslen _ _ _) (((((fq2_113.ext E115).keep Kq116 nin0).keep Kq117 nin0).keep Kq118 nin0).keep Kq120 (ninS ne_a109_a115 nin0)) (own_Str.top (own_Str.keep (own_Str.keep (own_Str.keep (own_Str.keep ((own_Str.keepN (own_Str.keep str110 Kq111 all0) Kq113 (allS (Or.inr ⟨_, _, _, ((A109.keep Kq110).keep Kq111), by decide, (own_g hw 27 rfl)⟩) all0)).ext E115) Kq116 all0) Kq117 all0) Kq118 all0) Kq120 (allS bd115_T110_heap_size all0))) (own_cslen _ _ _) (((((fq4_113.ext E115).keep Kq116 nin0).keep Kq117 nin0).keep Kq118 nin0).keep Kq120 (ninS ne_a109_a115 nin0)) (own_Str.top (own_Str.keep (own_Str.keep (own_Str.keep (own_Str.keep ((own_Str.keepN str111 Kq113 (allS (Or.inr ⟨_, _, _, ((A109.keep Kq110).keep Kq111), by decide, (own_g hw 27 rfl)⟩) all0)).ext E115) Kq116 all0) Kq117 all0) Kq118 all0) Kq120 (allS bd115_T111_heap_size all0))) (own_cslen _ _ _) (((((fq5_113.ext E115).keep Kq116 nin0).keep Kq117 nin0).keep Kq118 nin0).keep Kq120 (ninS ne_a109_a115 nin0)) fq3_120 fq6_120 fq1_120 (own_Str.top (own_Str.keepN (own_Str.keep (own_Str.keep str116 Kq117 all0) Kq118 all0) Kq120 (allS (Or.inr ⟨_, _, _, (((A115.keep Kq116).keep Kq117).keep Kq118), by decide, (own_g hw 27 rfl)⟩) all0))) (own_cslen _ _ _) fq2_120 (own_Str.top (own_Str.keepN (own_Str.keep str117 Kq118 all0) Kq120 (allS (Or.inr ⟨_, _, _, (((A115.keep Kq116).keep Kq117).keep Kq118), by decide, (own_g hw 27 rfl)⟩) all0))) (own_cslen _ _ _) fq4_120 (own_Str.top (own_Str.keepN str118 Kq120 (allS (Or.inr ⟨_, _, _, (((A115.keep Kq116).keep Kq117).keep Kq118), by decide, (own_g hw 27 rfl)⟩) all0))) (own_cslen _ _ _) fq5_120) hZ (own_g hw 55 rfl) (own_g hw 28 rfl) (by decide) (by decide)) qa135 qc135 (g := (mkF m 753 A128 [(.ref a115), (.ref a109)])) rfl (by rw [hml]; show A128.size = _; rw [hA128]; rfl) (Steps.refl _) (argsL := [(.ref a115)]) (rest := []) (lenOf pd__28Ljava_2flang_2fObject_3b_29Z rfl) rfl (by show 2 * 0 + _ ≤ _; exact Nat.le_of_eq rfl) (hb hby at_753) (fun _ _ => ⟨rfl, e124, (by decide : 38 + 0 ≤ _), (by decide : 84 + 0 ≤ _)⟩)
                                            dsimp only [Pt.U, Pt.locs, Pt.cells, Pt.slots] at X135 l135 y135 z135 st135 hQ135
                                            subst l135 y135 z135
                                            obtain ⟨rfl, Nq135, eq135⟩ := hQ135
                                            have N135 := Fr.app N124 Nq135
                                            refine own_trans st135 ?_
                                            show own_Ends p e below F (T135.setTop (mkF m 756 A128 [(.int (own_qeq p1 z97 v18 z102 (own_cs v2 v8 v10) (own_cs z57 z62 z67) (own_cs v4 v12 (0 : Int32)) (own_cs z72 z77 (0 : Int32)) (own_cs v6 v14 (0 : Int32)) (own_cs z82 z87 (0 : Int32)) (own_st v16 pe re le) (own_st z92 pe re le)))]))
                                            refine own_step (fun _ k => XS.iload X135.here hx rfl (hb hby at_756) (by rw [hA128]; rfl) k) ?_
                                            show own_Ends p e below F (T135.setTop (mkF m 758 A128 [(.int z122), (.int (own_qeq p1 z97 v18 z102 (own_cs v2 v8 v10) (own_cs z57 z62 z67) (own_cs v4 v12 (0 : Int32)) (own_cs z72 z77 (0 : Int32)) (own_cs v6 v14 (0 : Int32)) (own_cs z82 z87 (0 : Int32)) (own_st v16 pe re le) (own_st z92 pe re le)))]))
                                            refine own_step (fun _ k => XS.icmpNo X135.here hx rfl (hb hby at_758) rfl (teq (own_main1 ev2 ev4 ev6 hz57 hz72 hz82 ev16 hz92 hz122 hpr hpl hrl : (own_qeq p1 z97 v18 z102 (own_cs v2 v8 v10) (own_cs z57 z62 z67) (own_cs v4 v12 (0 : Int32)) (own_cs z72 z77 (0 : Int32)) (own_cs v6 v14 (0 : Int32)) (own_cs z82 z87 (0 : Int32)) (own_st v16 pe re le) (own_st z92 pe re le)) = z122)).2 k) ?_
                                            show own_Ends p e below F (T135.setTop (mkF m 761 A128 []))
                                            refine own_step (fun _ k => XS.aload X135.here hx rfl (hb hby at_761) (by rw [hA128]; rfl) rfl k) ?_
                                            show own_Ends p e below F (T135.setTop (mkF m 763 A128 [(.ref a115)]))
                                            refine own_step (fun _ k => XS.aload X135.here hx rfl (hb hby at_763) (by rw [hA128]; rfl) rfl k) ?_
                                            show own_Ends p e below F (T135.setTop (mkF m 765 A128 [(.ref a109), (.ref a115)]))
                                            obtain ⟨cq136, kq136, qa136, qb136, qc136⟩ := isOf hZ eq135 fq0_120
                                            obtain ⟨_, _, ⟨T136, L136, k136, n136⟩, -, X136, ⟨Lc136, hQ136, l136, y136, z136⟩, st136⟩ := X135.virtualBack hx (y := (⟨"com/example/clock3600/clock3600/queue/QueuedTask", "equals", "(Ljava/lang/Object;)Z"⟩ : MethodName)) (z := (⟨"com/example/clock3600/clock3600/queue/QueuedTask", "equals", "(Ljava/lang/Object;)Z"⟩ : MethodName)) hown (mvT hZ (own_g hw 51 rfl)) (mvT hZ (own_g hw 52 rfl)) (notFace_of_selects (args := #[]) (mvT hZ (own_g hw 54 rfl))) (mvT hZ (own_g hw 54 rfl)) (mvT hZ (own_g hw 53 rfl)) (by decide) (backOf (W := 0) (rm7d l Z a0 hw [] a115 a109 z97 p1 z102 v18 c116 c107 c117 c110 c118 c111 (own_cs z57 z62 z67) (own_cs v2 v8 v10) (own_cs z72 z77 (0 : Int32)) (own_cs v4 v12 (0 : Int32)) (own_cs z82 z87 (0 : Int32)) (own_cs v6 v14 (0 : Int32)) (own_st z92 pe re le) (own_st v16 pe re le) T120.heap.size zc T120.heap n0 Z120 (((((fq0_113.ext E115).keep Kq116).keep Kq117).keep Kq118).keep Kq120) (Ne.symm ne_a109_a115) S0_120 hz fq3_120 fq6_120 fq1_120 (own_Str.top (own_Str.keepN (own_Str.keep (own_Str.keep str116 Kq117 all0) Kq118 all0) Kq120 (allS (Or.inr ⟨_, _, _, (((A115.keep Kq116).keep Kq117).keep Kq118), by decide, (own_g hw 27 rfl)⟩) all0))) (own_cslen _ _ _) fq2_120 (own_Str.top (own_Str.keepN (own_Str.keep str117 Kq118 all0) Kq120 (allS (Or.inr ⟨_, _, _, (((A115.keep Kq116).keep Kq117).keep Kq118), by decide, (own_g hw 27 rfl)⟩) all0))) (own_cslen _ _ _) fq4_120 (own_Str.top (own_Str.keepN str118 Kq120 (allS (Or.inr ⟨_, _, _, (((A115.keep Kq116).keep Kq117).keep Kq118), by decide, (own_g hw 27 rfl)⟩) all0))) (own_cslen _ _ _) fq5_120 (((((fq3_113.ext E115).keep Kq116 nin0).keep Kq117 nin0).keep Kq118 nin0).keep Kq120 (ninS ne_a109_a115 nin0)) (((((fq6_113.ext E115).keep Kq116 nin0).keep Kq117 nin0).keep Kq118 nin0).keep Kq120 (ninS ne_a109_a115 nin0)) (((((fq1_113.ext E115).keep Kq116 nin0).keep Kq117 nin0).keep Kq118 nin0).keep Kq120 (ninS ne_a109_a115 nin0)) (own_Str.top (own_Str.keep (own_Str.keep (own_Str.keep (own_Str.keep ((own_Str.keep (own_Str.keep (own_Str.keep (str107.ext E109) Kq110 all0) Kq111 all0) Kq113 (allS bd109_T107_heap_size all0)).ext E115) Kq116 all0) Kq117 all0) Kq118 all0) Kq120 (allS bd115_T107_heap_size all0))) (own_cslen _ _ _) (((((fq2_113.ext E115).keep Kq116 nin0).keep Kq117 nin0).keep Kq118 nin0).keep Kq120 (ninS ne_a109_a115 nin0)) (own_Str.top (own_Str.keep (own_Str.keep (own_Str.keep (own_Str.keep ((own_Str.keepN (own_Str.keep str110 Kq111 all0) Kq113 (allS (Or.inr ⟨_, _, _, ((A109.keep Kq110).keep Kq111), by decide, (own_g hw 27 rfl)⟩) all0)).ext E115) Kq116 all0) Kq117 all0) Kq118 all0) Kq120 (allS bd115_T110_heap_size all0))) (own_cslen _ _ _) (((((fq4_113.ext E115).keep Kq116 nin0).keep Kq117 nin0).keep Kq118 nin0).keep Kq120 (ninS ne_a109_a115 nin0)) (own_Str.top (own_Str.keep (own_Str.keep (own_Str.keep (own_Str.keep ((own_Str.keepN str111 Kq113 (allS (Or.inr ⟨_, _, _, ((A109.keep Kq110).keep Kq111), by decide, (own_g hw 27 rfl)⟩) all0)).ext E115) Kq116 all0) Kq117 all0) Kq118 all0) Kq120 (allS bd115_T111_heap_size all0))) (own_cslen _ _ _) (((((fq5_113.ext E115).keep Kq116 nin0).keep Kq117 nin0).keep Kq118 nin0).keep Kq120 (ninS ne_a109_a115 nin0))) hZ (own_g hw 55 rfl) (own_g hw 28 rfl) (by decide) (by decide)) qa136 qc136 (g := (mkF m 765 A128 [(.ref a109), (.ref a115)])) rfl (by rw [hml]; show A128.size = _; rw [hA128]; rfl) (Steps.refl _) (argsL := [(.ref a109)]) (rest := []) (lenOf pd__28Ljava_2flang_2fObject_3b_29Z rfl) rfl (by show 2 * 0 + _ ≤ _; exact Nat.le_of_eq rfl) (hb hby at_765) (fun _ _ => ⟨rfl, eq135, (by decide : 38 + 0 ≤ _), (by decide : 84 + 0 ≤ _)⟩)
                                            dsimp only [Pt.U, Pt.locs, Pt.cells, Pt.slots] at X136 l136 y136 z136 st136 hQ136
                                            subst l136 y136 z136
                                            obtain ⟨rfl, Nq136, eq136⟩ := hQ136
                                            have N136 := Fr.app N135 Nq136
                                            refine own_trans st136 ?_
                                            show own_Ends p e below F (T136.setTop (mkF m 768 A128 [(.int (own_qeq z97 p1 z102 v18 (own_cs z57 z62 z67) (own_cs v2 v8 v10) (own_cs z72 z77 (0 : Int32)) (own_cs v4 v12 (0 : Int32)) (own_cs z82 z87 (0 : Int32)) (own_cs v6 v14 (0 : Int32)) (own_st z92 pe re le) (own_st v16 pe re le)))]))
                                            refine own_step (fun _ k => XS.iload X136.here hx rfl (hb hby at_768) (by rw [hA128]; rfl) k) ?_
                                            show own_Ends p e below F (T136.setTop (mkF m 770 A128 [(.int z122), (.int (own_qeq z97 p1 z102 v18 (own_cs z57 z62 z67) (own_cs v2 v8 v10) (own_cs z72 z77 (0 : Int32)) (own_cs v4 v12 (0 : Int32)) (own_cs z82 z87 (0 : Int32)) (own_cs v6 v14 (0 : Int32)) (own_st z92 pe re le) (own_st v16 pe re le)))]))
                                            refine own_step (fun _ k => XS.icmpNo X136.here hx rfl (hb hby at_770) rfl (teq (own_main2 ev2 ev4 ev6 hz57 hz72 hz82 ev16 hz92 hz122 hpr hpl hrl : (own_qeq z97 p1 z102 v18 (own_cs z57 z62 z67) (own_cs v2 v8 v10) (own_cs z72 z77 (0 : Int32)) (own_cs v4 v12 (0 : Int32)) (own_cs z82 z87 (0 : Int32)) (own_cs v6 v14 (0 : Int32)) (own_st z92 pe re le) (own_st v16 pe re le)) = z122)).2 k) ?_
                                            show own_Ends p e below F (T136.setTop (mkF m 773 A128 []))
                                            refine own_step (fun _ k => XS.iconst X136.here hx rfl (hb hby at_773) k) ?_
                                            show own_Ends p e below F (T136.setTop (mkF m 774 A128 [(.int (1 : Int32))]))
                                            refine own_step (fun _ k => XS.goto X136.here hx rfl (pc0 := 774) (pc' := 778) rfl (hb hby at_774) (by decide) (by decide) k) ?_
                                            show own_Ends p e below F (T136.setTop (mkF m 778 A128 [(.int (1 : Int32))]))
                                            rw [hF]
                                            exact own_retH X136 hS (by rw [eq136]; exact hk) hh eq136 hZ (own_EW hw) hC120 (v := (some (.int (nar .boolean (1 : Int32))))) (fun h => by rw [Bd.returns] at h; cases h) Bd.notSynchronized (fun fs hr => retN X136 hx (t := .boolean) Bd.returns (by simp) (hb hby at_778) hr) (by decide) (by decide) (by rw [eq136]; exact ⟨rfl, N136⟩)
                                    by_cases c606_137 : p1 = z97
                                    · refine own_step (fun _ k => XS.ifNo X120.here hx rfl (hb hby at_606) rfl ((if0 _ _).trans (teq ((lw_eq _ _).mpr c606_137)).2) k) ?_
                                      show own_Ends p e below F (T120.setTop (mkF m 609 A121 []))
                                      refine own_step (fun _ k => XS.iload X120.here hx rfl (hb hby at_609) (by rw [hA121]; rfl) k) ?_
                                      show own_Ends p e below F (T120.setTop (mkF m 611 A121 [(.int v18)]))
                                      refine own_step (fun _ k => XS.iload X120.here hx rfl (hb hby at_611) (by rw [hA121]; rfl) k) ?_
                                      show own_Ends p e below F (T120.setTop (mkF m 613 A121 [(.int z102), (.int v18)]))
                                      by_cases c613_138 : v18 = z102
                                      · refine own_step (fun _ k => XS.icmpNo X120.here hx rfl (hb hby at_613) rfl (teq c613_138).2 k) ?_
                                        show own_Ends p e below F (T120.setTop (mkF m 616 A121 []))
                                        refine own_step (fun _ k => XS.iload X120.here hx rfl (hb hby at_616) (by rw [hA121]; rfl) k) ?_
                                        show own_Ends p e below F (T120.setTop (mkF m 618 A121 [(.int v2)]))
                                        refine own_step (fun _ k => XS.iload X120.here hx rfl (hb hby at_618) (by rw [hA121]; rfl) k) ?_
                                        show own_Ends p e below F (T120.setTop (mkF m 620 A121 [(.int v8), (.int v2)]))
                                        refine own_step (fun _ k => XS.iload X120.here hx rfl (hb hby at_620) (by rw [hA121]; rfl) k) ?_
                                        show own_Ends p e below F (T120.setTop (mkF m 622 A121 [(.int v10), (.int v8), (.int v2)]))
                                        refine own_step (fun _ k => XS.iload X120.here hx rfl (hb hby at_622) (by rw [hA121]; rfl) k) ?_
                                        show own_Ends p e below F (T120.setTop (mkF m 624 A121 [(.int z57), (.int v10), (.int v8), (.int v2)]))
                                        refine own_step (fun _ k => XS.iload X120.here hx rfl (hb hby at_624) (by rw [hA121]; rfl) k) ?_
                                        show own_Ends p e below F (T120.setTop (mkF m 626 A121 [(.int z62), (.int z57), (.int v10), (.int v8), (.int v2)]))
                                        refine own_step (fun _ k => XS.iload X120.here hx rfl (hb hby at_626) (by rw [hA121]; rfl) k) ?_
                                        show own_Ends p e below F (T120.setTop (mkF m 628 A121 [(.int z67), (.int z62), (.int z57), (.int v10), (.int v8), (.int v2)]))
                                        obtain ⟨_, _, ⟨T139, L139, k139, n139⟩, -, X139, ⟨Lc139, hQ139, l139, y139, z139⟩, st139⟩ := Jvm.LawKit.callS X120 hx (y := (⟨"com/example/clock3600/clock3600/queue/QueuedTaskEqualsPinLaw", "same", "(IIIIII)Z"⟩ : MethodName)) hown (mvT hZ (own_g hw 69 rfl)) (mvT hZ (own_g hw 70 rfl)) (mvT hZ (own_g hw 2 rfl)) (mvT hZ (own_g hw 71 rfl)) (by decide) (backOf (W := 0) (rm11 l Z a0 hw [] v2 v8 v10 z57 z62 z67 T120.heap n0 Z120) hZ (own_g hw 71 rfl) (own_g hw 2 rfl) (by decide) (by decide)) (g := (mkF m 628 A121 [(.int z67), (.int z62), (.int z57), (.int v10), (.int v8), (.int v2)])) rfl (by rw [hml]; show A121.size = _; rw [hA121]; rfl) (argsL := [(.int v2), (.int v8), (.int v10), (.int z57), (.int z62), (.int z67)]) (rest := []) (lenOf pd__28IIIIII_29Z rfl) rfl (by show 2 * 0 + _ ≤ _; exact Nat.le_of_eq rfl) (hb hby at_628) (fun _ _ => ⟨rfl, rfl, (by decide : 38 + 0 ≤ _), (by decide : 84 + 0 ≤ _)⟩)
                                        dsimp only [Pt.U, Pt.locs, Pt.cells, Pt.slots] at X139 l139 y139 z139 st139 hQ139
                                        subst l139 y139 z139
                                        obtain ⟨rfl, Nq139, eq139⟩ := hQ139
                                        have N139 := Fr.app N120 Nq139
                                        refine own_step st139 ?_
                                        show own_Ends p e below F (T139.setTop (mkF m 631 A121 [(.int (own_same v2 v8 v10 z57 z62 z67))]))
                                        by_cases c631_140 : (own_same v2 v8 v10 z57 z62 z67) = (0 : Int32)
                                        · refine own_step (fun _ k => XS.ifYes X139.here hx rfl (pc0 := 631) (pc' := 677) rfl (hb hby at_631) rfl ((if0 _ _).trans (teq c631_140).1) (by decide) (by decide) k) ?_
                                          show own_Ends p e below F (T139.setTop (mkF m 677 A121 []))
                                          refine own_step (fun _ k => XS.iconst X139.here hx rfl (hb hby at_677) k) ?_
                                          show own_Ends p e below F (T139.setTop (mkF m 678 A121 [(.int (0 : Int32))]))
                                          rw [hA121]
                                          exact J606_123 _ _ X139 eq139 N139 _ (by first | (simp only [if_true, if_false, c606_137, c613_138, c631_140]; done) | ((first | rw [if_pos c606_137] | rw [if_neg c606_137] | skip); (first | rw [if_pos c613_138] | rw [if_neg c613_138] | skip); (first | rw [if_pos c631_140] | rw [if_neg c631_140] | skip)))
                                        · refine own_step (fun _ k => XS.ifNo X139.here hx rfl (hb hby at_631) rfl ((if0 _ _).trans (feq c631_140).1) k) ?_
                                          show own_Ends p e below F (T139.setTop (mkF m 634 A121 []))
                                          refine own_step (fun _ k => XS.iload X139.here hx rfl (hb hby at_634) (by rw [hA121]; rfl) k) ?_
                                          show own_Ends p e below F (T139.setTop (mkF m 636 A121 [(.int v4)]))
                                          refine own_step (fun _ k => XS.iload X139.here hx rfl (hb hby at_636) (by rw [hA121]; rfl) k) ?_
                                          show own_Ends p e below F (T139.setTop (mkF m 638 A121 [(.int v12), (.int v4)]))
                                          refine own_step (fun _ k => XS.iconst X139.here hx rfl (hb hby at_638) k) ?_
                                          show own_Ends p e below F (T139.setTop (mkF m 639 A121 [(.int (0 : Int32)), (.int v12), (.int v4)]))
                                          refine own_step (fun _ k => XS.iload X139.here hx rfl (hb hby at_639) (by rw [hA121]; rfl) k) ?_
                                          show own_Ends p e below F (T139.setTop (mkF m 641 A121 [(.int z72), (.int (0 : Int32)), (.int v12), (.int v4)]))
                                          refine own_step (fun _ k => XS.iload X139.here hx rfl (hb hby at_641) (by rw [hA121]; rfl) k) ?_
                                          show own_Ends p e below F (T139.setTop (mkF m 643 A121 [(.int z77), (.int z72), (.int (0 : Int32)), (.int v12), (.int v4)]))
                                          refine own_step (fun _ k => XS.iconst X139.here hx rfl (hb hby at_643) k) ?_
                                          show own_Ends p e below F (T139.setTop (mkF m 644 A121 [(.int (0 : Int32)), (.int z77), (.int z72), (.int (0 : Int32)), (.int v12), (.int v4)]))
                                          obtain ⟨_, _, ⟨T141, L141, k141, n141⟩, -, X141, ⟨Lc141, hQ141, l141, y141, z141⟩, st141⟩ := Jvm.LawKit.callS X139 hx (y := (⟨"com/example/clock3600/clock3600/queue/QueuedTaskEqualsPinLaw", "same", "(IIIIII)Z"⟩ : MethodName)) hown (mvT hZ (own_g hw 69 rfl)) (mvT hZ (own_g hw 70 rfl)) (mvT hZ (own_g hw 2 rfl)) (mvT hZ (own_g hw 71 rfl)) (by decide) (backOf (W := 0) (rm11 l Z a0 hw [] v4 v12 (0 : Int32) z72 z77 (0 : Int32) T120.heap n0 Z120) hZ (own_g hw 71 rfl) (own_g hw 2 rfl) (by decide) (by decide)) (g := (mkF m 644 A121 [(.int (0 : Int32)), (.int z77), (.int z72), (.int (0 : Int32)), (.int v12), (.int v4)])) rfl (by rw [hml]; show A121.size = _; rw [hA121]; rfl) (argsL := [(.int v4), (.int v12), (.int (0 : Int32)), (.int z72), (.int z77), (.int (0 : Int32))]) (rest := []) (lenOf pd__28IIIIII_29Z rfl) rfl (by show 2 * 0 + _ ≤ _; exact Nat.le_of_eq rfl) (hb hby at_644) (fun _ _ => ⟨rfl, eq139, (by decide : 38 + 0 ≤ _), (by decide : 84 + 0 ≤ _)⟩)
                                          dsimp only [Pt.U, Pt.locs, Pt.cells, Pt.slots] at X141 l141 y141 z141 st141 hQ141
                                          subst l141 y141 z141
                                          obtain ⟨rfl, Nq141, eq141⟩ := hQ141
                                          have N141 := Fr.app N139 Nq141
                                          refine own_step st141 ?_
                                          show own_Ends p e below F (T141.setTop (mkF m 647 A121 [(.int (own_same v4 v12 (0 : Int32) z72 z77 (0 : Int32)))]))
                                          by_cases c647_142 : (own_same v4 v12 (0 : Int32) z72 z77 (0 : Int32)) = (0 : Int32)
                                          · refine own_step (fun _ k => XS.ifYes X141.here hx rfl (pc0 := 647) (pc' := 677) rfl (hb hby at_647) rfl ((if0 _ _).trans (teq c647_142).1) (by decide) (by decide) k) ?_
                                            show own_Ends p e below F (T141.setTop (mkF m 677 A121 []))
                                            refine own_step (fun _ k => XS.iconst X141.here hx rfl (hb hby at_677) k) ?_
                                            show own_Ends p e below F (T141.setTop (mkF m 678 A121 [(.int (0 : Int32))]))
                                            rw [hA121]
                                            exact J606_123 _ _ X141 eq141 N141 _ (by first | (simp only [if_true, if_false, c606_137, c613_138, c631_140, c647_142]; done) | ((first | rw [if_pos c606_137] | rw [if_neg c606_137] | skip); (first | rw [if_pos c613_138] | rw [if_neg c613_138] | skip); (first | rw [if_pos c631_140] | rw [if_neg c631_140] | skip); (first | rw [if_pos c647_142] | rw [if_neg c647_142] | skip)))
                                          · refine own_step (fun _ k => XS.ifNo X141.here hx rfl (hb hby at_647) rfl ((if0 _ _).trans (feq c647_142).1) k) ?_
                                            show own_Ends p e below F (T141.setTop (mkF m 650 A121 []))
                                            refine own_step (fun _ k => XS.iload X141.here hx rfl (hb hby at_650) (by rw [hA121]; rfl) k) ?_
                                            show own_Ends p e below F (T141.setTop (mkF m 652 A121 [(.int v6)]))
                                            refine own_step (fun _ k => XS.iload X141.here hx rfl (hb hby at_652) (by rw [hA121]; rfl) k) ?_
                                            show own_Ends p e below F (T141.setTop (mkF m 654 A121 [(.int v14), (.int v6)]))
                                            refine own_step (fun _ k => XS.iconst X141.here hx rfl (hb hby at_654) k) ?_
                                            show own_Ends p e below F (T141.setTop (mkF m 655 A121 [(.int (0 : Int32)), (.int v14), (.int v6)]))
                                            refine own_step (fun _ k => XS.iload X141.here hx rfl (hb hby at_655) (by rw [hA121]; rfl) k) ?_
                                            show own_Ends p e below F (T141.setTop (mkF m 657 A121 [(.int z82), (.int (0 : Int32)), (.int v14), (.int v6)]))
                                            refine own_step (fun _ k => XS.iload X141.here hx rfl (hb hby at_657) (by rw [hA121]; rfl) k) ?_
                                            show own_Ends p e below F (T141.setTop (mkF m 659 A121 [(.int z87), (.int z82), (.int (0 : Int32)), (.int v14), (.int v6)]))
                                            refine own_step (fun _ k => XS.iconst X141.here hx rfl (hb hby at_659) k) ?_
                                            show own_Ends p e below F (T141.setTop (mkF m 660 A121 [(.int (0 : Int32)), (.int z87), (.int z82), (.int (0 : Int32)), (.int v14), (.int v6)]))
                                            obtain ⟨_, _, ⟨T143, L143, k143, n143⟩, -, X143, ⟨Lc143, hQ143, l143, y143, z143⟩, st143⟩ := Jvm.LawKit.callS X141 hx (y := (⟨"com/example/clock3600/clock3600/queue/QueuedTaskEqualsPinLaw", "same", "(IIIIII)Z"⟩ : MethodName)) hown (mvT hZ (own_g hw 69 rfl)) (mvT hZ (own_g hw 70 rfl)) (mvT hZ (own_g hw 2 rfl)) (mvT hZ (own_g hw 71 rfl)) (by decide) (backOf (W := 0) (rm11 l Z a0 hw [] v6 v14 (0 : Int32) z82 z87 (0 : Int32) T120.heap n0 Z120) hZ (own_g hw 71 rfl) (own_g hw 2 rfl) (by decide) (by decide)) (g := (mkF m 660 A121 [(.int (0 : Int32)), (.int z87), (.int z82), (.int (0 : Int32)), (.int v14), (.int v6)])) rfl (by rw [hml]; show A121.size = _; rw [hA121]; rfl) (argsL := [(.int v6), (.int v14), (.int (0 : Int32)), (.int z82), (.int z87), (.int (0 : Int32))]) (rest := []) (lenOf pd__28IIIIII_29Z rfl) rfl (by show 2 * 0 + _ ≤ _; exact Nat.le_of_eq rfl) (hb hby at_660) (fun _ _ => ⟨rfl, eq141, (by decide : 38 + 0 ≤ _), (by decide : 84 + 0 ≤ _)⟩)
                                            dsimp only [Pt.U, Pt.locs, Pt.cells, Pt.slots] at X143 l143 y143 z143 st143 hQ143
                                            subst l143 y143 z143
                                            obtain ⟨rfl, Nq143, eq143⟩ := hQ143
                                            have N143 := Fr.app N141 Nq143
                                            refine own_step st143 ?_
                                            show own_Ends p e below F (T143.setTop (mkF m 663 A121 [(.int (own_same v6 v14 (0 : Int32) z82 z87 (0 : Int32)))]))
                                            by_cases c663_144 : (own_same v6 v14 (0 : Int32) z82 z87 (0 : Int32)) = (0 : Int32)
                                            · refine own_step (fun _ k => XS.ifYes X143.here hx rfl (pc0 := 663) (pc' := 677) rfl (hb hby at_663) rfl ((if0 _ _).trans (teq c663_144).1) (by decide) (by decide) k) ?_
                                              show own_Ends p e below F (T143.setTop (mkF m 677 A121 []))
                                              refine own_step (fun _ k => XS.iconst X143.here hx rfl (hb hby at_677) k) ?_
                                              show own_Ends p e below F (T143.setTop (mkF m 678 A121 [(.int (0 : Int32))]))
                                              rw [hA121]
                                              exact J606_123 _ _ X143 eq143 N143 _ (by first | (simp only [if_true, if_false, c606_137, c613_138, c631_140, c647_142, c663_144]; done) | ((first | rw [if_pos c606_137] | rw [if_neg c606_137] | skip); (first | rw [if_pos c613_138] | rw [if_neg c613_138] | skip); (first | rw [if_pos c631_140] | rw [if_neg c631_140] | skip); (first | rw [if_pos c647_142] | rw [if_neg c647_142] | skip); (first | rw [if_pos c663_144] | rw [if_neg c663_144] | skip)))
                                            · refine own_step (fun _ k => XS.ifNo X143.here hx rfl (hb hby at_663) rfl ((if0 _ _).trans (feq c663_144).1) k) ?_
                                              show own_Ends p e below F (T143.setTop (mkF m 666 A121 []))
                                              refine own_step (fun _ k => XS.iload X143.here hx rfl (hb hby at_666) (by rw [hA121]; rfl) k) ?_
                                              show own_Ends p e below F (T143.setTop (mkF m 668 A121 [(.int v16)]))
                                              refine own_step (fun _ k => XS.iload X143.here hx rfl (hb hby at_668) (by rw [hA121]; rfl) k) ?_
                                              show own_Ends p e below F (T143.setTop (mkF m 670 A121 [(.int z92), (.int v16)]))
                                              by_cases c670_145 : v16 = z92
                                              · refine own_step (fun _ k => XS.icmpNo X143.here hx rfl (hb hby at_670) rfl (teq c670_145).2 k) ?_
                                                show own_Ends p e below F (T143.setTop (mkF m 673 A121 []))
                                                refine own_step (fun _ k => XS.iconst X143.here hx rfl (hb hby at_673) k) ?_
                                                show own_Ends p e below F (T143.setTop (mkF m 674 A121 [(.int (1 : Int32))]))
                                                refine own_step (fun _ k => XS.goto X143.here hx rfl (pc0 := 674) (pc' := 678) rfl (hb hby at_674) (by decide) (by decide) k) ?_
                                                show own_Ends p e below F (T143.setTop (mkF m 678 A121 [(.int (1 : Int32))]))
                                                rw [hA121]
                                                exact J606_123 _ _ X143 eq143 N143 _ (by first | (simp only [if_true, if_false, c606_137, c613_138, c631_140, c647_142, c663_144, c670_145]; done) | ((first | rw [if_pos c606_137] | rw [if_neg c606_137] | skip); (first | rw [if_pos c613_138] | rw [if_neg c613_138] | skip); (first | rw [if_pos c631_140] | rw [if_neg c631_140] | skip); (first | rw [if_pos c647_142] | rw [if_neg c647_142] | skip); (first | rw [if_pos c663_144] | rw [if_neg c663_144] | skip); (first | rw [if_pos c670_145] | rw [if_neg c670_145] | skip)))
                                              · refine own_step (fun _ k => XS.icmpYes X143.here hx rfl (pc0 := 670) (pc' := 677) rfl (hb hby at_670) rfl (feq c670_145).2 (by decide) (by decide) k) ?_
                                                show own_Ends p e below F (T143.setTop (mkF m 677 A121 []))
                                                refine own_step (fun _ k => XS.iconst X143.here hx rfl (hb hby at_677) k) ?_
                                                show own_Ends p e below F (T143.setTop (mkF m 678 A121 [(.int (0 : Int32))]))
                                                rw [hA121]
                                                exact J606_123 _ _ X143 eq143 N143 _ (by first | (simp only [if_true, if_false, c606_137, c613_138, c631_140, c647_142, c663_144, c670_145]; done) | ((first | rw [if_pos c606_137] | rw [if_neg c606_137] | skip); (first | rw [if_pos c613_138] | rw [if_neg c613_138] | skip); (first | rw [if_pos c631_140] | rw [if_neg c631_140] | skip); (first | rw [if_pos c647_142] | rw [if_neg c647_142] | skip); (first | rw [if_pos c663_144] | rw [if_neg c663_144] | skip); (first | rw [if_pos c670_145] | rw [if_neg c670_145] | skip)))
                                      · refine own_step (fun _ k => XS.icmpYes X120.here hx rfl (pc0 := 613) (pc' := 677) rfl (hb hby at_613) rfl (feq c613_138).2 (by decide) (by decide) k) ?_
                                        show own_Ends p e below F (T120.setTop (mkF m 677 A121 []))
                                        refine own_step (fun _ k => XS.iconst X120.here hx rfl (hb hby at_677) k) ?_
                                        show own_Ends p e below F (T120.setTop (mkF m 678 A121 [(.int (0 : Int32))]))
                                        rw [hA121]
                                        exact J606_123 _ _ X120 rfl N120 _ (by first | (simp only [if_true, if_false, c606_137, c613_138]; done) | ((first | rw [if_pos c606_137] | rw [if_neg c606_137] | skip); (first | rw [if_pos c613_138] | rw [if_neg c613_138] | skip)))
                                    · refine own_step (fun _ k => XS.ifYes X120.here hx rfl (pc0 := 606) (pc' := 677) rfl (hb hby at_606) rfl ((if0 _ _).trans (feq (fun q => c606_137 ((lw_eq _ _).mp q))).2) (by decide) (by decide) k) ?_
                                      show own_Ends p e below F (T120.setTop (mkF m 677 A121 []))
                                      refine own_step (fun _ k => XS.iconst X120.here hx rfl (hb hby at_677) k) ?_
                                      show own_Ends p e below F (T120.setTop (mkF m 678 A121 [(.int (0 : Int32))]))
                                      rw [hA121]
                                      exact J606_123 _ _ X120 rfl N120 _ (by simp only [if_true, if_false, c606_137])
                                  by_cases c497_146 : z52 = (0 : Int32)
                                  · refine own_step (fun _ k => XS.ifYes X0.here hx rfl (pc0 := 497) (pc' := 505) rfl (hb hby at_497) rfl ((if0 _ _).trans (teq c497_146).1) (by decide) (by decide) k) ?_
                                    show own_Ends p e below F (s₁.setTop (mkF m 505 A101 []))
                                    refine own_step (fun _ k => XS.lload X0.here hx rfl (hb hby at_505) (by rw [hA101]; rfl) k) ?_
                                    show own_Ends p e below F (s₁.setTop (mkF m 507 A101 [(.long p3)]))
                                    refine own_step (fun _ k => XS.bipush X0.here hx rfl (hb hby at_507) k) ?_
                                    show own_Ends p e below F (s₁.setTop (mkF m 509 A101 [(.int (32 : Int32)), (.long p3)]))
                                    refine own_step (fun _ k => XS.lushr X0.here hx rfl (hb hby at_509) rfl k) ?_
                                    show own_Ends p e below F (s₁.setTop (mkF m 510 A101 [(.long ((p3.toUInt64 >>> ((32 : Int32) &&& 0x3f).toInt64.toUInt64).toInt64))]))
                                    refine own_step (fun _ k => XS.l2i X0.here hx rfl (hb hby at_510) rfl k) ?_
                                    show own_Ends p e below F (s₁.setTop (mkF m 511 A101 [(.int (((p3.toUInt64 >>> ((32 : Int32) &&& 0x3f).toInt64.toUInt64).toInt64).toInt32))]))
                                    rw [hA101]
                                    exact J497_103 _ (by simp only [if_true, if_false, c497_146])
                                  · refine own_step (fun _ k => XS.ifNo X0.here hx rfl (hb hby at_497) rfl ((if0 _ _).trans (feq c497_146).1) k) ?_
                                    show own_Ends p e below F (s₁.setTop (mkF m 500 A101 []))
                                    refine own_step (fun _ k => XS.iload X0.here hx rfl (hb hby at_500) (by rw [hA101]; rfl) k) ?_
                                    show own_Ends p e below F (s₁.setTop (mkF m 502 A101 [(.int v18)]))
                                    refine own_step (fun _ k => XS.goto X0.here hx rfl (pc0 := 502) (pc' := 511) rfl (hb hby at_502) (by decide) (by decide) k) ?_
                                    show own_Ends p e below F (s₁.setTop (mkF m 511 A101 [(.int v18)]))
                                    rw [hA101]
                                    exact J497_103 _ (by simp only [if_true, if_false, c497_146])
                                by_cases c485_147 : z47 = (0 : Int32)
                                · refine own_step (fun _ k => XS.ifYes X0.here hx rfl (pc0 := 485) (pc' := 492) rfl (hb hby at_485) rfl ((if0 _ _).trans (teq c485_147).1) (by decide) (by decide) k) ?_
                                  show own_Ends p e below F (s₁.setTop (mkF m 492 A96 []))
                                  refine own_step (fun _ k => XS.lloadN X0.here hx rfl (hb hby at_492) (by rw [hA96]; rfl) k) ?_
                                  show own_Ends p e below F (s₁.setTop (mkF m 493 A96 [(.long p2)]))
                                  rw [hA96]
                                  exact J485_98 _ (by simp only [if_true, if_false, c485_147])
                                · refine own_step (fun _ k => XS.ifNo X0.here hx rfl (hb hby at_485) rfl ((if0 _ _).trans (feq c485_147).1) k) ?_
                                  show own_Ends p e below F (s₁.setTop (mkF m 488 A96 []))
                                  refine own_step (fun _ k => XS.lloadN X0.here hx rfl (hb hby at_488) (by rw [hA96]; rfl) k) ?_
                                  show own_Ends p e below F (s₁.setTop (mkF m 489 A96 [(.long p1)]))
                                  refine own_step (fun _ k => XS.goto X0.here hx rfl (pc0 := 489) (pc' := 493) rfl (hb hby at_489) (by decide) (by decide) k) ?_
                                  show own_Ends p e below F (s₁.setTop (mkF m 493 A96 [(.long p1)]))
                                  rw [hA96]
                                  exact J485_98 _ (by simp only [if_true, if_false, c485_147])
                              by_cases c464_148 : z42 = (0 : Int32)
                              · refine own_step (fun _ k => XS.ifYes X0.here hx rfl (pc0 := 464) (pc' := 472) rfl (hb hby at_464) rfl ((if0 _ _).trans (teq c464_148).1) (by decide) (by decide) k) ?_
                                show own_Ends p e below F (s₁.setTop (mkF m 472 A91 []))
                                refine own_step (fun _ k => XS.iload X0.here hx rfl (hb hby at_472) (by rw [hA91]; rfl) k) ?_
                                show own_Ends p e below F (s₁.setTop (mkF m 474 A91 [(.int p6)]))
                                refine own_step (fun _ k => XS.bipush X0.here hx rfl (hb hby at_474) k) ?_
                                show own_Ends p e below F (s₁.setTop (mkF m 476 A91 [(.int (16 : Int32)), (.int p6)]))
                                refine own_step (fun _ k => XS.iushr X0.here hx rfl (hb hby at_476) rfl k) ?_
                                show own_Ends p e below F (s₁.setTop (mkF m 477 A91 [(.int ((p6.toUInt32 >>> ((16 : Int32) &&& 31).toUInt32).toInt32))]))
                                refine own_step (fun _ k => XS.iconst X0.here hx rfl (hb hby at_477) k) ?_
                                show own_Ends p e below F (s₁.setTop (mkF m 478 A91 [(.int (3 : Int32)), (.int ((p6.toUInt32 >>> ((16 : Int32) &&& 31).toUInt32).toInt32))]))
                                refine own_step (fun _ k => XS.iand X0.here hx rfl (hb hby at_478) rfl k) ?_
                                show own_Ends p e below F (s₁.setTop (mkF m 479 A91 [(.int (((p6.toUInt32 >>> ((16 : Int32) &&& 31).toUInt32).toInt32) &&& (3 : Int32)))]))
                                refine own_step (fun _ k => XS.iconst X0.here hx rfl (hb hby at_479) k) ?_
                                show own_Ends p e below F (s₁.setTop (mkF m 480 A91 [(.int (3 : Int32)), (.int (((p6.toUInt32 >>> ((16 : Int32) &&& 31).toUInt32).toInt32) &&& (3 : Int32)))]))
                                refine own_step (fun _ k => iremM (below := below) X0 hx rfl (hb hby at_480) rfl (by decide) k) ?_
                                show own_Ends p e below F (s₁.setTop (mkF m 481 A91 [(.int ((((p6.toUInt32 >>> ((16 : Int32) &&& 31).toUInt32).toInt32) &&& (3 : Int32)) % (3 : Int32)))]))
                                rw [hA91]
                                exact J464_93 _ (by simp only [if_true, if_false, c464_148])
                              · refine own_step (fun _ k => XS.ifNo X0.here hx rfl (hb hby at_464) rfl ((if0 _ _).trans (feq c464_148).1) k) ?_
                                show own_Ends p e below F (s₁.setTop (mkF m 467 A91 []))
                                refine own_step (fun _ k => XS.iload X0.here hx rfl (hb hby at_467) (by rw [hA91]; rfl) k) ?_
                                show own_Ends p e below F (s₁.setTop (mkF m 469 A91 [(.int v16)]))
                                refine own_step (fun _ k => XS.goto X0.here hx rfl (pc0 := 469) (pc' := 481) rfl (hb hby at_469) (by decide) (by decide) k) ?_
                                show own_Ends p e below F (s₁.setTop (mkF m 481 A91 [(.int v16)]))
                                rw [hA91]
                                exact J464_93 _ (by simp only [if_true, if_false, c464_148])
                            by_cases c443_149 : z37 = (0 : Int32)
                            · refine own_step (fun _ k => XS.ifYes X0.here hx rfl (pc0 := 443) (pc' := 451) rfl (hb hby at_443) rfl ((if0 _ _).trans (teq c443_149).1) (by decide) (by decide) k) ?_
                              show own_Ends p e below F (s₁.setTop (mkF m 451 A86 []))
                              refine own_step (fun _ k => XS.iload X0.here hx rfl (hb hby at_451) (by rw [hA86]; rfl) k) ?_
                              show own_Ends p e below F (s₁.setTop (mkF m 453 A86 [(.int p5)]))
                              refine own_step (fun _ k => XS.bipush X0.here hx rfl (hb hby at_453) k) ?_
                              show own_Ends p e below F (s₁.setTop (mkF m 455 A86 [(.int (24 : Int32)), (.int p5)]))
                              refine own_step (fun _ k => XS.iushr X0.here hx rfl (hb hby at_455) rfl k) ?_
                              show own_Ends p e below F (s₁.setTop (mkF m 456 A86 [(.int ((p5.toUInt32 >>> ((24 : Int32) &&& 31).toUInt32).toInt32))]))
                              refine own_step (fun _ k => XS.sipush X0.here hx rfl (hb hby at_456) k) ?_
                              show own_Ends p e below F (s₁.setTop (mkF m 459 A86 [(.int (255 : Int32)), (.int ((p5.toUInt32 >>> ((24 : Int32) &&& 31).toUInt32).toInt32))]))
                              refine own_step (fun _ k => XS.iand X0.here hx rfl (hb hby at_459) rfl k) ?_
                              show own_Ends p e below F (s₁.setTop (mkF m 460 A86 [(.int (((p5.toUInt32 >>> ((24 : Int32) &&& 31).toUInt32).toInt32) &&& (255 : Int32)))]))
                              rw [hA86]
                              exact J443_88 _ (by simp only [if_true, if_false, c443_149])
                            · refine own_step (fun _ k => XS.ifNo X0.here hx rfl (hb hby at_443) rfl ((if0 _ _).trans (feq c443_149).1) k) ?_
                              show own_Ends p e below F (s₁.setTop (mkF m 446 A86 []))
                              refine own_step (fun _ k => XS.iload X0.here hx rfl (hb hby at_446) (by rw [hA86]; rfl) k) ?_
                              show own_Ends p e below F (s₁.setTop (mkF m 448 A86 [(.int v14)]))
                              refine own_step (fun _ k => XS.goto X0.here hx rfl (pc0 := 448) (pc' := 460) rfl (hb hby at_448) (by decide) (by decide) k) ?_
                              show own_Ends p e below F (s₁.setTop (mkF m 460 A86 [(.int v14)]))
                              rw [hA86]
                              exact J443_88 _ (by simp only [if_true, if_false, c443_149])
                          by_cases c424_150 : z37 = (0 : Int32)
                          · refine own_step (fun _ k => XS.ifYes X0.here hx rfl (pc0 := 424) (pc' := 432) rfl (hb hby at_424) rfl ((if0 _ _).trans (teq c424_150).1) (by decide) (by decide) k) ?_
                            show own_Ends p e below F (s₁.setTop (mkF m 432 A81 []))
                            refine own_step (fun _ k => XS.iload X0.here hx rfl (hb hby at_432) (by rw [hA81]; rfl) k) ?_
                            show own_Ends p e below F (s₁.setTop (mkF m 434 A81 [(.int p6)]))
                            refine own_step (fun _ k => XS.bipush X0.here hx rfl (hb hby at_434) k) ?_
                            show own_Ends p e below F (s₁.setTop (mkF m 436 A81 [(.int (7 : Int32)), (.int p6)]))
                            refine own_step (fun _ k => XS.iushr X0.here hx rfl (hb hby at_436) rfl k) ?_
                            show own_Ends p e below F (s₁.setTop (mkF m 437 A81 [(.int ((p6.toUInt32 >>> ((7 : Int32) &&& 31).toUInt32).toInt32))]))
                            refine own_step (fun _ k => XS.iconst X0.here hx rfl (hb hby at_437) k) ?_
                            show own_Ends p e below F (s₁.setTop (mkF m 438 A81 [(.int (1 : Int32)), (.int ((p6.toUInt32 >>> ((7 : Int32) &&& 31).toUInt32).toInt32))]))
                            refine own_step (fun _ k => XS.iand X0.here hx rfl (hb hby at_438) rfl k) ?_
                            show own_Ends p e below F (s₁.setTop (mkF m 439 A81 [(.int (((p6.toUInt32 >>> ((7 : Int32) &&& 31).toUInt32).toInt32) &&& (1 : Int32)))]))
                            rw [hA81]
                            exact J424_83 _ (by simp only [if_true, if_false, c424_150])
                          · refine own_step (fun _ k => XS.ifNo X0.here hx rfl (hb hby at_424) rfl ((if0 _ _).trans (feq c424_150).1) k) ?_
                            show own_Ends p e below F (s₁.setTop (mkF m 427 A81 []))
                            refine own_step (fun _ k => XS.iload X0.here hx rfl (hb hby at_427) (by rw [hA81]; rfl) k) ?_
                            show own_Ends p e below F (s₁.setTop (mkF m 429 A81 [(.int v6)]))
                            refine own_step (fun _ k => XS.goto X0.here hx rfl (pc0 := 429) (pc' := 439) rfl (hb hby at_429) (by decide) (by decide) k) ?_
                            show own_Ends p e below F (s₁.setTop (mkF m 439 A81 [(.int v6)]))
                            rw [hA81]
                            exact J424_83 _ (by simp only [if_true, if_false, c424_150])
                        by_cases c403_151 : z32 = (0 : Int32)
                        · refine own_step (fun _ k => XS.ifYes X0.here hx rfl (pc0 := 403) (pc' := 411) rfl (hb hby at_403) rfl ((if0 _ _).trans (teq c403_151).1) (by decide) (by decide) k) ?_
                          show own_Ends p e below F (s₁.setTop (mkF m 411 A76 []))
                          refine own_step (fun _ k => XS.iload X0.here hx rfl (hb hby at_411) (by rw [hA76]; rfl) k) ?_
                          show own_Ends p e below F (s₁.setTop (mkF m 413 A76 [(.int p5)]))
                          refine own_step (fun _ k => XS.bipush X0.here hx rfl (hb hby at_413) k) ?_
                          show own_Ends p e below F (s₁.setTop (mkF m 415 A76 [(.int (16 : Int32)), (.int p5)]))
                          refine own_step (fun _ k => XS.iushr X0.here hx rfl (hb hby at_415) rfl k) ?_
                          show own_Ends p e below F (s₁.setTop (mkF m 416 A76 [(.int ((p5.toUInt32 >>> ((16 : Int32) &&& 31).toUInt32).toInt32))]))
                          refine own_step (fun _ k => XS.sipush X0.here hx rfl (hb hby at_416) k) ?_
                          show own_Ends p e below F (s₁.setTop (mkF m 419 A76 [(.int (255 : Int32)), (.int ((p5.toUInt32 >>> ((16 : Int32) &&& 31).toUInt32).toInt32))]))
                          refine own_step (fun _ k => XS.iand X0.here hx rfl (hb hby at_419) rfl k) ?_
                          show own_Ends p e below F (s₁.setTop (mkF m 420 A76 [(.int (((p5.toUInt32 >>> ((16 : Int32) &&& 31).toUInt32).toInt32) &&& (255 : Int32)))]))
                          rw [hA76]
                          exact J403_78 _ (by simp only [if_true, if_false, c403_151])
                        · refine own_step (fun _ k => XS.ifNo X0.here hx rfl (hb hby at_403) rfl ((if0 _ _).trans (feq c403_151).1) k) ?_
                          show own_Ends p e below F (s₁.setTop (mkF m 406 A76 []))
                          refine own_step (fun _ k => XS.iload X0.here hx rfl (hb hby at_406) (by rw [hA76]; rfl) k) ?_
                          show own_Ends p e below F (s₁.setTop (mkF m 408 A76 [(.int v12)]))
                          refine own_step (fun _ k => XS.goto X0.here hx rfl (pc0 := 408) (pc' := 420) rfl (hb hby at_408) (by decide) (by decide) k) ?_
                          show own_Ends p e below F (s₁.setTop (mkF m 420 A76 [(.int v12)]))
                          rw [hA76]
                          exact J403_78 _ (by simp only [if_true, if_false, c403_151])
                      by_cases c384_152 : z32 = (0 : Int32)
                      · refine own_step (fun _ k => XS.ifYes X0.here hx rfl (pc0 := 384) (pc' := 392) rfl (hb hby at_384) rfl ((if0 _ _).trans (teq c384_152).1) (by decide) (by decide) k) ?_
                        show own_Ends p e below F (s₁.setTop (mkF m 392 A71 []))
                        refine own_step (fun _ k => XS.iload X0.here hx rfl (hb hby at_392) (by rw [hA71]; rfl) k) ?_
                        show own_Ends p e below F (s₁.setTop (mkF m 394 A71 [(.int p6)]))
                        refine own_step (fun _ k => XS.bipush X0.here hx rfl (hb hby at_394) k) ?_
                        show own_Ends p e below F (s₁.setTop (mkF m 396 A71 [(.int (6 : Int32)), (.int p6)]))
                        refine own_step (fun _ k => XS.iushr X0.here hx rfl (hb hby at_396) rfl k) ?_
                        show own_Ends p e below F (s₁.setTop (mkF m 397 A71 [(.int ((p6.toUInt32 >>> ((6 : Int32) &&& 31).toUInt32).toInt32))]))
                        refine own_step (fun _ k => XS.iconst X0.here hx rfl (hb hby at_397) k) ?_
                        show own_Ends p e below F (s₁.setTop (mkF m 398 A71 [(.int (1 : Int32)), (.int ((p6.toUInt32 >>> ((6 : Int32) &&& 31).toUInt32).toInt32))]))
                        refine own_step (fun _ k => XS.iand X0.here hx rfl (hb hby at_398) rfl k) ?_
                        show own_Ends p e below F (s₁.setTop (mkF m 399 A71 [(.int (((p6.toUInt32 >>> ((6 : Int32) &&& 31).toUInt32).toInt32) &&& (1 : Int32)))]))
                        rw [hA71]
                        exact J384_73 _ (by simp only [if_true, if_false, c384_152])
                      · refine own_step (fun _ k => XS.ifNo X0.here hx rfl (hb hby at_384) rfl ((if0 _ _).trans (feq c384_152).1) k) ?_
                        show own_Ends p e below F (s₁.setTop (mkF m 387 A71 []))
                        refine own_step (fun _ k => XS.iload X0.here hx rfl (hb hby at_387) (by rw [hA71]; rfl) k) ?_
                        show own_Ends p e below F (s₁.setTop (mkF m 389 A71 [(.int v4)]))
                        refine own_step (fun _ k => XS.goto X0.here hx rfl (pc0 := 389) (pc' := 399) rfl (hb hby at_389) (by decide) (by decide) k) ?_
                        show own_Ends p e below F (s₁.setTop (mkF m 399 A71 [(.int v4)]))
                        rw [hA71]
                        exact J384_73 _ (by simp only [if_true, if_false, c384_152])
                    by_cases c363_153 : z27 = (0 : Int32)
                    · refine own_step (fun _ k => XS.ifYes X0.here hx rfl (pc0 := 363) (pc' := 371) rfl (hb hby at_363) rfl ((if0 _ _).trans (teq c363_153).1) (by decide) (by decide) k) ?_
                      show own_Ends p e below F (s₁.setTop (mkF m 371 A66 []))
                      refine own_step (fun _ k => XS.iload X0.here hx rfl (hb hby at_371) (by rw [hA66]; rfl) k) ?_
                      show own_Ends p e below F (s₁.setTop (mkF m 373 A66 [(.int p5)]))
                      refine own_step (fun _ k => XS.bipush X0.here hx rfl (hb hby at_373) k) ?_
                      show own_Ends p e below F (s₁.setTop (mkF m 375 A66 [(.int (8 : Int32)), (.int p5)]))
                      refine own_step (fun _ k => XS.iushr X0.here hx rfl (hb hby at_375) rfl k) ?_
                      show own_Ends p e below F (s₁.setTop (mkF m 376 A66 [(.int ((p5.toUInt32 >>> ((8 : Int32) &&& 31).toUInt32).toInt32))]))
                      refine own_step (fun _ k => XS.sipush X0.here hx rfl (hb hby at_376) k) ?_
                      show own_Ends p e below F (s₁.setTop (mkF m 379 A66 [(.int (255 : Int32)), (.int ((p5.toUInt32 >>> ((8 : Int32) &&& 31).toUInt32).toInt32))]))
                      refine own_step (fun _ k => XS.iand X0.here hx rfl (hb hby at_379) rfl k) ?_
                      show own_Ends p e below F (s₁.setTop (mkF m 380 A66 [(.int (((p5.toUInt32 >>> ((8 : Int32) &&& 31).toUInt32).toInt32) &&& (255 : Int32)))]))
                      rw [hA66]
                      exact J363_68 _ (by simp only [if_true, if_false, c363_153])
                    · refine own_step (fun _ k => XS.ifNo X0.here hx rfl (hb hby at_363) rfl ((if0 _ _).trans (feq c363_153).1) k) ?_
                      show own_Ends p e below F (s₁.setTop (mkF m 366 A66 []))
                      refine own_step (fun _ k => XS.iload X0.here hx rfl (hb hby at_366) (by rw [hA66]; rfl) k) ?_
                      show own_Ends p e below F (s₁.setTop (mkF m 368 A66 [(.int v10)]))
                      refine own_step (fun _ k => XS.goto X0.here hx rfl (pc0 := 368) (pc' := 380) rfl (hb hby at_368) (by decide) (by decide) k) ?_
                      show own_Ends p e below F (s₁.setTop (mkF m 380 A66 [(.int v10)]))
                      rw [hA66]
                      exact J363_68 _ (by simp only [if_true, if_false, c363_153])
                  by_cases c345_154 : z27 = (0 : Int32)
                  · refine own_step (fun _ k => XS.ifYes X0.here hx rfl (pc0 := 345) (pc' := 353) rfl (hb hby at_345) rfl ((if0 _ _).trans (teq c345_154).1) (by decide) (by decide) k) ?_
                    show own_Ends p e below F (s₁.setTop (mkF m 353 A61 []))
                    refine own_step (fun _ k => XS.iload X0.here hx rfl (hb hby at_353) (by rw [hA61]; rfl) k) ?_
                    show own_Ends p e below F (s₁.setTop (mkF m 355 A61 [(.int p5)]))
                    refine own_step (fun _ k => XS.sipush X0.here hx rfl (hb hby at_355) k) ?_
                    show own_Ends p e below F (s₁.setTop (mkF m 358 A61 [(.int (255 : Int32)), (.int p5)]))
                    refine own_step (fun _ k => XS.iand X0.here hx rfl (hb hby at_358) rfl k) ?_
                    show own_Ends p e below F (s₁.setTop (mkF m 359 A61 [(.int (p5 &&& (255 : Int32)))]))
                    rw [hA61]
                    exact J345_63 _ (by simp only [if_true, if_false, c345_154])
                  · refine own_step (fun _ k => XS.ifNo X0.here hx rfl (hb hby at_345) rfl ((if0 _ _).trans (feq c345_154).1) k) ?_
                    show own_Ends p e below F (s₁.setTop (mkF m 348 A61 []))
                    refine own_step (fun _ k => XS.iload X0.here hx rfl (hb hby at_348) (by rw [hA61]; rfl) k) ?_
                    show own_Ends p e below F (s₁.setTop (mkF m 350 A61 [(.int v8)]))
                    refine own_step (fun _ k => XS.goto X0.here hx rfl (pc0 := 350) (pc' := 359) rfl (hb hby at_350) (by decide) (by decide) k) ?_
                    show own_Ends p e below F (s₁.setTop (mkF m 359 A61 [(.int v8)]))
                    rw [hA61]
                    exact J345_63 _ (by simp only [if_true, if_false, c345_154])
                by_cases c325_155 : z27 = (0 : Int32)
                · refine own_step (fun _ k => XS.ifYes X0.here hx rfl (pc0 := 325) (pc' := 333) rfl (hb hby at_325) rfl ((if0 _ _).trans (teq c325_155).1) (by decide) (by decide) k) ?_
                  show own_Ends p e below F (s₁.setTop (mkF m 333 A56 []))
                  refine own_step (fun _ k => XS.iload X0.here hx rfl (hb hby at_333) (by rw [hA56]; rfl) k) ?_
                  show own_Ends p e below F (s₁.setTop (mkF m 335 A56 [(.int p6)]))
                  refine own_step (fun _ k => XS.iconst X0.here hx rfl (hb hby at_335) k) ?_
                  show own_Ends p e below F (s₁.setTop (mkF m 336 A56 [(.int (4 : Int32)), (.int p6)]))
                  refine own_step (fun _ k => XS.iushr X0.here hx rfl (hb hby at_336) rfl k) ?_
                  show own_Ends p e below F (s₁.setTop (mkF m 337 A56 [(.int ((p6.toUInt32 >>> ((4 : Int32) &&& 31).toUInt32).toInt32))]))
                  refine own_step (fun _ k => XS.iconst X0.here hx rfl (hb hby at_337) k) ?_
                  show own_Ends p e below F (s₁.setTop (mkF m 338 A56 [(.int (3 : Int32)), (.int ((p6.toUInt32 >>> ((4 : Int32) &&& 31).toUInt32).toInt32))]))
                  refine own_step (fun _ k => XS.iand X0.here hx rfl (hb hby at_338) rfl k) ?_
                  show own_Ends p e below F (s₁.setTop (mkF m 339 A56 [(.int (((p6.toUInt32 >>> ((4 : Int32) &&& 31).toUInt32).toInt32) &&& (3 : Int32)))]))
                  refine own_step (fun _ k => XS.iconst X0.here hx rfl (hb hby at_339) k) ?_
                  show own_Ends p e below F (s₁.setTop (mkF m 340 A56 [(.int (3 : Int32)), (.int (((p6.toUInt32 >>> ((4 : Int32) &&& 31).toUInt32).toInt32) &&& (3 : Int32)))]))
                  refine own_step (fun _ k => iremM (below := below) X0 hx rfl (hb hby at_340) rfl (by decide) k) ?_
                  show own_Ends p e below F (s₁.setTop (mkF m 341 A56 [(.int ((((p6.toUInt32 >>> ((4 : Int32) &&& 31).toUInt32).toInt32) &&& (3 : Int32)) % (3 : Int32)))]))
                  rw [hA56]
                  exact J325_58 _ (by simp only [if_true, if_false, c325_155])
                · refine own_step (fun _ k => XS.ifNo X0.here hx rfl (hb hby at_325) rfl ((if0 _ _).trans (feq c325_155).1) k) ?_
                  show own_Ends p e below F (s₁.setTop (mkF m 328 A56 []))
                  refine own_step (fun _ k => XS.iload X0.here hx rfl (hb hby at_328) (by rw [hA56]; rfl) k) ?_
                  show own_Ends p e below F (s₁.setTop (mkF m 330 A56 [(.int v2)]))
                  refine own_step (fun _ k => XS.goto X0.here hx rfl (pc0 := 330) (pc' := 341) rfl (hb hby at_330) (by decide) (by decide) k) ?_
                  show own_Ends p e below F (s₁.setTop (mkF m 341 A56 [(.int v2)]))
                  rw [hA56]
                  exact J325_58 _ (by simp only [if_true, if_false, c325_155])
              by_cases c289_156 : z20 = (0 : Int32)
              · refine own_step (fun _ k => XS.ifYes X0.here hx rfl (pc0 := 289) (pc' := 306) rfl (hb hby at_289) rfl ((if0 _ _).trans (teq c289_156).1) (by decide) (by decide) k) ?_
                show own_Ends p e below F (s₁.setTop (mkF m 306 A51 []))
                refine own_step (fun _ k => XS.iload X0.here hx rfl (hb hby at_306) (by rw [hA51]; rfl) k) ?_
                show own_Ends p e below F (s₁.setTop (mkF m 308 A51 [(.int p6)]))
                refine own_step (fun _ k => XS.bipush X0.here hx rfl (hb hby at_308) k) ?_
                show own_Ends p e below F (s₁.setTop (mkF m 310 A51 [(.int (13 : Int32)), (.int p6)]))
                refine own_step (fun _ k => XS.iushr X0.here hx rfl (hb hby at_310) rfl k) ?_
                show own_Ends p e below F (s₁.setTop (mkF m 311 A51 [(.int ((p6.toUInt32 >>> ((13 : Int32) &&& 31).toUInt32).toInt32))]))
                refine own_step (fun _ k => XS.iconst X0.here hx rfl (hb hby at_311) k) ?_
                show own_Ends p e below F (s₁.setTop (mkF m 312 A51 [(.int (1 : Int32)), (.int ((p6.toUInt32 >>> ((13 : Int32) &&& 31).toUInt32).toInt32))]))
                refine own_step (fun _ k => XS.iand X0.here hx rfl (hb hby at_312) rfl k) ?_
                show own_Ends p e below F (s₁.setTop (mkF m 313 A51 [(.int (((p6.toUInt32 >>> ((13 : Int32) &&& 31).toUInt32).toInt32) &&& (1 : Int32)))]))
                by_cases c313_157 : (((p6.toUInt32 >>> ((13 : Int32) &&& 31).toUInt32).toInt32) &&& (1 : Int32)) = (0 : Int32)
                · refine own_step (fun _ k => XS.ifYes X0.here hx rfl (pc0 := 313) (pc' := 320) rfl (hb hby at_313) rfl ((if0 _ _).trans (teq c313_157).1) (by decide) (by decide) k) ?_
                  show own_Ends p e below F (s₁.setTop (mkF m 320 A51 []))
                  refine own_step (fun _ k => XS.iconst X0.here hx rfl (hb hby at_320) k) ?_
                  show own_Ends p e below F (s₁.setTop (mkF m 321 A51 [(.int (0 : Int32))]))
                  rw [hA51]
                  exact J289_53 _ (by first | (simp only [if_true, if_false, c289_156, c313_157]; done) | ((first | rw [if_pos c289_156] | rw [if_neg c289_156] | skip); (first | rw [if_pos c313_157] | rw [if_neg c313_157] | skip)))
                · refine own_step (fun _ k => XS.ifNo X0.here hx rfl (hb hby at_313) rfl ((if0 _ _).trans (feq c313_157).1) k) ?_
                  show own_Ends p e below F (s₁.setTop (mkF m 316 A51 []))
                  refine own_step (fun _ k => XS.iconst X0.here hx rfl (hb hby at_316) k) ?_
                  show own_Ends p e below F (s₁.setTop (mkF m 317 A51 [(.int (1 : Int32))]))
                  refine own_step (fun _ k => XS.goto X0.here hx rfl (pc0 := 317) (pc' := 321) rfl (hb hby at_317) (by decide) (by decide) k) ?_
                  show own_Ends p e below F (s₁.setTop (mkF m 321 A51 [(.int (1 : Int32))]))
                  rw [hA51]
                  exact J289_53 _ (by first | (simp only [if_true, if_false, c289_156, c313_157]; done) | ((first | rw [if_pos c289_156] | rw [if_neg c289_156] | skip); (first | rw [if_pos c313_157] | rw [if_neg c313_157] | skip)))
              · refine own_step (fun _ k => XS.ifNo X0.here hx rfl (hb hby at_289) rfl ((if0 _ _).trans (feq c289_156).1) k) ?_
                show own_Ends p e below F (s₁.setTop (mkF m 292 A51 []))
                refine own_step (fun _ k => XS.iload X0.here hx rfl (hb hby at_292) (by rw [hA51]; rfl) k) ?_
                show own_Ends p e below F (s₁.setTop (mkF m 294 A51 [(.int v25)]))
                refine own_step (fun _ k => XS.iconst X0.here hx rfl (hb hby at_294) k) ?_
                show own_Ends p e below F (s₁.setTop (mkF m 295 A51 [(.int (5 : Int32)), (.int v25)]))
                by_cases c295_158 : v25 = (5 : Int32)
                · refine own_step (fun _ k => XS.icmpYes X0.here hx rfl (pc0 := 295) (pc' := 302) rfl (hb hby at_295) rfl (teq c295_158).1 (by decide) (by decide) k) ?_
                  show own_Ends p e below F (s₁.setTop (mkF m 302 A51 []))
                  refine own_step (fun _ k => XS.iconst X0.here hx rfl (hb hby at_302) k) ?_
                  show own_Ends p e below F (s₁.setTop (mkF m 303 A51 [(.int (0 : Int32))]))
                  refine own_step (fun _ k => XS.goto X0.here hx rfl (pc0 := 303) (pc' := 321) rfl (hb hby at_303) (by decide) (by decide) k) ?_
                  show own_Ends p e below F (s₁.setTop (mkF m 321 A51 [(.int (0 : Int32))]))
                  rw [hA51]
                  exact J289_53 _ (by first | (simp only [if_true, if_false, c289_156, c295_158]; done) | ((first | rw [if_pos c289_156] | rw [if_neg c289_156] | skip); (first | rw [if_pos c295_158] | rw [if_neg c295_158] | skip)))
                · refine own_step (fun _ k => XS.icmpNo X0.here hx rfl (hb hby at_295) rfl (feq c295_158).1 k) ?_
                  show own_Ends p e below F (s₁.setTop (mkF m 298 A51 []))
                  refine own_step (fun _ k => XS.iconst X0.here hx rfl (hb hby at_298) k) ?_
                  show own_Ends p e below F (s₁.setTop (mkF m 299 A51 [(.int (1 : Int32))]))
                  refine own_step (fun _ k => XS.goto X0.here hx rfl (pc0 := 299) (pc' := 321) rfl (hb hby at_299) (by decide) (by decide) k) ?_
                  show own_Ends p e below F (s₁.setTop (mkF m 321 A51 [(.int (1 : Int32))]))
                  rw [hA51]
                  exact J289_53 _ (by first | (simp only [if_true, if_false, c289_156, c295_158]; done) | ((first | rw [if_pos c289_156] | rw [if_neg c289_156] | skip); (first | rw [if_pos c295_158] | rw [if_neg c295_158] | skip)))
            by_cases c253_159 : z20 = (0 : Int32)
            · refine own_step (fun _ k => XS.ifYes X0.here hx rfl (pc0 := 253) (pc' := 270) rfl (hb hby at_253) rfl ((if0 _ _).trans (teq c253_159).1) (by decide) (by decide) k) ?_
              show own_Ends p e below F (s₁.setTop (mkF m 270 A46 []))
              refine own_step (fun _ k => XS.iload X0.here hx rfl (hb hby at_270) (by rw [hA46]; rfl) k) ?_
              show own_Ends p e below F (s₁.setTop (mkF m 272 A46 [(.int p6)]))
              refine own_step (fun _ k => XS.bipush X0.here hx rfl (hb hby at_272) k) ?_
              show own_Ends p e below F (s₁.setTop (mkF m 274 A46 [(.int (12 : Int32)), (.int p6)]))
              refine own_step (fun _ k => XS.iushr X0.here hx rfl (hb hby at_274) rfl k) ?_
              show own_Ends p e below F (s₁.setTop (mkF m 275 A46 [(.int ((p6.toUInt32 >>> ((12 : Int32) &&& 31).toUInt32).toInt32))]))
              refine own_step (fun _ k => XS.iconst X0.here hx rfl (hb hby at_275) k) ?_
              show own_Ends p e below F (s₁.setTop (mkF m 276 A46 [(.int (1 : Int32)), (.int ((p6.toUInt32 >>> ((12 : Int32) &&& 31).toUInt32).toInt32))]))
              refine own_step (fun _ k => XS.iand X0.here hx rfl (hb hby at_276) rfl k) ?_
              show own_Ends p e below F (s₁.setTop (mkF m 277 A46 [(.int (((p6.toUInt32 >>> ((12 : Int32) &&& 31).toUInt32).toInt32) &&& (1 : Int32)))]))
              by_cases c277_160 : (((p6.toUInt32 >>> ((12 : Int32) &&& 31).toUInt32).toInt32) &&& (1 : Int32)) = (0 : Int32)
              · refine own_step (fun _ k => XS.ifYes X0.here hx rfl (pc0 := 277) (pc' := 284) rfl (hb hby at_277) rfl ((if0 _ _).trans (teq c277_160).1) (by decide) (by decide) k) ?_
                show own_Ends p e below F (s₁.setTop (mkF m 284 A46 []))
                refine own_step (fun _ k => XS.iconst X0.here hx rfl (hb hby at_284) k) ?_
                show own_Ends p e below F (s₁.setTop (mkF m 285 A46 [(.int (0 : Int32))]))
                rw [hA46]
                exact J253_48 _ (by first | (simp only [if_true, if_false, c253_159, c277_160]; done) | ((first | rw [if_pos c253_159] | rw [if_neg c253_159] | skip); (first | rw [if_pos c277_160] | rw [if_neg c277_160] | skip)))
              · refine own_step (fun _ k => XS.ifNo X0.here hx rfl (hb hby at_277) rfl ((if0 _ _).trans (feq c277_160).1) k) ?_
                show own_Ends p e below F (s₁.setTop (mkF m 280 A46 []))
                refine own_step (fun _ k => XS.iconst X0.here hx rfl (hb hby at_280) k) ?_
                show own_Ends p e below F (s₁.setTop (mkF m 281 A46 [(.int (1 : Int32))]))
                refine own_step (fun _ k => XS.goto X0.here hx rfl (pc0 := 281) (pc' := 285) rfl (hb hby at_281) (by decide) (by decide) k) ?_
                show own_Ends p e below F (s₁.setTop (mkF m 285 A46 [(.int (1 : Int32))]))
                rw [hA46]
                exact J253_48 _ (by first | (simp only [if_true, if_false, c253_159, c277_160]; done) | ((first | rw [if_pos c253_159] | rw [if_neg c253_159] | skip); (first | rw [if_pos c277_160] | rw [if_neg c277_160] | skip)))
            · refine own_step (fun _ k => XS.ifNo X0.here hx rfl (hb hby at_253) rfl ((if0 _ _).trans (feq c253_159).1) k) ?_
              show own_Ends p e below F (s₁.setTop (mkF m 256 A46 []))
              refine own_step (fun _ k => XS.iload X0.here hx rfl (hb hby at_256) (by rw [hA46]; rfl) k) ?_
              show own_Ends p e below F (s₁.setTop (mkF m 258 A46 [(.int v25)]))
              refine own_step (fun _ k => XS.iconst X0.here hx rfl (hb hby at_258) k) ?_
              show own_Ends p e below F (s₁.setTop (mkF m 259 A46 [(.int (4 : Int32)), (.int v25)]))
              by_cases c259_161 : v25 = (4 : Int32)
              · refine own_step (fun _ k => XS.icmpYes X0.here hx rfl (pc0 := 259) (pc' := 266) rfl (hb hby at_259) rfl (teq c259_161).1 (by decide) (by decide) k) ?_
                show own_Ends p e below F (s₁.setTop (mkF m 266 A46 []))
                refine own_step (fun _ k => XS.iconst X0.here hx rfl (hb hby at_266) k) ?_
                show own_Ends p e below F (s₁.setTop (mkF m 267 A46 [(.int (0 : Int32))]))
                refine own_step (fun _ k => XS.goto X0.here hx rfl (pc0 := 267) (pc' := 285) rfl (hb hby at_267) (by decide) (by decide) k) ?_
                show own_Ends p e below F (s₁.setTop (mkF m 285 A46 [(.int (0 : Int32))]))
                rw [hA46]
                exact J253_48 _ (by first | (simp only [if_true, if_false, c253_159, c259_161]; done) | ((first | rw [if_pos c253_159] | rw [if_neg c253_159] | skip); (first | rw [if_pos c259_161] | rw [if_neg c259_161] | skip)))
              · refine own_step (fun _ k => XS.icmpNo X0.here hx rfl (hb hby at_259) rfl (feq c259_161).1 k) ?_
                show own_Ends p e below F (s₁.setTop (mkF m 262 A46 []))
                refine own_step (fun _ k => XS.iconst X0.here hx rfl (hb hby at_262) k) ?_
                show own_Ends p e below F (s₁.setTop (mkF m 263 A46 [(.int (1 : Int32))]))
                refine own_step (fun _ k => XS.goto X0.here hx rfl (pc0 := 263) (pc' := 285) rfl (hb hby at_263) (by decide) (by decide) k) ?_
                show own_Ends p e below F (s₁.setTop (mkF m 285 A46 [(.int (1 : Int32))]))
                rw [hA46]
                exact J253_48 _ (by first | (simp only [if_true, if_false, c253_159, c259_161]; done) | ((first | rw [if_pos c253_159] | rw [if_neg c253_159] | skip); (first | rw [if_pos c259_161] | rw [if_neg c259_161] | skip)))
          by_cases c217_162 : z20 = (0 : Int32)
          · refine own_step (fun _ k => XS.ifYes X0.here hx rfl (pc0 := 217) (pc' := 234) rfl (hb hby at_217) rfl ((if0 _ _).trans (teq c217_162).1) (by decide) (by decide) k) ?_
            show own_Ends p e below F (s₁.setTop (mkF m 234 A41 []))
            refine own_step (fun _ k => XS.iload X0.here hx rfl (hb hby at_234) (by rw [hA41]; rfl) k) ?_
            show own_Ends p e below F (s₁.setTop (mkF m 236 A41 [(.int p6)]))
            refine own_step (fun _ k => XS.bipush X0.here hx rfl (hb hby at_236) k) ?_
            show own_Ends p e below F (s₁.setTop (mkF m 238 A41 [(.int (11 : Int32)), (.int p6)]))
            refine own_step (fun _ k => XS.iushr X0.here hx rfl (hb hby at_238) rfl k) ?_
            show own_Ends p e below F (s₁.setTop (mkF m 239 A41 [(.int ((p6.toUInt32 >>> ((11 : Int32) &&& 31).toUInt32).toInt32))]))
            refine own_step (fun _ k => XS.iconst X0.here hx rfl (hb hby at_239) k) ?_
            show own_Ends p e below F (s₁.setTop (mkF m 240 A41 [(.int (1 : Int32)), (.int ((p6.toUInt32 >>> ((11 : Int32) &&& 31).toUInt32).toInt32))]))
            refine own_step (fun _ k => XS.iand X0.here hx rfl (hb hby at_240) rfl k) ?_
            show own_Ends p e below F (s₁.setTop (mkF m 241 A41 [(.int (((p6.toUInt32 >>> ((11 : Int32) &&& 31).toUInt32).toInt32) &&& (1 : Int32)))]))
            by_cases c241_163 : (((p6.toUInt32 >>> ((11 : Int32) &&& 31).toUInt32).toInt32) &&& (1 : Int32)) = (0 : Int32)
            · refine own_step (fun _ k => XS.ifYes X0.here hx rfl (pc0 := 241) (pc' := 248) rfl (hb hby at_241) rfl ((if0 _ _).trans (teq c241_163).1) (by decide) (by decide) k) ?_
              show own_Ends p e below F (s₁.setTop (mkF m 248 A41 []))
              refine own_step (fun _ k => XS.iconst X0.here hx rfl (hb hby at_248) k) ?_
              show own_Ends p e below F (s₁.setTop (mkF m 249 A41 [(.int (0 : Int32))]))
              rw [hA41]
              exact J217_43 _ (by first | (simp only [if_true, if_false, c217_162, c241_163]; done) | ((first | rw [if_pos c217_162] | rw [if_neg c217_162] | skip); (first | rw [if_pos c241_163] | rw [if_neg c241_163] | skip)))
            · refine own_step (fun _ k => XS.ifNo X0.here hx rfl (hb hby at_241) rfl ((if0 _ _).trans (feq c241_163).1) k) ?_
              show own_Ends p e below F (s₁.setTop (mkF m 244 A41 []))
              refine own_step (fun _ k => XS.iconst X0.here hx rfl (hb hby at_244) k) ?_
              show own_Ends p e below F (s₁.setTop (mkF m 245 A41 [(.int (1 : Int32))]))
              refine own_step (fun _ k => XS.goto X0.here hx rfl (pc0 := 245) (pc' := 249) rfl (hb hby at_245) (by decide) (by decide) k) ?_
              show own_Ends p e below F (s₁.setTop (mkF m 249 A41 [(.int (1 : Int32))]))
              rw [hA41]
              exact J217_43 _ (by first | (simp only [if_true, if_false, c217_162, c241_163]; done) | ((first | rw [if_pos c217_162] | rw [if_neg c217_162] | skip); (first | rw [if_pos c241_163] | rw [if_neg c241_163] | skip)))
          · refine own_step (fun _ k => XS.ifNo X0.here hx rfl (hb hby at_217) rfl ((if0 _ _).trans (feq c217_162).1) k) ?_
            show own_Ends p e below F (s₁.setTop (mkF m 220 A41 []))
            refine own_step (fun _ k => XS.iload X0.here hx rfl (hb hby at_220) (by rw [hA41]; rfl) k) ?_
            show own_Ends p e below F (s₁.setTop (mkF m 222 A41 [(.int v25)]))
            refine own_step (fun _ k => XS.iconst X0.here hx rfl (hb hby at_222) k) ?_
            show own_Ends p e below F (s₁.setTop (mkF m 223 A41 [(.int (3 : Int32)), (.int v25)]))
            by_cases c223_164 : v25 = (3 : Int32)
            · refine own_step (fun _ k => XS.icmpYes X0.here hx rfl (pc0 := 223) (pc' := 230) rfl (hb hby at_223) rfl (teq c223_164).1 (by decide) (by decide) k) ?_
              show own_Ends p e below F (s₁.setTop (mkF m 230 A41 []))
              refine own_step (fun _ k => XS.iconst X0.here hx rfl (hb hby at_230) k) ?_
              show own_Ends p e below F (s₁.setTop (mkF m 231 A41 [(.int (0 : Int32))]))
              refine own_step (fun _ k => XS.goto X0.here hx rfl (pc0 := 231) (pc' := 249) rfl (hb hby at_231) (by decide) (by decide) k) ?_
              show own_Ends p e below F (s₁.setTop (mkF m 249 A41 [(.int (0 : Int32))]))
              rw [hA41]
              exact J217_43 _ (by first | (simp only [if_true, if_false, c217_162, c223_164]; done) | ((first | rw [if_pos c217_162] | rw [if_neg c217_162] | skip); (first | rw [if_pos c223_164] | rw [if_neg c223_164] | skip)))
            · refine own_step (fun _ k => XS.icmpNo X0.here hx rfl (hb hby at_223) rfl (feq c223_164).1 k) ?_
              show own_Ends p e below F (s₁.setTop (mkF m 226 A41 []))
              refine own_step (fun _ k => XS.iconst X0.here hx rfl (hb hby at_226) k) ?_
              show own_Ends p e below F (s₁.setTop (mkF m 227 A41 [(.int (1 : Int32))]))
              refine own_step (fun _ k => XS.goto X0.here hx rfl (pc0 := 227) (pc' := 249) rfl (hb hby at_227) (by decide) (by decide) k) ?_
              show own_Ends p e below F (s₁.setTop (mkF m 249 A41 [(.int (1 : Int32))]))
              rw [hA41]
              exact J217_43 _ (by first | (simp only [if_true, if_false, c217_162, c223_164]; done) | ((first | rw [if_pos c217_162] | rw [if_neg c217_162] | skip); (first | rw [if_pos c223_164] | rw [if_neg c223_164] | skip)))
        by_cases c181_165 : z20 = (0 : Int32)
        · refine own_step (fun _ k => XS.ifYes X0.here hx rfl (pc0 := 181) (pc' := 198) rfl (hb hby at_181) rfl ((if0 _ _).trans (teq c181_165).1) (by decide) (by decide) k) ?_
          show own_Ends p e below F (s₁.setTop (mkF m 198 A36 []))
          refine own_step (fun _ k => XS.iload X0.here hx rfl (hb hby at_198) (by rw [hA36]; rfl) k) ?_
          show own_Ends p e below F (s₁.setTop (mkF m 200 A36 [(.int p6)]))
          refine own_step (fun _ k => XS.bipush X0.here hx rfl (hb hby at_200) k) ?_
          show own_Ends p e below F (s₁.setTop (mkF m 202 A36 [(.int (10 : Int32)), (.int p6)]))
          refine own_step (fun _ k => XS.iushr X0.here hx rfl (hb hby at_202) rfl k) ?_
          show own_Ends p e below F (s₁.setTop (mkF m 203 A36 [(.int ((p6.toUInt32 >>> ((10 : Int32) &&& 31).toUInt32).toInt32))]))
          refine own_step (fun _ k => XS.iconst X0.here hx rfl (hb hby at_203) k) ?_
          show own_Ends p e below F (s₁.setTop (mkF m 204 A36 [(.int (1 : Int32)), (.int ((p6.toUInt32 >>> ((10 : Int32) &&& 31).toUInt32).toInt32))]))
          refine own_step (fun _ k => XS.iand X0.here hx rfl (hb hby at_204) rfl k) ?_
          show own_Ends p e below F (s₁.setTop (mkF m 205 A36 [(.int (((p6.toUInt32 >>> ((10 : Int32) &&& 31).toUInt32).toInt32) &&& (1 : Int32)))]))
          by_cases c205_166 : (((p6.toUInt32 >>> ((10 : Int32) &&& 31).toUInt32).toInt32) &&& (1 : Int32)) = (0 : Int32)
          · refine own_step (fun _ k => XS.ifYes X0.here hx rfl (pc0 := 205) (pc' := 212) rfl (hb hby at_205) rfl ((if0 _ _).trans (teq c205_166).1) (by decide) (by decide) k) ?_
            show own_Ends p e below F (s₁.setTop (mkF m 212 A36 []))
            refine own_step (fun _ k => XS.iconst X0.here hx rfl (hb hby at_212) k) ?_
            show own_Ends p e below F (s₁.setTop (mkF m 213 A36 [(.int (0 : Int32))]))
            rw [hA36]
            exact J181_38 _ (by first | (simp only [if_true, if_false, c181_165, c205_166]; done) | ((first | rw [if_pos c181_165] | rw [if_neg c181_165] | skip); (first | rw [if_pos c205_166] | rw [if_neg c205_166] | skip)))
          · refine own_step (fun _ k => XS.ifNo X0.here hx rfl (hb hby at_205) rfl ((if0 _ _).trans (feq c205_166).1) k) ?_
            show own_Ends p e below F (s₁.setTop (mkF m 208 A36 []))
            refine own_step (fun _ k => XS.iconst X0.here hx rfl (hb hby at_208) k) ?_
            show own_Ends p e below F (s₁.setTop (mkF m 209 A36 [(.int (1 : Int32))]))
            refine own_step (fun _ k => XS.goto X0.here hx rfl (pc0 := 209) (pc' := 213) rfl (hb hby at_209) (by decide) (by decide) k) ?_
            show own_Ends p e below F (s₁.setTop (mkF m 213 A36 [(.int (1 : Int32))]))
            rw [hA36]
            exact J181_38 _ (by first | (simp only [if_true, if_false, c181_165, c205_166]; done) | ((first | rw [if_pos c181_165] | rw [if_neg c181_165] | skip); (first | rw [if_pos c205_166] | rw [if_neg c205_166] | skip)))
        · refine own_step (fun _ k => XS.ifNo X0.here hx rfl (hb hby at_181) rfl ((if0 _ _).trans (feq c181_165).1) k) ?_
          show own_Ends p e below F (s₁.setTop (mkF m 184 A36 []))
          refine own_step (fun _ k => XS.iload X0.here hx rfl (hb hby at_184) (by rw [hA36]; rfl) k) ?_
          show own_Ends p e below F (s₁.setTop (mkF m 186 A36 [(.int v25)]))
          refine own_step (fun _ k => XS.iconst X0.here hx rfl (hb hby at_186) k) ?_
          show own_Ends p e below F (s₁.setTop (mkF m 187 A36 [(.int (2 : Int32)), (.int v25)]))
          by_cases c187_167 : v25 = (2 : Int32)
          · refine own_step (fun _ k => XS.icmpYes X0.here hx rfl (pc0 := 187) (pc' := 194) rfl (hb hby at_187) rfl (teq c187_167).1 (by decide) (by decide) k) ?_
            show own_Ends p e below F (s₁.setTop (mkF m 194 A36 []))
            refine own_step (fun _ k => XS.iconst X0.here hx rfl (hb hby at_194) k) ?_
            show own_Ends p e below F (s₁.setTop (mkF m 195 A36 [(.int (0 : Int32))]))
            refine own_step (fun _ k => XS.goto X0.here hx rfl (pc0 := 195) (pc' := 213) rfl (hb hby at_195) (by decide) (by decide) k) ?_
            show own_Ends p e below F (s₁.setTop (mkF m 213 A36 [(.int (0 : Int32))]))
            rw [hA36]
            exact J181_38 _ (by first | (simp only [if_true, if_false, c181_165, c187_167]; done) | ((first | rw [if_pos c181_165] | rw [if_neg c181_165] | skip); (first | rw [if_pos c187_167] | rw [if_neg c187_167] | skip)))
          · refine own_step (fun _ k => XS.icmpNo X0.here hx rfl (hb hby at_187) rfl (feq c187_167).1 k) ?_
            show own_Ends p e below F (s₁.setTop (mkF m 190 A36 []))
            refine own_step (fun _ k => XS.iconst X0.here hx rfl (hb hby at_190) k) ?_
            show own_Ends p e below F (s₁.setTop (mkF m 191 A36 [(.int (1 : Int32))]))
            refine own_step (fun _ k => XS.goto X0.here hx rfl (pc0 := 191) (pc' := 213) rfl (hb hby at_191) (by decide) (by decide) k) ?_
            show own_Ends p e below F (s₁.setTop (mkF m 213 A36 [(.int (1 : Int32))]))
            rw [hA36]
            exact J181_38 _ (by first | (simp only [if_true, if_false, c181_165, c187_167]; done) | ((first | rw [if_pos c181_165] | rw [if_neg c181_165] | skip); (first | rw [if_pos c187_167] | rw [if_neg c187_167] | skip)))
      by_cases c145_168 : z20 = (0 : Int32)
      · refine own_step (fun _ k => XS.ifYes X0.here hx rfl (pc0 := 145) (pc' := 162) rfl (hb hby at_145) rfl ((if0 _ _).trans (teq c145_168).1) (by decide) (by decide) k) ?_
        show own_Ends p e below F (s₁.setTop (mkF m 162 A31 []))
        refine own_step (fun _ k => XS.iload X0.here hx rfl (hb hby at_162) (by rw [hA31]; rfl) k) ?_
        show own_Ends p e below F (s₁.setTop (mkF m 164 A31 [(.int p6)]))
        refine own_step (fun _ k => XS.bipush X0.here hx rfl (hb hby at_164) k) ?_
        show own_Ends p e below F (s₁.setTop (mkF m 166 A31 [(.int (9 : Int32)), (.int p6)]))
        refine own_step (fun _ k => XS.iushr X0.here hx rfl (hb hby at_166) rfl k) ?_
        show own_Ends p e below F (s₁.setTop (mkF m 167 A31 [(.int ((p6.toUInt32 >>> ((9 : Int32) &&& 31).toUInt32).toInt32))]))
        refine own_step (fun _ k => XS.iconst X0.here hx rfl (hb hby at_167) k) ?_
        show own_Ends p e below F (s₁.setTop (mkF m 168 A31 [(.int (1 : Int32)), (.int ((p6.toUInt32 >>> ((9 : Int32) &&& 31).toUInt32).toInt32))]))
        refine own_step (fun _ k => XS.iand X0.here hx rfl (hb hby at_168) rfl k) ?_
        show own_Ends p e below F (s₁.setTop (mkF m 169 A31 [(.int (((p6.toUInt32 >>> ((9 : Int32) &&& 31).toUInt32).toInt32) &&& (1 : Int32)))]))
        by_cases c169_169 : (((p6.toUInt32 >>> ((9 : Int32) &&& 31).toUInt32).toInt32) &&& (1 : Int32)) = (0 : Int32)
        · refine own_step (fun _ k => XS.ifYes X0.here hx rfl (pc0 := 169) (pc' := 176) rfl (hb hby at_169) rfl ((if0 _ _).trans (teq c169_169).1) (by decide) (by decide) k) ?_
          show own_Ends p e below F (s₁.setTop (mkF m 176 A31 []))
          refine own_step (fun _ k => XS.iconst X0.here hx rfl (hb hby at_176) k) ?_
          show own_Ends p e below F (s₁.setTop (mkF m 177 A31 [(.int (0 : Int32))]))
          rw [hA31]
          exact J145_33 _ (by first | (simp only [if_true, if_false, c145_168, c169_169]; done) | ((first | rw [if_pos c145_168] | rw [if_neg c145_168] | skip); (first | rw [if_pos c169_169] | rw [if_neg c169_169] | skip)))
        · refine own_step (fun _ k => XS.ifNo X0.here hx rfl (hb hby at_169) rfl ((if0 _ _).trans (feq c169_169).1) k) ?_
          show own_Ends p e below F (s₁.setTop (mkF m 172 A31 []))
          refine own_step (fun _ k => XS.iconst X0.here hx rfl (hb hby at_172) k) ?_
          show own_Ends p e below F (s₁.setTop (mkF m 173 A31 [(.int (1 : Int32))]))
          refine own_step (fun _ k => XS.goto X0.here hx rfl (pc0 := 173) (pc' := 177) rfl (hb hby at_173) (by decide) (by decide) k) ?_
          show own_Ends p e below F (s₁.setTop (mkF m 177 A31 [(.int (1 : Int32))]))
          rw [hA31]
          exact J145_33 _ (by first | (simp only [if_true, if_false, c145_168, c169_169]; done) | ((first | rw [if_pos c145_168] | rw [if_neg c145_168] | skip); (first | rw [if_pos c169_169] | rw [if_neg c169_169] | skip)))
      · refine own_step (fun _ k => XS.ifNo X0.here hx rfl (hb hby at_145) rfl ((if0 _ _).trans (feq c145_168).1) k) ?_
        show own_Ends p e below F (s₁.setTop (mkF m 148 A31 []))
        refine own_step (fun _ k => XS.iload X0.here hx rfl (hb hby at_148) (by rw [hA31]; rfl) k) ?_
        show own_Ends p e below F (s₁.setTop (mkF m 150 A31 [(.int v25)]))
        refine own_step (fun _ k => XS.iconst X0.here hx rfl (hb hby at_150) k) ?_
        show own_Ends p e below F (s₁.setTop (mkF m 151 A31 [(.int (1 : Int32)), (.int v25)]))
        by_cases c151_170 : v25 = (1 : Int32)
        · refine own_step (fun _ k => XS.icmpYes X0.here hx rfl (pc0 := 151) (pc' := 158) rfl (hb hby at_151) rfl (teq c151_170).1 (by decide) (by decide) k) ?_
          show own_Ends p e below F (s₁.setTop (mkF m 158 A31 []))
          refine own_step (fun _ k => XS.iconst X0.here hx rfl (hb hby at_158) k) ?_
          show own_Ends p e below F (s₁.setTop (mkF m 159 A31 [(.int (0 : Int32))]))
          refine own_step (fun _ k => XS.goto X0.here hx rfl (pc0 := 159) (pc' := 177) rfl (hb hby at_159) (by decide) (by decide) k) ?_
          show own_Ends p e below F (s₁.setTop (mkF m 177 A31 [(.int (0 : Int32))]))
          rw [hA31]
          exact J145_33 _ (by first | (simp only [if_true, if_false, c145_168, c151_170]; done) | ((first | rw [if_pos c145_168] | rw [if_neg c145_168] | skip); (first | rw [if_pos c151_170] | rw [if_neg c151_170] | skip)))
        · refine own_step (fun _ k => XS.icmpNo X0.here hx rfl (hb hby at_151) rfl (feq c151_170).1 k) ?_
          show own_Ends p e below F (s₁.setTop (mkF m 154 A31 []))
          refine own_step (fun _ k => XS.iconst X0.here hx rfl (hb hby at_154) k) ?_
          show own_Ends p e below F (s₁.setTop (mkF m 155 A31 [(.int (1 : Int32))]))
          refine own_step (fun _ k => XS.goto X0.here hx rfl (pc0 := 155) (pc' := 177) rfl (hb hby at_155) (by decide) (by decide) k) ?_
          show own_Ends p e below F (s₁.setTop (mkF m 177 A31 [(.int (1 : Int32))]))
          rw [hA31]
          exact J145_33 _ (by first | (simp only [if_true, if_false, c145_168, c151_170]; done) | ((first | rw [if_pos c145_168] | rw [if_neg c145_168] | skip); (first | rw [if_pos c151_170] | rw [if_neg c151_170] | skip)))
    by_cases c110_171 : z20 = (0 : Int32)
    · refine own_step (fun _ k => XS.ifYes X0.here hx rfl (pc0 := 110) (pc' := 126) rfl (hb hby at_110) rfl ((if0 _ _).trans (teq c110_171).1) (by decide) (by decide) k) ?_
      show own_Ends p e below F (s₁.setTop (mkF m 126 A26 []))
      refine own_step (fun _ k => XS.iload X0.here hx rfl (hb hby at_126) (by rw [hA26]; rfl) k) ?_
      show own_Ends p e below F (s₁.setTop (mkF m 128 A26 [(.int p6)]))
      refine own_step (fun _ k => XS.bipush X0.here hx rfl (hb hby at_128) k) ?_
      show own_Ends p e below F (s₁.setTop (mkF m 130 A26 [(.int (8 : Int32)), (.int p6)]))
      refine own_step (fun _ k => XS.iushr X0.here hx rfl (hb hby at_130) rfl k) ?_
      show own_Ends p e below F (s₁.setTop (mkF m 131 A26 [(.int ((p6.toUInt32 >>> ((8 : Int32) &&& 31).toUInt32).toInt32))]))
      refine own_step (fun _ k => XS.iconst X0.here hx rfl (hb hby at_131) k) ?_
      show own_Ends p e below F (s₁.setTop (mkF m 132 A26 [(.int (1 : Int32)), (.int ((p6.toUInt32 >>> ((8 : Int32) &&& 31).toUInt32).toInt32))]))
      refine own_step (fun _ k => XS.iand X0.here hx rfl (hb hby at_132) rfl k) ?_
      show own_Ends p e below F (s₁.setTop (mkF m 133 A26 [(.int (((p6.toUInt32 >>> ((8 : Int32) &&& 31).toUInt32).toInt32) &&& (1 : Int32)))]))
      by_cases c133_172 : (((p6.toUInt32 >>> ((8 : Int32) &&& 31).toUInt32).toInt32) &&& (1 : Int32)) = (0 : Int32)
      · refine own_step (fun _ k => XS.ifYes X0.here hx rfl (pc0 := 133) (pc' := 140) rfl (hb hby at_133) rfl ((if0 _ _).trans (teq c133_172).1) (by decide) (by decide) k) ?_
        show own_Ends p e below F (s₁.setTop (mkF m 140 A26 []))
        refine own_step (fun _ k => XS.iconst X0.here hx rfl (hb hby at_140) k) ?_
        show own_Ends p e below F (s₁.setTop (mkF m 141 A26 [(.int (0 : Int32))]))
        rw [hA26]
        exact J110_28 _ (by first | (simp only [if_true, if_false, c110_171, c133_172]; done) | ((first | rw [if_pos c110_171] | rw [if_neg c110_171] | skip); (first | rw [if_pos c133_172] | rw [if_neg c133_172] | skip)))
      · refine own_step (fun _ k => XS.ifNo X0.here hx rfl (hb hby at_133) rfl ((if0 _ _).trans (feq c133_172).1) k) ?_
        show own_Ends p e below F (s₁.setTop (mkF m 136 A26 []))
        refine own_step (fun _ k => XS.iconst X0.here hx rfl (hb hby at_136) k) ?_
        show own_Ends p e below F (s₁.setTop (mkF m 137 A26 [(.int (1 : Int32))]))
        refine own_step (fun _ k => XS.goto X0.here hx rfl (pc0 := 137) (pc' := 141) rfl (hb hby at_137) (by decide) (by decide) k) ?_
        show own_Ends p e below F (s₁.setTop (mkF m 141 A26 [(.int (1 : Int32))]))
        rw [hA26]
        exact J110_28 _ (by first | (simp only [if_true, if_false, c110_171, c133_172]; done) | ((first | rw [if_pos c110_171] | rw [if_neg c110_171] | skip); (first | rw [if_pos c133_172] | rw [if_neg c133_172] | skip)))
    · refine own_step (fun _ k => XS.ifNo X0.here hx rfl (hb hby at_110) rfl ((if0 _ _).trans (feq c110_171).1) k) ?_
      show own_Ends p e below F (s₁.setTop (mkF m 113 A26 []))
      refine own_step (fun _ k => XS.iload X0.here hx rfl (hb hby at_113) (by rw [hA26]; rfl) k) ?_
      show own_Ends p e below F (s₁.setTop (mkF m 115 A26 [(.int v25)]))
      by_cases c115_173 : v25 = (0 : Int32)
      · refine own_step (fun _ k => XS.ifYes X0.here hx rfl (pc0 := 115) (pc' := 122) rfl (hb hby at_115) rfl ((if0 _ _).trans (teq c115_173).1) (by decide) (by decide) k) ?_
        show own_Ends p e below F (s₁.setTop (mkF m 122 A26 []))
        refine own_step (fun _ k => XS.iconst X0.here hx rfl (hb hby at_122) k) ?_
        show own_Ends p e below F (s₁.setTop (mkF m 123 A26 [(.int (0 : Int32))]))
        refine own_step (fun _ k => XS.goto X0.here hx rfl (pc0 := 123) (pc' := 141) rfl (hb hby at_123) (by decide) (by decide) k) ?_
        show own_Ends p e below F (s₁.setTop (mkF m 141 A26 [(.int (0 : Int32))]))
        rw [hA26]
        exact J110_28 _ (by first | (simp only [if_true, if_false, c110_171, c115_173]; done) | ((first | rw [if_pos c110_171] | rw [if_neg c110_171] | skip); (first | rw [if_pos c115_173] | rw [if_neg c115_173] | skip)))
      · refine own_step (fun _ k => XS.ifNo X0.here hx rfl (hb hby at_115) rfl ((if0 _ _).trans (feq c115_173).1) k) ?_
        show own_Ends p e below F (s₁.setTop (mkF m 118 A26 []))
        refine own_step (fun _ k => XS.iconst X0.here hx rfl (hb hby at_118) k) ?_
        show own_Ends p e below F (s₁.setTop (mkF m 119 A26 [(.int (1 : Int32))]))
        refine own_step (fun _ k => XS.goto X0.here hx rfl (pc0 := 119) (pc' := 141) rfl (hb hby at_119) (by decide) (by decide) k) ?_
        show own_Ends p e below F (s₁.setTop (mkF m 141 A26 [(.int (1 : Int32))]))
        rw [hA26]
        exact J110_28 _ (by first | (simp only [if_true, if_false, c110_171, c115_173]; done) | ((first | rw [if_pos c110_171] | rw [if_neg c110_171] | skip); (first | rw [if_pos c115_173] | rw [if_neg c115_173] | skip)))
  by_cases c88_174 : (((p6.toUInt32 >>> ((21 : Int32) &&& 31).toUInt32).toInt32) &&& (1 : Int32)) = (0 : Int32)
  · refine own_step (fun _ k => XS.ifYes X0.here hx rfl (pc0 := 88) (pc' := 95) rfl (hb hby at_88) rfl ((if0 _ _).trans (teq c88_174).1) (by decide) (by decide) k) ?_
    show own_Ends p e below F (s₁.setTop (mkF m 95 A19 []))
    refine own_step (fun _ k => XS.iconst X0.here hx rfl (hb hby at_95) k) ?_
    show own_Ends p e below F (s₁.setTop (mkF m 96 A19 [(.int (0 : Int32))]))
    rw [hA19]
    exact J88_21 _ (by simp only [if_true, if_false, c88_174])
  · refine own_step (fun _ k => XS.ifNo X0.here hx rfl (hb hby at_88) rfl ((if0 _ _).trans (feq c88_174).1) k) ?_
    show own_Ends p e below F (s₁.setTop (mkF m 91 A19 []))
    refine own_step (fun _ k => XS.iconst X0.here hx rfl (hb hby at_91) k) ?_
    show own_Ends p e below F (s₁.setTop (mkF m 92 A19 [(.int (1 : Int32))]))
    refine own_step (fun _ k => XS.goto X0.here hx rfl (pc0 := 92) (pc' := 96) rfl (hb hby at_92) (by decide) (by decide) k) ?_
    show own_Ends p e below F (s₁.setTop (mkF m 96 A19 [(.int (1 : Int32))]))
    rw [hA19]
    exact J88_21 _ (by simp only [if_true, if_false, c88_174])

theorem own_scstart {Z : State} {args : Array Value} (h1 : (Jvm.Cond.initializedFor "java/lang/String" "COMPACT_STRINGS" "Z").before args Z = true) (h2 : (Jvm.Cond.isInt (Jvm.Term.static "java/lang/String" "COMPACT_STRINGS" "Z")).before args Z = true) (h3 : (Jvm.Cond.not (Jvm.Cond.eq (Jvm.Term.static "java/lang/String" "COMPACT_STRINGS" "Z") (Jvm.Term.int (0 : Int32)))).before args Z = true) : ∃ z : Int32, Sta Z Z.heap "java/lang/String" "COMPACT_STRINGS" "Z" (.int z) ∧ ¬ z = 0 := by
  obtain ⟨z, e⟩ := is_v (Cond.before_iff.mp h2)
  refine ⟨z, Sta.start e (Or.inl h1), ?_⟩
  have q := not_v (Cond.before_iff.mp h3)
  have q2 : (Jvm.Cond.eq (Jvm.Term.static "java/lang/String" "COMPACT_STRINGS" "Z") (Jvm.Term.int (0 : Int32))).value args Z none Z [] = some (decide (z = 0)) := by simp only [Cond.value, e]; first | done | rfl
  exact gotF q2 q

theorem own_enum {Z : State} {args : Array Value} {t t' : Term} {a b : Addr} {i j : Int32} {C n d : String} (ea : t.eval args Z none [] Z = some (.ref a)) (eb : t'.eval args Z none [] Z = some (.ref b)) (ha : (Jvm.Cond.eq (Jvm.Term.field t C n d) (Jvm.Term.int i)).value args Z none Z [] = some true) (hb : (Jvm.Cond.eq (Jvm.Term.field t' C n d) (Jvm.Term.int j)).value args Z none Z [] = some true) (ne : i ≠ j) : a ≠ b := fun q => by
  subst q
  have h1 := (fld_at ea).symm.trans (eqv_i (Term.int_eval i) ha)
  have h2 := (fld_at eb).symm.trans (eqv_i (Term.int_eval j) hb)
  exact ne (Value.int.inj (Option.some.inj (h1.symm.trans h2)))
set_option maxRecDepth 65536 in
set_option maxHeartbeats 40000000 in
theorem comes_1 {Post : Tables → Env → Array Value → State → Outcome → State → Prop} (hpost : ∀ tb e args s v u, (limb_1_1.after args s (.returned v) u = true ∧ limb_1_2.after args s (.returned v) u = true ∧ True) → ReturnedEndW s (.returned v) u (Jvm.fieldLocs frame_1_writes args s ++ Jvm.arrayLocs frame_1_arrays args s ++ Jvm.staticLocs frame_1_statics s) 56 1216 → Post tb e args s (.returned v) u) :
    ArmFor flags0 classFile x code maxLocals ret World_1 tables_1 room_1 Calls_1 rest_1 Pre_1 Post := by
  intro l hfl _ _ p e ha hc hk s m args below hf hA hF happ hP
  obtain ⟨hcalls, hrest, hpre⟩ := hP
  obtain ⟨-, -, -, hnamed, -, -, -, hat⟩ := (Spec.applies_iff hf).mp happ
  obtain ⟨hg, hn⟩ := and_e (Cond.before_iff.mp (show (Jvm.Cond.and given_1 narrow_1).before args s = true from hpre))
  obtain ⟨g0, r0⟩ := and_e hg
  obtain ⟨g1, r1⟩ := and_e r0
  obtain ⟨g2, r2⟩ := and_e r1
  obtain ⟨g3, r3⟩ := and_e r2
  obtain ⟨g4, r4⟩ := and_e r3
  obtain ⟨g5, r5⟩ := and_e r4
  have g6 := r5
  obtain ⟨w0, w1, w2, w3, w4, w5, rfl⟩ : ∃ w0 w1 w2 w3 w4 w5 : Value, args = #[w0, w1, w2, w3, w4, w5] := by
    have hs : args.size = 6 := by simpa [Cond.value, given_1] using g0
    obtain ⟨L⟩ := args
    match L, hs with
    | [w0, w1, w2, w3, w4, w5], _ => exact ⟨w0, w1, w2, w3, w4, w5, rfl⟩
  have hw := fun d (hd : d ∈ tables_1) => atoms_spec (ws := Jvm.Cond.code x code maxLocals ret :: tables_1) hat d (List.mem_cons_of_mem _ hd)
  have hfit : Fit s := fun {y c} hc i hi => by
    obtain ⟨ha, rfl⟩ := Array.getElem?_eq_some_iff.mp hc
    have q := List.all_eq_true.mp ((Array.all_eq_true_iff_forall_mem.mp hF) _ (Array.getElem_mem ha)) i (List.mem_range.mpr hi)
    simpa [Array.getElem?_eq_getElem hi] using q
  obtain ⟨i0, ei0⟩ := isL_v g1
  obtain rfl : w0 = (.long i0) := Option.some.inj ei0
  obtain ⟨i1, ei1⟩ := isL_v g2
  obtain rfl : w1 = (.long i1) := Option.some.inj ei1
  obtain ⟨i2, ei2⟩ := isL_v g3
  obtain rfl : w2 = (.long i2) := Option.some.inj ei2
  obtain ⟨i3, ei3⟩ := is_v g4
  obtain rfl : w3 = (.int i3) := Option.some.inj ei3
  obtain ⟨i4, ei4⟩ := is_v g5
  obtain rfl : w4 = (.int i4) := Option.some.inj ei4
  obtain ⟨i5, ei5⟩ := is_v g6
  obtain rfl : w5 = (.int i5) := Option.some.inj ei5
  obtain ⟨hst, -⟩ := atoms_of (own := restOwn_1) jdkStatics_1 (by rw [← rest_1_c_eq]; exact hrest)
  obtain ⟨zc, SC, hz⟩ := own_scstart (hst _ (List.mem_of_getElem? (i := 0) rfl)) (hst _ (List.mem_of_getElem? (i := 1) rfl)) (hst _ (List.mem_of_getElem? (i := 2) rfl))
  have hCH : CHv s own_EL s.vm s.heap := CHv.start (own_EW hw) (fun p hp => hcalls.1 p hp) (hst _ (List.mem_of_getElem? (i := 2) rfl)) (own_g hw 19 rfl) (own_g hw 5 rfl)
  obtain ⟨hn1, k1⟩ := and_e hn
  obtain ⟨hn2, k2⟩ := and_e k1
  obtain ⟨ho2, k3⟩ := and_e k2
  obtain ⟨ho1, k4⟩ := and_e k3
  obtain ⟨hn3, ho3⟩ := and_e k4
  obtain ⟨pe, epe⟩ := exa_v hn1
  have Spe : Sta s s.heap "com/example/clock3600/clock3600/queue/TaskState" "PENDING" "Lcom/example/clock3600/clock3600/queue/TaskState;" (.ref pe) := Sta.start epe (Or.inr ⟨(own_g hw 33 rfl), (own_g hw 34 rfl)⟩)
  obtain ⟨re, ere⟩ := exa_v hn2
  have Sre : Sta s s.heap "com/example/clock3600/clock3600/queue/TaskState" "READY" "Lcom/example/clock3600/clock3600/queue/TaskState;" (.ref re) := Sta.start ere (Or.inr ⟨(own_g hw 33 rfl), (own_g hw 75 rfl)⟩)
  obtain ⟨le, ele⟩ := exa_v hn3
  have Sle : Sta s s.heap "com/example/clock3600/clock3600/queue/TaskState" "LEASED" "Lcom/example/clock3600/clock3600/queue/TaskState;" (.ref le) := Sta.start ele (Or.inr ⟨(own_g hw 33 rfl), (own_g hw 87 rfl)⟩)
  obtain ⟨n, o, h1, h2, h3, _, L, rfl, ⟨rfl, N⟩, -, hq⟩ := rm0 l s _ hw tables_1 i0 i1 i2 i3 i4 i5 zc pe re le s.heap s.heap.size (Nat.le_refl _) SC hz Spe Sre Sle (own_enum epe ere ho1 ho2 (by decide)) (own_enum epe ele ho1 ho3 (by decide)) (own_enum ere ele ho2 ho3 (by decide)) p e ha hc hk s m _ below hf ((Spec.applies_iff_loose hf).mp happ).1 ⟨rfl, State.Warmed39.refl s, rfl, hCH⟩ trivial
  refine ⟨n, _, h1, h2, h3, hpost _ _ _ _ _ _ ⟨Cond.after_iff.mpr rfl, Cond.after_iff.mpr (eq_i res_at (Term.int_eval (1)) rfl), trivial⟩ ⟨hq.1, hq.2.1, hq.2.2.1, (hq.2.2.2.sift fun y hy => Or.inr (N y hy)).mono (by decide) (by decide)⟩⟩
theorem main_1_1 : Claimed_1_1 := comes_1 fun _ _ _ _ _ _ h hF => ⟨h.1, hF⟩
theorem main_1_2 : Claimed_1_2 := comes_1 fun _ _ _ _ _ _ h hF => ⟨h.2.1, hF⟩

end Jvm.Pilot.@@N@@
namespace Jvm.Pilot.@@N@@
open Jvm Jvm.ClassFile Sem Op Lib Jvm.Free Jvm.Stand Jvm.Pilot.@@N@@.Jvm.D
/-! MADE BY PROGRAM (witnessworld.py) out of the Statement's table words and the real class files: 22 classes; the members and pool entries that the words name. The judged class is class 1, her method 4. -/
namespace start1
open Jvm.ClassFile
def u (s : String) : CpInfo := .utf8 (stringToUtf16 s)
/-- a pool by its gaps: so many unusable entries, then the entry; so many at the end -/
def gap : Nat → List CpInfo → List CpInfo
  | 0, r => r
  | n + 1, r => .unusable :: gap n r
def poolList (es : List (Nat × CpInfo)) (last : Nat) : List CpInfo := es.foldr (fun e r => gap e.1 (e.2 :: r)) (gap last [])
def pool (es : List (Nat × CpInfo)) (last : Nat) : Array CpInfo := ⟨poolList es last⟩
def fileOf (pool : Array CpInfo) (this : Nat) (attrs : Array Attribute := #[]) (ms : Array MethodInfo := #[]) (fl : Nat := 33) (sup : Nat := 0) (ifs : Array Nat := #[]) (fds : Array FieldInfo := #[]) : ClassFile where
  minorVersion := 0
  majorVersion := 65
  constantPool := pool
  accessFlags := fl
  thisClass := this
  superClass := sup
  interfaces := ifs
  fields := fds
  methods := ms
  attributes := attrs
def plain (name : String) (sup : Option ClassId) : Class where
  name := name
  kind := .ordinary
  loader := none
  accessFlags := 33
  super := sup
  interfaces := #[]
  cf := none
  fields := #[]
  methods := #[]
  instanceTypes := #[]
  staticTypes := #[]
  resolved := #[]
  callSites := []
  init := .initialized
  statics := none
  mirror := none

def pool0 : Array CpInfo := pool [(5, u "<init>"), (0, u "()V"), (1, .class_ 10), (1, u "java/lang/Object")] 113

def k0c0 : Code := { maxStack := 0, maxLocals := 1, code := object_method_1_code, exceptionTable := #[], attributes := #[] }
def k0m0 : Method := { name := "<init>", desc := "()V", sig := { parameters := [], returnType := none }, accessFlags := 1, code := some k0c0 }
/-- java/lang/Object -/
def k0 : Class := { plain "java/lang/Object" none with
  accessFlags := 33
  interfaces := #[]
  cf := some (fileOf pool0 8 #[] #[{ accessFlags := 1, nameIndex := 5, descriptorIndex := 6, attributes := #[] }] 33 0 #[] #[])
  fields := #[]
  methods := #[k0m0]
  instanceTypes := #[]
  staticTypes := #[]
  resolved := Array.replicate 124 none
  statics := none }

def pool1 : Array CpInfo := pool [(2, .class_ 4), (1, u "java/lang/Object"), (0, u "<init>"), (0, u "()V"), (0, .class_ 8), (0, u "java/lang/String"), (0, .methodref 7 10), (0, .nameAndType 5 11), (0, u "([C)V"), (0, .fieldref 13 14), (0, .class_ 15), (0, .nameAndType 16 17), (0, u "com/example/clock3600/clock3600/queue/TaskState"), (0, u "PENDING"), (0, u "Lcom/example/clock3600/clock3600/queue/TaskState;"), (0, .fieldref 13 19), (0, .nameAndType 20 17), (0, u "READY"), (0, .fieldref 13 22), (0, .nameAndType 23 17), (0, u "LEASED"), (0, .methodref 25 26), (0, .class_ 27), (0, .nameAndType 28 29), (0, u "com/example/clock3600/clock3600/queue/QueuedTaskEqualsPinLaw"), (0, u "mk"), (0, u "(III)Ljava/lang/String;"), (0, .class_ 31), (0, u "com/example/clock3600/clock3600/queue/QueuedTask"), (0, .methodref 25 33), (0, .nameAndType 34 35), (0, u "st"), (0, u "(I)Lcom/example/clock3600/clock3600/queue/TaskState;"), (0, .methodref 30 37), (0, .nameAndType 5 38), (0, u "(Ljava/lang/String;Ljava/lang/String;JLjava/lang/String;Lcom/example/clock3600/clock3600/queue/TaskState;I)V"), (0, .methodref 25 40), (0, .nameAndType 41 42), (0, u "same"), (0, u "(IIIIII)Z"), (0, .methodref 30 44), (0, .nameAndType 45 46), (0, u "equals"), (0, u "(Ljava/lang/Object;)Z"), (3, u "law"), (0, u "(JJJIII)Z")] 2

def k1m0 : Method := { name := "<init>", desc := "()V", sig := { parameters := [], returnType := none }, accessFlags := 1, code := none }
def k1c1 : Code := { maxStack := 3, maxLocals := 4, code := method_2_code, exceptionTable := #[], attributes := #[] }
def k1m1 : Method := { name := "mk", desc := "(III)Ljava/lang/String;", sig := { parameters := [.int, .int, .int], returnType := some (.object "java/lang/String") }, accessFlags := 10, code := some k1c1 }
def k1c2 : Code := { maxStack := 2, maxLocals := 6, code := method_3_code, exceptionTable := #[], attributes := #[] }
def k1m2 : Method := { name := "same", desc := "(IIIIII)Z", sig := { parameters := [.int, .int, .int, .int, .int, .int], returnType := some .boolean }, accessFlags := 10, code := some k1c2 }
def k1c3 : Code := { maxStack := 2, maxLocals := 1, code := method_4_code, exceptionTable := #[], attributes := #[] }
def k1m3 : Method := { name := "st", desc := "(I)Lcom/example/clock3600/clock3600/queue/TaskState;", sig := { parameters := [.int], returnType := some (.object "com/example/clock3600/clock3600/queue/TaskState") }, accessFlags := 10, code := some k1c3 }
def k1c4 : Code := { maxStack := 9, maxLocals := 42, code := code, exceptionTable := #[], attributes := #[] }
def k1m4 : Method := { name := "law", desc := "(JJJIII)Z", sig := { parameters := [.long, .long, .long, .int, .int, .int], returnType := some .boolean }, accessFlags := 9, code := some k1c4 }
/-- com/example/clock3600/clock3600/queue/QueuedTaskEqualsPinLaw -/
def k1 : Class := { plain "com/example/clock3600/clock3600/queue/QueuedTaskEqualsPinLaw" (some 0) with
  accessFlags := 49
  interfaces := #[]
  cf := some (fileOf pool1 25 #[] #[{ accessFlags := 1, nameIndex := 5, descriptorIndex := 6, attributes := #[] }, { accessFlags := 10, nameIndex := 28, descriptorIndex := 29, attributes := #[] }, { accessFlags := 10, nameIndex := 41, descriptorIndex := 42, attributes := #[] }, { accessFlags := 10, nameIndex := 34, descriptorIndex := 35, attributes := #[] }, { accessFlags := 9, nameIndex := 50, descriptorIndex := 51, attributes := #[] }] 49 2 #[] #[])
  fields := #[]
  methods := #[k1m0, k1m1, k1m2, k1m3, k1m4]
  instanceTypes := #[]
  staticTypes := #[]
  resolved := Array.replicate 54 none
  statics := none }

def pool2 : Array CpInfo := pool [(1, .class_ 2), (0, u "java/io/Serializable"), (0, .class_ 4), (0, u "java/lang/Object")] 2

/-- java/io/Serializable -/
def k2 : Class := { plain "java/io/Serializable" (some 0) with
  accessFlags := 1537
  interfaces := #[]
  cf := some (fileOf pool2 1 #[] #[] 1537 3 #[] #[])
  fields := #[]
  methods := #[]
  instanceTypes := #[]
  staticTypes := #[]
  resolved := Array.replicate 7 none
  statics := none }

def pool3 : Array CpInfo := pool [(1, .class_ 2), (0, u "java/lang/Comparable"), (0, .class_ 4), (0, u "java/lang/Object")] 7

/-- java/lang/Comparable -/
def k3 : Class := { plain "java/lang/Comparable" (some 0) with
  accessFlags := 1537
  interfaces := #[]
  cf := some (fileOf pool3 1 #[] #[] 1537 3 #[] #[])
  fields := #[]
  methods := #[]
  instanceTypes := #[]
  staticTypes := #[]
  resolved := Array.replicate 12 none
  statics := none }

def pool4 : Array CpInfo := pool [(2, .class_ 4), (1, u "java/lang/CharSequence"), (42, .class_ 48), (0, u "java/lang/CharSequence$1CodePointIterator"), (10, .class_ 60), (0, u "java/lang/CharSequence$1CharIterator"), (5, .class_ 67), (0, u "java/lang/Object")] 63

/-- java/lang/CharSequence -/
def k4 : Class := { plain "java/lang/CharSequence" (some 0) with
  accessFlags := 1537
  interfaces := #[]
  cf := some (fileOf pool4 2 #[.nestMembers #[47, 59]] #[] 1537 66 #[] #[])
  fields := #[]
  methods := #[]
  instanceTypes := #[]
  staticTypes := #[]
  resolved := Array.replicate 131 none
  statics := none }

def pool5 : Array CpInfo := pool [(1, .class_ 2), (0, u "java/lang/constant/Constable"), (0, .class_ 4), (0, u "java/lang/Object")] 6

/-- java/lang/constant/Constable -/
def k5 : Class := { plain "java/lang/constant/Constable" (some 0) with
  accessFlags := 1537
  interfaces := #[]
  cf := some (fileOf pool5 1 #[] #[] 1537 3 #[] #[])
  fields := #[]
  methods := #[]
  instanceTypes := #[]
  staticTypes := #[]
  resolved := Array.replicate 11 none
  statics := none }

def pool6 : Array CpInfo := pool [(1, .class_ 2), (0, u "java/lang/constant/ConstantDesc"), (0, .class_ 4), (0, u "java/lang/Object")] 32

/-- java/lang/constant/ConstantDesc -/
def k6 : Class := { plain "java/lang/constant/ConstantDesc" (some 0) with
  accessFlags := 1537
  interfaces := #[]
  cf := some (fileOf pool6 1 #[] #[] 1537 3 #[] #[])
  fields := #[]
  methods := #[]
  instanceTypes := #[]
  staticTypes := #[]
  resolved := Array.replicate 37 none
  statics := none }

def pool7 : Array CpInfo := pool [(1, .methodref 2 3), (0, .class_ 4), (0, .nameAndType 5 6), (0, u "java/lang/Object"), (0, u "<init>"), (0, u "()V"), (0, .string 8), (0, u ""), (0, .fieldref 10 11), (0, .class_ 12), (0, .nameAndType 13 14), (0, u "java/lang/String"), (0, u "value"), (0, u "[B"), (0, .fieldref 10 16), (0, .nameAndType 17 18), (0, u "coder"), (0, u "B"), (2, u "hash"), (0, u "I"), (2, u "hashIsZero"), (0, u "Z"), (0, .methodref 10 28), (0, .nameAndType 5 29), (0, u "([CIILjava/lang/Void;)V"), (8, .fieldref 10 39), (0, .nameAndType 40 26), (0, u "COMPACT_STRINGS"), (1, .class_ 44), (1, u "java/lang/StringUTF16"), (0, u "compress"), (1, .methodref 42 48), (0, .nameAndType 49 50), (0, u "coderFromArrayLen"), (0, u "([BI)B"), (56, .class_ 109), (1, u "java/lang/StringLatin1"), (67, .methodref 42 178), (0, .nameAndType 45 179), (0, u "([CII)[B"), (361, .methodref 107 542), (0, .nameAndType 543 544), (0, u "equals"), (0, u "([B[B)Z"), (28, u "(Ljava/lang/Object;)Z"), (1, .class_ 576), (0, u "java/lang/CharSequence"), (22, u "CASE_INSENSITIVE_ORDER"), (0, u "Ljava/util/Comparator;"), (409, u "([C)V"), (90, u "serialPersistentFields"), (0, u "[Ljava/io/ObjectStreamField;"), (0, .class_ 1104), (0, u "java/lang/String$CaseInsensitiveComparator"), (1, .class_ 1107), (0, u "java/io/Serializable"), (0, .class_ 1109), (0, u "java/lang/Comparable"), (0, .class_ 1111), (0, u "java/lang/constant/Constable"), (0, .class_ 1113), (0, u "java/lang/constant/ConstantDesc"), (2, u "serialVersionUID"), (0, u "J"), (3, u "REPL"), (0, u "C"), (2, u "LATIN1"), (1, u "UTF16")] 323

def k7m0 : Method := { name := "<init>", desc := "()V", sig := { parameters := [], returnType := none }, accessFlags := 1, code := none }
def k7c1 : Code := { maxStack := 5, maxLocals := 2, code := jdk_42_method_3_code, exceptionTable := #[], attributes := #[] }
def k7m1 : Method := { name := "<init>", desc := "([C)V", sig := { parameters := [(.array .char)], returnType := none }, accessFlags := 1, code := some k7c1 }
def k7c2 : Code := { maxStack := 2, maxLocals := 3, code := jdk_42_method_66_code, exceptionTable := #[], attributes := #[] }
def k7m2 : Method := { name := "equals", desc := "(Ljava/lang/Object;)Z", sig := { parameters := [(.object "java/lang/Object")], returnType := some .boolean }, accessFlags := 1, code := some k7c2 }
def k7c3 : Code := { maxStack := 4, maxLocals := 6, code := jdk_42_method_149_code, exceptionTable := #[], attributes := #[] }
def k7m3 : Method := { name := "<init>", desc := "([CIILjava/lang/Void;)V", sig := { parameters := [(.array .char), .int, .int, (.object "java/lang/Void")], returnType := none }, accessFlags := 2, code := some k7c3 }
/-- java/lang/String -/
def k7 : Class := { plain "java/lang/String" (some 0) with
  accessFlags := 49
  interfaces := #[2, 3, 4, 5, 6]
  cf := some (fileOf pool7 10 #[.nestMembers #[1103]] #[{ accessFlags := 1, nameIndex := 5, descriptorIndex := 6, attributes := #[] }, { accessFlags := 1, nameIndex := 5, descriptorIndex := 1010, attributes := #[] }, { accessFlags := 1, nameIndex := 543, descriptorIndex := 573, attributes := #[] }, { accessFlags := 2, nameIndex := 5, descriptorIndex := 29, attributes := #[] }] 49 2 #[1106, 1108, 575, 1110, 1112] #[{ accessFlags := 18, nameIndex := 13, descriptorIndex := 14, attributes := #[] }, { accessFlags := 18, nameIndex := 17, descriptorIndex := 18, attributes := #[] }, { accessFlags := 2, nameIndex := 21, descriptorIndex := 22, attributes := #[] }, { accessFlags := 2, nameIndex := 25, descriptorIndex := 26, attributes := #[] }, { accessFlags := 26, nameIndex := 1116, descriptorIndex := 1117, attributes := #[] }, { accessFlags := 24, nameIndex := 40, descriptorIndex := 26, attributes := #[] }, { accessFlags := 26, nameIndex := 1101, descriptorIndex := 1102, attributes := #[] }, { accessFlags := 26, nameIndex := 1121, descriptorIndex := 1122, attributes := #[] }, { accessFlags := 25, nameIndex := 599, descriptorIndex := 600, attributes := #[] }, { accessFlags := 24, nameIndex := 1125, descriptorIndex := 18, attributes := #[] }, { accessFlags := 24, nameIndex := 1127, descriptorIndex := 18, attributes := #[] }])
  fields := #[{ name := "value", type := (.array .byte), accessFlags := 18, slot := 0, constantValue := 0 }, { name := "coder", type := .byte, accessFlags := 18, slot := 1, constantValue := 0 }, { name := "hash", type := .int, accessFlags := 2, slot := 2, constantValue := 0 }, { name := "hashIsZero", type := .boolean, accessFlags := 2, slot := 3, constantValue := 0 }, { name := "serialVersionUID", type := .long, accessFlags := 26, slot := 0, constantValue := 0 }, { name := "COMPACT_STRINGS", type := .boolean, accessFlags := 24, slot := 1, constantValue := 0 }, { name := "serialPersistentFields", type := (.array (.object "java/io/ObjectStreamField")), accessFlags := 26, slot := 2, constantValue := 0 }, { name := "REPL", type := .char, accessFlags := 26, slot := 3, constantValue := 0 }, { name := "CASE_INSENSITIVE_ORDER", type := (.object "java/util/Comparator"), accessFlags := 25, slot := 4, constantValue := 0 }, { name := "LATIN1", type := .byte, accessFlags := 24, slot := 5, constantValue := 0 }, { name := "UTF16", type := .byte, accessFlags := 24, slot := 6, constantValue := 0 }]
  methods := #[k7m0, k7m1, k7m2, k7m3]
  instanceTypes := #[(.array .byte), .byte, .int, .boolean]
  staticTypes := #[.long, .boolean, (.array (.object "java/io/ObjectStreamField")), .char, (.object "java/util/Comparator"), .byte, .byte]
  resolved := Array.replicate 1451 none
  statics := some 0 }

def pool8 : Array CpInfo := pool [(1, .methodref 2 3), (0, .class_ 4), (0, .nameAndType 5 6), (0, u "java/lang/Object"), (0, u "<init>"), (0, u "()V"), (0, .fieldref 8 9), (0, .class_ 10), (0, .nameAndType 11 12), (0, u "com/example/clock3600/clock3600/queue/QueuedTask"), (0, u "queue"), (0, u "Ljava/lang/String;"), (0, .fieldref 8 14), (0, .nameAndType 15 12), (0, u "id"), (0, .fieldref 8 17), (0, .nameAndType 18 19), (0, u "dueAtMillis"), (0, u "J"), (0, .fieldref 8 21), (0, .nameAndType 22 12), (0, u "payload"), (0, .fieldref 8 24), (0, .nameAndType 25 26), (0, u "state"), (0, u "Lcom/example/clock3600/clock3600/queue/TaskState;"), (0, .fieldref 8 28), (0, .nameAndType 29 30), (0, u "attempts"), (0, u "I"), (0, .methodref 32 33), (0, .class_ 34), (0, .nameAndType 35 36), (0, u "java/lang/String"), (0, u "equals"), (0, u "(Ljava/lang/Object;)Z"), (23, u "(Ljava/lang/String;Ljava/lang/String;JLjava/lang/String;Lcom/example/clock3600/clock3600/queue/TaskState;I)V")] 11

def k8c0 : Code := { maxStack := 3, maxLocals := 8, code := prog_16_method_1_code, exceptionTable := #[], attributes := #[] }
def k8m0 : Method := { name := "<init>", desc := "(Ljava/lang/String;Ljava/lang/String;JLjava/lang/String;Lcom/example/clock3600/clock3600/queue/TaskState;I)V", sig := { parameters := [(.object "java/lang/String"), (.object "java/lang/String"), .long, (.object "java/lang/String"), (.object "com/example/clock3600/clock3600/queue/TaskState"), .int], returnType := none }, accessFlags := 0, code := some k8c0 }
def k8c1 : Code := { maxStack := 4, maxLocals := 3, code := prog_16_method_8_code, exceptionTable := #[], attributes := #[] }
def k8m1 : Method := { name := "equals", desc := "(Ljava/lang/Object;)Z", sig := { parameters := [(.object "java/lang/Object")], returnType := some .boolean }, accessFlags := 1, code := some k8c1 }
/-- com/example/clock3600/clock3600/queue/QueuedTask -/
def k8 : Class := { plain "com/example/clock3600/clock3600/queue/QueuedTask" (some 0) with
  accessFlags := 33
  interfaces := #[]
  cf := some (fileOf pool8 8 #[] #[{ accessFlags := 0, nameIndex := 5, descriptorIndex := 60, attributes := #[] }, { accessFlags := 1, nameIndex := 35, descriptorIndex := 36, attributes := #[] }] 33 2 #[] #[{ accessFlags := 18, nameIndex := 11, descriptorIndex := 12, attributes := #[] }, { accessFlags := 18, nameIndex := 15, descriptorIndex := 12, attributes := #[] }, { accessFlags := 18, nameIndex := 18, descriptorIndex := 19, attributes := #[] }, { accessFlags := 18, nameIndex := 22, descriptorIndex := 12, attributes := #[] }, { accessFlags := 18, nameIndex := 25, descriptorIndex := 26, attributes := #[] }, { accessFlags := 18, nameIndex := 29, descriptorIndex := 30, attributes := #[] }])
  fields := #[{ name := "queue", type := (.object "java/lang/String"), accessFlags := 18, slot := 0, constantValue := 0 }, { name := "id", type := (.object "java/lang/String"), accessFlags := 18, slot := 1, constantValue := 0 }, { name := "dueAtMillis", type := .long, accessFlags := 18, slot := 2, constantValue := 0 }, { name := "payload", type := (.object "java/lang/String"), accessFlags := 18, slot := 3, constantValue := 0 }, { name := "state", type := (.object "com/example/clock3600/clock3600/queue/TaskState"), accessFlags := 18, slot := 4, constantValue := 0 }, { name := "attempts", type := .int, accessFlags := 18, slot := 5, constantValue := 0 }]
  methods := #[k8m0, k8m1]
  instanceTypes := #[(.object "java/lang/String"), (.object "java/lang/String"), .long, (.object "java/lang/String"), (.object "com/example/clock3600/clock3600/queue/TaskState"), .int]
  staticTypes := #[]
  resolved := Array.replicate 72 none
  statics := none }

def pool9 : Array CpInfo := pool [(2, .class_ 4), (1, u "java/lang/Enum"), (0, u "name"), (0, u "Ljava/lang/String;"), (2, u "ordinal"), (0, u "I"), (1, .class_ 14), (1, u "java/lang/Object"), (4, u "hash"), (86, .class_ 108), (1, u "java/lang/Enum$EnumDesc"), (2, .class_ 112), (0, u "java/lang/constant/Constable"), (0, .class_ 114), (0, u "java/lang/Comparable"), (0, .class_ 116), (0, u "java/io/Serializable")] 87

/-- java/lang/Enum -/
def k9 : Class := { plain "java/lang/Enum" (some 0) with
  accessFlags := 1057
  interfaces := #[5, 3, 2]
  cf := some (fileOf pool9 2 #[.nestMembers #[106]] #[] 1057 12 #[111, 113, 115] #[{ accessFlags := 18, nameIndex := 5, descriptorIndex := 6, attributes := #[] }, { accessFlags := 18, nameIndex := 9, descriptorIndex := 10, attributes := #[] }, { accessFlags := 2, nameIndex := 19, descriptorIndex := 10, attributes := #[] }])
  fields := #[{ name := "name", type := (.object "java/lang/String"), accessFlags := 18, slot := 0, constantValue := 0 }, { name := "ordinal", type := .int, accessFlags := 18, slot := 1, constantValue := 0 }, { name := "hash", type := .int, accessFlags := 2, slot := 2, constantValue := 0 }]
  methods := #[]
  instanceTypes := #[(.object "java/lang/String"), .int, .int]
  staticTypes := #[]
  resolved := Array.replicate 204 none
  statics := none }

def pool10 : Array CpInfo := pool [(1, .class_ 2), (0, u "com/example/clock3600/clock3600/queue/TaskState"), (2, u "PENDING"), (0, u "Lcom/example/clock3600/clock3600/queue/TaskState;"), (2, u "READY"), (2, u "LEASED"), (2, u "$VALUES"), (0, u "[Lcom/example/clock3600/clock3600/queue/TaskState;"), (6, .class_ 25), (1, u "java/lang/Enum")] 25

/-- com/example/clock3600/clock3600/queue/TaskState -/
def k10 : Class := { plain "com/example/clock3600/clock3600/queue/TaskState" (some 9) with
  accessFlags := 16433
  interfaces := #[]
  cf := some (fileOf pool10 1 #[] #[] 16433 23 #[] #[{ accessFlags := 16409, nameIndex := 5, descriptorIndex := 6, attributes := #[] }, { accessFlags := 16409, nameIndex := 9, descriptorIndex := 6, attributes := #[] }, { accessFlags := 16409, nameIndex := 12, descriptorIndex := 6, attributes := #[] }, { accessFlags := 4122, nameIndex := 15, descriptorIndex := 16, attributes := #[] }])
  fields := #[{ name := "PENDING", type := (.object "com/example/clock3600/clock3600/queue/TaskState"), accessFlags := 16409, slot := 0, constantValue := 0 }, { name := "READY", type := (.object "com/example/clock3600/clock3600/queue/TaskState"), accessFlags := 16409, slot := 1, constantValue := 0 }, { name := "LEASED", type := (.object "com/example/clock3600/clock3600/queue/TaskState"), accessFlags := 16409, slot := 2, constantValue := 0 }, { name := "$VALUES", type := (.array (.object "com/example/clock3600/clock3600/queue/TaskState")), accessFlags := 4122, slot := 3, constantValue := 0 }]
  methods := #[]
  instanceTypes := #[(.object "java/lang/String"), .int, .int]
  staticTypes := #[(.object "com/example/clock3600/clock3600/queue/TaskState"), (.object "com/example/clock3600/clock3600/queue/TaskState"), (.object "com/example/clock3600/clock3600/queue/TaskState"), (.array (.object "com/example/clock3600/clock3600/queue/TaskState"))]
  resolved := Array.replicate 51 none
  statics := some 1 }

def pool11 : Array CpInfo := pool [(6, .class_ 8), (1, u "java/lang/Object"), (0, u "<init>"), (0, u "()V"), (1, .class_ 14), (1, u "java/lang/StringUTF16"), (31, u "$assertionsDisabled"), (0, u "Z"), (13, u "HI_BYTE_SHIFT"), (0, u "I"), (2, u "LO_BYTE_SHIFT"), (49, .methodref 12 116), (0, .nameAndType 117 118), (0, u "compress"), (0, u "([CI[BII)I"), (3, u "([CII)[B"), (138, u "coderFromArrayLen"), (0, u "([BI)B"), (106, .class_ 371), (1, u "java/lang/StringUTF16$LinesSpliterator"), (58, u "MAX_LENGTH"), (196, .class_ 628), (0, u "java/lang/StringUTF16$CodePointsSpliterator"), (0, .class_ 630), (0, u "java/lang/StringUTF16$CharsSpliterator")] 4

def k11m0 : Method := { name := "<init>", desc := "()V", sig := { parameters := [], returnType := none }, accessFlags := 0, code := none }
def k11c1 : Code := { maxStack := 2, maxLocals := 2, code := jdk_52_method_15_code, exceptionTable := #[], attributes := #[] }
def k11m1 : Method := { name := "coderFromArrayLen", desc := "([BI)B", sig := { parameters := [(.array .byte), .int], returnType := some .byte }, accessFlags := 8, code := some k11c1 }
def k11c2 : Code := { maxStack := 5, maxLocals := 6, code := jdk_52_method_16_code, exceptionTable := #[], attributes := #[] }
def k11m2 : Method := { name := "compress", desc := "([CII)[B", sig := { parameters := [(.array .char), .int, .int], returnType := some (.array .byte) }, accessFlags := 9, code := some k11c2 }
def k11c3 : Code := { maxStack := 3, maxLocals := 7, code := jdk_52_method_21_code, exceptionTable := #[], attributes := #[] }
def k11m3 : Method := { name := "compress", desc := "([CI[BII)I", sig := { parameters := [(.array .char), .int, (.array .byte), .int, .int], returnType := some .int }, accessFlags := 9, code := some k11c3 }
/-- java/lang/StringUTF16 -/
def k11 : Class := { plain "java/lang/StringUTF16" (some 0) with
  accessFlags := 48
  interfaces := #[]
  cf := some (fileOf pool11 12 #[.nestMembers #[627, 629, 369]] #[{ accessFlags := 0, nameIndex := 9, descriptorIndex := 10, attributes := #[] }, { accessFlags := 8, nameIndex := 261, descriptorIndex := 262, attributes := #[] }, { accessFlags := 9, nameIndex := 117, descriptorIndex := 122, attributes := #[] }, { accessFlags := 9, nameIndex := 117, descriptorIndex := 118, attributes := #[] }] 48 6 #[] #[{ accessFlags := 26, nameIndex := 61, descriptorIndex := 62, attributes := #[] }, { accessFlags := 26, nameIndex := 65, descriptorIndex := 62, attributes := #[] }, { accessFlags := 24, nameIndex := 430, descriptorIndex := 62, attributes := #[] }, { accessFlags := 4120, nameIndex := 46, descriptorIndex := 47, attributes := #[] }])
  fields := #[{ name := "HI_BYTE_SHIFT", type := .int, accessFlags := 26, slot := 0, constantValue := 0 }, { name := "LO_BYTE_SHIFT", type := .int, accessFlags := 26, slot := 1, constantValue := 0 }, { name := "MAX_LENGTH", type := .int, accessFlags := 24, slot := 2, constantValue := 0 }, { name := "$assertionsDisabled", type := .boolean, accessFlags := 4120, slot := 3, constantValue := 0 }]
  methods := #[k11m0, k11m1, k11m2, k11m3]
  instanceTypes := #[]
  staticTypes := #[.int, .int, .int, .boolean]
  resolved := Array.replicate 635 none
  statics := none }

def pool12 : Array CpInfo := pool [(4, .class_ 6), (1, u "java/lang/Object"), (0, u "<init>"), (0, u "()V"), (5, .class_ 16), (1, u "java/lang/StringLatin1"), (104, u "$assertionsDisabled"), (0, u "Z"), (98, .class_ 223), (1, u "java/lang/StringLatin1$LinesSpliterator"), (57, u "equals"), (0, u "([B[B)Z"), (107, .class_ 391), (0, u "java/lang/StringLatin1$CharsSpliterator")] 3

def k12m0 : Method := { name := "<init>", desc := "()V", sig := { parameters := [], returnType := none }, accessFlags := 0, code := none }
def k12c1 : Code := { maxStack := 3, maxLocals := 3, code := jdk_43_method_13_code, exceptionTable := #[], attributes := #[] }
def k12m1 : Method := { name := "equals", desc := "([B[B)Z", sig := { parameters := [(.array .byte), (.array .byte)], returnType := some .boolean }, accessFlags := 9, code := some k12c1 }
/-- java/lang/StringLatin1 -/
def k12 : Class := { plain "java/lang/StringLatin1" (some 0) with
  accessFlags := 48
  interfaces := #[]
  cf := some (fileOf pool12 14 #[.nestMembers #[390, 221]] #[{ accessFlags := 0, nameIndex := 7, descriptorIndex := 8, attributes := #[] }, { accessFlags := 9, nameIndex := 281, descriptorIndex := 282, attributes := #[] }] 48 4 #[] #[{ accessFlags := 4120, nameIndex := 121, descriptorIndex := 122, attributes := #[] }])
  fields := #[{ name := "$assertionsDisabled", type := .boolean, accessFlags := 4120, slot := 0, constantValue := 0 }]
  methods := #[k12m0, k12m1]
  instanceTypes := #[]
  staticTypes := #[.boolean]
  resolved := Array.replicate 395 none
  statics := none }

def pool13 : Array CpInfo := pool [(2, .class_ 4), (1, u "java/lang/Object"), (0, u "<init>"), (0, u "()V"), (17, .class_ 26), (1, u "jdk/internal/util/Preconditions"), (28, .class_ 56), (0, u "jdk/internal/util/Preconditions$4"), (57, .class_ 115), (0, u "jdk/internal/util/Preconditions$1"), (7, u "SIOOBE_FORMATTER"), (0, u "Ljava/util/function/BiFunction;"), (0, .class_ 126), (0, u "jdk/internal/util/Preconditions$2"), (3, u "AIOOBE_FORMATTER"), (0, .class_ 132), (0, u "jdk/internal/util/Preconditions$3"), (3, u "IOOBE_FORMATTER")] 57

def k13m0 : Method := { name := "<init>", desc := "()V", sig := { parameters := [], returnType := none }, accessFlags := 1, code := none }
/-- jdk/internal/util/Preconditions -/
def k13 : Class := { plain "jdk/internal/util/Preconditions" (some 0) with
  accessFlags := 33
  interfaces := #[]
  cf := some (fileOf pool13 24 #[.nestMembers #[55, 131, 125, 114]] #[{ accessFlags := 1, nameIndex := 5, descriptorIndex := 6, attributes := #[] }] 33 2 #[] #[{ accessFlags := 25, nameIndex := 123, descriptorIndex := 124, attributes := #[] }, { accessFlags := 25, nameIndex := 130, descriptorIndex := 124, attributes := #[] }, { accessFlags := 25, nameIndex := 136, descriptorIndex := 124, attributes := #[] }])
  fields := #[{ name := "SIOOBE_FORMATTER", type := (.object "java/util/function/BiFunction"), accessFlags := 25, slot := 0, constantValue := 0 }, { name := "AIOOBE_FORMATTER", type := (.object "java/util/function/BiFunction"), accessFlags := 25, slot := 1, constantValue := 0 }, { name := "IOOBE_FORMATTER", type := (.object "java/util/function/BiFunction"), accessFlags := 25, slot := 2, constantValue := 0 }]
  methods := #[k13m0]
  instanceTypes := #[]
  staticTypes := #[(.object "java/util/function/BiFunction"), (.object "java/util/function/BiFunction"), (.object "java/util/function/BiFunction")]
  resolved := Array.replicate 194 none
  statics := some 2 }

def pool14 : Array CpInfo := pool [(9, u "<init>"), (6, .class_ 18), (1, u "java/lang/Object"), (0, u "()V"), (1, .class_ 23), (1, u "jdk/internal/util/ArraysSupport"), (0, u "LOG2_ARRAY_LONG_INDEX_SCALE"), (0, u "I"), (2, u "U"), (0, u "Ljdk/internal/misc/Unsafe;"), (8, u "BIG_ENDIAN"), (0, u "Z"), (8, u "LOG2_BYTE_BIT_SIZE"), (4, u "LOG2_ARRAY_INT_INDEX_SCALE"), (54, u "JLA"), (0, u "Ljdk/internal/access/JavaLangAccess;"), (11, u "LOG2_ARRAY_BOOLEAN_INDEX_SCALE"), (9, u "LOG2_ARRAY_BYTE_INDEX_SCALE"), (5, u "LOG2_ARRAY_CHAR_INDEX_SCALE"), (5, u "LOG2_ARRAY_SHORT_INDEX_SCALE"), (18, u "LOG2_ARRAY_FLOAT_INDEX_SCALE"), (24, u "LOG2_ARRAY_DOUBLE_INDEX_SCALE"), (89, u "T_BOOLEAN"), (2, u "T_CHAR"), (1, u "T_FLOAT"), (1, u "T_DOUBLE"), (1, u "T_BYTE"), (1, u "T_SHORT"), (1, u "T_INT"), (1, u "T_LONG"), (1, u "SOFT_MAX_ARRAY_LENGTH")] 83

def k14m0 : Method := { name := "<init>", desc := "()V", sig := { parameters := [], returnType := none }, accessFlags := 2, code := none }
/-- jdk/internal/util/ArraysSupport -/
def k14 : Class := { plain "jdk/internal/util/ArraysSupport" (some 0) with
  accessFlags := 33
  interfaces := #[]
  cf := some (fileOf pool14 21 #[] #[{ accessFlags := 2, nameIndex := 9, descriptorIndex := 19, attributes := #[] }] 33 16 #[] #[{ accessFlags := 24, nameIndex := 28, descriptorIndex := 29, attributes := #[] }, { accessFlags := 26, nameIndex := 38, descriptorIndex := 39, attributes := #[] }, { accessFlags := 25, nameIndex := 121, descriptorIndex := 25, attributes := #[] }, { accessFlags := 25, nameIndex := 131, descriptorIndex := 25, attributes := #[] }, { accessFlags := 25, nameIndex := 137, descriptorIndex := 25, attributes := #[] }, { accessFlags := 25, nameIndex := 143, descriptorIndex := 25, attributes := #[] }, { accessFlags := 25, nameIndex := 53, descriptorIndex := 25, attributes := #[] }, { accessFlags := 25, nameIndex := 24, descriptorIndex := 25, attributes := #[] }, { accessFlags := 25, nameIndex := 162, descriptorIndex := 25, attributes := #[] }, { accessFlags := 25, nameIndex := 187, descriptorIndex := 25, attributes := #[] }, { accessFlags := 26, nameIndex := 48, descriptorIndex := 25, attributes := #[] }, { accessFlags := 25, nameIndex := 277, descriptorIndex := 25, attributes := #[] }, { accessFlags := 25, nameIndex := 280, descriptorIndex := 25, attributes := #[] }, { accessFlags := 25, nameIndex := 282, descriptorIndex := 25, attributes := #[] }, { accessFlags := 25, nameIndex := 284, descriptorIndex := 25, attributes := #[] }, { accessFlags := 25, nameIndex := 286, descriptorIndex := 25, attributes := #[] }, { accessFlags := 25, nameIndex := 288, descriptorIndex := 25, attributes := #[] }, { accessFlags := 25, nameIndex := 290, descriptorIndex := 25, attributes := #[] }, { accessFlags := 25, nameIndex := 292, descriptorIndex := 25, attributes := #[] }, { accessFlags := 26, nameIndex := 108, descriptorIndex := 109, attributes := #[] }, { accessFlags := 25, nameIndex := 294, descriptorIndex := 25, attributes := #[] }])
  fields := #[{ name := "U", type := (.object "jdk/internal/misc/Unsafe"), accessFlags := 24, slot := 0, constantValue := 0 }, { name := "BIG_ENDIAN", type := .boolean, accessFlags := 26, slot := 1, constantValue := 0 }, { name := "LOG2_ARRAY_BOOLEAN_INDEX_SCALE", type := .int, accessFlags := 25, slot := 2, constantValue := 0 }, { name := "LOG2_ARRAY_BYTE_INDEX_SCALE", type := .int, accessFlags := 25, slot := 3, constantValue := 0 }, { name := "LOG2_ARRAY_CHAR_INDEX_SCALE", type := .int, accessFlags := 25, slot := 4, constantValue := 0 }, { name := "LOG2_ARRAY_SHORT_INDEX_SCALE", type := .int, accessFlags := 25, slot := 5, constantValue := 0 }, { name := "LOG2_ARRAY_INT_INDEX_SCALE", type := .int, accessFlags := 25, slot := 6, constantValue := 0 }, { name := "LOG2_ARRAY_LONG_INDEX_SCALE", type := .int, accessFlags := 25, slot := 7, constantValue := 0 }, { name := "LOG2_ARRAY_FLOAT_INDEX_SCALE", type := .int, accessFlags := 25, slot := 8, constantValue := 0 }, { name := "LOG2_ARRAY_DOUBLE_INDEX_SCALE", type := .int, accessFlags := 25, slot := 9, constantValue := 0 }, { name := "LOG2_BYTE_BIT_SIZE", type := .int, accessFlags := 26, slot := 10, constantValue := 0 }, { name := "T_BOOLEAN", type := .int, accessFlags := 25, slot := 11, constantValue := 0 }, { name := "T_CHAR", type := .int, accessFlags := 25, slot := 12, constantValue := 0 }, { name := "T_FLOAT", type := .int, accessFlags := 25, slot := 13, constantValue := 0 }, { name := "T_DOUBLE", type := .int, accessFlags := 25, slot := 14, constantValue := 0 }, { name := "T_BYTE", type := .int, accessFlags := 25, slot := 15, constantValue := 0 }, { name := "T_SHORT", type := .int, accessFlags := 25, slot := 16, constantValue := 0 }, { name := "T_INT", type := .int, accessFlags := 25, slot := 17, constantValue := 0 }, { name := "T_LONG", type := .int, accessFlags := 25, slot := 18, constantValue := 0 }, { name := "JLA", type := (.object "jdk/internal/access/JavaLangAccess"), accessFlags := 26, slot := 19, constantValue := 0 }, { name := "SOFT_MAX_ARRAY_LENGTH", type := .int, accessFlags := 25, slot := 20, constantValue := 0 }]
  methods := #[k14m0]
  instanceTypes := #[]
  staticTypes := #[(.object "jdk/internal/misc/Unsafe"), .boolean, .int, .int, .int, .int, .int, .int, .int, .int, .int, .int, .int, .int, .int, .int, .int, .int, .int, (.object "jdk/internal/access/JavaLangAccess"), .int]
  resolved := Array.replicate 378 none
  statics := none }

def pool15 : Array CpInfo := pool [(1, u "java/lang/Cloneable"), (0, .class_ 1), (0, u "java/lang/Object"), (0, .class_ 3)] 3

/-- java/lang/Cloneable -/
def k15 : Class := { plain "java/lang/Cloneable" (some 0) with
  accessFlags := 1537
  interfaces := #[]
  cf := some (fileOf pool15 2 #[] #[] 1537 4 #[] #[])
  fields := #[]
  methods := #[]
  instanceTypes := #[]
  staticTypes := #[]
  resolved := Array.replicate 8 none
  statics := none }

/-- the primitive byte -/
def k16 : Class := { plain "byte" none with kind := .primitive 'B', accessFlags := 0x411 }
/-- [B -/
def k17 : Class := { plain "[B" (some 0) with kind := .array 16 .byte, interfaces := #[15, 2], accessFlags := 1041 }

/-- the primitive char -/
def k18 : Class := { plain "char" none with kind := .primitive 'C', accessFlags := 0x411 }
/-- [C -/
def k19 : Class := { plain "[C" (some 0) with kind := .array 18 .char, interfaces := #[15, 2], accessFlags := 1041 }

/-- the primitive int -/
def k20 : Class := { plain "int" none with kind := .primitive 'I', accessFlags := 0x411 }
/-- [I -/
def k21 : Class := { plain "[I" (some 0) with kind := .array 20 .int, interfaces := #[15, 2], accessFlags := 1041 }

def heap : Heap := #[{ cls := 7, slots := #[.long 0, .int 1, .null, .int 0, .null, .int 0, .int 0], vm := .statics 7 },
  { cls := 10, slots := #[.ref 3, .ref 4, .ref 5, .null], vm := .statics 10 },
  { cls := 13, slots := #[.null, .null, .null], vm := .statics 13 },
  { cls := 10, slots := #[.null, .int 0, .int 0], vm := .none },
  { cls := 10, slots := #[.null, .int 1, .int 0], vm := .none },
  { cls := 10, slots := #[.null, .int 2, .int 0], vm := .none }]
def classes : Array Class := #[k0, k1, k2, k3, k4, k5, k6, k7, k8, k9, k10, k11, k12, k13, k14, k15, k16, k17, k18, k19, k20, k21]
def interned : List (Array UInt16 × Addr) := []
def slotsUsed : Nat := 23
def theMethod : MethodId := ⟨1, 4⟩
def args0 : Array Value := #[.long 5, .long 6, .long 7, .int 8, .int 9, .int 10]
def aboutOver (below : List Frame) : State where
  vm := { classes := classes, interned := interned.toArray }
  heap := heap
  slotsUsed := slotsUsed
  threads := #[{ frames := .invoking theMethod args0 :: below }]
def below0 : List Frame := [.native { method := ⟨0, 0⟩, args := #[] }]
def about1 : State := aboutOver below0
def p0 : Program := .bare "" "" ""
def e0 : Env := launch0.env 0 0 0
theorem w_frames : about1.frames = Frame.invoking theMethod args0 :: below0 := rfl
set_option maxRecDepth 65536 in
theorem w_args : argsFit about1.vm theMethod args0 = true := by decide +kernel
set_option maxRecDepth 65536 in
theorem w_heap : heapFits about1 = true := by decide +kernel
set_option maxRecDepth 65536 in
theorem w_runnable : about1.curStatus? = some .runnable := by decide +kernel
set_option maxRecDepth 65536 in
theorem w_alone : about1.alone = true := by decide +kernel
set_option maxRecDepth 65536 in
theorem w_named : about1.methodNamed? x = some theMethod := by decide +kernel
set_option maxRecDepth 65536 in
theorem w_hears : about1.hears theMethod below0 = true := by decide +kernel
set_option maxRecDepth 65536 in
theorem w_ripe : about1.ripe theMethod args0 below0 = true := by decide +kernel
theorem w_running : about1.status = .running := rfl
set_option maxRecDepth 65536 in
theorem w_room : about1.hasRoom e0.platform room_1 = true :=
  launch0.hasRoom_least _ room_1 (by decide +kernel) (by decide +kernel) (by decide +kernel) (by decide +kernel) (by decide +kernel) (by decide +kernel)
theorem allAtoms_all (ts : List Jvm.Cond) (a : Array Jvm.Value) (st : Jvm.State) : (allAtoms ts).before a st = ts.all (fun c => c.before a st) := by
  induction ts with
  | nil => rfl
  | cons c t ih =>
    show (Jvm.Cond.and c (allAtoms t)).before a st = _
    rw [Jvm.Cond.before_and, ih, List.all_cons]
def words1 : List Jvm.Cond := Jvm.Cond.code x code maxLocals ret :: tables_1
/-- a 'code' word, met by the world's own term for the bytes: nothing is compared byte by byte -/
theorem code_word {y : MethodName} {bytes : ByteArray} {mx : Nat} {rt : Option FieldType} {a : Array Value} {s : State} {m : MethodId} {meth : Method} {c : Code} (h1 : s.methodNamed? y = some m) (h2 : s.vm.method? m = some meth) (h3 : meth.code = some c) (h4 : c.code = bytes)
    (h5 : (c.maxLocals == mx && c.exceptionTable.isEmpty && decide (c.maxStack ≤ mostOperands) && decide (meth.sig.returnType = rt) && !meth.locks && decide (parseMethodDescriptor y.desc = some meth.sig)) = true) : (Jvm.Cond.code y bytes mx rt).before a s = true := by
  simp only [Bool.and_eq_true, beq_iff_eq, Bool.not_eq_true', decide_eq_true_eq] at h5
  obtain ⟨⟨⟨⟨⟨g1, g2⟩, g3⟩, g4⟩, g5⟩, g6⟩ := h5
  simp [Cond.before, Cond.holds, Cond.value, h1, h2, h3, h4, g1, g2, g3, g4, g5, g6]
def isCode : Jvm.Cond → Bool
  | .code _ _ _ _ => true
  | _ => false
theorem all_split {L : List Jvm.Cond} {P : Jvm.Cond → Bool} (h1 : L.all (fun c => isCode c || P c) = true) (h2 : ∀ c ∈ L.filter isCode, P c = true) : L.all P = true := by
  refine List.all_eq_true.mpr fun c hc => ?_
  have h := List.all_eq_true.mp h1 c hc
  rcases Bool.eq_false_or_eq_true (isCode c) with hi | hi
  · exact h2 c (List.mem_filter.mpr ⟨hc, hi⟩)
  · simpa [hi] using h
set_option maxRecDepth 65536 in
theorem w_c0 : (Jvm.Cond.code x code maxLocals ret).before args0 about1 = true := code_word (m := ⟨1, 4⟩) (meth := k1m4) (c := k1c4) (by decide +kernel) rfl rfl rfl (by decide +kernel)
set_option maxRecDepth 65536 in
theorem w_c1 : (Jvm.Cond.code ({ cls := "com/example/clock3600/clock3600/queue/QueuedTaskEqualsPinLaw", name := "mk", desc := "(III)Ljava/lang/String;" } : Jvm.MethodName) method_2_code (4 : Nat) (Option.some (Jvm.ClassFile.FieldType.object "java/lang/String"))).before args0 about1 = true := code_word (m := ⟨1, 1⟩) (meth := k1m1) (c := k1c1) (by decide +kernel) rfl rfl rfl (by decide +kernel)
set_option maxRecDepth 65536 in
theorem w_c2 : (Jvm.Cond.code ({ cls := "java/lang/String", name := "<init>", desc := "([C)V" } : Jvm.MethodName) jdk_42_method_3_code (2 : Nat) (Option.none : Option Jvm.ClassFile.FieldType)).before args0 about1 = true := code_word (m := ⟨7, 1⟩) (meth := k7m1) (c := k7c1) (by decide +kernel) rfl rfl rfl (by decide +kernel)
set_option maxRecDepth 65536 in
theorem w_c3 : (Jvm.Cond.code ({ cls := "java/lang/String", name := "<init>", desc := "([CIILjava/lang/Void;)V" } : Jvm.MethodName) jdk_42_method_149_code (6 : Nat) (Option.none : Option Jvm.ClassFile.FieldType)).before args0 about1 = true := code_word (m := ⟨7, 3⟩) (meth := k7m3) (c := k7c3) (by decide +kernel) rfl rfl rfl (by decide +kernel)
set_option maxRecDepth 65536 in
theorem w_c4 : (Jvm.Cond.code ({ cls := "java/lang/Object", name := "<init>", desc := "()V" } : Jvm.MethodName) object_method_1_code (1 : Nat) (Option.none : Option Jvm.ClassFile.FieldType)).before args0 about1 = true := code_word (m := ⟨0, 0⟩) (meth := k0m0) (c := k0c0) (by decide +kernel) rfl rfl rfl (by decide +kernel)
set_option maxRecDepth 65536 in
theorem w_c5 : (Jvm.Cond.code ({ cls := "com/example/clock3600/clock3600/queue/QueuedTaskEqualsPinLaw", name := "st", desc := "(I)Lcom/example/clock3600/clock3600/queue/TaskState;" } : Jvm.MethodName) method_4_code (1 : Nat) (Option.some (Jvm.ClassFile.FieldType.object "com/example/clock3600/clock3600/queue/TaskState"))).before args0 about1 = true := code_word (m := ⟨1, 3⟩) (meth := k1m3) (c := k1c3) (by decide +kernel) rfl rfl rfl (by decide +kernel)
set_option maxRecDepth 65536 in
theorem w_c6 : (Jvm.Cond.code ({ cls := "com/example/clock3600/clock3600/queue/QueuedTask", name := "<init>", desc := "(Ljava/lang/String;Ljava/lang/String;JLjava/lang/String;Lcom/example/clock3600/clock3600/queue/TaskState;I)V" } : Jvm.MethodName) prog_16_method_1_code (8 : Nat) (Option.none : Option Jvm.ClassFile.FieldType)).before args0 about1 = true := code_word (m := ⟨8, 0⟩) (meth := k8m0) (c := k8c0) (by decide +kernel) rfl rfl rfl (by decide +kernel)
set_option maxRecDepth 65536 in
theorem w_c7 : (Jvm.Cond.code ({ cls := "com/example/clock3600/clock3600/queue/QueuedTask", name := "equals", desc := "(Ljava/lang/Object;)Z" } : Jvm.MethodName) prog_16_method_8_code (3 : Nat) (Option.some Jvm.ClassFile.FieldType.boolean)).before args0 about1 = true := code_word (m := ⟨8, 1⟩) (meth := k8m1) (c := k8c1) (by decide +kernel) rfl rfl rfl (by decide +kernel)
set_option maxRecDepth 65536 in
theorem w_c8 : (Jvm.Cond.code ({ cls := "java/lang/StringUTF16", name := "compress", desc := "([CII)[B" } : Jvm.MethodName) jdk_52_method_16_code (6 : Nat) (Option.some (Jvm.ClassFile.FieldType.array Jvm.ClassFile.FieldType.byte))).before args0 about1 = true := code_word (m := ⟨11, 2⟩) (meth := k11m2) (c := k11c2) (by decide +kernel) rfl rfl rfl (by decide +kernel)
set_option maxRecDepth 65536 in
theorem w_c9 : (Jvm.Cond.code ({ cls := "java/lang/StringUTF16", name := "compress", desc := "([CI[BII)I" } : Jvm.MethodName) jdk_52_method_21_code (7 : Nat) (Option.some Jvm.ClassFile.FieldType.int)).before args0 about1 = true := code_word (m := ⟨11, 3⟩) (meth := k11m3) (c := k11c3) (by decide +kernel) rfl rfl rfl (by decide +kernel)
set_option maxRecDepth 65536 in
theorem w_c10 : (Jvm.Cond.code ({ cls := "java/lang/StringUTF16", name := "coderFromArrayLen", desc := "([BI)B" } : Jvm.MethodName) jdk_52_method_15_code (2 : Nat) (Option.some Jvm.ClassFile.FieldType.byte)).before args0 about1 = true := code_word (m := ⟨11, 1⟩) (meth := k11m1) (c := k11c1) (by decide +kernel) rfl rfl rfl (by decide +kernel)
set_option maxRecDepth 65536 in
theorem w_c11 : (Jvm.Cond.code ({ cls := "com/example/clock3600/clock3600/queue/QueuedTaskEqualsPinLaw", name := "same", desc := "(IIIIII)Z" } : Jvm.MethodName) method_3_code (6 : Nat) (Option.some Jvm.ClassFile.FieldType.boolean)).before args0 about1 = true := code_word (m := ⟨1, 2⟩) (meth := k1m2) (c := k1c2) (by decide +kernel) rfl rfl rfl (by decide +kernel)
set_option maxRecDepth 65536 in
theorem w_c12 : (Jvm.Cond.code ({ cls := "java/lang/String", name := "equals", desc := "(Ljava/lang/Object;)Z" } : Jvm.MethodName) jdk_42_method_66_code (3 : Nat) (Option.some Jvm.ClassFile.FieldType.boolean)).before args0 about1 = true := code_word (m := ⟨7, 2⟩) (meth := k7m2) (c := k7c2) (by decide +kernel) rfl rfl rfl (by decide +kernel)
set_option maxRecDepth 65536 in
theorem w_c13 : (Jvm.Cond.code ({ cls := "java/lang/StringLatin1", name := "equals", desc := "([B[B)Z" } : Jvm.MethodName) jdk_43_method_13_code (3 : Nat) (Option.some Jvm.ClassFile.FieldType.boolean)).before args0 about1 = true := code_word (m := ⟨12, 1⟩) (meth := k12m1) (c := k12c1) (by decide +kernel) rfl rfl rfl (by decide +kernel)
def codes1 : List Jvm.Cond := [Jvm.Cond.code x code maxLocals ret, Jvm.Cond.code ({ cls := "com/example/clock3600/clock3600/queue/QueuedTaskEqualsPinLaw", name := "mk", desc := "(III)Ljava/lang/String;" } : Jvm.MethodName) method_2_code (4 : Nat) (Option.some (Jvm.ClassFile.FieldType.object "java/lang/String")), Jvm.Cond.code ({ cls := "java/lang/String", name := "<init>", desc := "([C)V" } : Jvm.MethodName) jdk_42_method_3_code (2 : Nat) (Option.none : Option Jvm.ClassFile.FieldType), Jvm.Cond.code ({ cls := "java/lang/String", name := "<init>", desc := "([CIILjava/lang/Void;)V" } : Jvm.MethodName) jdk_42_method_149_code (6 : Nat) (Option.none : Option Jvm.ClassFile.FieldType), Jvm.Cond.code ({ cls := "java/lang/Object", name := "<init>", desc := "()V" } : Jvm.MethodName) object_method_1_code (1 : Nat) (Option.none : Option Jvm.ClassFile.FieldType), Jvm.Cond.code ({ cls := "com/example/clock3600/clock3600/queue/QueuedTaskEqualsPinLaw", name := "st", desc := "(I)Lcom/example/clock3600/clock3600/queue/TaskState;" } : Jvm.MethodName) method_4_code (1 : Nat) (Option.some (Jvm.ClassFile.FieldType.object "com/example/clock3600/clock3600/queue/TaskState")), Jvm.Cond.code ({ cls := "com/example/clock3600/clock3600/queue/QueuedTask", name := "<init>", desc := "(Ljava/lang/String;Ljava/lang/String;JLjava/lang/String;Lcom/example/clock3600/clock3600/queue/TaskState;I)V" } : Jvm.MethodName) prog_16_method_1_code (8 : Nat) (Option.none : Option Jvm.ClassFile.FieldType), Jvm.Cond.code ({ cls := "com/example/clock3600/clock3600/queue/QueuedTask", name := "equals", desc := "(Ljava/lang/Object;)Z" } : Jvm.MethodName) prog_16_method_8_code (3 : Nat) (Option.some Jvm.ClassFile.FieldType.boolean), Jvm.Cond.code ({ cls := "java/lang/StringUTF16", name := "compress", desc := "([CII)[B" } : Jvm.MethodName) jdk_52_method_16_code (6 : Nat) (Option.some (Jvm.ClassFile.FieldType.array Jvm.ClassFile.FieldType.byte)), Jvm.Cond.code ({ cls := "java/lang/StringUTF16", name := "compress", desc := "([CI[BII)I" } : Jvm.MethodName) jdk_52_method_21_code (7 : Nat) (Option.some Jvm.ClassFile.FieldType.int), Jvm.Cond.code ({ cls := "java/lang/StringUTF16", name := "coderFromArrayLen", desc := "([BI)B" } : Jvm.MethodName) jdk_52_method_15_code (2 : Nat) (Option.some Jvm.ClassFile.FieldType.byte), Jvm.Cond.code ({ cls := "com/example/clock3600/clock3600/queue/QueuedTaskEqualsPinLaw", name := "same", desc := "(IIIIII)Z" } : Jvm.MethodName) method_3_code (6 : Nat) (Option.some Jvm.ClassFile.FieldType.boolean), Jvm.Cond.code ({ cls := "java/lang/String", name := "equals", desc := "(Ljava/lang/Object;)Z" } : Jvm.MethodName) jdk_42_method_66_code (3 : Nat) (Option.some Jvm.ClassFile.FieldType.boolean), Jvm.Cond.code ({ cls := "java/lang/StringLatin1", name := "equals", desc := "([B[B)Z" } : Jvm.MethodName) jdk_43_method_13_code (3 : Nat) (Option.some Jvm.ClassFile.FieldType.boolean)]
set_option maxRecDepth 65536 in
theorem codes_eq : words1.filter isCode = codes1 := rfl
theorem w_codes : ∀ c ∈ words1.filter isCode, c.before args0 about1 = true := by
  rw [codes_eq]
  intro c hc
  simp only [codes1, List.mem_cons, List.not_mem_nil, or_false] at hc
  rcases hc with rfl | rfl | rfl | rfl | rfl | rfl | rfl | rfl | rfl | rfl | rfl | rfl | rfl | rfl
  · exact w_c0
  · exact w_c1
  · exact w_c2
  · exact w_c3
  · exact w_c4
  · exact w_c5
  · exact w_c6
  · exact w_c7
  · exact w_c8
  · exact w_c9
  · exact w_c10
  · exact w_c11
  · exact w_c12
  · exact w_c13
set_option maxRecDepth 65536 in
theorem w_t1 : (words1.take 24).all (fun c => isCode c || c.before args0 about1) = true := by decide +kernel
set_option maxRecDepth 65536 in
theorem w_t2 : ((words1.drop 24).take 24).all (fun c => isCode c || c.before args0 about1) = true := by decide +kernel
set_option maxRecDepth 65536 in
theorem w_t3 : (((words1.drop 24).drop 24).take 24).all (fun c => isCode c || c.before args0 about1) = true := by decide +kernel
set_option maxRecDepth 65536 in
theorem w_t4 : (((words1.drop 24).drop 24).drop 24).all (fun c => isCode c || c.before args0 about1) = true := by decide +kernel
theorem w_tables : (allAtoms (Jvm.Cond.code x code maxLocals ret :: tables_1)).before args0 about1 = true := by
  rw [allAtoms_all]
  show words1.all (fun c => c.before args0 about1) = true
  refine all_split ?_ w_codes
  rw [← List.take_append_drop 24 words1, List.all_append, w_t1, ← List.take_append_drop 24 (words1.drop 24), List.all_append, w_t2, ← List.take_append_drop 24 ((words1.drop 24).drop 24), List.all_append, w_t3, w_t4]
  rfl
set_option maxRecDepth 65536 in
theorem w_rest : rest_1_c.before args0 about1 = true := by decide +kernel
set_option maxRecDepth 65536 in
theorem w_case : (Jvm.Cond.and given_1 narrow_1).before args0 about1 = true := by decide +kernel
set_option maxRecDepth 65536 in
theorem w_consts : constsHeld consts_1 about1 := Jvm.Lit.constsHeldB_iff.mp (by decide +kernel)
theorem w_applies : (headSpec (Jvm.Cond.code x code maxLocals ret :: tables_1) room_1).applies x e0.platform about1 = true :=
  (Spec.applies_iff w_frames).mpr ⟨w_running, w_runnable, w_alone, w_named, w_hears, w_ripe, w_room, w_tables⟩
theorem atStart : AtStart classFile x code maxLocals ret World_1 tables_1 room_1 Calls_1 rest_1 Pre_1 launch0 p0 e0 about1 theMethod args0 below0 :=
  ⟨lists_1, trivial, launch0.admits_env _ _ _, launch0.least_env, fairChoices_fair.cas, fairChoices_fair.clock, w_frames, w_args, w_heap, w_applies, ⟨w_consts, trivial⟩, w_rest, w_case⟩
end start1
theorem witness_1 : WitnessClaimed_1 := ⟨start1.p0, start1.e0, start1.about1, start1.theMethod, start1.args0, start1.below0, start1.atStart⟩
end Jvm.Pilot.@@N@@
