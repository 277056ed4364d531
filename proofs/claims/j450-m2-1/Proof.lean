import JvmDerived
import JvmDerived.Pilot.@@N@@Statement
import JvmDerived.Pilot.@@N@@Code
set_option linter.unusedVariables false
set_option linter.unusedSimpArgs false

namespace Jvm.RoadKit
open Sem ClassFile Op Lib Jvm.Stand Jvm.Free Jvm.LawKit
section New
variable {p : Program} {l : Launch} {e : Env} {R : Room} {s : State} {m : MethodId} {args : Array Value} {below : List Frame} {meth : Method} {c : Code} {T : State} {locs : List Loc} {cells slots : Nat}
theorem own_retI (X : Stand p l e R s m args below meth c T locs cells slots) (hx : p.tables.exec = Jvm.exec) {pc : Nat} {Ls : Array Slot} {z : Int32} {rest : List Value} (hret : meth.sig.returnType = some .int) (hd : decode c.code pc = .ok (.ireturn, 1)) {fs : List Frame}
    (hl : ∀ (f : JFrame) (acts : List Action), f.method = m → f.locked = none → f.entered = [] → (doReturn e (T.setTop f) acts (some (.int z))).1 = T.setFrames fs) : Steps p.tables e below (T.setTop (mkF m pc Ls (.int z :: rest))) (T.setFrames fs) :=
  retOut X hx (t := .int) (w := .int z) (i := .ireturn) hret rfl (Or.inl ⟨rfl, Or.inl rfl, z, rfl⟩) hd hl
end New
end Jvm.RoadKit

/- laws to paste: Road.backV, Road.eqW, Road.codOf (cut by pick.py; bodies as the Statement names them) -/
namespace Jvm.Pilot.@@N@@
namespace StrChars
open Jvm Sem ClassFile Op Lib Jvm.Stand Jvm.Free.XT Jvm.Free.ALB Jvm.Free.JM Jvm.Free
open Jvm.Lib.Cold (StaticIs)
/-- a char array whose places are chars -/
def Ch (a : Addr) (A : Cell) (U : State) : Prop := Arr .char a A U ∧ Typed .char A
theorem Ch.mv {a : Addr} {A : Cell} {U U' : State} (h : Ch a A U) (hal : U.vm.Alike U'.vm) (hh : U'.heap = U.heap) : Ch a A U' := ⟨h.1.mv hal hh, h.2⟩
theorem Ch.keep {a : Addr} {A : Cell} {U U' : State} (h : Ch a A U) (hal : U.vm.Alike U'.vm) (hk : U'.heap[a]? = some A) : Ch a A U' := ⟨h.1.keep hal hk, h.2⟩
/-- what place i of a char[]'s cell holds -/
def cv (A : Cell) (i : Nat) : Int32 := match A.slots[i]? with | some (.int x) => x | _ => 0
theorem Ch.get {a : Addr} {A : Cell} {U : State} (h : Ch a A U) {i : Nat} (hi : i < A.slots.size) : A.slots[i]? = some (.int (cv A i)) := by
  have e := Array.getElem?_eq_getElem hi
  have f := h.2 i _ e
  unfold cv; rw [e]
  generalize A.slots[i] = v at f
  cases v <;> simp [fits] at f ⊢
/-- the byte that i2b leaves of a char -/
def lo8 (x : Int32) : Int32 := x.toInt8.toInt32
theorem fits_lo8 (y : Int32) : fits .byte (.int (lo8 y)) = true := by
  have h1 := y.toInt8.le_toInt
  have h2 := y.toInt8.toInt_lt
  simp only [lo8, fits, Bool.and_eq_true, decide_eq_true_eq, Int32.le_iff_toInt_le, Int8.toInt_toInt32, show (-128 : Int32).toInt = -128 from by decide, show (127 : Int32).toInt = 127 from by decide]
  omega
/-- A' is A but that each place j of lo .. hi - 1 holds f j -/
def Laid (A A' : Cell) (lo hi : Nat) (f : Nat → Value) : Prop := A'.cls = A.cls ∧ A'.vm = A.vm ∧ A'.slots.size = A.slots.size ∧ ∀ i, A'.slots[i]? = if lo ≤ i ∧ i < hi then some (f i) else A.slots[i]?
theorem Laid.zero (A : Cell) (lo : Nat) (f : Nat → Value) : Laid A A lo (lo + 0) f := ⟨rfl, rfl, rfl, fun i => by rw [if_neg (by omega)]⟩
theorem Laid.step {A Ak : Cell} {lo k : Nat} {f : Nat → Value} {v : Value} (h : Laid A Ak lo k f) (hlo : lo ≤ k) (hk : k < Ak.slots.size) (hv : v = f k) : Laid A (Ak.setSlot k v) lo (k + 1) f := by
  refine ⟨h.1, h.2.1, by simpa [Cell.setSlot] using h.2.2.1, fun i => ?_⟩
  by_cases e : k = i
  · subst e; rw [Cell.slots_setSlot_self v hk, if_pos (by omega), hv]
  · rw [Cell.slots_setSlot_ne v e, h.2.2.2 i]
    by_cases q : lo ≤ i ∧ i < k
    · rw [if_pos q, if_pos (by omega)]
    · rw [if_neg q, if_neg (by omega)]
def U16 : String := "java/lang/StringUTF16"
namespace Cmp5
def yN : MethodName := ⟨"java/lang/StringUTF16", "compress", "([CI[BII)I"⟩
abbrev yB : ByteArray := jdk_52_method_21_code
theorem d0 : decode yB 0 = .ok (.iconst 0, 1) := by decide +kernel
theorem d1 : decode yB 1 = .ok (.istore 5, 2) := by decide +kernel
theorem d3 : decode yB 3 = .ok (.iload 5, 2) := by decide +kernel
theorem d5 : decode yB 5 = .ok (.iload 4, 2) := by decide +kernel
theorem d7 : decode yB 7 = .ok (.if_icmp (.ge) 37, 3) := by decide +kernel
theorem d10 : decode yB 10 = .ok (.aload_n 0, 1) := by decide +kernel
theorem d11 : decode yB 11 = .ok (.iload_n 1, 1) := by decide +kernel
theorem d12 : decode yB 12 = .ok (.caload, 1) := by decide +kernel
theorem d13 : decode yB 13 = .ok (.istore 6, 2) := by decide +kernel
theorem d15 : decode yB 15 = .ok (.iload 6, 2) := by decide +kernel
theorem d17 : decode yB 17 = .ok (.sipush 255, 3) := by decide +kernel
theorem d20 : decode yB 20 = .ok (.if_icmp (.le) 6, 3) := by decide +kernel
theorem d26 : decode yB 26 = .ok (.aload_n 2, 1) := by decide +kernel
theorem d27 : decode yB 27 = .ok (.iload_n 3, 1) := by decide +kernel
theorem d28 : decode yB 28 = .ok (.iload 6, 2) := by decide +kernel
theorem d30 : decode yB 30 = .ok (.i2b, 1) := by decide +kernel
theorem d31 : decode yB 31 = .ok (.bastore, 1) := by decide +kernel
theorem d32 : decode yB 32 = .ok (.iinc 1 1, 3) := by decide +kernel
theorem d35 : decode yB 35 = .ok (.iinc 3 1, 3) := by decide +kernel
theorem d38 : decode yB 38 = .ok (.iinc 5 1, 3) := by decide +kernel
theorem d41 : decode yB 41 = .ok (.goto (-38), 3) := by decide +kernel
theorem d44 : decode yB 44 = .ok (.iload 4, 2) := by decide +kernel
theorem d46 : decode yB 46 = .ok (.ireturn, 1) := by decide +kernel
def site : List Cond := []
def tab : Cond := tabOf yN yB 7 (some .int) site
def P (b : Addr) (A : Cell) (d : Addr) (B : Cell) (o q len : Nat) (args : Array Value) (s : State) : Prop := args = #[.ref b, .int (Int32.ofNat o), .ref d, .int (Int32.ofNat q), .int (Int32.ofNat len)] ∧ Ch b A s ∧ Arr .byte d B s ∧ b ≠ d ∧ o + len ≤ A.slots.size ∧ q + len ≤ B.slots.size ∧ ∀ i, i < len → ¬ 255 < cv A (o + i)
def E (b : Addr) (A : Cell) (d : Addr) (B : Cell) (o q len : Nat) (r : Option Value) (s u : State) : Prop := r = some (.int (Int32.ofNat len)) ∧ ∃ B', Put d B' s u ∧ Laid B B' q (q + len) (fun j => Value.int (lo8 (cv A (o + (j - q)))))
/-- no char of the range above 255: len; the places written hold each char's low byte -/
theorem law (l : Launch) (b : Addr) (A : Cell) (d : Addr) (B : Cell) (o q len : Nat) : Law l yN 5 5 0 0 yB 7 (some .int) site (P b A d B o q len) (E b A d B o q len) (copyLocs d q len) 0 0 := by
  refine Law.of_walk (plainFor_of_name (by decide +kernel)) (by decide +kernel) (by decide +kernel) (by decide) (fun _ _ h => by rw [h.1]; rfl) (fun _ U U' hal hh h => ⟨h.1, h.2.1.mv hal hh, h.2.2.1.mv hal hh, h.2.2.2⟩) (fun r U U' V V' h1 hal h2 h => ⟨h.1, h.2.elim fun B' q => ⟨B', q.1.mv h1 h2, q.2⟩⟩) ?_
  intro p e s m args below meth c s₁ X0 hexec hbytes hml hret hlk hnm hown hh0 W hP
  obtain ⟨rfl, hA, hB, hne, l1, l2, hp⟩ := hP
  have c1 : Steps p.tables e below (s₁.setTop (entryFrame m #[.ref b, .int (Int32.ofNat o), .ref d, .int (Int32.ofNat q), .int (Int32.ofNat len)] 7)) (s₁.setTop (mkF m 0 #[.val (.ref b), .val (.int (Int32.ofNat o)), .val (.ref d), .val (.int (Int32.ofNat q)), .val (.int (Int32.ofNat len)), .unset, .unset] [])) := entry rfl
  have hA0 := hA.1.mv X0.warmed.alike hh0
  have hB0 := hB.mv X0.warmed.alike hh0
  have a31 := hA.1.2.2.2
  have c2 : Steps p.tables e below (s₁.setTop (entryFrame m #[.ref b, .int (Int32.ofNat o), .ref d, .int (Int32.ofNat q), .int (Int32.ofNat len)] 7)) (s₁.setTop (mkF m 3 #[.val (.ref b), .val (.int (Int32.ofNat o)), .val (.ref d), .val (.int (Int32.ofNat q)), .val (.int (Int32.ofNat len)), .val (.int 0), .unset] [])) := c1.trans (by
    refine iconstV X0.here hexec rfl 0 (hb hbytes d0) (by decide) ?_
    refine XS.istore X0.here hexec rfl (hb hbytes d1) rfl rfl ?_
    exact Steps.refl _)
  have loop : ∀ (r i : Nat), i + r = len → ∀ (z : Slot), (z = .unset ∨ ∃ w, z = .val w ∧ w.category = 1) → ∀ (Tl : State) (Bk : Cell), Stand p l e { frames := 0, locals := 0, cells := 0, slots := 0 } s m #[.ref b, .int (Int32.ofNat o), .ref d, .int (Int32.ofNat q), .int (Int32.ofNat len)] below meth c Tl ([] ++ copyLocs d q i) 0 0 → Put d Bk s₁ Tl → Laid B Bk q (q + i) (fun j => Value.int (lo8 (cv A (o + (j - q))))) →
      Steps p.tables e below (s₁.setTop (entryFrame m #[.ref b, .int (Int32.ofNat o), .ref d, .int (Int32.ofNat q), .int (Int32.ofNat len)] 7)) (Tl.setTop (mkF m 3 #[.val (.ref b), .val (.int (Int32.ofNat (o + i))), .val (.ref d), .val (.int (Int32.ofNat (q + i))), .val (.int (Int32.ofNat len)), .val (.int (Int32.ofNat i)), z] [])) → ∃ (T' : State) (B' : Cell) (z' : Slot), Stand p l e { frames := 0, locals := 0, cells := 0, slots := 0 } s m #[.ref b, .int (Int32.ofNat o), .ref d, .int (Int32.ofNat q), .int (Int32.ofNat len)] below meth c T' ([] ++ copyLocs d q len) 0 0 ∧ Put d B' s₁ T' ∧ Laid B B' q (q + len) (fun j => Value.int (lo8 (cv A (o + (j - q))))) ∧
      Steps p.tables e below (s₁.setTop (entryFrame m #[.ref b, .int (Int32.ofNat o), .ref d, .int (Int32.ofNat q), .int (Int32.ofNat len)] 7)) (T'.setTop (mkF m 3 #[.val (.ref b), .val (.int (Int32.ofNat (o + len))), .val (.ref d), .val (.int (Int32.ofNat (q + len))), .val (.int (Int32.ofNat len)), .val (.int (Int32.ofNat len)), z'] [])) := by
    intro r
    induction r with
    | zero =>
      intro i hi z hz Tl Bk Xl pl fl cl
      have hil : i = len := by omega
      rw [hil] at Xl fl cl
      exact ⟨Tl, Bk, z, Xl, pl, fl, cl⟩
    | succ r ih =>
      intro i hi z hz Tl Bk Xl pl fl cl
      have all := X0.warmed.alike.symm.trans Xl.warmed.alike
      have hAl := hA0.keep all (pl.other hne hA0.1)
      have hBk := hB0.like all pl.1 fl.1 fl.2.1 fl.2.2.1
      have hlt : q + i < Bk.slots.size := by rw [fl.2.2.1]; omega
      have c3 : Steps p.tables e below (s₁.setTop (entryFrame m #[.ref b, .int (Int32.ofNat o), .ref d, .int (Int32.ofNat q), .int (Int32.ofNat len)] 7)) (Tl.setTop (mkF m 12 #[.val (.ref b), .val (.int (Int32.ofNat (o + i))), .val (.ref d), .val (.int (Int32.ofNat (q + i))), .val (.int (Int32.ofNat len)), .val (.int (Int32.ofNat i)), z] [.int (Int32.ofNat (o + i)), .ref b])) := cl.trans (by
        refine XS.iload Xl.here hexec rfl (hb hbytes d3) rfl ?_
        refine XS.iload Xl.here hexec rfl (hb hbytes d5) rfl ?_
        refine XS.icmpNo Xl.here hexec rfl (hb hbytes d7) rfl (ii_ge_f (lt32 (by omega) (by omega))) ?_
        refine XS.aloadN Xl.here hexec rfl (hb hbytes d10) rfl rfl ?_
        refine XS.iloadN Xl.here hexec rfl (hb hbytes d11) rfl ?_
        exact Steps.refl _)
      have c4 : Steps p.tables e below (s₁.setTop (entryFrame m #[.ref b, .int (Int32.ofNat o), .ref d, .int (Int32.ofNat q), .int (Int32.ofNat len)] 7)) (Tl.setTop (mkF m 13 #[.val (.ref b), .val (.int (Int32.ofNat (o + i))), .val (.ref d), .val (.int (Int32.ofNat (q + i))), .val (.int (Int32.ofNat len)), .val (.int (Int32.ofNat i)), z] [.int (cv A (o + i))])) := c3.trans (by
        refine Xl.aget hexec hAl rfl (hA.get (i := o + i) (by omega)) rfl rfl (hb hbytes d12) ?_
        exact Steps.refl _)
      have c5 : Steps p.tables e below (s₁.setTop (entryFrame m #[.ref b, .int (Int32.ofNat o), .ref d, .int (Int32.ofNat q), .int (Int32.ofNat len)] 7)) (Tl.setTop (mkF m 15 #[.val (.ref b), .val (.int (Int32.ofNat (o + i))), .val (.ref d), .val (.int (Int32.ofNat (q + i))), .val (.int (Int32.ofNat len)), .val (.int (Int32.ofNat i)), .val (.int (cv A (o + i)))] [])) := c4.trans (by
        refine XS.istoreS Xl.here hexec rfl (hb hbytes d13) rfl rfl hz ?_
        exact Steps.refl _)
      have c6 : Steps p.tables e below (s₁.setTop (entryFrame m #[.ref b, .int (Int32.ofNat o), .ref d, .int (Int32.ofNat q), .int (Int32.ofNat len)] 7)) (Tl.setTop (mkF m 31 #[.val (.ref b), .val (.int (Int32.ofNat (o + i))), .val (.ref d), .val (.int (Int32.ofNat (q + i))), .val (.int (Int32.ofNat len)), .val (.int (Int32.ofNat i)), .val (.int (cv A (o + i)))] [.int (lo8 (cv A (o + i))), .int (Int32.ofNat (q + i)), .ref d])) := c5.trans (by
        refine XS.iload Xl.here hexec rfl (hb hbytes d15) rfl ?_
        refine sipushV Xl.here hexec rfl 255 (hb hbytes d17) (by decide) ?_
        refine XS.icmpYes Xl.here hexec rfl (pc0 := 20) rfl (hb hbytes d20) rfl (ii_le_t (hp i (by omega))) (by decide) rfl ?_
        refine XS.aloadN Xl.here hexec rfl (hb hbytes d26) rfl rfl ?_
        refine XS.iloadN Xl.here hexec rfl (hb hbytes d27) rfl ?_
        refine XS.iload Xl.here hexec rfl (hb hbytes d28) rfl ?_
        refine i2b Xl.here hexec rfl (hb hbytes d30) rfl ?_
        exact Steps.refl _)
      obtain ⟨T7, X7, p7, st7⟩ := Xl.aput hexec hBk rfl hlt rfl (fits_lo8 (cv A (o + i))) (g := (mkF m 31 #[.val (.ref b), .val (.int (Int32.ofNat (o + i))), .val (.ref d), .val (.int (Int32.ofNat (q + i))), .val (.int (Int32.ofNat len)), .val (.int (Int32.ofNat i)), .val (.int (cv A (o + i)))] [.int (lo8 (cv A (o + i))), .int (Int32.ofNat (q + i)), .ref d])) rfl (rest := []) rfl (hb hbytes d31)
      have c8 : Steps p.tables e below (s₁.setTop (entryFrame m #[.ref b, .int (Int32.ofNat o), .ref d, .int (Int32.ofNat q), .int (Int32.ofNat len)] 7)) (T7.setTop (mkF m 32 #[.val (.ref b), .val (.int (Int32.ofNat (o + i))), .val (.ref d), .val (.int (Int32.ofNat (q + i))), .val (.int (Int32.ofNat len)), .val (.int (Int32.ofNat i)), .val (.int (cv A (o + i)))] [])) := c6.trans (st7 _ (Steps.refl _))
      have c9 : Steps p.tables e below (s₁.setTop (entryFrame m #[.ref b, .int (Int32.ofNat o), .ref d, .int (Int32.ofNat q), .int (Int32.ofNat len)] 7)) (T7.setTop (mkF m 3 #[.val (.ref b), .val (.int (Int32.ofNat (o + i) + 1)), .val (.ref d), .val (.int (Int32.ofNat (q + i) + 1)), .val (.int (Int32.ofNat len)), .val (.int (Int32.ofNat i + 1)), .val (.int (cv A (o + i)))] [])) := c8.trans (by
        refine iincV X7.here hexec rfl 1 (hb hbytes d32) (by decide) rfl rfl ?_
        refine iincV X7.here hexec rfl 1 (hb hbytes d35) (by decide) rfl rfl ?_
        refine iincV X7.here hexec rfl 1 (hb hbytes d38) (by decide) rfl rfl ?_
        refine XS.goto X7.here hexec rfl (pc0 := 41) rfl (hb hbytes d41) (by decide) rfl ?_
        exact Steps.refl _)
      have c10 : Steps p.tables e below (s₁.setTop (entryFrame m #[.ref b, .int (Int32.ofNat o), .ref d, .int (Int32.ofNat q), .int (Int32.ofNat len)] 7)) (T7.setTop (mkF m 3 #[.val (.ref b), .val (.int (Int32.ofNat (o + (i + 1)))), .val (.ref d), .val (.int (Int32.ofNat (q + (i + 1)))), .val (.int (Int32.ofNat len)), .val (.int (Int32.ofNat (i + 1))), .val (.int (cv A (o + i)))] [])) := by
        have := c9
        rw [succ32, succ32, succ32] at this
        exact this
      exact ih (i + 1) (by omega) _ (Or.inr ⟨_, rfl, rfl⟩) T7 _ (by rw [copyLocs_step, ← List.append_assoc]; exact X7) (pl.trans p7) (fl.step (by omega) hlt (by simp)) c10
  obtain ⟨T9, B9, z9, X9, p9, f9, g9⟩ := loop len 0 (by omega) .unset (Or.inl rfl) s₁ B (by simpa [copyLocs] using X0) ⟨hB0.1, fun _ _ => rfl, rfl⟩ (Laid.zero _ _ _) c2
  have c11 : Steps p.tables e below (s₁.setTop (entryFrame m #[.ref b, .int (Int32.ofNat o), .ref d, .int (Int32.ofNat q), .int (Int32.ofNat len)] 7)) (T9.setTop (mkF m 46 #[.val (.ref b), .val (.int (Int32.ofNat (o + len))), .val (.ref d), .val (.int (Int32.ofNat (q + len))), .val (.int (Int32.ofNat len)), .val (.int (Int32.ofNat len)), z9] [.int (Int32.ofNat len)])) := g9.trans (by
    refine XS.iload X9.here hexec rfl (hb hbytes d3) rfl ?_
    refine XS.iload X9.here hexec rfl (hb hbytes d5) rfl ?_
    refine XS.icmpYes X9.here hexec rfl (pc0 := 7) rfl (hb hbytes d7) rfl (ii_ge_t (nlt32 (by omega) (Nat.le_refl _))) (by decide) rfl ?_
    refine XS.iload X9.here hexec rfl (hb hbytes d44) rfl ?_
    exact Steps.refl _)
  exact ⟨T9, some (.int (Int32.ofNat len)), _, _, _, X9, by simp, rfl, rfl, (fun h => by cases h), ⟨rfl, B9, p9.from hh0, f9⟩, fun fs hl => c11.trans (X9.ireturnOut hexec hret rfl (Or.inl rfl) (hb hbytes d46) hl)⟩
end Cmp5
namespace Cmp3
def yN : MethodName := ⟨"java/lang/StringUTF16", "compress", "([CII)[B"⟩
abbrev yB : ByteArray := jdk_52_method_16_code
theorem d0 : decode yB 0 = .ok (.iload_n 2, 1) := by decide +kernel
theorem d1 : decode yB 1 = .ok (.newarray .byte, 2) := by decide +kernel
theorem d3 : decode yB 3 = .ok (.astore_n 3, 1) := by decide +kernel
theorem d4 : decode yB 4 = .ok (.aload_n 0, 1) := by decide +kernel
theorem d5 : decode yB 5 = .ok (.iload_n 1, 1) := by decide +kernel
theorem d6 : decode yB 6 = .ok (.aload_n 3, 1) := by decide +kernel
theorem d7 : decode yB 7 = .ok (.iconst 0, 1) := by decide +kernel
theorem d8 : decode yB 8 = .ok (.iload_n 2, 1) := by decide +kernel
theorem d9 : decode yB 9 = .ok (.invokestatic 115, 3) := by decide +kernel
theorem d12 : decode yB 12 = .ok (.istore 4, 2) := by decide +kernel
theorem d14 : decode yB 14 = .ok (.iload 4, 2) := by decide +kernel
theorem d16 : decode yB 16 = .ok (.iload_n 2, 1) := by decide +kernel
theorem d17 : decode yB 17 = .ok (.if_icmp (.eq) 40, 3) := by decide +kernel
theorem d57 : decode yB 57 = .ok (.aload_n 3, 1) := by decide +kernel
theorem d58 : decode yB 58 = .ok (.areturn, 1) := by decide +kernel
def site : List Cond := [.arrayClass .byte, Cmp5.tab] ++ staticW U16 115 Cmp5.yN
def tab : Cond := tabOf yN yB 6 (some (.array .byte)) site
def P (b : Addr) (A : Cell) (o len : Nat) (args : Array Value) (s : State) : Prop := args = #[.ref b, .int (Int32.ofNat o), .int (Int32.ofNat len)] ∧ Ch b A s ∧ o + len ≤ A.slots.size ∧ len ≤ 536870912 ∧ ∀ i, i < len → ¬ 255 < cv A (o + i)
def E (b : Addr) (A : Cell) (o len : Nat) (r : Option Value) (s u : State) : Prop := NewArr .byte "[B" len (fun j => .int (lo8 (cv A (o + j)))) r s u ∧ u.heap.size = s.heap.size + 1
/-- no char of the range above 255: a new byte[] of their low bytes -/
theorem law (l : Launch) (b : Addr) (A : Cell) (o len : Nat) : Law l yN 3 3 1 18 yB 6 (some (.array .byte)) site (P b A o len) (E b A o len) [] 1 len := by
  refine Law.of_walk (plainFor_of_name (by decide +kernel)) (by decide +kernel) (by decide +kernel) (by decide) (fun _ _ h => by rw [h.1]; rfl) (fun _ U U' hal hh h => ⟨h.1, h.2.1.mv hal hh, h.2.2⟩) (fun r U U' V V' h1 hal h2 h => ⟨NewArr.mv r U U' V V' h1 hal h2 h.1, by rw [h1, h2]; exact h.2⟩) ?_
  intro p e s m args below meth c s₁ X0 hexec hbytes hml hret hlk hnm hown hh0 W hP
  obtain ⟨rfl, hA, l1, l2, hp⟩ := hP
  have a31 := hA.1.2.2.2
  have c1 : Steps p.tables e below (s₁.setTop (entryFrame m #[.ref b, .int (Int32.ofNat o), .int (Int32.ofNat len)] 6)) (s₁.setTop (mkF m 0 #[.val (.ref b), .val (.int (Int32.ofNat o)), .val (.int (Int32.ofNat len)), .unset, .unset, .unset] [])) := entry rfl
  have c2 : Steps p.tables e below (s₁.setTop (entryFrame m #[.ref b, .int (Int32.ofNat o), .int (Int32.ofNat len)] 6)) (s₁.setTop (mkF m 1 #[.val (.ref b), .val (.int (Int32.ofNat o)), .val (.int (Int32.ofNat len)), .unset, .unset, .unset] [.int (Int32.ofNat len)])) := c1.trans (by
    refine XS.iloadN X0.here hexec rfl (hb hbytes d0) rfl ?_
    exact Steps.refl _)
  obtain ⟨T3, B3, X3, ba3, bs3, bv3, bh3, bf3, st3⟩ := X0.anew hexec (atype := .byte) (wk W (.arrayClass .byte)) rfl (by show len * 1 ≤ _; omega) (by omega) (g := (mkF m 1 #[.val (.ref b), .val (.int (Int32.ofNat o)), .val (.int (Int32.ofNat len)), .unset, .unset, .unset] [.int (Int32.ofNat len)])) rfl (hb hbytes d1) (rest := []) rfl (Nat.le_refl _) (by show 0 + len ≤ len; omega)
  rw [hh0] at ba3 st3
  have kp3 : XT.Kept s T3 := (XT.Kept.of_eq hh0).push bh3
  have hA3 := hA.keep X3.warmed.alike (kp3 _ _ hA.1.1)
  have hne : b ≠ s.heap.size := hA.1.ne
  have c4 : Steps p.tables e below (s₁.setTop (entryFrame m #[.ref b, .int (Int32.ofNat o), .int (Int32.ofNat len)] 6)) (T3.setTop (mkF m 3 #[.val (.ref b), .val (.int (Int32.ofNat o)), .val (.int (Int32.ofNat len)), .unset, .unset, .unset] [.ref s.heap.size])) := c2.trans (st3 _ (Steps.refl _))
  have c5 : Steps p.tables e below (s₁.setTop (entryFrame m #[.ref b, .int (Int32.ofNat o), .int (Int32.ofNat len)] 6)) (T3.setTop (mkF m 9 #[.val (.ref b), .val (.int (Int32.ofNat o)), .val (.int (Int32.ofNat len)), .val (.ref s.heap.size), .unset, .unset] [.int (Int32.ofNat len), .int 0, .ref s.heap.size, .int (Int32.ofNat o), .ref b])) := c4.trans (by
    refine XS.astoreN X3.here hexec rfl (hb hbytes d3) rfl rfl rfl ?_
    refine XS.aloadN X3.here hexec rfl (hb hbytes d4) rfl rfl ?_
    refine XS.iloadN X3.here hexec rfl (hb hbytes d5) rfl ?_
    refine XS.aloadN X3.here hexec rfl (hb hbytes d6) rfl rfl ?_
    refine iconstV X3.here hexec rfl 0 (hb hbytes d7) (by decide) ?_
    refine XS.iloadN X3.here hexec rfl (hb hbytes d8) rfl ?_
    exact Steps.refl _)
  obtain ⟨v6, T6, X6, E6, g6⟩ := X3.callS hexec (Cmp5.law l b A s.heap.size B3 o 0 len) hown (wks W (staticW U16 115 Cmp5.yN)) (wk W Cmp5.tab) (W := 0) (Nat.le_of_ble_eq_true rfl) (Nat.le_of_ble_eq_true rfl) (Nat.le_refl _) (by show 0 + len + 0 ≤ len; omega) (g := (mkF m 9 #[.val (.ref b), .val (.int (Int32.ofNat o)), .val (.int (Int32.ofNat len)), .val (.ref s.heap.size), .unset, .unset] [.int (Int32.ofNat len), .int (Int32.ofNat 0), .ref s.heap.size, .int (Int32.ofNat o), .ref b])) rfl (by rw [hml]; rfl) c5 (argsL := [.ref b, .int (Int32.ofNat o), .ref s.heap.size, .int (Int32.ofNat 0), .int (Int32.ofNat len)]) (rest := []) rfl rfl (by show 2 * 0 + 0 ≤ _; decide) (hb hbytes d9) (⟨rfl, hA3, ba3, hne, l1, by rw [bs3]; simp, hp⟩)
  obtain ⟨rfl, B6, p6, f6⟩ := E6
  have c7 : Steps p.tables e below (s₁.setTop (entryFrame m #[.ref b, .int (Int32.ofNat o), .int (Int32.ofNat len)] 6)) (T6.setTop (mkF m 12 #[.val (.ref b), .val (.int (Int32.ofNat o)), .val (.int (Int32.ofNat len)), .val (.ref s.heap.size), .unset, .unset] [.int (Int32.ofNat len)])) := g6
  have c8 : Steps p.tables e below (s₁.setTop (entryFrame m #[.ref b, .int (Int32.ofNat o), .int (Int32.ofNat len)] 6)) (T6.setTop (mkF m 58 #[.val (.ref b), .val (.int (Int32.ofNat o)), .val (.int (Int32.ofNat len)), .val (.ref s.heap.size), .val (.int (Int32.ofNat len)), .unset] [.ref s.heap.size])) := c7.trans (by
    refine XS.istore X6.here hexec rfl (hb hbytes d12) rfl rfl ?_
    refine XS.iload X6.here hexec rfl (hb hbytes d14) rfl ?_
    refine XS.iloadN X6.here hexec rfl (hb hbytes d16) rfl ?_
    refine XS.icmpYes X6.here hexec rfl (pc0 := 17) rfl (hb hbytes d17) rfl (ii_eq_t rfl) (by decide) rfl ?_
    refine XS.aloadN X6.here hexec rfl (hb hbytes d57) rfl rfl ?_
    exact Steps.refl _)
  have X8 := X6.wide (L' := []) (cells' := 1) (slots' := len) (fun x hx hlt => by
    simp only [List.nil_append, copyLocs, List.mem_map, List.mem_range] at hx
    obtain ⟨i, -, rfl⟩ := hx
    exact absurd hlt (Nat.lt_irrefl _)) (Nat.le_refl _) (by omega)
  exact ⟨T6, some (.ref s.heap.size), _, _, _, X8, rfl, rfl, rfl, (fun h => by cases h), ⟨⟨rfl, B6, ba3.like (X3.warmed.alike.symm.trans X6.warmed.alike) p6.1 f6.1 f6.2.1 f6.2.2.1, f6.2.1.trans bv3, by rw [X6.warmed.alike.findClass, f6.1]; exact bf3, by rw [f6.2.2.1, bs3]; simp, fun j hj => by rw [f6.2.2.2 j, if_pos (by omega)]; rfl, kp3.put p6 (Nat.le_refl _)⟩, by rw [p6.2.2, bh3, hh0]; simp⟩, fun fs hl => c8.trans (X8.areturnOut hexec rfl hret rfl (hb hbytes d58) hl)⟩
end Cmp3
namespace CodL
def yN : MethodName := ⟨"java/lang/StringUTF16", "coderFromArrayLen", "([BI)B"⟩
abbrev yB : ByteArray := jdk_52_method_15_code
theorem d0 : decode yB 0 = .ok (.iload_n 1, 1) := by decide +kernel
theorem d1 : decode yB 1 = .ok (.aload_n 0, 1) := by decide +kernel
theorem d2 : decode yB 2 = .ok (.arraylength, 1) := by decide +kernel
theorem d3 : decode yB 3 = .ok (.isub, 1) := by decide +kernel
theorem d4 : decode yB 4 = .ok (.bipush 31, 2) := by decide +kernel
theorem d6 : decode yB 6 = .ok (.iushr, 1) := by decide +kernel
theorem d7 : decode yB 7 = .ok (.i2b, 1) := by decide +kernel
theorem d8 : decode yB 8 = .ok (.ireturn, 1) := by decide +kernel
def site : List Cond := []
def tab : Cond := tabOf yN yB 2 (some .byte) site
def P (d : Addr) (B : Cell) (args : Array Value) (s : State) : Prop := args = #[.ref d, .int (Int32.ofNat B.slots.size)] ∧ Arr .byte d B s
def E (r : Option Value) (s u : State) : Prop := XT.PureE (some (.int 0)) r s u
/-- an array as long as the number of chars: LATIN1 -/
theorem law (l : Launch) (d : Addr) (B : Cell) : Law l yN 2 2 0 0 yB 2 (some .byte) site (P d B) E [] 0 0 := by
  refine Law.of_walk (plainFor_of_name (by decide +kernel)) (by decide +kernel) (by decide +kernel) (by decide) (fun _ _ h => by rw [h.1]; rfl) (fun _ U U' hal hh h => ⟨h.1, h.2.mv hal hh⟩) (fun r U U' V V' h1 hal h2 h => XT.PureE.mv r U U' V V' h1 hal h2 h) ?_
  intro p e s m args below meth c s₁ X0 hexec hbytes hml hret hlk hnm hown hh0 W hP
  obtain ⟨rfl, hB⟩ := hP
  have hB0 := hB.mv X0.warmed.alike hh0
  have c1 : Steps p.tables e below (s₁.setTop (entryFrame m #[.ref d, .int (Int32.ofNat B.slots.size)] 2)) (s₁.setTop (mkF m 0 #[.val (.ref d), .val (.int (Int32.ofNat B.slots.size))] [])) := entry rfl
  have c2 : Steps p.tables e below (s₁.setTop (entryFrame m #[.ref d, .int (Int32.ofNat B.slots.size)] 2)) (s₁.setTop (mkF m 2 #[.val (.ref d), .val (.int (Int32.ofNat B.slots.size))] [.ref d, .int (Int32.ofNat B.slots.size)])) := c1.trans (by
    refine XS.iloadN X0.here hexec rfl (hb hbytes d0) rfl ?_
    refine XS.aloadN X0.here hexec rfl (hb hbytes d1) rfl rfl ?_
    exact Steps.refl _)
  have c3 : Steps p.tables e below (s₁.setTop (entryFrame m #[.ref d, .int (Int32.ofNat B.slots.size)] 2)) (s₁.setTop (mkF m 8 #[.val (.ref d), .val (.int (Int32.ofNat B.slots.size))] [.int (lo8 (ushr (Int32.ofNat B.slots.size - Int32.ofNat B.slots.size) 31))])) := c2.trans (by
    refine X0.alen hexec hB0 rfl rfl (hb hbytes d2) ?_
    refine XS.isub X0.here hexec rfl (hb hbytes d3) rfl ?_
    refine bipushV X0.here hexec rfl 31 (hb hbytes d4) (by decide) ?_
    refine iushr X0.here hexec rfl (hb hbytes d6) rfl ?_
    refine i2b X0.here hexec rfl (hb hbytes d7) rfl ?_
    exact Steps.refl _)
  have e0 : lo8 (ushr (Int32.ofNat B.slots.size - Int32.ofNat B.slots.size) 31) = 0 := by rw [Int32.sub_self]; decide
  rw [e0] at c3
  exact ⟨s₁, some (.int 0), _, _, _, X0, rfl, rfl, rfl, (fun h => by cases h), ⟨rfl, hh0⟩, fun fs hl => c3.trans (X0.ireturnOut hexec hret rfl (Or.inr (Or.inr (Or.inl rfl))) (hb hbytes d8) hl)⟩
end CodL
/-- the String at a is Latin-1 over a new byte[] (the heap's one new cell): the low bytes of the len chars of A from o on; every cell but a is kept -/
def Got (a : Addr) (D : Cell) (fV fC : Field) (A : Cell) (o len : Nat) (r : Option Value) (s u : State) : Prop := r = none ∧ ∃ D' V : Cell, Blank "java/lang/String" a D' u ∧ Same D D' [fV.slot, fC.slot] ∧ D'.slots[fV.slot]? = some (.ref s.heap.size) ∧ D'.slots[fC.slot]? = some (.int 0) ∧ Arr .byte s.heap.size V u ∧ V.vm = .none ∧ u.vm.findClass "[B" = some V.cls ∧ V.slots.size = len ∧ (∀ j, j < len → V.slots[j]? = some (.int (lo8 (cv A (o + j))))) ∧ (∀ (y : Addr) (c : Cell), y ≠ a → s.heap[y]? = some c → u.heap[y]? = some c) ∧ u.heap.size = s.heap.size + 1
theorem Got.mv {a : Addr} {D A : Cell} {fV fC : Field} {o len : Nat} : ∀ r (U U' V V' : State), U'.heap = U.heap → V.vm.Alike V'.vm → V'.heap = V.heap → Got a D fV fC A o len r U V → Got a D fV fC A o len r U' V' :=
  fun r U U' V V' h1 hal h2 ⟨e0, D', X, a1, a2, a3, a4, a5, a6, a7, a8, a9, a10, a11⟩ => ⟨e0, D', X, a1.mv hal h2, a2, by rw [h1]; exact a3, a4, by rw [h1]; exact a5.mv hal h2, a6, by rw [hal.findClass]; exact a7, a8, a9, by rw [h1, h2]; exact a10, by rw [h1, h2]; exact a11⟩
namespace New4
def yN : MethodName := ⟨"java/lang/String", "<init>", "([CIILjava/lang/Void;)V"⟩
abbrev yB : ByteArray := jdk_42_method_149_code
theorem d0 : decode yB 0 = .ok (.aload_n 0, 1) := by decide +kernel
theorem d1 : decode yB 1 = .ok (.invokespecial 1, 3) := by decide +kernel
theorem d4 : decode yB 4 = .ok (.iload_n 3, 1) := by decide +kernel
theorem d5 : decode yB 5 = .ok (.ifCond (.ne) 22, 3) := by decide +kernel
theorem d27 : decode yB 27 = .ok (.getstatic 38, 3) := by decide +kernel
theorem d30 : decode yB 30 = .ok (.ifCond (.eq) 28, 3) := by decide +kernel
theorem d33 : decode yB 33 = .ok (.aload_n 1, 1) := by decide +kernel
theorem d34 : decode yB 34 = .ok (.iload_n 2, 1) := by decide +kernel
theorem d35 : decode yB 35 = .ok (.iload_n 3, 1) := by decide +kernel
theorem d36 : decode yB 36 = .ok (.invokestatic 177, 3) := by decide +kernel
theorem d39 : decode yB 39 = .ok (.astore 5, 2) := by decide +kernel
theorem d41 : decode yB 41 = .ok (.aload_n 0, 1) := by decide +kernel
theorem d42 : decode yB 42 = .ok (.aload 5, 2) := by decide +kernel
theorem d44 : decode yB 44 = .ok (.iload_n 3, 1) := by decide +kernel
theorem d45 : decode yB 45 = .ok (.invokestatic 47, 3) := by decide +kernel
theorem d48 : decode yB 48 = .ok (.putfield 15, 3) := by decide +kernel
theorem d51 : decode yB 51 = .ok (.aload_n 0, 1) := by decide +kernel
theorem d52 : decode yB 52 = .ok (.aload 5, 2) := by decide +kernel
theorem d54 : decode yB 54 = .ok (.putfield 9, 3) := by decide +kernel
theorem d57 : decode yB 57 = .ok (.return_, 1) := by decide +kernel
def site : List Cond := [.fieldLink "java/lang/String" 38 "java/lang/String" "COMPACT_STRINGS" "Z", Cmp3.tab, CodL.tab, .laysFinal "java/lang/String" "java/lang/String" "value" "[B", .fieldLink "java/lang/String" 9 "java/lang/String" "value" "[B", .laysFinal "java/lang/String" "java/lang/String" "coder" "B", .fieldLink "java/lang/String" 15 "java/lang/String" "coder" "B"] ++ objW "java/lang/String" 1 ++ staticW "java/lang/String" 177 Cmp3.yN ++ staticW "java/lang/String" 47 CodL.yN
def tab : Cond := tabOf yN yB 6 none site
def P (a : Addr) (D : Cell) (fV fC : Field) (b : Addr) (A : Cell) (z : Int32) (o len : Nat) (args : Array Value) (s : State) : Prop := args = #[.ref a, .ref b, .int (Int32.ofNat o), .int (Int32.ofNat len), .null] ∧ Blank "java/lang/String" a D s ∧ Found "java/lang/String" "value" "[B" fV s ∧ Found "java/lang/String" "coder" "B" fC s ∧ Ch b A s ∧ StaticIs s "java/lang/String" "COMPACT_STRINGS" "Z" (.int z) ∧ ¬ z = 0 ∧ 0 < len ∧ o + len ≤ A.slots.size ∧ len ≤ 536870912 ∧ ∀ i, i < len → ¬ 255 < cv A (o + i)
def E (a : Addr) (D : Cell) (fV fC : Field) (A : Cell) (o len : Nat) (r : Option Value) (s u : State) : Prop := Got a D fV fC A o len r s u
/-- len > 0, no char of the range above 255: a Latin-1 String of their low bytes -/
theorem law (l : Launch) (a : Addr) (D : Cell) (fV fC : Field) (b : Addr) (A : Cell) (z : Int32) (o len : Nat) : Law l yN 5 4 2 35 yB 6 none site (P a D fV fC b A z o len) (E a D fV fC A o len) [⟨a, fC.slot⟩, ⟨a, fV.slot⟩] 1 len := by
  refine Law.of_walk (plainFor_of_name (by decide +kernel)) (by decide +kernel) (by decide +kernel) (by decide) (fun _ _ h => by rw [h.1]; rfl) (fun _ U U' hal hh h => ⟨h.1, h.2.1.mv hal hh, h.2.2.1.al hal, h.2.2.2.1.al hal, h.2.2.2.2.1.mv hal hh, h.2.2.2.2.2.1.there hal hh, h.2.2.2.2.2.2⟩) (fun r U U' V V' h1 hal h2 h => Got.mv r U U' V V' h1 hal h2 h) ?_
  intro p e s m args below meth c s₁ X0 hexec hbytes hml hret hlk hnm hown hh0 W hP
  obtain ⟨rfl, hB, f1, f2, hA, s1, hz, l0, l1, l2, hp⟩ := hP
  have a31 := hA.1.2.2.2
  have c1 : Steps p.tables e below (s₁.setTop (entryFrame m #[.ref a, .ref b, .int (Int32.ofNat o), .int (Int32.ofNat len), .null] 6)) (s₁.setTop (mkF m 0 #[.val (.ref a), .val (.ref b), .val (.int (Int32.ofNat o)), .val (.int (Int32.ofNat len)), .val .null, .unset] [])) := entry rfl
  have c2 : Steps p.tables e below (s₁.setTop (entryFrame m #[.ref a, .ref b, .int (Int32.ofNat o), .int (Int32.ofNat len), .null] 6)) (s₁.setTop (mkF m 1 #[.val (.ref a), .val (.ref b), .val (.int (Int32.ofNat o)), .val (.int (Int32.ofNat len)), .val .null, .unset] [.ref a])) := c1.trans (by
    refine XS.aloadN X0.here hexec rfl (hb hbytes d0) rfl rfl ?_
    exact Steps.refl _)
  obtain ⟨T3, X3, q3, st3⟩ := X0.oinit hexec hown (wks W (objW "java/lang/String" 1)) (g := (mkF m 1 #[.val (.ref a), .val (.ref b), .val (.int (Int32.ofNat o)), .val (.int (Int32.ofNat len)), .val .null, .unset] [.ref a])) rfl (by rw [hml]; rfl) (rest := []) rfl (hb hbytes d1) (W := 0) (by show 2 * 0 + 0 ≤ _; decide) (Nat.le_of_ble_eq_true rfl) (Nat.le_of_ble_eq_true rfl)
  have hh3 := q3.trans hh0
  have c4 : Steps p.tables e below (s₁.setTop (entryFrame m #[.ref a, .ref b, .int (Int32.ofNat o), .int (Int32.ofNat len), .null] 6)) (T3.setTop (mkF m 27 #[.val (.ref a), .val (.ref b), .val (.int (Int32.ofNat o)), .val (.int (Int32.ofNat len)), .val .null, .unset] [])) := (c2.trans (st3 _ (Steps.refl _))).trans (by
    refine XS.iloadN X3.here hexec rfl (hb hbytes d4) rfl ?_
    refine XS.ifYes X3.here hexec rfl (pc0 := 5) rfl (hb hbytes d5) rfl (i0_ne_t (nz32 (by omega) l0)) (by decide) rfl ?_
    exact Steps.refl _)
  obtain ⟨T5, X5, q5, st5⟩ := X3.sget hexec hown (wk W (.fieldLink "java/lang/String" 38 "java/lang/String" "COMPACT_STRINGS" "Z")) s1 (fun _ _ h => by rw [hh3]; exact h) (g := (mkF m 27 #[.val (.ref a), .val (.ref b), .val (.int (Int32.ofNat o)), .val (.int (Int32.ofNat len)), .val .null, .unset] [])) rfl (hb hbytes d27)
  have hh5 := q5.trans hh3
  have c6 : Steps p.tables e below (s₁.setTop (entryFrame m #[.ref a, .ref b, .int (Int32.ofNat o), .int (Int32.ofNat len), .null] 6)) (T5.setTop (mkF m 30 #[.val (.ref a), .val (.ref b), .val (.int (Int32.ofNat o)), .val (.int (Int32.ofNat len)), .val .null, .unset] [.int z])) := c4.trans (st5 _ (Steps.refl _))
  have c7 : Steps p.tables e below (s₁.setTop (entryFrame m #[.ref a, .ref b, .int (Int32.ofNat o), .int (Int32.ofNat len), .null] 6)) (T5.setTop (mkF m 36 #[.val (.ref a), .val (.ref b), .val (.int (Int32.ofNat o)), .val (.int (Int32.ofNat len)), .val .null, .unset] [.int (Int32.ofNat len), .int (Int32.ofNat o), .ref b])) := c6.trans (by
    refine XS.ifNo X5.here hexec rfl (hb hbytes d30) rfl (i0_eq_f hz) ?_
    refine XS.aloadN X5.here hexec rfl (hb hbytes d33) rfl rfl ?_
    refine XS.iloadN X5.here hexec rfl (hb hbytes d34) rfl ?_
    refine XS.iloadN X5.here hexec rfl (hb hbytes d35) rfl ?_
    exact Steps.refl _)
  obtain ⟨v8, T8, X8, E8, g8⟩ := X5.callS hexec (Cmp3.law l b A o len) hown (wks W (staticW "java/lang/String" 177 Cmp3.yN)) (wk W Cmp3.tab) (W := 0) (Nat.le_of_ble_eq_true rfl) (Nat.le_of_ble_eq_true rfl) (Nat.le_refl _) (by show 0 + len ≤ len; omega) (g := (mkF m 36 #[.val (.ref a), .val (.ref b), .val (.int (Int32.ofNat o)), .val (.int (Int32.ofNat len)), .val .null, .unset] [.int (Int32.ofNat len), .int (Int32.ofNat o), .ref b])) rfl (by rw [hml]; rfl) c7 (argsL := [.ref b, .int (Int32.ofNat o), .int (Int32.ofNat len)]) (rest := []) rfl rfl (by show 2 * 0 + 0 ≤ _; decide) (hb hbytes d36) (⟨rfl, hA.mv X5.warmed.alike hh5, l1, l2, hp⟩)
  obtain ⟨e8, z8⟩ := E8
  obtain ⟨rfl, N, n1, n2, n3, n4, n5, n6⟩ := NewArr.mv _ T5 s _ _ hh5.symm (Vm.Alike.refl _) rfl e8
  rw [hh5] at z8
  have hB1 := hB.keep X8.warmed.alike (n6 _ _ hB.1)
  have hne : s.heap.size ≠ a := (Nat.ne_of_lt (Array.getElem?_eq_some_iff.mp hB.1).1).symm
  have c9 : Steps p.tables e below (s₁.setTop (entryFrame m #[.ref a, .ref b, .int (Int32.ofNat o), .int (Int32.ofNat len), .null] 6)) (T8.setTop (mkF m 39 #[.val (.ref a), .val (.ref b), .val (.int (Int32.ofNat o)), .val (.int (Int32.ofNat len)), .val .null, .unset] [.ref s.heap.size])) := g8
  have c10 : Steps p.tables e below (s₁.setTop (entryFrame m #[.ref a, .ref b, .int (Int32.ofNat o), .int (Int32.ofNat len), .null] 6)) (T8.setTop (mkF m 45 #[.val (.ref a), .val (.ref b), .val (.int (Int32.ofNat o)), .val (.int (Int32.ofNat len)), .val .null, .val (.ref s.heap.size)] [.int (Int32.ofNat N.slots.size), .ref s.heap.size, .ref a])) := by
    have hc : Steps p.tables e below (s₁.setTop (entryFrame m #[.ref a, .ref b, .int (Int32.ofNat o), .int (Int32.ofNat len), .null] 6)) (T8.setTop (mkF m 45 #[.val (.ref a), .val (.ref b), .val (.int (Int32.ofNat o)), .val (.int (Int32.ofNat len)), .val .null, .val (.ref s.heap.size)] [.int (Int32.ofNat len), .ref s.heap.size, .ref a])) := c9.trans (by
      refine XS.astore X8.here hexec rfl (hb hbytes d39) rfl rfl rfl ?_
      refine XS.aloadN X8.here hexec rfl (hb hbytes d41) rfl rfl ?_
      refine XS.aload X8.here hexec rfl (hb hbytes d42) rfl rfl ?_
      refine XS.iloadN X8.here hexec rfl (hb hbytes d44) rfl ?_
      exact Steps.refl _)
    rw [n4]; exact hc
  obtain ⟨v11, T11, X11, E11, g11⟩ := X8.callS hexec (CodL.law l s.heap.size N) hown (wks W (staticW "java/lang/String" 47 CodL.yN)) (wk W CodL.tab) (W := 1) (Nat.le_of_ble_eq_true rfl) (Nat.le_of_ble_eq_true rfl) (Nat.le_refl _) (by show 0 + len + 0 ≤ len; omega) (g := (mkF m 45 #[.val (.ref a), .val (.ref b), .val (.int (Int32.ofNat o)), .val (.int (Int32.ofNat len)), .val .null, .val (.ref s.heap.size)] [.int (Int32.ofNat N.slots.size), .ref s.heap.size, .ref a])) rfl (by rw [hml]; rfl) c10 (argsL := [.ref s.heap.size, .int (Int32.ofNat N.slots.size)]) (rest := [.ref a]) rfl rfl (by show 2 * 0 + (1 + 0) ≤ _; decide) (hb hbytes d45) (⟨rfl, n1⟩)
  obtain ⟨rfl, q11⟩ := E11
  have hB11 := hB1.mv (X8.warmed.alike.symm.trans X11.warmed.alike) q11
  have c12 : Steps p.tables e below (s₁.setTop (entryFrame m #[.ref a, .ref b, .int (Int32.ofNat o), .int (Int32.ofNat len), .null] 6)) (T11.setTop (mkF m 48 #[.val (.ref a), .val (.ref b), .val (.int (Int32.ofNat o)), .val (.int (Int32.ofNat len)), .val .null, .val (.ref s.heap.size)] [.int 0, .ref a])) := g11
  obtain ⟨T13, X13, p13, bl13, sl13, st13⟩ := X11.finit hexec hown (wk W (.fieldLink "java/lang/String" 15 "java/lang/String" "coder" "B")) (Or.inr ⟨_, (wk W (.laysFinal "java/lang/String" "java/lang/String" "coder" "B"))⟩) (Or.inl ⟨rfl, hnm⟩) f2 (Or.inl rfl) hB11 (t := .byte) (by decide +kernel) rfl (g := (mkF m 48 #[.val (.ref a), .val (.ref b), .val (.int (Int32.ofNat o)), .val (.int (Int32.ofNat len)), .val .null, .val (.ref s.heap.size)] [.int 0, .ref a])) rfl (rest := []) rfl (hb hbytes d48)
  have c14 : Steps p.tables e below (s₁.setTop (entryFrame m #[.ref a, .ref b, .int (Int32.ofNat o), .int (Int32.ofNat len), .null] 6)) (T13.setTop (mkF m 54 #[.val (.ref a), .val (.ref b), .val (.int (Int32.ofNat o)), .val (.int (Int32.ofNat len)), .val .null, .val (.ref s.heap.size)] [.ref s.heap.size, .ref a])) := (c12.trans (st13 _ (Steps.refl _))).trans (by
    refine XS.aloadN X13.here hexec rfl (hb hbytes d51) rfl rfl ?_
    refine XS.aload X13.here hexec rfl (hb hbytes d52) rfl rfl ?_
    exact Steps.refl _)
  obtain ⟨T15, X15, p15, bl15, sl15, st15⟩ := X13.finit hexec hown (wk W (.fieldLink "java/lang/String" 9 "java/lang/String" "value" "[B")) (Or.inr ⟨_, (wk W (.laysFinal "java/lang/String" "java/lang/String" "value" "[B"))⟩) (Or.inl ⟨rfl, hnm⟩) f1 (Or.inl rfl) bl13 (t := (.array .byte)) (by decide +kernel) rfl (g := (mkF m 54 #[.val (.ref a), .val (.ref b), .val (.int (Int32.ofNat o)), .val (.int (Int32.ofNat len)), .val .null, .val (.ref s.heap.size)] [.ref s.heap.size, .ref a])) rfl (rest := []) rfl (hb hbytes d54)
  have c16 : Steps p.tables e below (s₁.setTop (entryFrame m #[.ref a, .ref b, .int (Int32.ofNat o), .int (Int32.ofNat len), .null] 6)) (T15.setTop (mkF m 57 #[.val (.ref a), .val (.ref b), .val (.int (Int32.ofNat o)), .val (.int (Int32.ofNat len)), .val .null, .val (.ref s.heap.size)] [])) := c14.trans (st15 _ (Steps.refl _))
  have ap := apart (Or.inr ⟨_, (wk W (.laysFinal "java/lang/String" "java/lang/String" "value" "[B"))⟩) (Or.inr ⟨_, (wk W (.laysFinal "java/lang/String" "java/lang/String" "coder" "B"))⟩) f1 f2 (t₁ := .array .byte) (t₂ := .byte) (by decide +kernel) (by decide +kernel) (by decide)
  have al := X8.warmed.alike.symm.trans X15.warmed.alike
  have n7 : T11.heap[s.heap.size]? = some N := by rw [q11]; exact n1.1
  exact ⟨T15, none, _, _, _, X15, by simp, rfl, by omega, (fun _ => rfl), ⟨rfl, _, N, bl15, ((Same.refl D _).set _ (by simp)).set _ (by simp), sl15, (Cell.slots_setSlot_ne _ ap).trans sl13, n1.keep al (p15.other hne (p13.other hne n7)), n2, by rw [al.findClass]; exact n3, n4, n5, fun y c h1 h2 => p15.other h1 (p13.other h1 (by rw [q11]; exact n6 y c h2)), by rw [p15.2.2, p13.2.2, q11]; exact z8⟩, fun fs hl => c16.trans (X15.returnOut hexec hret (hb hbytes d57) hl)⟩
end New4
namespace New1
def yN : MethodName := ⟨"java/lang/String", "<init>", "([C)V"⟩
abbrev yB : ByteArray := jdk_42_method_3_code
theorem d0 : decode yB 0 = .ok (.aload_n 0, 1) := by decide +kernel
theorem d1 : decode yB 1 = .ok (.aload_n 1, 1) := by decide +kernel
theorem d2 : decode yB 2 = .ok (.iconst 0, 1) := by decide +kernel
theorem d3 : decode yB 3 = .ok (.aload_n 1, 1) := by decide +kernel
theorem d4 : decode yB 4 = .ok (.arraylength, 1) := by decide +kernel
theorem d5 : decode yB 5 = .ok (.aconst_null, 1) := by decide +kernel
theorem d6 : decode yB 6 = .ok (.invokespecial 27, 3) := by decide +kernel
theorem d9 : decode yB 9 = .ok (.return_, 1) := by decide +kernel
def site : List Cond := [New4.tab] ++ initW "java/lang/String" 27 New4.yN
def tab : Cond := tabOf yN yB 2 none site
def P (a : Addr) (D : Cell) (fV fC : Field) (b : Addr) (A : Cell) (z : Int32) (args : Array Value) (s : State) : Prop := args = #[.ref a, .ref b] ∧ Blank "java/lang/String" a D s ∧ Found "java/lang/String" "value" "[B" fV s ∧ Found "java/lang/String" "coder" "B" fC s ∧ Ch b A s ∧ StaticIs s "java/lang/String" "COMPACT_STRINGS" "Z" (.int z) ∧ ¬ z = 0 ∧ 0 < A.slots.size ∧ A.slots.size ≤ 536870912 ∧ ∀ i, i < A.slots.size → ¬ 255 < cv A i
def E (a : Addr) (D : Cell) (fV fC : Field) (A : Cell) (r : Option Value) (s u : State) : Prop := Got a D fV fC A 0 A.slots.size r s u
/-- new String(chars), not empty, no char above 255: a Latin-1 String of their low bytes -/
theorem law (l : Launch) (a : Addr) (D : Cell) (fV fC : Field) (b : Addr) (A : Cell) (z : Int32) : Law l yN 2 1 3 52 yB 2 none site (P a D fV fC b A z) (E a D fV fC A) [⟨a, fC.slot⟩, ⟨a, fV.slot⟩] 1 A.slots.size := by
  refine Law.of_walk (plainFor_of_name (by decide +kernel)) (by decide +kernel) (by decide +kernel) (by decide) (fun _ _ h => by rw [h.1]; rfl) (fun _ U U' hal hh h => ⟨h.1, h.2.1.mv hal hh, h.2.2.1.al hal, h.2.2.2.1.al hal, h.2.2.2.2.1.mv hal hh, h.2.2.2.2.2.1.there hal hh, h.2.2.2.2.2.2⟩) (fun r U U' V V' h1 hal h2 h => Got.mv r U U' V V' h1 hal h2 h) ?_
  intro p e s m args below meth c s₁ X0 hexec hbytes hml hret hlk hnm hown hh0 W hP
  obtain ⟨rfl, hB, f1, f2, hA, s1, hz, l0, l2, hp⟩ := hP
  have c1 : Steps p.tables e below (s₁.setTop (entryFrame m #[.ref a, .ref b] 2)) (s₁.setTop (mkF m 0 #[.val (.ref a), .val (.ref b)] [])) := entry rfl
  have c2 : Steps p.tables e below (s₁.setTop (entryFrame m #[.ref a, .ref b] 2)) (s₁.setTop (mkF m 6 #[.val (.ref a), .val (.ref b)] [.null, .int (Int32.ofNat A.slots.size), .int 0, .ref b, .ref a])) := c1.trans (by
    refine XS.aloadN X0.here hexec rfl (hb hbytes d0) rfl rfl ?_
    refine XS.aloadN X0.here hexec rfl (hb hbytes d1) rfl rfl ?_
    refine iconstV X0.here hexec rfl 0 (hb hbytes d2) (by decide) ?_
    refine XS.aloadN X0.here hexec rfl (hb hbytes d3) rfl rfl ?_
    refine X0.alen hexec (hA.1.mv X0.warmed.alike hh0) rfl rfl (hb hbytes d4) ?_
    refine XS.aconstNull X0.here hexec rfl (hb hbytes d5) ?_
    exact Steps.refl _)
  obtain ⟨v3, T3, X3, E3, g3⟩ := X0.callN hexec (New4.law l a D fV fC b A z 0 A.slots.size) rfl hown (wks W (initW "java/lang/String" 27 New4.yN)) (W New4.tab (by simp only [site, List.mem_cons, List.mem_append, true_or, or_true])) (W := 0) (Nat.le_of_ble_eq_true rfl) (Nat.le_of_ble_eq_true rfl) (Nat.le_refl _) (by show 0 + A.slots.size ≤ A.slots.size; omega) (g := (mkF m 6 #[.val (.ref a), .val (.ref b)] [.null, .int (Int32.ofNat A.slots.size), .int (Int32.ofNat 0), .ref b, .ref a])) rfl (by rw [hml]; rfl) c2 (argsL := [.ref b, .int (Int32.ofNat 0), .int (Int32.ofNat A.slots.size), .null]) (rest := []) rfl rfl (by show 2 * 0 + 0 ≤ _; decide) (hb hbytes d6) (⟨rfl, hB.mv X0.warmed.alike hh0, f1.al X0.warmed.alike, f2.al X0.warmed.alike, hA.mv X0.warmed.alike hh0, s1.there X0.warmed.alike hh0, hz, l0, by omega, l2, fun i hi => by rw [Nat.zero_add]; exact hp i hi⟩)
  have e0 := Got.mv _ s₁ s _ _ hh0.symm (Vm.Alike.refl _) rfl E3
  obtain rfl := e0.1
  have c4 : Steps p.tables e below (s₁.setTop (entryFrame m #[.ref a, .ref b] 2)) (T3.setTop (mkF m 9 #[.val (.ref a), .val (.ref b)] [])) := g3
  exact ⟨T3, none, _, _, _, X3, by simp, rfl, by omega, (fun _ => rfl), e0, fun fs hl => c4.trans (X3.returnOut hexec hret (hb hbytes d9) hl)⟩
theorem pays {l : Launch} {R : Room} {p : Program} {e : Env} {below : List Frame} {s : State} {sargs : Array Value} {len W : Nat} (a : Addr) (D : Cell) (fV fC : Field) (b : Addr) (A : Cell) (z : Int32) (htab : tab.before sargs s = true) (hfr : 4 ≤ R.frames) (hlo : W + 65 ≤ R.locals) :
    Back l R p e below s sargs yN len W (fun A₁ a₁ => A₁.cells + 1 ≤ R.cells ∧ A₁.slots + A.slots.size ≤ R.slots ∧ P a D fV fC b A z a₁ A₁.U) (fun A₁ _ v₁ B₁ => E a D fV fC A v₁ A₁.U B₁.U ∧ B₁.locs = A₁.locs ++ [⟨a, fC.slot⟩, ⟨a, fV.slot⟩] ∧ B₁.cells = A₁.cells + 1 ∧ B₁.slots = A₁.slots + A.slots.size) :=
  (law l a D fV fC b A z).pays htab hfr (by omega)
end New1
/-- the byte, read back as charAt reads it, is the char -/
theorem lo8_mask {x : Int32} (h0 : ¬ x < 0) (h1 : ¬ 255 < x) : lo8 x &&& 255 = x := by
  have t : ∀ k : Fin 256, lo8 (Int32.ofNat k.val) &&& 255 = Int32.ofNat k.val := by decide +kernel
  rw [Int32.lt_iff_toInt_lt] at h0 h1
  have e0 : (0 : Int32).toInt = 0 := rfl
  have e1 : (255 : Int32).toInt = 255 := rfl
  obtain ⟨k, hk⟩ : ∃ k : Nat, x.toInt = k := ⟨x.toInt.toNat, by omega⟩
  have hx : x = Int32.ofNat k := Int32.toInt_inj.mp (by rw [hk, Int32.toInt_ofNat_small (by omega)])
  rw [hx]
  exact t ⟨k, by omega⟩
end StrChars
namespace StrChars.Road
open Jvm Sem ClassFile Op Lib Jvm.Stand Jvm.Free Jvm.Free.XT
open Jvm.Lib.Cold (StaticIs)
abbrev ST : String := "java/lang/String"
/-- every table word that New1's law asks, flat -/
abbrev words : List Jvm.Cond := [.code New1.yN New1.yB 2 none, .initialized ST, .methodLink ST 27 New4.yN, .instanceMethod New4.yN,
  .code New4.yN New4.yB 6 none, .fieldLink ST 38 ST "COMPACT_STRINGS" "Z", .laysFinal ST ST "value" "[B", .fieldLink ST 9 ST "value" "[B", .laysFinal ST ST "coder" "B", .fieldLink ST 15 ST "coder" "B",
  .methodLink ST 1 Lib.objectInit, .instanceMethod Lib.objectInit, .code Lib.objectInit ⟨#[0xb1]⟩ 1 none, .methodLink ST 177 Cmp3.yN, .static Cmp3.yN, .methodLink ST 47 CodL.yN, .static CodL.yN,
  .code Cmp3.yN Cmp3.yB 6 (some (.array .byte)), .initialized U16, .arrayClass .byte, .methodLink U16 115 Cmp5.yN, .static Cmp5.yN, .code Cmp5.yN Cmp5.yB 7 (some .int), .code CodL.yN CodL.yB 2 (some .byte)]
theorem tab_of {a : Array Value} {s : State} (h : ∀ w ∈ words, w.before a s = true) : New1.tab.before a s = true := by
  have h5 : Cmp5.tab.before a s = true := unparts (wk h (.code Cmp5.yN Cmp5.yB 7 (some .int))) (wks h (.initialized Cmp5.yN.cls :: Cmp5.site))
  have hc : CodL.tab.before a s = true := unparts (wk h (.code CodL.yN CodL.yB 2 (some .byte))) (wks h (.initialized CodL.yN.cls :: CodL.site))
  have q5 : ∀ w ∈ Cmp5.tab :: words, w.before a s = true := fun w hw => (List.mem_cons.mp hw).elim (fun e => e ▸ h5) (h w)
  have h3 : Cmp3.tab.before a s = true := unparts (wk q5 (.code Cmp3.yN Cmp3.yB 6 (some (.array .byte)))) (wks q5 (.initialized Cmp3.yN.cls :: Cmp3.site))
  have q3 : ∀ w ∈ Cmp3.tab :: CodL.tab :: words, w.before a s = true := fun w hw => (List.mem_cons.mp hw).elim (fun e => e ▸ h3) fun hw => (List.mem_cons.mp hw).elim (fun e => e ▸ hc) (h w)
  have h4 : New4.tab.before a s = true := unparts (wk q3 (.code New4.yN New4.yB 6 none)) (wks q3 (.initialized New4.yN.cls :: New4.site))
  have q4 : ∀ w ∈ New4.tab :: words, w.before a s = true := fun w hw => (List.mem_cons.mp hw).elim (fun e => e ▸ h4) (h w)
  exact unparts (wk q4 (.code New1.yN New1.yB 2 none)) (wks q4 (.initialized New1.yN.cls :: New1.site))
/-- the words ride from the start Z to the walk's own state -/
theorem moved {Z s : State} {a0 args : Array Value} (hZ : Z.Warmed39 s.vm) (hw : ∀ d ∈ words, d.before a0 Z = true) : ∀ d ∈ words, d.before args s = true := fun d hd => by
  have q := hw d hd
  have t : ∀ d ∈ words, d = .arrayClass .byte ∨ (d.onTables && d.keepsFace) = true := by decide +kernel
  rcases t d hd with rfl | t
  · exact RoadKit.mvA hZ q
  · exact RoadKit.mv hZ q t
/-- WHAT COMES BACK, over the tables of the start Z: h the heap at the call, h' behind it -/
def Q (Z : State) (x : Addr) (A : Cell) (h : Heap) (v : Option Value) (h' : Heap) (L : List Loc) : Prop := v = none ∧ (∀ y ∈ L, y.base = x) ∧ RoadKit.Keep h h' [x] ∧ h'.size = h.size + 1 ∧ RoadKit.Exa Z h' x ST ∧ RoadKit.Fld Z h' x ST "value" "[B" (.ref h.size) ∧ RoadKit.Fld Z h' x ST "coder" "B" (.int 0) ∧
  (∃ V : Cell, RoadKit.Arr Z h' h.size V .byte ∧ V.vm = .none ∧ Z.vm.findClass "[B" = some V.cls ∧ V.slots.size = A.slots.size ∧ ∀ j, j < A.slots.size → V.slots[j]? = some (.int (lo8 (cv A j)))) ∧
  ∀ (O n d : String) (w : Value), RoadKit.Fld Z h x O n d w → RoadKit.slotOf Z O n d ≠ RoadKit.slotOf Z ST "value" "[B" → RoadKit.slotOf Z O n d ≠ RoadKit.slotOf Z ST "coder" "B" → RoadKit.Fld Z h' x O n d w
/-- **new String(chars) AT A CALL, IN THE ROAD'S FORM**: for specialBack behind newO: x the fresh String, b the char[] with the cell A -/
theorem back {p : Program} {l : Launch} {e : Env} {R : Room} {s : State} {args : Array Value} {below : List Frame} {len W : Nat} {Z : State} {a0 : Array Value} {h : Heap} (hZ : Z.Warmed39 s.vm) (hw : ∀ d ∈ words, d.before a0 Z = true) {kI : Nat} (wi : (Jvm.Cond.instantiable ST kI).before a0 Z = true)
    {x b : Addr} {A : Cell} {z : Int32} {v0 c0 : Value} (E : RoadKit.Exa Z h x ST) (V : RoadKit.Fld Z h x ST "value" "[B" v0) (C : RoadKit.Fld Z h x ST "coder" "B" c0) (K : RoadKit.Arr Z h b A .char) (hty : Typed .char A) (S : RoadKit.Sta Z h ST "COMPACT_STRINGS" "Z" (.int z)) (hz : ¬ z = 0)
    (l0 : 0 < A.slots.size) (l2 : A.slots.size ≤ 536870912) (hp : ∀ i, i < A.slots.size → ¬ 255 < cv A i) (hfr : 4 ≤ R.frames) (hlo : W + 65 ≤ R.locals) :
    Back l R p e below s args New1.yN len W (fun P a => a = #[.ref x, .ref b] ∧ P.U.heap = h ∧ P.cells + 1 ≤ R.cells ∧ P.slots + A.slots.size ≤ R.slots)
      (fun P _ v B => ∃ L, Q Z x A h v B.U.heap L ∧ B.locs = P.locs ++ L ∧ B.cells = P.cells + 1 ∧ B.slots = P.slots + A.slots.size) := by
  intro m meth c P g ig mk a X hg hsize hdg hW hn hp'
  obtain ⟨rfl, rfl, r1, r2⟩ := hp'
  have al : Z.vm.Alike P.U.vm := hZ.alike.trans X.warmed.alike
  obtain ⟨D, cfV, kV, iV, fV, hD, gV, stV, knV, obV, asV, slV⟩ := id V
  obtain ⟨D', cfC, kC, iC, fC, hD', gC, stC, -, -, asC, slC⟩ := id C
  cases hD.symm.trans hD'
  obtain ⟨D2, kD, e1, e2, e3, e4, e5⟩ := id E
  cases hD.symm.trans e1
  obtain ⟨c2, k2, i1, i2, i3, -⟩ := Cond.instantiable_spec wi
  cases e2.symm.trans i1
  cases e3.symm.trans i2
  obtain ⟨kU, u1, u2⟩ := al.2.2 _ _ e3
  have hB : Blank ST x D P.U := ⟨hD, ⟨knV, fun q hq => by rw [hq] at obV; cases obV⟩, by rw [al.findClass]; exact e2, kU, u1, by rw [u2]; exact i3, by rw [u2]; exact e5 i3⟩
  have F1 : Found ST "value" "[B" fV P.U := ⟨SBG.found_only al ⟨cfV, kV, iV, gV⟩, stV⟩
  have F2 : Found ST "coder" "B" fC P.U := ⟨SBG.found_only al ⟨cfC, kC, iC, gC⟩, stC⟩
  have hA : Ch b A P.U := ⟨⟨K.1, State.isArrayOf_alike al K.2.1, K.2.2, by omega⟩, hty⟩
  have hS : StaticIs P.U ST "COMPACT_STRINGS" "Z" (.int z) := by
    obtain ⟨cfS, iS, kS, fS, st, cS, t1, t2, t3, t4, t5, t6, t7⟩ := S
    exact StaticIs.there (s := { Z with heap := P.U.heap }) ⟨cfS, iS, kS, fS, st, cS, t1, t2, t3, t4, t5, (fun q => by rw [q] at t6; cases t6), t7⟩ al rfl
  obtain ⟨v, B, X', ⟨⟨hv, E', V', q1, q2, q3, q4, q5, q6, q7, q8, q9, q10, q11⟩, hl, hc, hs⟩, st⟩ := New1.pays x D fV fC b A z (tab_of (moved hZ hw)) hfr hlo m meth c P g ig mk _ X hg hsize hdg hW hn ⟨r1, r2, rfl, hB, F1, F2, hA, hS, hz, l0, l2, hp⟩
  have al' : Z.vm.Alike B.U.vm := hZ.alike.trans X'.warmed.alike
  have hsz : E'.slots.size = D.slots.size := by
    obtain ⟨-, -, -, kB, w1, w2, w3⟩ := q1
    obtain ⟨kB', y1, y2⟩ := al'.2.2 _ _ e3
    rw [q2.2.1] at w1
    cases w1.symm.trans y1
    rw [w3, e5 i3, y2]
  refine ⟨v, B, X', ⟨_, ⟨hv, ?_, ⟨by omega, fun y cy hy hn' => q10 y cy (by simpa using hn') hy, fun y cy hy => ?_⟩, q11, ⟨E', _, q1.1, by rw [q2.2.1]; exact e2, by rw [q2.2.1]; exact e3, by rw [q2.1]; exact obV, fun _ => by rw [hsz]; exact e5 i3⟩,
    ⟨E', cfV, kV, iV, fV, q1.1, gV, stV, by rw [q2.1]; exact knV, by rw [q2.1]; exact obV, by rw [q2.2.1]; exact asV, q3⟩, ⟨E', cfC, kC, iC, fC, q1.1, gC, stC, by rw [q2.1]; exact knV, by rw [q2.1]; exact obV, by rw [q2.2.1]; exact asC, q4⟩,
    ⟨V', ⟨q5.1, State.isArrayOf_alike al'.symm q5.2.1, q5.2.2.1⟩, q6, by rw [← al'.findClass]; exact q7, q8, fun j hj => by have := q9 j hj; rwa [Nat.zero_add] at this⟩, fun O n d w F n1 n2 => ?_⟩, hl, hc, hs⟩, st⟩
  · intro y hy
    simp only [List.mem_cons, List.not_mem_nil, or_false] at hy
    rcases hy with rfl | rfl <;> rfl
  · by_cases q : y = x
    · subst q
      cases hD.symm.trans hy
      exact ⟨E', q1.1, q2.2.1, q2.1, hsz⟩
    · exact ⟨cy, q10 y cy q hy, rfl, rfl, rfl⟩
  · obtain ⟨D3, cf, k, i, f, g1, g2, g3, g4, g5, g6, g7⟩ := F
    cases hD.symm.trans g1
    simp only [RoadKit.slotOf, g2, gV, gC, Option.map_some, Option.getD_some] at n1 n2
    exact ⟨E', cf, k, i, f, q1.1, g2, g3, by rw [q2.1]; exact g4, by rw [q2.1]; exact g5, by rw [q2.2.1]; exact g6, by rw [q2.2.2 f.slot (by simp [n1, n2])]; exact g7⟩
end StrChars.Road
namespace StrChars.Road
open Jvm Sem ClassFile Op Lib Jvm.Stand Jvm.Free Jvm.Free.XT
/-- WHAT COMES BACK, the byte[] as a list of values -/
def QA (Z : State) (x : Addr) (zn : Int32) (cs : List Int32) (h : Heap) (v : Option Value) (h' : Heap) (L : List Loc) : Prop := v = none ∧ (∀ y ∈ L, y.base = x) ∧ RoadKit.Keep h h' [x] ∧ h'.size = h.size + 1 ∧ RoadKit.Exa Z h' x ST ∧ RoadKit.Fld Z h' x ST "value" "[B" (.ref h.size) ∧ RoadKit.Fld Z h' x ST "coder" "B" (.int 0) ∧
  (∃ kb, Z.vm.findClass "[B" = some kb ∧ RoadKit.Arv Z h' h.size kb .byte zn (cs.map fun c => .int (lo8 c)) (.int 0)) ∧
  ∀ (O n d : String) (w : Value), RoadKit.Fld Z h x O n d w → RoadKit.slotOf Z O n d ≠ RoadKit.slotOf Z ST "value" "[B" → RoadKit.slotOf Z O n d ≠ RoadKit.slotOf Z ST "coder" "B" → RoadKit.Fld Z h' x O n d w
/-- **new String(chars) AT A CALL, THE ARRAYS AS LISTS**: the char[] at b holds cs, not empty, no char above 255 -/
theorem backArv {p : Program} {l : Launch} {e : Env} {R : Room} {s : State} {args : Array Value} {below : List Frame} {len W : Nat} {Z : State} {a0 : Array Value} {h : Heap} (hZ : Z.Warmed39 s.vm) (hw : ∀ d ∈ words, d.before a0 Z = true) {kI : Nat} (wi : (Jvm.Cond.instantiable ST kI).before a0 Z = true)
    {x b : Addr} {k : ClassId} {zn z : Int32} {cs : List Int32} {dv v0 c0 : Value} (E : RoadKit.Exa Z h x ST) (V : RoadKit.Fld Z h x ST "value" "[B" v0) (C : RoadKit.Fld Z h x ST "coder" "B" c0) (K : RoadKit.Arv Z h b k .char zn (cs.map Value.int) dv) (S : RoadKit.Sta Z h ST "COMPACT_STRINGS" "Z" (.int z)) (hz : ¬ z = 0)
    (hlen : zn.toNatClampNeg = cs.length) (h0 : 0 < cs.length) (hbig : cs.length ≤ 536870912) (hall : ∀ c ∈ cs, ¬ 255 < c) (hfr : 4 ≤ R.frames) (hlo : W + 65 ≤ R.locals) :
    Back l R p e below s args New1.yN len W (fun P a => a = #[.ref x, .ref b] ∧ P.U.heap = h ∧ P.cells + 1 ≤ R.cells ∧ P.slots + cs.length ≤ R.slots)
      (fun P _ v B => ∃ L, QA Z x zn cs h v B.U.heap L ∧ B.locs = P.locs ++ L ∧ B.cells = P.cells + 1 ∧ B.slots = P.slots + cs.length) := by
  obtain ⟨A, K1, K2, K3, K4, K5, K6⟩ := K
  have e : A.slots.size = cs.length := K3.trans hlen
  have hat : ∀ (i : Nat) (hi : i < cs.length), A.slots[i]? = some (.int cs[i]) := fun i hi => by rw [K5 i (by omega)]; simp [List.getD_eq_getElem?_getD, hi]
  have hcv : ∀ (i : Nat) (hi : i < cs.length), cv A i = cs[i] := fun i hi => by unfold cv; rw [hat i hi]
  have hty : Typed .char A := fun i v hv => by
    have hi : i < A.slots.size := (Array.getElem?_eq_some_iff.mp hv).1
    have q := K5 i hi
    rw [hv] at q
    rw [Option.some.inj q]
    exact K6 i hi
  refine Back.mono (back hZ hw wi E V C K1 hty S hz (by omega) (by omega) (fun i hi => by rw [hcv i (by omega)]; exact hall _ (List.getElem_mem _)) hfr hlo) (fun P a hp => ⟨hp.1, hp.2.1, hp.2.2.1, by rw [e]; exact hp.2.2.2⟩) (fun P a v B hp hq => ?_)
  obtain ⟨L, ⟨q1, q2, q3, q4, q5, q6, q7, ⟨V', v1, v2, v3, v4, v5⟩, q9⟩, hl, hc, hs⟩ := hq
  refine ⟨L, ⟨q1, q2, q3, q4, q5, q6, q7, ⟨V'.cls, v3, V', v1, rfl, by rw [v4, e, hlen], K4, fun i hi => ?_, fun i hi => ?_⟩, q9⟩, hl, hc, by rw [hs, e]⟩
  · have hi' : i < cs.length := by omega
    rw [v5 i (by omega), hcv i hi']; simp [List.getD_eq_getElem?_getD, hi']
  · have hi' : i < cs.length := by omega
    simp only [List.getD_eq_getElem?_getD, List.getElem?_map, List.getElem?_eq_getElem hi', Option.map_some, Option.getD_some]
    exact fits_lo8 _
end StrChars.Road
namespace StrChars.Road
open Jvm Sem ClassFile Op Lib Jvm.Stand Jvm.Free Jvm.Free.XT
/-- WHAT COMES BACK, in the writer's own shape -/
def QV (Z : State) (x : Addr) (N : Int32) (bs : List Int32) (h : Heap) (n0 : Nat) (v : Option Value) (h' : Heap) (L : List Loc) : Prop := v = none ∧ RoadKit.Fr n0 L ∧ RoadKit.Keep h h' [x] ∧ RoadKit.Exa Z h' x ST ∧ RoadKit.Fld Z h' x ST "coder" "B" (.int 0) ∧
  ∃ (t : Addr) (kb : ClassId), n0 ≤ t ∧ h.size ≤ t ∧ ¬ t = x ∧ RoadKit.Fld Z h' x ST "value" "[B" (.ref t) ∧ RoadKit.Arv Z h' t kb .byte N (bs.map Value.int) (.int 0)
/-- **new String(chars) AT A CALL, FOR THE WRITER**: a char[] of n known ints, each 0 to 255 -/
theorem backV {p : Program} {l : Launch} {e : Env} {R : Room} {s : State} {args : Array Value} {below : List Frame} {len W : Nat} {Z : State} {a0 : Array Value} {h : Heap} (hZ : Z.Warmed39 s.vm) (hw : ∀ d ∈ words, d.before a0 Z = true) {kI : Nat} (wi : (Jvm.Cond.instantiable ST kI).before a0 Z = true)
    {x b : Addr} {kC : ClassId} {cs bs : List Int32} {d v0 c0 : Value} {z N : Int32} {n n0 : Nat} (hx0 : n0 ≤ x) (hh0 : n0 ≤ h.size) (E : RoadKit.Exa Z h x ST) (V : RoadKit.Fld Z h x ST "value" "[B" v0) (C : RoadKit.Fld Z h x ST "coder" "B" c0) (K : RoadKit.Arv Z h b kC .char N (cs.map Value.int) d) (S : RoadKit.Sta Z h ST "COMPACT_STRINGS" "Z" (.int z)) (hz : ¬ z = 0)
    (hn : cs.length = n) (hN : N = Int32.ofNat n) (l0 : 0 < n) (l2 : n ≤ 4000) (hp : ∀ c ∈ cs, ¬ c < 0 ∧ ¬ (255 : Int32) < c) (hb : bs = cs.map (fun c => c.toInt8.toInt32)) (hfr : 4 ≤ R.frames) (hlo : W + 65 ≤ R.locals) :
    Back l R p e below s args (⟨"java/lang/String", "<init>", "([C)V"⟩ : MethodName) len W (fun P a => a = #[.ref x, .ref b] ∧ P.U.heap = h ∧ P.cells + 1 ≤ R.cells ∧ P.slots + n ≤ R.slots)
      (fun P _ v B => ∃ L, QV Z x N bs h n0 v B.U.heap L ∧ B.locs = P.locs ++ L ∧ B.cells = P.cells + 1 ∧ B.slots = P.slots + n) := by
  subst hn hN hb
  refine Back.mono (backArv hZ hw wi E V C K S hz (n32 (by omega)) l0 (by omega) (fun c hc => (hp c hc).2) hfr hlo) (fun P a hp => hp) (fun P a v B hp hq => ?_)
  obtain ⟨L, ⟨q1, q2, q3, q4, q5, q6, q7, ⟨kb, v1, v2⟩, q9⟩, hl, hc, hs⟩ := hq
  exact ⟨L, ⟨q1, fun y hy => by rw [q2 y hy]; exact hx0, q3, q5, q7, h.size, kb, hh0, Nat.le_refl _, Nat.ne_of_gt E.lt, q6, by rw [List.map_map]; exact v2⟩, hl, hc, hs⟩
end StrChars.Road
namespace StrChars
open Jvm Sem ClassFile Op Lib Jvm.Stand Jvm.Free.XT Jvm.Free.ALB Jvm.Free.JM Jvm.Free
open Jvm.Lib.Cold (StaticIs)
def hi8 (x : Int32) : Int32 := lo8 (x >>> ((8 : Int32) &&& 31))
/-- what StringUTF16.getChar makes of two bytes -/
def pairCh (u v : Int32) : Int32 := (((u &&& 255) <<< ((0 : Int32) &&& 31)) ||| ((v &&& 255) <<< ((8 : Int32) &&& 31))).toUInt32.toUInt16.toUInt32.toInt32
theorem lo8_and (x : Int32) : (lo8 x &&& 255).toBitVec.toNat = x.toBitVec.toNat % 256 := by
  have h : (lo8 x).toBitVec = (x.toBitVec.signExtend 8).signExtend 32 := by rw [lo8, Int8.toBitVec_toInt32, Int32.toBitVec_toInt8]
  rw [Int32.toBitVec_and, BitVec.toNat_and, h]
  have e : ((x.toBitVec.signExtend 8).signExtend 32).toNat % 256 = x.toBitVec.toNat % 256 := by
    rw [BitVec.toNat_signExtend]
    have hlt := x.toBitVec.isLt
    simp only [BitVec.toNat_setWidth, BitVec.toNat_signExtend]
    split <;> split <;> omega
  rw [← e]
  exact Nat.and_two_pow_sub_one_eq_mod _ 8
theorem pair_says {c : Int32} (h0 : ¬ c < 0) (h1 : ¬ 65535 < c) : pairCh (lo8 c) (hi8 c) = c := by
  rw [Int32.lt_iff_toInt_lt] at h0 h1
  have e0 : (0 : Int32).toInt = 0 := rfl
  have e1 : (65535 : Int32).toInt = 65535 := rfl
  have hc : c.toInt = c.toBitVec.toNat := by
    have := c.toBitVec.isLt
    have e : c.toInt = c.toBitVec.toInt := rfl
    rw [e] at h0 h1
    rw [e]
    rw [BitVec.toInt_eq_toNat_cond] at h0 h1 ⊢
    split at h0 <;> split <;> omega
  have hn : c.toBitVec.toNat < 65536 := by omega
  have a1 := lo8_and c
  have a2 : (hi8 c &&& 255).toBitVec.toNat = c.toBitVec.toNat / 256 := by
    rw [hi8, lo8_and]
    have e : ((8 : Int32) &&& 31) = 8 := by decide
    rw [e, Int32.toBitVec_shiftRight]
    have e2 : ((8 : Int32).toBitVec.smod 32) = 8#32 := by decide
    rw [e2, BitVec.sshiftRight_eq', BitVec.toNat_sshiftRight_of_msb_false (by rw [BitVec.msb_eq_false_iff_two_mul_lt]; omega)]
    show c.toBitVec.toNat >>> 8 % 256 = _
    rw [Nat.shiftRight_eq_div_pow]
    omega
  unfold pairCh
  apply Int32.toBitVec_inj.mp
  apply BitVec.eq_of_toNat_eq
  have f0 : ((0 : Int32) &&& 31) = 0 := by decide
  have f8 : ((8 : Int32) &&& 31) = 8 := by decide
  rw [f0, f8]
  have g : (((lo8 c &&& 255) <<< (0 : Int32)) ||| ((hi8 c &&& 255) <<< (8 : Int32))).toBitVec.toNat = c.toBitVec.toNat := by
    rw [Int32.toBitVec_or, Int32.toBitVec_shiftLeft, Int32.toBitVec_shiftLeft]
    have s0 : ((0 : Int32).toBitVec.smod 32) = 0#32 := by decide
    have s8 : ((8 : Int32).toBitVec.smod 32) = 8#32 := by decide
    rw [s0, s8, BitVec.toNat_or]
    simp only [BitVec.shiftLeft_eq', BitVec.toNat_shiftLeft, a1, a2]
    show (c.toBitVec.toNat % 256) <<< 0 % 2 ^ 32 ||| (c.toBitVec.toNat / 256) <<< 8 % 2 ^ 32 = _
    rw [Nat.shiftLeft_zero, Nat.mod_eq_of_lt (show c.toBitVec.toNat % 256 < 2 ^ 32 by omega), Nat.mod_eq_of_lt (show (c.toBitVec.toNat / 256) <<< 8 < 2 ^ 32 by rw [Nat.shiftLeft_eq]; omega), Nat.or_comm, ← Nat.shiftLeft_add_eq_or_of_lt (by omega), Nat.shiftLeft_eq]
    omega
  show BitVec.toNat (((((lo8 c &&& 255) <<< (0 : Int32)) ||| ((hi8 c &&& 255) <<< (8 : Int32))).toBitVec.setWidth 16).setWidth 32) = _
  rw [BitVec.toNat_setWidth, BitVec.toNat_setWidth, g]
  omega
end StrChars
namespace StrChars
open Jvm Sem ClassFile Op Lib Jvm.Stand Jvm.Free.XT Jvm.Free.ALB Jvm.Free.JM Jvm.Free
open Jvm.Lib.Cold (StaticIs)
/-- the array's cell V codes the n chars f 0 .. f (n - 1) by the coder cd, as the JDK does: coder 1 just where some char is above 255 -/
def Cod (cd : Int32) (n : Nat) (f : Nat → Int32) (V : Cell) : Prop := (cd = 0 ∧ V.slots.size = n ∧ ∀ j, j < n → V.slots[j]? = some (.int (lo8 (f j))) ∧ ¬ 255 < f j) ∨ (cd = 1 ∧ V.slots.size = 2 * n ∧ (∀ j, j < n → V.slots[2 * j]? = some (.int (lo8 (f j))) ∧ V.slots[2 * j + 1]? = some (.int (hi8 (f j)))) ∧ ∃ j, j < n ∧ 255 < f j)
/-- **x is a String of the n chars f 0 .. f (n - 1)**, Latin-1 or UTF-16; its array at t has the cell V -/
def Txt (x t : Addr) (V : Cell) (cd : Int32) (n : Nat) (f : Nat → Int32) (U : State) : Prop := Exact "java/lang/String" x U ∧ Has x "java/lang/String" "value" "[B" (.ref t) U ∧ Has x "java/lang/String" "coder" "B" (.int cd) U ∧ XT.Arr .byte t V U ∧ Cod cd n f V ∧ ∀ j, j < n → ¬ f j < 0 ∧ ¬ 65535 < f j
theorem Txt.mv {x t : Addr} {V : Cell} {cd : Int32} {n : Nat} {f : Nat → Int32} {U U' : State} (h : Txt x t V cd n f U) (hal : U.vm.Alike U'.vm) (hh : U'.heap = U.heap) : Txt x t V cd n f U' := ⟨h.1.mv hal hh, h.2.1.mv hal hh, h.2.2.1.mv hal hh, h.2.2.2.1.mv hal hh, h.2.2.2.2⟩
end StrChars
namespace StrChars.Road
open Jvm Sem ClassFile Op Lib Jvm.Stand Jvm.Free Jvm.Free.XT
open Jvm.Lib.Cold (StaticIs)
theorem consq {a : Array Value} {s : State} {c : Jvm.Cond} {L : List Jvm.Cond} (h0 : c.before a s = true) (h : ∀ w ∈ L, w.before a s = true) : ∀ w ∈ c :: L, w.before a s = true := fun w hw => (List.mem_cons.mp hw).elim (fun e => e ▸ h0) (h w)
/-- the bytes of the chars cs, low before high -/
def wideBytes : List Int32 → List Value
  | [] => []
  | c :: cs => .int (lo8 c) :: .int (hi8 c) :: wideBytes cs
theorem wide_lo (d : Value) : ∀ (cs : List Int32) (j : Nat), j < cs.length → (wideBytes cs).getD (2 * j) d = .int (lo8 (cs.getD j 0))
  | [], j, h => absurd h (Nat.not_lt_zero j)
  | c :: cs, 0, _ => rfl
  | c :: cs, j + 1, h => by
    have q := wide_lo d cs j (by simpa using h)
    rw [show 2 * (j + 1) = 2 * j + 1 + 1 from by omega]
    simpa [wideBytes] using q
theorem wide_hi (d : Value) : ∀ (cs : List Int32) (j : Nat), j < cs.length → (wideBytes cs).getD (2 * j + 1) d = .int (hi8 (cs.getD j 0))
  | [], j, h => absurd h (Nat.not_lt_zero j)
  | c :: cs, 0, _ => rfl
  | c :: cs, j + 1, h => by
    have q := wide_hi d cs j (by simpa using h)
    rw [show 2 * (j + 1) + 1 = 2 * j + 1 + 1 + 1 from by omega]
    simpa [wideBytes] using q
theorem low_at (d : Value) (cs : List Int32) (j : Nat) (h : j < cs.length) : (cs.map fun c => Value.int (lo8 c)).getD j d = .int (lo8 (cs.getD j 0)) := by
  simp [List.getD_eq_getElem?_getD, h]
/-- an array of N2 bytes vs codes the chars cs by the coder cd -/
def CodA (cs : List Int32) (cd N2 : Int32) (vs : List Value) : Prop := (cd = 0 ∧ N2 = Int32.ofNat cs.length ∧ vs = (cs.map fun c => Value.int (lo8 c)) ∧ ∀ c ∈ cs, ¬ 255 < c) ∨ (cd = 1 ∧ N2 = Int32.ofNat (2 * cs.length) ∧ vs = wideBytes cs ∧ ∃ c ∈ cs, 255 < c)
theorem CodA.cod {cs : List Int32} {cd N2 : Int32} {vs : List Value} {V : Cell} (h : CodA cs cd N2 vs) (hn : 2 * cs.length < 2 ^ 31) (hs : V.slots.size = N2.toNatClampNeg) (hv : RoadKit.Has V vs (.int 0)) : Cod cd cs.length (fun j => cs.getD j 0) V := by
  rcases h with ⟨rfl, rfl, rfl, h⟩ | ⟨rfl, rfl, rfl, c, hc, hw⟩
  · rw [n32 (by omega)] at hs
    exact Or.inl ⟨rfl, hs, fun j hj => ⟨by rw [hv j (by omega), low_at _ _ _ hj], by
      have e : cs.getD j 0 = cs[j] := by simp [List.getD_eq_getElem?_getD, hj]
      show ¬ 255 < cs.getD j 0
      rw [e]; exact h _ (List.getElem_mem _)⟩⟩
  · rw [n32 (by omega)] at hs
    obtain ⟨j, hj, rfl⟩ := List.getElem_of_mem hc
    exact Or.inr ⟨rfl, hs, fun j hj => ⟨by rw [hv _ (by omega), wide_lo _ _ _ hj], by rw [hv _ (by omega), wide_hi _ _ _ hj]⟩, j, hj, by
      have e : cs.getD j 0 = cs[j] := by simp [List.getD_eq_getElem?_getD, hj]
      show 255 < cs.getD j 0
      rw [e]; exact hw⟩
/-- an object of exactly java/lang/String, its two fields found: as the laws ask it -/
theorem strObj {Z U : State} {a0 : Array Value} {kI : Nat} (wi : (Jvm.Cond.instantiable ST kI).before a0 Z = true) (al : Z.vm.Alike U.vm) {x : Addr} {v0 c0 : Value} (E : RoadKit.Exa Z U.heap x ST) (V : RoadKit.Fld Z U.heap x ST "value" "[B" v0) (C : RoadKit.Fld Z U.heap x ST "coder" "B" c0) :
    ∃ (D : Cell) (fV fC : Field), Blank ST x D U ∧ Found ST "value" "[B" fV U ∧ Found ST "coder" "B" fC U ∧ D.slots[fV.slot]? = some v0 ∧ D.slots[fC.slot]? = some c0 ∧ RoadKit.slotOf Z ST "value" "[B" = fV.slot ∧ RoadKit.slotOf Z ST "coder" "B" = fC.slot := by
  obtain ⟨D, cfV, kV, iV, fV, hD, gV, stV, knV, obV, asV, slV⟩ := V
  obtain ⟨D', cfC, kC, iC, fC, hD', gC, stC, -, -, asC, slC⟩ := C
  cases hD.symm.trans hD'
  obtain ⟨D2, kD, e1, e2, e3, e4, e5⟩ := E
  cases hD.symm.trans e1
  obtain ⟨c2, k2, i1, i2, i3, -⟩ := Cond.instantiable_spec wi
  cases e2.symm.trans i1
  cases e3.symm.trans i2
  obtain ⟨kU, u1, u2⟩ := al.2.2 _ _ e3
  exact ⟨D, fV, fC, ⟨hD, ⟨knV, fun q hq => by rw [hq] at obV; cases obV⟩, by rw [al.findClass]; exact e2, kU, u1, by rw [u2]; exact i3, by rw [u2]; exact e5 i3⟩, ⟨SBG.found_only al ⟨cfV, kV, iV, gV⟩, stV⟩, ⟨SBG.found_only al ⟨cfC, kC, iC, gC⟩, stC⟩, slV, slC, by simp [RoadKit.slotOf, gV], by simp [RoadKit.slotOf, gC]⟩
theorem sta_is {Z U : State} (al : Z.vm.Alike U.vm) {C n d : String} {v : Value} (S : RoadKit.Sta Z U.heap C n d v) : StaticIs U C n d v := by
  obtain ⟨cfS, iS, kS, fS, st, cS, t1, t2, t3, t4, t5, t6, t7⟩ := S
  exact StaticIs.there (s := { Z with heap := U.heap }) ⟨cfS, iS, kS, fS, st, cS, t1, t2, t3, t4, t5, (fun q => by rw [q] at t6; cases t6), t7⟩ al rfl
end StrChars.Road
namespace StrChars
open Jvm Sem ClassFile Op Lib Jvm.Stand Jvm.Free.XT Jvm.Free.ALB Jvm.Free.JM Jvm.Free
open Jvm.Lib.Cold (StaticIs)
/-- what place i of a byte[]'s cell holds -/
def yv (A : Cell) (i : Nat) : Int32 := match A.slots[i]? with | some (.int x) => x | _ => 0
theorem yv_get {a : Addr} {A : Cell} {U : State} (h : XT.Arr .byte a A U) (ht : Typed .byte A) {i : Nat} (hi : i < A.slots.size) : A.slots[i]? = some (.int (yv A i)) := by
  have e := Array.getElem?_eq_getElem hi
  have f := ht i _ e
  unfold yv; rw [e]
  generalize A.slots[i] = v at f
  cases v <;> simp [fits] at f ⊢
/-- the two arrays are equal, place for place -/
def EqC (A B : Cell) : Prop := A.slots.size = B.slots.size ∧ ∀ i, i < A.slots.size → yv A i = yv B i
/-- a boolean that says whether p -/
def Says01 (q : Prop) (r : Option Value) (s u : State) : Prop := ∃ v : Int32, r = some (.int v) ∧ u.heap = s.heap ∧ ((v = 1 ∧ q) ∨ (v = 0 ∧ ¬ q))
theorem Says01.mv {q : Prop} : ∀ r (U U' V V' : State), U'.heap = U.heap → V.vm.Alike V'.vm → V'.heap = V.heap → Says01 q r U V → Says01 q r U' V' :=
  fun r U U' V V' h1 _ h2 ⟨v, a, b, c⟩ => ⟨v, a, by rw [h1, h2]; exact b, c⟩
namespace LEq
def yN : MethodName := ⟨"java/lang/StringLatin1", "equals", "([B[B)Z"⟩
abbrev yB : ByteArray := jdk_43_method_13_code
theorem d0 : decode yB 0 = .ok (.aload_n 0, 1) := by decide +kernel
theorem d1 : decode yB 1 = .ok (.arraylength, 1) := by decide +kernel
theorem d2 : decode yB 2 = .ok (.aload_n 1, 1) := by decide +kernel
theorem d3 : decode yB 3 = .ok (.arraylength, 1) := by decide +kernel
theorem d4 : decode yB 4 = .ok (.if_icmp (.ne) 30, 3) := by decide +kernel
theorem d7 : decode yB 7 = .ok (.iconst 0, 1) := by decide +kernel
theorem d8 : decode yB 8 = .ok (.istore_n 2, 1) := by decide +kernel
theorem d9 : decode yB 9 = .ok (.iload_n 2, 1) := by decide +kernel
theorem d10 : decode yB 10 = .ok (.aload_n 0, 1) := by decide +kernel
theorem d11 : decode yB 11 = .ok (.arraylength, 1) := by decide +kernel
theorem d12 : decode yB 12 = .ok (.if_icmp (.ge) 20, 3) := by decide +kernel
theorem d15 : decode yB 15 = .ok (.aload_n 0, 1) := by decide +kernel
theorem d16 : decode yB 16 = .ok (.iload_n 2, 1) := by decide +kernel
theorem d17 : decode yB 17 = .ok (.baload, 1) := by decide +kernel
theorem d18 : decode yB 18 = .ok (.aload_n 1, 1) := by decide +kernel
theorem d19 : decode yB 19 = .ok (.iload_n 2, 1) := by decide +kernel
theorem d20 : decode yB 20 = .ok (.baload, 1) := by decide +kernel
theorem d21 : decode yB 21 = .ok (.if_icmp (.eq) 5, 3) := by decide +kernel
theorem d24 : decode yB 24 = .ok (.iconst 0, 1) := by decide +kernel
theorem d25 : decode yB 25 = .ok (.ireturn, 1) := by decide +kernel
theorem d26 : decode yB 26 = .ok (.iinc 2 1, 3) := by decide +kernel
theorem d29 : decode yB 29 = .ok (.goto (-20), 3) := by decide +kernel
theorem d32 : decode yB 32 = .ok (.iconst 1, 1) := by decide +kernel
theorem d33 : decode yB 33 = .ok (.ireturn, 1) := by decide +kernel
theorem d34 : decode yB 34 = .ok (.iconst 0, 1) := by decide +kernel
theorem d35 : decode yB 35 = .ok (.ireturn, 1) := by decide +kernel
def site : List Cond := []
def tab : Cond := tabOf yN yB 3 (some .boolean) site
def P (a : Addr) (A : Cell) (b : Addr) (B : Cell) (args : Array Value) (s : State) : Prop := args = #[.ref a, .ref b] ∧ XT.Arr .byte a A s ∧ Typed .byte A ∧ XT.Arr .byte b B s ∧ Typed .byte B
/-- whether two byte[] are equal, place for place -/
theorem law (l : Launch) (a : Addr) (A : Cell) (b : Addr) (B : Cell) : Law l yN 2 2 0 0 yB 3 (some .boolean) site (P a A b B) (Says01 (EqC A B)) [] 0 0 := by
  refine Law.of_walk (plainFor_of_name (by decide +kernel)) (by decide +kernel) (by decide +kernel) (by decide) (fun _ _ h => by rw [h.1]; rfl) (fun _ U U' hal hh h => ⟨h.1, h.2.1.mv hal hh, h.2.2.1, h.2.2.2.1.mv hal hh, h.2.2.2.2⟩) (fun r U U' V V' h1 hal h2 h => Says01.mv r U U' V V' h1 hal h2 h) ?_
  intro p e s m args below meth c s₁ X0 hexec hbytes hml hret hlk hnm hown hh0 W hP
  obtain ⟨rfl, hA, tA, hB, tB⟩ := hP
  have a31 := hA.2.2.2
  have b31 := hB.2.2.2
  have hA0 := hA.mv X0.warmed.alike hh0
  have hB0 := hB.mv X0.warmed.alike hh0
  have c1 : Steps p.tables e below (s₁.setTop (entryFrame m #[.ref a, .ref b] 3)) (s₁.setTop (mkF m 0 #[.val (.ref a), .val (.ref b), .unset] [])) := entry rfl
  have c2 : Steps p.tables e below (s₁.setTop (entryFrame m #[.ref a, .ref b] 3)) (s₁.setTop (mkF m 4 #[.val (.ref a), .val (.ref b), .unset] [.int (Int32.ofNat B.slots.size), .int (Int32.ofNat A.slots.size)])) := c1.trans (by
    refine XS.aloadN X0.here hexec rfl (hb hbytes d0) rfl rfl ?_
    refine X0.alen hexec hA0 rfl rfl (hb hbytes d1) ?_
    refine XS.aloadN X0.here hexec rfl (hb hbytes d2) rfl rfl ?_
    refine X0.alen hexec hB0 rfl rfl (hb hbytes d3) ?_
    exact Steps.refl _)
  by_cases hs : A.slots.size = B.slots.size
  · have c3 : Steps p.tables e below (s₁.setTop (entryFrame m #[.ref a, .ref b] 3)) (s₁.setTop (mkF m 9 #[.val (.ref a), .val (.ref b), .val (.int 0)] [])) := c2.trans (by
      refine XS.icmpNo X0.here hexec rfl (hb hbytes d4) rfl (ii_ne_f (by rw [hs])) ?_
      refine iconstV X0.here hexec rfl 0 (hb hbytes d7) (by decide) ?_
      refine XS.istoreN X0.here hexec rfl (hb hbytes d8) rfl rfl ?_
      exact Steps.refl _)
    have loop : ∀ (r i : Nat), i + r = A.slots.size → (∀ j, j < i → yv A j = yv B j) → Steps p.tables e below (s₁.setTop (entryFrame m #[.ref a, .ref b] 3)) (s₁.setTop (mkF m 9 #[.val (.ref a), .val (.ref b), .val (.int (Int32.ofNat i))] [])) → ∃ (pc : Nat) (Ls : Array Slot) (v : Int32), (pc = 25 ∨ pc = 33) ∧ ((v = 1 ∧ EqC A B) ∨ (v = 0 ∧ ¬ EqC A B)) ∧ Steps p.tables e below (s₁.setTop (entryFrame m #[.ref a, .ref b] 3)) (s₁.setTop (mkF m pc Ls [.int v])) := by
      intro r
      induction r with
      | zero =>
        intro i hi he cl
        exact ⟨33, _, 1, Or.inr rfl, Or.inl ⟨rfl, hs, fun j hj => he j (by omega)⟩, cl.trans (by
          refine XS.iloadN X0.here hexec rfl (hb hbytes d9) rfl ?_
          refine XS.aloadN X0.here hexec rfl (hb hbytes d10) rfl rfl ?_
          refine X0.alen hexec hA0 rfl rfl (hb hbytes d11) ?_
          refine XS.icmpYes X0.here hexec rfl (pc0 := 12) rfl (hb hbytes d12) rfl (ii_ge_t (nlt32 (by omega) (by omega))) (by decide) rfl ?_
          refine iconstV X0.here hexec rfl 1 (hb hbytes d32) (by decide) ?_
          exact Steps.refl _)⟩
      | succ r ih =>
        intro i hi he cl
        have c4 : Steps p.tables e below (s₁.setTop (entryFrame m #[.ref a, .ref b] 3)) (s₁.setTop (mkF m 21 #[.val (.ref a), .val (.ref b), .val (.int (Int32.ofNat i))] [.int (yv B i), .int (yv A i)])) := cl.trans (by
          refine XS.iloadN X0.here hexec rfl (hb hbytes d9) rfl ?_
          refine XS.aloadN X0.here hexec rfl (hb hbytes d10) rfl rfl ?_
          refine X0.alen hexec hA0 rfl rfl (hb hbytes d11) ?_
          refine XS.icmpNo X0.here hexec rfl (hb hbytes d12) rfl (ii_ge_f (lt32 (by omega) (by omega))) ?_
          refine XS.aloadN X0.here hexec rfl (hb hbytes d15) rfl rfl ?_
          refine XS.iloadN X0.here hexec rfl (hb hbytes d16) rfl ?_
          refine X0.aget hexec hA0 rfl (yv_get hA tA (i := i) (by omega)) rfl rfl (hb hbytes d17) ?_
          refine XS.aloadN X0.here hexec rfl (hb hbytes d18) rfl rfl ?_
          refine XS.iloadN X0.here hexec rfl (hb hbytes d19) rfl ?_
          refine X0.aget hexec hB0 rfl (yv_get hB tB (i := i) (by omega)) rfl rfl (hb hbytes d20) ?_
          exact Steps.refl _)
        by_cases hv : yv A i = yv B i
        · have c5 : Steps p.tables e below (s₁.setTop (entryFrame m #[.ref a, .ref b] 3)) (s₁.setTop (mkF m 9 #[.val (.ref a), .val (.ref b), .val (.int (Int32.ofNat i + 1))] [])) := c4.trans (by
            refine XS.icmpYes X0.here hexec rfl (pc0 := 21) rfl (hb hbytes d21) rfl (ii_eq_t hv) (by decide) rfl ?_
            refine iincV X0.here hexec rfl 1 (hb hbytes d26) (by decide) rfl rfl ?_
            refine XS.goto X0.here hexec rfl (pc0 := 29) rfl (hb hbytes d29) (by decide) rfl ?_
            exact Steps.refl _)
          rw [succ32] at c5
          exact ih (i + 1) (by omega) (fun j hj => by
            by_cases e : j = i
            · rw [e]; exact hv
            · exact he j (by omega)) c5
        · exact ⟨25, _, 0, Or.inl rfl, Or.inr ⟨rfl, fun q => hv (q.2 i (by omega))⟩, c4.trans (by
            refine XS.icmpNo X0.here hexec rfl (hb hbytes d21) rfl (ii_eq_f hv) ?_
            refine iconstV X0.here hexec rfl 0 (hb hbytes d24) (by decide) ?_
            exact Steps.refl _)⟩
    obtain ⟨pc, Ls, v, hpc, hv, cz⟩ := loop A.slots.size 0 (by omega) (fun j hj => absurd hj (Nat.not_lt_zero j)) c3
    have nv : narrow .boolean (.int v) = .int v := by rcases hv with ⟨rfl, -⟩ | ⟨rfl, -⟩ <;> rfl
    rcases hpc with rfl | rfl
    · exact ⟨s₁, some (.int v), _, _, _, X0, rfl, rfl, rfl, (fun h => by cases h), ⟨v, rfl, hh0, hv⟩, fun fs hl => cz.trans (X0.ireturnOut hexec hret nv (Or.inr (Or.inl rfl)) (hb hbytes d25) hl)⟩
    · exact ⟨s₁, some (.int v), _, _, _, X0, rfl, rfl, rfl, (fun h => by cases h), ⟨v, rfl, hh0, hv⟩, fun fs hl => cz.trans (X0.ireturnOut hexec hret nv (Or.inr (Or.inl rfl)) (hb hbytes d33) hl)⟩
  · have c3 : Steps p.tables e below (s₁.setTop (entryFrame m #[.ref a, .ref b] 3)) (s₁.setTop (mkF m 35 #[.val (.ref a), .val (.ref b), .unset] [.int 0])) := c2.trans (by
      refine XS.icmpYes X0.here hexec rfl (pc0 := 4) rfl (hb hbytes d4) rfl (ii_ne_t (ne32 a31 b31 hs)) (by decide) rfl ?_
      refine iconstV X0.here hexec rfl 0 (hb hbytes d34) (by decide) ?_
      exact Steps.refl _)
    exact ⟨s₁, some (.int 0), _, _, _, X0, rfl, rfl, rfl, (fun h => by cases h), ⟨0, rfl, hh0, Or.inr ⟨rfl, fun q => hs q.1⟩⟩, fun fs hl => c3.trans (X0.ireturnOut hexec hret rfl (Or.inr (Or.inl rfl)) (hb hbytes d35) hl)⟩
end LEq
theorem Cod.ty {cd : Int32} {n : Nat} {f : Nat → Int32} {V : Cell} (h : Cod cd n f V) : Typed .byte V := fun i v hv => by
  have hi : i < V.slots.size := (Array.getElem?_eq_some_iff.mp hv).1
  rcases h with ⟨-, k1, k2⟩ | ⟨-, k1, k2, -⟩
  · rw [(k2 i (by omega)).1] at hv; cases hv; exact fits_lo8 _
  · rcases Nat.mod_two_eq_zero_or_one i with e | e
    · obtain ⟨j, rfl⟩ : ∃ j, i = 2 * j := ⟨i / 2, by omega⟩
      rw [(k2 j (by omega)).1] at hv; cases hv; exact fits_lo8 _
    · obtain ⟨j, rfl⟩ : ∃ j, i = 2 * j + 1 := ⟨i / 2, by omega⟩
      rw [(k2 j (by omega)).2] at hv; cases hv; exact fits_lo8 _
/-- the same text -/
def SameT (n : Nat) (f : Nat → Int32) (k : Nat) (g : Nat → Int32) : Prop := n = k ∧ ∀ j, j < n → f j = g j
theorem lo8_inj {x y : Int32} (h0 : ¬ x < 0) (h1 : ¬ 255 < x) (k0 : ¬ y < 0) (k1 : ¬ 255 < y) (h : lo8 x = lo8 y) : x = y := by
  rw [← lo8_mask h0 h1, ← lo8_mask k0 k1, h]
/-- arrays coded by one coder are equal just where the texts are -/
theorem Cod.eqv {cd : Int32} {n k : Nat} {f g : Nat → Int32} {V V' : Cell} (h : Cod cd n f V) (h' : Cod cd k g V') (hf : ∀ j, j < n → ¬ f j < 0 ∧ ¬ 65535 < f j) (hg : ∀ j, j < k → ¬ g j < 0 ∧ ¬ 65535 < g j) : EqC V V' ↔ SameT n f k g := by
  have yvv : ∀ {W : Cell} {i : Nat} {x : Int32}, W.slots[i]? = some (.int x) → yv W i = x := fun q => by unfold yv; rw [q]
  rcases h with ⟨rfl, k1, k2⟩ | ⟨rfl, k1, k2, -⟩
  · rcases h' with ⟨-, m1, m2⟩ | ⟨e, -⟩
    · constructor
      · rintro ⟨e1, e2⟩
        refine ⟨by omega, fun j hj => ?_⟩
        have q := e2 j (by omega)
        rw [yvv (k2 j hj).1, yvv (m2 j (by omega)).1] at q
        exact lo8_inj (hf j hj).1 (k2 j hj).2 (hg j (by omega)).1 (m2 j (by omega)).2 q
      · rintro ⟨rfl, e2⟩
        refine ⟨by omega, fun j hj => ?_⟩
        rw [yvv (k2 j (by omega)).1, yvv (m2 j (by omega)).1, e2 j (by omega)]
    · exact absurd e (by decide)
  · rcases h' with ⟨e, -⟩ | ⟨-, m1, m2, -⟩
    · exact absurd e (by decide)
    · constructor
      · rintro ⟨e1, e2⟩
        refine ⟨by omega, fun j hj => ?_⟩
        have q1 := e2 (2 * j) (by omega)
        have q2 := e2 (2 * j + 1) (by omega)
        rw [yvv (k2 j hj).1, yvv (m2 j (by omega)).1] at q1
        rw [yvv (k2 j hj).2, yvv (m2 j (by omega)).2] at q2
        rw [← pair_says (hf j hj).1 (hf j hj).2, ← pair_says (hg j (by omega)).1 (hg j (by omega)).2, q1, q2]
      · rintro ⟨rfl, e2⟩
        refine ⟨by omega, fun i hi => ?_⟩
        rcases Nat.mod_two_eq_zero_or_one i with e | e
        · obtain ⟨j, rfl⟩ : ∃ j, i = 2 * j := ⟨i / 2, by omega⟩
          rw [yvv (k2 j (by omega)).1, yvv (m2 j (by omega)).1, e2 j (by omega)]
        · obtain ⟨j, rfl⟩ : ∃ j, i = 2 * j + 1 := ⟨i / 2, by omega⟩
          rw [yvv (k2 j (by omega)).2, yvv (m2 j (by omega)).2, e2 j (by omega)]
/-- two codings differ: so do the texts -/
theorem Cod.dif {cd cd' : Int32} {n k : Nat} {f g : Nat → Int32} {V V' : Cell} (h : Cod cd n f V) (h' : Cod cd' k g V') (hne : ¬ cd = cd') : ¬ SameT n f k g := by
  rintro ⟨rfl, e⟩
  rcases h with ⟨rfl, -, k2⟩ | ⟨rfl, -, -, j, hj, hw⟩
  · rcases h' with ⟨rfl, -⟩ | ⟨-, -, -, j, hj, hw⟩
    · exact hne rfl
    · exact (k2 j hj).2 (by rw [e j hj]; exact hw)
  · rcases h' with ⟨-, -, m2⟩ | ⟨rfl, -⟩
    · exact (m2 j hj).2 (by rw [← e j hj]; exact hw)
    · exact hne rfl
/-- an object of exactly C is an instance of C -/
theorem cinst {p : Program} {l : Launch} {e : Env} {R : Room} {s : State} {m : MethodId} {args : Array Value} {below : List Frame} {meth : Method} {c : Code} {T : State} {locs : List Loc} {cells slots : Nat} (X : Stand p l e R s m args below meth c T locs cells slots) (hexec : p.tables.exec = Jvm.exec) {own C : String} {index : Nat} (hown : s.vm.findClass own = some m.cls) (hlink : (Cond.classLink own index C).before args s = true) {a : Addr} (hE : Exact C a T)
    {g : JFrame} (hg : g.method = m) {rest : List Value} (hstack : g.stack = .ref a :: rest) (hdg : decode c.code g.pc = .ok (.instanceof index, 3)) :
    ∃ T', Stand p l e R s m args below meth c T' locs cells slots ∧ T'.heap = T.heap ∧ ∀ target, Steps p.tables e below (T'.setTop { g with pc := g.pc + 3, stack := .int 1 :: rest }) target → Steps p.tables e below (T.setTop g) target := by
  obtain ⟨cB, h1, D, h2, h3, h4⟩ := hE
  have h1' : s.vm.findClass C = some cB := by rw [← X.warmed.alike.findClass]; exact h1
  obtain ⟨vm', X', st⟩ := X.instanceofYes hexec hown hlink h2 h4 h1' (by rw [h3]; exact Jvm.Free.SB.assignable_self _ _) hg hstack hdg
  exact ⟨_, X', rfl, st⟩
theorem cself {p : Program} {l : Launch} {e : Env} {R : Room} {s : State} {m : MethodId} {args : Array Value} {below : List Frame} {meth : Method} {c : Code} {T : State} {locs : List Loc} {cells slots : Nat} (X : Stand p l e R s m args below meth c T locs cells slots) (hexec : p.tables.exec = Jvm.exec) {own C : String} {index : Nat} (hown : s.vm.findClass own = some m.cls) (hlink : (Cond.classLink own index C).before args s = true) {a : Addr} (hE : Exact C a T)
    {g : JFrame} (hg : g.method = m) {rest : List Value} (hstack : g.stack = .ref a :: rest) (hdg : decode c.code g.pc = .ok (.checkcast index, 3)) :
    ∃ T', Stand p l e R s m args below meth c T' locs cells slots ∧ T'.heap = T.heap ∧ ∀ target, Steps p.tables e below (T'.setTop { g with pc := g.pc + 3, stack := .ref a :: rest }) target → Steps p.tables e below (T.setTop g) target := by
  obtain ⟨cB, h1, D, h2, h3, h4⟩ := hE
  have h1' : s.vm.findClass C = some cB := by rw [← X.warmed.alike.findClass]; exact h1
  obtain ⟨vm', X', st⟩ := X.checkcastYes hexec hown hlink h2 h4 h1' (by rw [h3]; exact Jvm.Free.SB.assignable_self _ _) hg hstack hdg
  exact ⟨_, X', rfl, fun t h => st t (by rw [← hstack] at h; exact h)⟩
namespace SEq
def yN : MethodName := ⟨"java/lang/String", "equals", "(Ljava/lang/Object;)Z"⟩
abbrev yB : ByteArray := jdk_42_method_66_code
theorem d0 : decode yB 0 = .ok (.aload_n 0, 1) := by decide +kernel
theorem d1 : decode yB 1 = .ok (.aload_n 1, 1) := by decide +kernel
theorem d2 : decode yB 2 = .ok (.if_acmp (.ne) 5, 3) := by decide +kernel
theorem d5 : decode yB 5 = .ok (.iconst 1, 1) := by decide +kernel
theorem d6 : decode yB 6 = .ok (.ireturn, 1) := by decide +kernel
theorem d7 : decode yB 7 = .ok (.aload_n 1, 1) := by decide +kernel
theorem d8 : decode yB 8 = .ok (.instanceof 10, 3) := by decide +kernel
theorem d11 : decode yB 11 = .ok (.ifCond (.eq) 43, 3) := by decide +kernel
theorem d14 : decode yB 14 = .ok (.aload_n 1, 1) := by decide +kernel
theorem d15 : decode yB 15 = .ok (.checkcast 10, 3) := by decide +kernel
theorem d18 : decode yB 18 = .ok (.astore_n 2, 1) := by decide +kernel
theorem d19 : decode yB 19 = .ok (.getstatic 38, 3) := by decide +kernel
theorem d22 : decode yB 22 = .ok (.ifCond (.eq) 14, 3) := by decide +kernel
theorem d25 : decode yB 25 = .ok (.aload_n 0, 1) := by decide +kernel
theorem d26 : decode yB 26 = .ok (.getfield 15, 3) := by decide +kernel
theorem d29 : decode yB 29 = .ok (.aload_n 2, 1) := by decide +kernel
theorem d30 : decode yB 30 = .ok (.getfield 15, 3) := by decide +kernel
theorem d33 : decode yB 33 = .ok (.if_icmp (.ne) 21, 3) := by decide +kernel
theorem d36 : decode yB 36 = .ok (.aload_n 0, 1) := by decide +kernel
theorem d37 : decode yB 37 = .ok (.getfield 9, 3) := by decide +kernel
theorem d40 : decode yB 40 = .ok (.aload_n 2, 1) := by decide +kernel
theorem d41 : decode yB 41 = .ok (.getfield 9, 3) := by decide +kernel
theorem d44 : decode yB 44 = .ok (.invokestatic 541, 3) := by decide +kernel
theorem d47 : decode yB 47 = .ok (.ifCond (.eq) 7, 3) := by decide +kernel
theorem d50 : decode yB 50 = .ok (.iconst 1, 1) := by decide +kernel
theorem d51 : decode yB 51 = .ok (.goto 4, 3) := by decide +kernel
theorem d54 : decode yB 54 = .ok (.iconst 0, 1) := by decide +kernel
theorem d55 : decode yB 55 = .ok (.ireturn, 1) := by decide +kernel
def site : List Cond := [.classLink "java/lang/String" 10 "java/lang/String", .fieldLink "java/lang/String" 38 "java/lang/String" "COMPACT_STRINGS" "Z", .fieldLink "java/lang/String" 15 "java/lang/String" "coder" "B", .fieldLink "java/lang/String" 9 "java/lang/String" "value" "[B", LEq.tab] ++ staticW "java/lang/String" 541 LEq.yN
def tab : Cond := tabOf yN yB 3 (some .boolean) site
def P (x t : Addr) (V : Cell) (cd : Int32) (n : Nat) (f : Nat → Int32) (y t' : Addr) (V' : Cell) (cd' : Int32) (k : Nat) (g : Nat → Int32) (z : Int32) (args : Array Value) (s : State) : Prop := args = #[.ref x, .ref y] ∧ Txt x t V cd n f s ∧ Txt y t' V' cd' k g s ∧ StaticIs s "java/lang/String" "COMPACT_STRINGS" "Z" (.int z) ∧ ¬ z = 0
/-- equals(Object) of two Strings: whether the texts are the same -/
theorem law (l : Launch) (x t : Addr) (V : Cell) (cd : Int32) (n : Nat) (f : Nat → Int32) (y t' : Addr) (V' : Cell) (cd' : Int32) (k : Nat) (g : Nat → Int32) (z : Int32) : Law l yN 2 1 1 14 yB 3 (some .boolean) site (P x t V cd n f y t' V' cd' k g z) (Says01 (SameT n f k g)) [] 0 0 := by
  refine Law.of_walk (plainFor_of_name (by decide +kernel)) (by decide +kernel) (by decide +kernel) (by decide) (fun _ _ h => by rw [h.1]; rfl) (fun _ U U' hal hh h => ⟨h.1, h.2.1.mv hal hh, h.2.2.1.mv hal hh, h.2.2.2.1.there hal hh, h.2.2.2.2⟩) (fun r U U' V V' h1 hal h2 h => Says01.mv r U U' V V' h1 hal h2 h) ?_
  intro p e s m args below meth c s₁ X0 hexec hbytes hml hret hlk hnm hown hh0 W hP
  obtain ⟨rfl, hx, hy, s1, hz⟩ := hP
  have c1 : Steps p.tables e below (s₁.setTop (entryFrame m #[.ref x, .ref y] 3)) (s₁.setTop (mkF m 2 #[.val (.ref x), .val (.ref y), .unset] [.ref y, .ref x])) := Steps.trans (entry rfl) (by
    show Steps p.tables e below (s₁.setTop (mkF m 0 #[.val (.ref x), .val (.ref y), .unset] [])) _
    refine XS.aloadN X0.here hexec rfl (hb hbytes d0) rfl rfl ?_
    refine XS.aloadN X0.here hexec rfl (hb hbytes d1) rfl rfl ?_
    exact Steps.refl _)
  by_cases hxy : x = y
  · have c2 : Steps p.tables e below (s₁.setTop (entryFrame m #[.ref x, .ref y] 3)) (s₁.setTop (mkF m 6 #[.val (.ref x), .val (.ref y), .unset] [.int 1])) := c1.trans (by
      refine acmpNo X0.here hexec rfl (hb hbytes d2) rfl rfl rfl (by simp [acmp, hxy]) ?_
      refine iconstV X0.here hexec rfl 1 (hb hbytes d5) (by decide) ?_
      exact Steps.refl _)
    subst hxy
    have ec : cd = cd' := by
      obtain ⟨D, fd, a1, a2, a3⟩ := hx.2.2.1
      obtain ⟨D', fd', b1, b2, b3⟩ := hy.2.2.1
      cases a1.symm.trans b1
      obtain ⟨q1, q2, q3, q4⟩ := a2.1
      obtain ⟨r1, r2, r3, r4⟩ := b2.1
      cases q4.symm.trans r4
      cases a3.symm.trans b3; rfl
    have et : t = t' := by
      obtain ⟨D, fd, a1, a2, a3⟩ := hx.2.1
      obtain ⟨D', fd', b1, b2, b3⟩ := hy.2.1
      cases a1.symm.trans b1
      obtain ⟨q1, q2, q3, q4⟩ := a2.1
      obtain ⟨r1, r2, r3, r4⟩ := b2.1
      cases q4.symm.trans r4
      cases a3.symm.trans b3; rfl
    subst ec et
    have ev : V = V' := by cases hx.2.2.2.1.1.symm.trans hy.2.2.2.1.1; rfl
    subst ev
    have hs : SameT n f k g := (Cod.eqv hx.2.2.2.2.1 hy.2.2.2.2.1 hx.2.2.2.2.2 hy.2.2.2.2.2).mp ⟨rfl, fun _ _ => rfl⟩
    exact ⟨s₁, some (.int 1), _, _, _, X0, rfl, rfl, rfl, (fun h => by cases h), ⟨1, rfl, hh0, Or.inl ⟨rfl, hs⟩⟩, fun fs hl => c2.trans (X0.ireturnOut hexec hret rfl (Or.inr (Or.inl rfl)) (hb hbytes d6) hl)⟩
  · have c2 : Steps p.tables e below (s₁.setTop (entryFrame m #[.ref x, .ref y] 3)) (s₁.setTop (mkF m 8 #[.val (.ref x), .val (.ref y), .unset] [.ref y])) := c1.trans (by
      refine acmpYes X0.here hexec rfl (pc0 := 2) rfl (hb hbytes d2) rfl rfl rfl (by simp [acmp, hxy]) (by decide) rfl ?_
      refine XS.aloadN X0.here hexec rfl (hb hbytes d7) rfl rfl ?_
      exact Steps.refl _)
    obtain ⟨T3, X3, q3, st3⟩ := cinst X0 hexec hown (wk W (.classLink "java/lang/String" 10 "java/lang/String")) (hy.mv X0.warmed.alike hh0).1 (g := (mkF m 8 #[.val (.ref x), .val (.ref y), .unset] [.ref y])) rfl (rest := []) rfl (hb hbytes d8)
    have hh3 := q3.trans hh0
    have c4 : Steps p.tables e below (s₁.setTop (entryFrame m #[.ref x, .ref y] 3)) (T3.setTop (mkF m 15 #[.val (.ref x), .val (.ref y), .unset] [.ref y])) := (c2.trans (st3 _ (Steps.refl _))).trans (by
      refine XS.ifNo X3.here hexec rfl (hb hbytes d11) rfl (i0_eq_f (by decide)) ?_
      refine XS.aloadN X3.here hexec rfl (hb hbytes d14) rfl rfl ?_
      exact Steps.refl _)
    obtain ⟨T5, X5, q5, st5⟩ := cself X3 hexec hown (wk W (.classLink "java/lang/String" 10 "java/lang/String")) (hy.mv X3.warmed.alike hh3).1 (g := (mkF m 15 #[.val (.ref x), .val (.ref y), .unset] [.ref y])) rfl (rest := []) rfl (hb hbytes d15)
    have hh5 := q5.trans hh3
    have c6 : Steps p.tables e below (s₁.setTop (entryFrame m #[.ref x, .ref y] 3)) (T5.setTop (mkF m 19 #[.val (.ref x), .val (.ref y), .val (.ref y)] [])) := (c4.trans (st5 _ (Steps.refl _))).trans (by
      refine XS.astoreN X5.here hexec rfl (hb hbytes d18) rfl rfl rfl ?_
      exact Steps.refl _)
    obtain ⟨T7, X7, q7, st7⟩ := X5.sget hexec hown (wk W (.fieldLink "java/lang/String" 38 "java/lang/String" "COMPACT_STRINGS" "Z")) s1 (fun _ _ h => by rw [hh5]; exact h) (g := (mkF m 19 #[.val (.ref x), .val (.ref y), .val (.ref y)] [])) rfl (hb hbytes d19)
    have hh7 := q7.trans hh5
    have c8 : Steps p.tables e below (s₁.setTop (entryFrame m #[.ref x, .ref y] 3)) (T7.setTop (mkF m 26 #[.val (.ref x), .val (.ref y), .val (.ref y)] [.ref x])) := (c6.trans (st7 _ (Steps.refl _))).trans (by
      refine XS.ifNo X7.here hexec rfl (hb hbytes d22) rfl (i0_eq_f hz) ?_
      refine XS.aloadN X7.here hexec rfl (hb hbytes d25) rfl rfl ?_
      exact Steps.refl _)
    obtain ⟨T9, X9, q9, st9⟩ := X7.hget hexec hown (wk W (.fieldLink "java/lang/String" 15 "java/lang/String" "coder" "B")) (hx.mv X7.warmed.alike hh7).2.2.1 (g := (mkF m 26 #[.val (.ref x), .val (.ref y), .val (.ref y)] [.ref x])) rfl (rest := []) rfl (hb hbytes d26)
    have hh9 := q9.trans hh7
    have c10 : Steps p.tables e below (s₁.setTop (entryFrame m #[.ref x, .ref y] 3)) (T9.setTop (mkF m 30 #[.val (.ref x), .val (.ref y), .val (.ref y)] [.ref y, .int cd])) := (c8.trans (st9 _ (Steps.refl _))).trans (by
      refine XS.aloadN X9.here hexec rfl (hb hbytes d29) rfl rfl ?_
      exact Steps.refl _)
    obtain ⟨T11, X11, q11, st11⟩ := X9.hget hexec hown (wk W (.fieldLink "java/lang/String" 15 "java/lang/String" "coder" "B")) (hy.mv X9.warmed.alike hh9).2.2.1 (g := (mkF m 30 #[.val (.ref x), .val (.ref y), .val (.ref y)] [.ref y, .int cd])) rfl (rest := [.int cd]) rfl (hb hbytes d30)
    have hh11 := q11.trans hh9
    have c12 : Steps p.tables e below (s₁.setTop (entryFrame m #[.ref x, .ref y] 3)) (T11.setTop (mkF m 33 #[.val (.ref x), .val (.ref y), .val (.ref y)] [.int cd', .int cd])) := c10.trans (st11 _ (Steps.refl _))
    by_cases hcd : cd = cd'
    · subst hcd
      have c13 : Steps p.tables e below (s₁.setTop (entryFrame m #[.ref x, .ref y] 3)) (T11.setTop (mkF m 37 #[.val (.ref x), .val (.ref y), .val (.ref y)] [.ref x])) := c12.trans (by
        refine XS.icmpNo X11.here hexec rfl (hb hbytes d33) rfl (ii_ne_f rfl) ?_
        refine XS.aloadN X11.here hexec rfl (hb hbytes d36) rfl rfl ?_
        exact Steps.refl _)
      obtain ⟨T14, X14, q14, st14⟩ := X11.hget hexec hown (wk W (.fieldLink "java/lang/String" 9 "java/lang/String" "value" "[B")) (hx.mv X11.warmed.alike hh11).2.1 (g := (mkF m 37 #[.val (.ref x), .val (.ref y), .val (.ref y)] [.ref x])) rfl (rest := []) rfl (hb hbytes d37)
      have hh14 := q14.trans hh11
      have c15 : Steps p.tables e below (s₁.setTop (entryFrame m #[.ref x, .ref y] 3)) (T14.setTop (mkF m 41 #[.val (.ref x), .val (.ref y), .val (.ref y)] [.ref y, .ref t])) := (c13.trans (st14 _ (Steps.refl _))).trans (by
        refine XS.aloadN X14.here hexec rfl (hb hbytes d40) rfl rfl ?_
        exact Steps.refl _)
      obtain ⟨T16, X16, q16, st16⟩ := X14.hget hexec hown (wk W (.fieldLink "java/lang/String" 9 "java/lang/String" "value" "[B")) (hy.mv X14.warmed.alike hh14).2.1 (g := (mkF m 41 #[.val (.ref x), .val (.ref y), .val (.ref y)] [.ref y, .ref t])) rfl (rest := [.ref t]) rfl (hb hbytes d41)
      have hh16 := q16.trans hh14
      have c17 : Steps p.tables e below (s₁.setTop (entryFrame m #[.ref x, .ref y] 3)) (T16.setTop (mkF m 44 #[.val (.ref x), .val (.ref y), .val (.ref y)] [.ref t', .ref t])) := c15.trans (st16 _ (Steps.refl _))
      obtain ⟨v18, T18, X18, E18, g18⟩ := X16.callS hexec (LEq.law l t V t' V') hown (wks W (staticW "java/lang/String" 541 LEq.yN)) (wk W LEq.tab) (W := 0) (Nat.le_of_ble_eq_true rfl) (Nat.le_of_ble_eq_true rfl) (Nat.le_refl _) (Nat.le_refl _) (g := (mkF m 44 #[.val (.ref x), .val (.ref y), .val (.ref y)] [.ref t', .ref t])) rfl (by rw [hml]; rfl) c17 (argsL := [.ref t, .ref t']) (rest := []) rfl rfl (by show 2 * 0 + 0 ≤ _; decide) (hb hbytes d44) (⟨rfl, hx.2.2.2.1.mv X16.warmed.alike hh16, hx.2.2.2.2.1.ty, hy.2.2.2.1.mv X16.warmed.alike hh16, hy.2.2.2.2.1.ty⟩)
      obtain ⟨v, rfl, q18, hv⟩ := E18
      have iff := Cod.eqv hx.2.2.2.2.1 hy.2.2.2.2.1 hx.2.2.2.2.2 hy.2.2.2.2.2
      rcases hv with ⟨rfl, he⟩ | ⟨rfl, he⟩
      · have c19 : Steps p.tables e below (s₁.setTop (entryFrame m #[.ref x, .ref y] 3)) (T18.setTop (mkF m 55 #[.val (.ref x), .val (.ref y), .val (.ref y)] [.int 1])) := Steps.trans g18 (by
          refine XS.ifNo X18.here hexec rfl (hb hbytes d47) rfl (i0_eq_f (by decide)) ?_
          refine iconstV X18.here hexec rfl 1 (hb hbytes d50) (by decide) ?_
          refine XS.goto X18.here hexec rfl (pc0 := 51) rfl (hb hbytes d51) (by decide) rfl ?_
          exact Steps.refl _)
        exact ⟨T18, some (.int 1), _, _, _, X18, rfl, rfl, rfl, (fun h => by cases h), ⟨1, rfl, q18.trans hh16, Or.inl ⟨rfl, iff.mp he⟩⟩, fun fs hl => c19.trans (X18.ireturnOut hexec hret rfl (Or.inr (Or.inl rfl)) (hb hbytes d55) hl)⟩
      · have c19 : Steps p.tables e below (s₁.setTop (entryFrame m #[.ref x, .ref y] 3)) (T18.setTop (mkF m 55 #[.val (.ref x), .val (.ref y), .val (.ref y)] [.int 0])) := Steps.trans g18 (by
          refine XS.ifYes X18.here hexec rfl (pc0 := 47) rfl (hb hbytes d47) rfl (i0_eq_t rfl) (by decide) rfl ?_
          refine iconstV X18.here hexec rfl 0 (hb hbytes d54) (by decide) ?_
          exact Steps.refl _)
        exact ⟨T18, some (.int 0), _, _, _, X18, rfl, rfl, rfl, (fun h => by cases h), ⟨0, rfl, q18.trans hh16, Or.inr ⟨rfl, fun q => he (iff.mpr q)⟩⟩, fun fs hl => c19.trans (X18.ireturnOut hexec hret rfl (Or.inr (Or.inl rfl)) (hb hbytes d55) hl)⟩
    · have c13 : Steps p.tables e below (s₁.setTop (entryFrame m #[.ref x, .ref y] 3)) (T11.setTop (mkF m 55 #[.val (.ref x), .val (.ref y), .val (.ref y)] [.int 0])) := c12.trans (by
        refine XS.icmpYes X11.here hexec rfl (pc0 := 33) rfl (hb hbytes d33) rfl (ii_ne_t hcd) (by decide) rfl ?_
        refine iconstV X11.here hexec rfl 0 (hb hbytes d54) (by decide) ?_
        exact Steps.refl _)
      exact ⟨T11, some (.int 0), _, _, _, X11, rfl, rfl, rfl, (fun h => by cases h), ⟨0, rfl, hh11, Or.inr ⟨rfl, Cod.dif hx.2.2.2.2.1 hy.2.2.2.2.1 hcd⟩⟩, fun fs hl => c13.trans (X11.ireturnOut hexec hret rfl (Or.inr (Or.inl rfl)) (hb hbytes d55) hl)⟩
theorem pays {l : Launch} {R : Room} {p : Program} {e : Env} {below : List Frame} {s : State} {sargs : Array Value} {len W : Nat} (x t : Addr) (V : Cell) (cd : Int32) (n : Nat) (f : Nat → Int32) (y t' : Addr) (V' : Cell) (cd' : Int32) (k : Nat) (g : Nat → Int32) (z : Int32) (htab : tab.before sargs s = true) (hfr : 2 ≤ R.frames) (hlo : W + 28 ≤ R.locals) :
    Back l R p e below s sargs yN len W (fun A₁ a₁ => A₁.cells + 0 ≤ R.cells ∧ A₁.slots + 0 ≤ R.slots ∧ P x t V cd n f y t' V' cd' k g z a₁ A₁.U) (fun A₁ _ v₁ B₁ => Says01 (SameT n f k g) v₁ A₁.U B₁.U ∧ B₁.locs = A₁.locs ++ [] ∧ B₁.cells = A₁.cells + 0 ∧ B₁.slots = A₁.slots + 0) :=
  (law l x t V cd n f y t' V' cd' k g z).pays htab hfr (by omega)
end SEq
end StrChars
namespace StrChars.Road
open Jvm Sem ClassFile Op Lib Jvm.Stand Jvm.Free Jvm.Free.XT
open Jvm.Lib.Cold (StaticIs)
/-- the words of String.equals(Object) -/
abbrev wordsEq : List Jvm.Cond := [.code SEq.yN SEq.yB 3 (some .boolean), .initialized ST, .classLink ST 10 ST, .fieldLink ST 38 ST "COMPACT_STRINGS" "Z", .fieldLink ST 15 ST "coder" "B", .fieldLink ST 9 ST "value" "[B", .methodLink ST 541 LEq.yN, .static LEq.yN, .code LEq.yN LEq.yB 3 (some .boolean), .initialized "java/lang/StringLatin1"]
theorem tabEq_of {a : Array Value} {s : State} (h : ∀ w ∈ wordsEq, w.before a s = true) : SEq.tab.before a s = true := by
  have hl : LEq.tab.before a s = true := unparts (wk h (.code LEq.yN LEq.yB 3 (some .boolean))) (wks h (.initialized LEq.yN.cls :: LEq.site))
  have q := consq hl h
  exact unparts (wk q (.code SEq.yN SEq.yB 3 (some .boolean))) (wks q (.initialized SEq.yN.cls :: SEq.site))
theorem movedEq {Z s : State} {a0 args : Array Value} (hZ : Z.Warmed39 s.vm) (hw : ∀ d ∈ wordsEq, d.before a0 Z = true) : ∀ d ∈ wordsEq, d.before args s = true := fun d hd => by
  have t : ∀ d ∈ wordsEq, (d.onTables && d.keepsFace) = true := by decide +kernel
  exact RoadKit.mv hZ (hw d hd) (t d hd)
/-- the road's facts of a String, as the laws ask it -/
theorem txt_of {Z U : State} {a0 : Array Value} {kI : Nat} (wi : (Jvm.Cond.instantiable ST kI).before a0 Z = true) (al : Z.vm.Alike U.vm) {x t : Addr} {kb : ClassId} {cs : List Int32} {cd N2 : Int32} {vs : List Value} (E : RoadKit.Exa Z U.heap x ST) (V : RoadKit.Fld Z U.heap x ST "value" "[B" (.ref t)) (C : RoadKit.Fld Z U.heap x ST "coder" "B" (.int cd)) (K : RoadKit.Arv Z U.heap t kb .byte N2 vs (.int 0)) (hc : CodA cs cd N2 vs) (hb : ∀ c ∈ cs, ¬ c < 0 ∧ ¬ (65535 : Int32) < c) (l2 : cs.length ≤ 4000) :
    ∃ A, Txt x t A cd cs.length (fun j => cs.getD j 0) U := by
  obtain ⟨A, K1, K2, K3, K4, K5, K6⟩ := K
  have hcod := hc.cod (by omega) K3 K5
  obtain ⟨D, fV, fC, hB, F1, F2, g1, g2, -, -⟩ := strObj wi al E V C
  exact ⟨A, ⟨_, hB.2.2.1, D, hB.1, rfl, by cases q : D.vm <;> first | rfl | exact absurd q (hB.2.1.2 _)⟩, Has.of hB F1 g1, Has.of hB F2 g2, ⟨K1.1, State.isArrayOf_alike al K1.2.1, K1.2.2, by rcases hcod with ⟨-, q, -⟩ | ⟨-, q, -⟩ <;> omega⟩, hcod, fun j hj => by
    have e : cs.getD j 0 = cs[j] := by simp [List.getD_eq_getElem?_getD, hj]
    show ¬ cs.getD j 0 < 0 ∧ ¬ 65535 < cs.getD j 0
    rw [e]; exact hb _ (List.getElem_mem _)⟩
theorem same_list (cs ds : List Int32) : SameT cs.length (fun j => cs.getD j 0) ds.length (fun j => ds.getD j 0) ↔ cs = ds := by
  constructor
  · rintro ⟨e, q⟩
    refine List.ext_getElem e fun j h1 h2 => ?_
    have := q j h1
    simpa [List.getD_eq_getElem?_getD, h1, h2] using this
  · rintro rfl
    exact ⟨rfl, fun _ _ => rfl⟩
/-- **equals(Object) OF TWO SUCH STRINGS**: 1 just where the chars are the same -/
theorem eqW {p : Program} {l : Launch} {e : Env} {R : Room} {s : State} {args : Array Value} {below : List Frame} {len W : Nat} {Z : State} {a0 : Array Value} {h : Heap} (hZ : Z.Warmed39 s.vm) (hw : ∀ d ∈ wordsEq, d.before a0 Z = true) {kI : Nat} (wi : (Jvm.Cond.instantiable ST kI).before a0 Z = true)
    {x t : Addr} {kb : ClassId} {cs : List Int32} {cd N2 : Int32} {vs : List Value} (E : RoadKit.Exa Z h x ST) (V : RoadKit.Fld Z h x ST "value" "[B" (.ref t)) (C : RoadKit.Fld Z h x ST "coder" "B" (.int cd)) (K : RoadKit.Arv Z h t kb .byte N2 vs (.int 0)) (hc : CodA cs cd N2 vs) (hb : ∀ c ∈ cs, ¬ c < 0 ∧ ¬ (65535 : Int32) < c) (l2 : cs.length ≤ 4000)
    {y t' : Addr} {kb' : ClassId} {ds : List Int32} {cd' N2' : Int32} {vs' : List Value} (E' : RoadKit.Exa Z h y ST) (V' : RoadKit.Fld Z h y ST "value" "[B" (.ref t')) (C' : RoadKit.Fld Z h y ST "coder" "B" (.int cd')) (K' : RoadKit.Arv Z h t' kb' .byte N2' vs' (.int 0)) (hc' : CodA ds cd' N2' vs') (hb' : ∀ c ∈ ds, ¬ c < 0 ∧ ¬ (65535 : Int32) < c) (l2' : ds.length ≤ 4000)
    {z : Int32} (S : RoadKit.Sta Z h ST "COMPACT_STRINGS" "Z" (.int z)) (hz : ¬ z = 0) (hfr : 2 ≤ R.frames) (hlo : W + 28 ≤ R.locals) :
    Back l R p e below s args (⟨"java/lang/String", "equals", "(Ljava/lang/Object;)Z"⟩ : MethodName) len W (fun P a => a = #[.ref x, .ref y] ∧ P.U.heap = h ∧ P.cells + 0 ≤ R.cells ∧ P.slots + 0 ≤ R.slots)
      (fun P _ v B => ∃ L, (((v = some (.int 1) ∧ cs = ds) ∨ (v = some (.int 0) ∧ ¬ cs = ds)) ∧ L = [] ∧ B.U.heap = h) ∧ B.locs = P.locs ++ L ∧ B.cells = P.cells + 0 ∧ B.slots = P.slots + 0) := by
  intro m meth c P g ig mk a X hg hsize hdg hW hn hp'
  obtain ⟨rfl, rfl, r1, r2⟩ := hp'
  have al : Z.vm.Alike P.U.vm := hZ.alike.trans X.warmed.alike
  obtain ⟨A, hx⟩ := txt_of wi al E V C K hc hb l2
  obtain ⟨A', hy⟩ := txt_of wi al E' V' C' K' hc' hb' l2'
  obtain ⟨v, B, X', ⟨⟨w, hv, hh, hq⟩, hl, hk, hs⟩, st⟩ := SEq.pays x t A cd cs.length (fun j => cs.getD j 0) y t' A' cd' ds.length (fun j => ds.getD j 0) z (tabEq_of (movedEq hZ hw)) hfr hlo m meth c P g ig mk _ X hg hsize hdg hW hn ⟨r1, r2, rfl, hx, hy, sta_is al S, hz⟩
  refine ⟨v, B, X', ⟨[], ⟨?_, rfl, hh⟩, hl, hk, hs⟩, st⟩
  rcases hq with ⟨rfl, q⟩ | ⟨rfl, q⟩
  · exact Or.inl ⟨hv, (same_list cs ds).mp q⟩
  · exact Or.inr ⟨hv, fun e => q ((same_list cs ds).mpr e)⟩
end StrChars.Road
namespace StrChars.Road
open Jvm Sem ClassFile Op Lib Jvm.Stand Jvm.Free Jvm.Free.XT
open Jvm.Lib.Cold (StaticIs)
/-- what backV says of its String, as the contracts of this text ask it: cs's low bytes, coder 0 -/
theorem codOf {cs : List Int32} {n : Nat} (hn : cs.length = n) (hb : ∀ c ∈ cs, ¬ 255 < c) : CodA cs 0 (Int32.ofNat n) ((cs.map lo8).map Value.int) := Or.inl ⟨rfl, by rw [hn], by simp [List.map_map, Function.comp_def], hb⟩
end StrChars.Road
end Jvm.Pilot.@@N@@

namespace Jvm.Pilot.@@N@@
open Jvm Jvm.ClassFile Sem Op Lib Jvm.Free Jvm.Stand Jvm.LawKit Jvm.RoadKit Bundle Jvm.Pilot.@@N@@.Jvm.D

theorem own_g {Z : State} {a0 : Array Value} (hw : ∀ d ∈ tables_1, d.before a0 Z = true) (i : Nat) {d : Jvm.Cond} (h : tables_1[i]? = some d) : d.before a0 Z = true := hw _ (List.mem_of_getElem? h)
/-- from the state T the run comes to an end that F takes -/
def own_Ends (p : Program) (e : Env) (below : List Frame) (F : Outcome → State → Prop) (T : State) : Prop :=
  ∃ s₂ o, Steps p.tables e below T s₂ ∧ s₂.status = .running ∧ Ended s₂ below o ∧ F o s₂
def own_Fin (s : State) (Q : Option Value → Heap → List Loc → Prop) (C S : Nat) (o : Outcome) (U : State) : Prop :=
  ∃ v L, o = .returned v ∧ Q v U.heap L ∧ FrameEnd s o U L C S
theorem own_Sta_keep {Z : State} {h h' : Heap} {C n d : String} {v : Value} {ws : List Addr} (F : Sta Z h C n d v) (K : Keep h h' ws) (q : ∀ x ∈ ws, ∀ c : Cell, h[x]? = some c → c.vm.isStatics = false) : Sta Z h' C n d v := by
  obtain ⟨cf, i, k, f, st, cell, h1, h2, h3, h4, h5, h6, h7⟩ := F
  exact ⟨cf, i, k, f, st, cell, h1, h2, h3, h4, K.2.1 st cell h5 (fun m => by rw [q st m cell h5] at h6; cases h6), h6, h7⟩
theorem own_ns_exa {Z : State} {h : Heap} {a : Addr} {C : String} (F : Exa Z h a C) : ∀ c : Cell, h[a]? = some c → c.vm.isStatics = false := fun c hc => by
  obtain ⟨cell, k, h1, h2, h3, h4, h5⟩ := F
  cases h1.symm.trans hc; exact h4
theorem own_ns_arv {Z : State} {h : Heap} {a : Addr} {k : ClassId} {ty : FieldType} {n : Int32} {vs : List Value} {d : Value} (F : Arv Z h a k ty n vs d) : ∀ c : Cell, h[a]? = some c → c.vm.isStatics = false := fun c hc => by
  obtain ⟨cell, A, r⟩ := F
  cases A.1.symm.trans hc; exact A.plain
section OwnSteps
variable {p : Program} {l : Launch} {e : Env} {R : Room} {s : State} {m : MethodId} {args : Array Value} {below : List Frame} {meth : Method} {c : Code} {T T' : State} {locs : List Loc} {cells slots cells' slots' : Nat} {F : Outcome → State → Prop}
theorem own_step (h : ∀ target, Steps p.tables e below T' target → Steps p.tables e below T target) (k : own_Ends p e below F T') : own_Ends p e below F T := by
  obtain ⟨s₂, o, h1, h2⟩ := k
  exact ⟨s₂, o, h _ h1, h2⟩
theorem own_trans (h : Steps p.tables e below T T') (k : own_Ends p e below F T') : own_Ends p e below F T := by
  obtain ⟨s₂, o, h1, h2⟩ := k
  exact ⟨s₂, o, h.trans h1, h2⟩
theorem own_mono (X : Stand p l e R s m args below meth c T locs cells slots) (h1 : cells ≤ cells') (h2 : slots ≤ slots') : Stand p l e R s m args below meth c T locs cells' slots' :=
  { X with same := X.same.mono h1 h2 }
theorem own_ret {Q : Option Value → Heap → List Loc → Prop} {C S : Nat} {g : JFrame} (X : Stand p l e R s m args below meth c T locs cells slots) {v : Option Value} (hv : meth.sig.returnType = none → v = none) (hlocks : meth.locks = false)
    (st : ∀ fs, (∀ (f : JFrame) (acts : List Action), f.method = m → f.locked = none → f.entered = [] → (doReturn e (T.setTop f) acts v).1 = T.setFrames fs) → Steps p.tables e below (T.setTop g) (T.setFrames fs))
    (h1 : cells ≤ C) (h2 : slots ≤ S) (hQ : Q v T.heap locs) : own_Ends p e below (own_Fin s Q C S) (T.setTop g) := by
  obtain ⟨fs, hr, hrun, hended, hW, hsame⟩ := X.leave (v := v) hv hlocks
  exact ⟨_, _, st fs hr, hrun, hended, _, _, rfl, hQ, ⟨_, rfl⟩, hW, hsame.mono h1 h2⟩
def own_FinW (s : State) (Q : Option Value → Heap → List Loc → Prop) (C S : Nat) (o : Outcome) (U : State) : Prop :=
  ∃ v L, o = .returned v ∧ Q v U.heap L ∧ ReturnedEndW s o U L C S
theorem own_retW {vm : Vm} {k : Nat} {Q : Option Value → Heap → List Loc → Prop} {C S : Nat} {g : JFrame} (X : Stand p l e R (s.setVm vm) m args below meth c T locs cells slots) (hS : s.Since vm k) (hk : k ≤ T.heap.size) {v : Option Value} (hv : meth.sig.returnType = none → v = none) (hlocks : meth.locks = false)
    (st : ∀ fs, (∀ (f : JFrame) (acts : List Action), f.method = m → f.locked = none → f.entered = [] → (doReturn e (T.setTop f) acts v).1 = T.setFrames fs) → Steps p.tables e below (T.setTop g) (T.setFrames fs))
    (h1 : cells ≤ C) (h2 : slots ≤ S) (hQ : Q v T.heap locs) : own_Ends p e below (own_FinW s Q C S) (T.setTop g) := by
  obtain ⟨fs, hr, hrun, hended, a, b, c', d'⟩ := X.leaveW hS hk (v := v) hv hlocks
  exact ⟨_, _, st fs hr, hrun, hended, _, _, rfl, hQ, a, b, c', d'.mono h1 h2⟩
theorem own_warm {Z : State} {vm0 vm1 : Vm} {k : Nat} (hZ : Z.Warmed39 vm0) (hS : (s.setVm vm0).Since vm1 k) : Z.Warmed39 vm1 := State.Warmed39.trans (t := s.setVm vm0) hZ hS.1
theorem own_find {vm0 vm1 : Vm} {k : Nat} {own : String} {c0 : ClassId} (h : vm0.findClass own = some c0) (hS : (s.setVm vm0).Since vm1 k) : vm1.findClass own = some c0 := by
  rw [hS.1.alike.findClass]; exact h
def own_FinH (Z : State) (EL : List (String × Nat)) (s : State) (Q : Option Value → Heap → List Loc → Prop) (C S : Nat) (o : Outcome) (U : State) : Prop :=
  ∃ v L, o = .returned v ∧ Q v U.heap L ∧ CHr Z EL s.vm s.heap U.vm U.heap ∧ ReturnedEndW s o U L C S
theorem own_retH {Z : State} {a0 : Array Value} {EL : List (String × Nat)} {vm : Vm} {k : Nat} {h0 h : Heap} {Q : Option Value → Heap → List Loc → Prop} {C S : Nat} {g : JFrame} (X : Stand p l e R (s.setVm vm) m args below meth c T locs cells slots) (hS : s.Since vm k) (hk : k ≤ T.heap.size) (hh : s.heap = h0) (eT : T.heap = h) (hZ : Z.Warmed39 vm) (hEL : EW Z a0 EL) (hC : CHr Z EL s.vm h0 vm h) {v : Option Value} (hv : meth.sig.returnType = none → v = none) (hlocks : meth.locks = false)
    (st : ∀ fs, (∀ (f : JFrame) (acts : List Action), f.method = m → f.locked = none → f.entered = [] → (doReturn e (T.setTop f) acts v).1 = T.setFrames fs) → Steps p.tables e below (T.setTop g) (T.setFrames fs))
    (h1 : cells ≤ C) (h2 : slots ≤ S) (hQ : Q v T.heap locs) : own_Ends p e below (own_FinH Z EL s Q C S) (T.setTop g) := by
  obtain ⟨fs, hr, hrun, hended, a, b, c', d'⟩ := X.leaveW hS hk (v := v) hv hlocks
  have q : CHr Z EL s.vm s.heap T.vm T.heap := by
    rw [hh, eT]; exact hC.trans (CHv.at X hZ hEL hC.1)
  exact ⟨_, _, st fs hr, hrun, hended, _, _, rfl, hQ, q, a, b, c', d'.mono h1 h2⟩
def own_SL (Z : State) (EL : List (String × Nat)) (vm : Vm) (h : Heap) (x : Addr) : Prop := x < h.size ∧ Safe Z EL vm h x
theorem own_SL.go {Z : State} {EL : List (String × Nat)} {vm vm1 : Vm} {h h' : Heap} {x : Addr} (F : own_SL Z EL vm h x) (A : CHr Z EL vm h vm1 h') : own_SL Z EL vm1 h' x := ⟨Nat.lt_of_lt_of_le F.1 A.2.1, A.safe F.1 F.2⟩
theorem own_SL.born {Z : State} {EL : List (String × Nat)} {vm : Vm} {h h' : Heap} {x : Addr} (H : CHv Z EL vm h) (E : Ext h h') (g : x = h.size) (lt : x < h'.size) : own_SL Z EL vm h' x := ⟨lt, Safe.ext E H (Safe.new (Nat.le_of_eq g.symm))⟩
end OwnSteps

/-- the String x of h spells the chars cs (each 0 to 255); it and its bytes lie below B -/
def own_Str (Z : State) (h : Heap) (B : Nat) (x : Addr) (cs : List Int32) : Prop := ∃ (t : Addr) (kb : ClassId), Exa Z h x "java/lang/String" ∧ Fld Z h x "java/lang/String" "coder" "B" (.int 0) ∧ Fld Z h x "java/lang/String" "value" "[B" (.ref t) ∧ Arv Z h t kb .byte (Int32.ofNat cs.length) ((cs.map (fun c => c.toInt8.toInt32)).map Value.int) (.int 0) ∧ (∀ c ∈ cs, ¬ c < 0 ∧ ¬ (255 : Int32) < c) ∧ x < B ∧ t < B
section OwnStr
variable {Z : State} {h h' : Heap} {B B' : Nat} {x : Addr} {cs ds : List Int32} {ws : List Addr}
theorem own_Str.exa (F : own_Str Z h B x cs) : Exa Z h x "java/lang/String" := by obtain ⟨t, kb, E, -⟩ := F; exact E
theorem own_Str.lt (F : own_Str Z h B x cs) : x < h.size := F.exa.lt
theorem own_Str.ext (F : own_Str Z h B x cs) (E : Ext h h') : own_Str Z h' B x cs := by
  obtain ⟨t, kb, f1, f2, f3, f4, f5⟩ := F
  exact ⟨t, kb, f1.ext E, f2.ext E, f3.ext E, f4.ext E, f5⟩
theorem own_Str.keep (F : own_Str Z h B x cs) (K : Keep h h' ws) (q : ∀ w ∈ ws, B ≤ w) : own_Str Z h' B x cs := by
  obtain ⟨t, kb, f1, f2, f3, f4, f5, f6, f7⟩ := F
  have n1 : x ∉ ws := fun m => absurd (q x m) (Nat.not_le.mpr f6)
  have n2 : t ∉ ws := fun m => absurd (q t m) (Nat.not_le.mpr f7)
  exact ⟨t, kb, f1.keep K, f2.keep K n1, f3.keep K n1, f4.keep K n2, f5, f6, f7⟩
theorem own_Str.keepN (F : own_Str Z h B x cs) (K : Keep h h' ws) (q : ∀ w ∈ ws, B ≤ w ∨ ∃ (C : String) (n : Nat) (a0 : Array Value), Exa Z h w C ∧ C ≠ "java/lang/String" ∧ (Jvm.Cond.instantiable C n).before a0 Z = true) : own_Str Z h' B x cs := by
  obtain ⟨t, kb, f1, f2, f3, f4, f5, f6, f7⟩ := F
  have n1 : x ∉ ws := fun m => by
    rcases q x m with g | ⟨C, n, a0, g, g2, g3⟩
    · exact absurd g (Nat.not_le.mpr f6)
    · exact g.ne f1 g2 rfl
  have n2 : t ∉ ws := fun m => by
    rcases q t m with g | ⟨C, n, a0, g, g2, g3⟩
    · exact absurd g (Nat.not_le.mpr f7)
    · exact g.neArv f4 g3 rfl
  exact ⟨t, kb, f1.keep K, f2.keep K n1, f3.keep K n1, f4.keep K n2, f5, f6, f7⟩
theorem own_Str.mono (F : own_Str Z h B x cs) (q : B ≤ B') : own_Str Z h B' x cs := by
  obtain ⟨t, kb, f1, f2, f3, f4, f5, f6, f7⟩ := F
  exact ⟨t, kb, f1, f2, f3, f4, f5, Nat.lt_of_lt_of_le f6 q, Nat.lt_of_lt_of_le f7 q⟩
theorem own_Str.top (F : own_Str Z h B x cs) : own_Str Z h h.size x cs := by
  obtain ⟨t, kb, f1, f2, f3, f4, f5, f6, f7⟩ := F
  exact ⟨t, kb, f1, f2, f3, f4, f5, f1.lt, f4.lt⟩
theorem own_Str.mk {t : Addr} {kb : ClassId} {N : Int32} {vs : List Value} (f1 : Exa Z h x "java/lang/String") (f2 : Fld Z h x "java/lang/String" "coder" "B" (.int 0)) (f3 : Fld Z h x "java/lang/String" "value" "[B" (.ref t)) (f4 : Arv Z h t kb .byte N vs (.int 0)) (e1 : N = Int32.ofNat cs.length) (e2 : vs = (cs.map (fun c => c.toInt8.toInt32)).map Value.int) (f5 : ∀ c ∈ cs, ¬ c < 0 ∧ ¬ (255 : Int32) < c) : own_Str Z h h.size x cs := by
  subst e1 e2
  exact ⟨t, kb, f1, f2, f3, f4, f5, f1.lt, f4.lt⟩
def own_eqv (cs ds : List Int32) : Int32 := if cs = ds then 1 else 0
theorem own_hi {c : Int32} (q : ¬ (255 : Int32) < c) : ¬ (65535 : Int32) < c := fun z => q (by
  rw [Int32.lt_iff_toInt_lt] at z ⊢
  have e1 : (255 : Int32).toInt = 255 := rfl
  have e2 : (65535 : Int32).toInt = 65535 := rfl
  omega)
end OwnStr

theorem own_eqB {p : Program} {l : Launch} {e : Env} {R : Room} {s : State} {args : Array Value} {below : List Frame} {len W : Nat} {Z : State} {a0 : Array Value} {h : Heap} (hZ : Z.Warmed39 s.vm) (hw : ∀ d ∈ tables_1, d.before a0 Z = true) (wi : (Jvm.Cond.instantiable "java/lang/String" 4).before a0 Z = true) {B B' : Nat} {x y : Addr} {cs ds : List Int32} (F : own_Str Z h B x cs) (G : own_Str Z h B' y ds) {z : Int32} (S : Sta Z h "java/lang/String" "COMPACT_STRINGS" "Z" (.int z)) (hz : ¬ z = 0) (l1 : cs.length ≤ 4000) (l2 : ds.length ≤ 4000) (hfr : 2 ≤ R.frames) (hlo : W + 28 ≤ R.locals) :
    Back l R p e below s args (⟨"java/lang/String", "equals", "(Ljava/lang/Object;)Z"⟩ : MethodName) len W (fun P a => a = #[.ref x, .ref y] ∧ P.U.heap = h ∧ P.cells + 0 ≤ R.cells ∧ P.slots + 0 ≤ R.slots)
      (fun P _ v B => ∃ L, (v = some (.int (own_eqv cs ds)) ∧ (∀ k, Fr k L) ∧ B.U.heap = h) ∧ B.locs = P.locs ++ L ∧ B.cells = P.cells + 0 ∧ B.slots = P.slots + 0) := by
  obtain ⟨t, kb, f1, f2, f3, f4, f5, -⟩ := F
  obtain ⟨t', kb', g1, g2, g3, g4, g5, -⟩ := G
  refine Back.mono (StrChars.Road.eqW hZ (fun d hd => hw d ((by decide +kernel : ∀ d ∈ StrChars.Road.wordsEq, d ∈ tables_1) d hd)) wi f1 f3 f2 f4 (StrChars.Road.codOf rfl (fun c hc => (f5 c hc).2)) (fun c hc => ⟨(f5 c hc).1, own_hi (f5 c hc).2⟩) l1 g1 g3 g2 g4 (StrChars.Road.codOf rfl (fun c hc => (g5 c hc).2)) (fun c hc => ⟨(g5 c hc).1, own_hi (g5 c hc).2⟩) l2 S hz hfr hlo) (fun _ _ q => q) (fun P a v B _ q => ?_)
  obtain ⟨L, ⟨q1, q2, q3⟩, r⟩ := q
  refine ⟨L, ⟨?_, by subst q2; exact fun k => Fr.nil k, q3⟩, r⟩
  unfold own_eqv
  rcases q1 with ⟨rfl, q⟩ | ⟨rfl, q⟩
  · rw [if_pos q]
  · rw [if_neg q]

theorem own_c0 {P : Int32 → Prop} : ∀ c ∈ ([] : List Int32), P c := fun _ q => nomatch q
theorem own_cS {P : Int32 → Prop} {y : Int32} {L : List Int32} (q : P y) (r : ∀ c ∈ L, P c) : ∀ c ∈ y :: L, P c := fun c z => (List.mem_cons.mp z).elim (fun u => u ▸ q) (r c)
theorem own_rng {v : Int32} (h : 0 ≤ v.toInt ∧ v.toInt ≤ 255) : ¬ v < 0 ∧ ¬ (255 : Int32) < v := by
  have e0 : (0 : Int32).toInt = 0 := rfl
  have e1 : (255 : Int32).toInt = 255 := rfl
  rw [Int32.lt_iff_toInt_lt, Int32.lt_iff_toInt_lt, e0, e1]; omega
theorem own_rng' {v : Int32} (h : ¬ v < 0 ∧ ¬ (255 : Int32) < v) : 0 ≤ v.toInt ∧ v.toInt ≤ 255 := by
  have e0 : (0 : Int32).toInt = 0 := rfl
  have e1 : (255 : Int32).toInt = 255 := rfl
  rw [Int32.lt_iff_toInt_lt, Int32.lt_iff_toInt_lt, e0, e1] at h; omega
theorem own_c8 {v x : Int32} (e : v = (x &&& (255 : Int32)).toUInt32.toUInt16.toUInt32.toInt32) : ¬ v < 0 ∧ ¬ (255 : Int32) < v := by
  rw [e, i2c_mask]
  have h := c_and x 255 (by decide)
  have e1 : (255 : Int32).toInt = 255 := rfl
  rw [e1] at h
  exact own_rng h
theorem own_narC {v : Int32} (h : ¬ v < 0 ∧ ¬ (255 : Int32) < v) : nar .char v = v := by
  have r := own_rng' h
  have q := c_i2c v
  apply Int32.toInt_inj.mp
  show v.toUInt32.toUInt16.toUInt32.toInt32.toInt = v.toInt
  omega
theorem own_fitC {v : Int32} (h : ¬ v < 0 ∧ ¬ (255 : Int32) < v) : fits .char (.int v) = true := by rw [← own_narC h]; exact fits_nar_char v
theorem own_i2c {v : Int32} (h : ¬ v < 0 ∧ ¬ (255 : Int32) < v) : v.toUInt32.toUInt16.toUInt32.toInt32 = v := own_narC h
theorem own_nar8 (x : Int32) : nar .byte (x.toInt8.toInt32) = x.toInt8.toInt32 := by
  show (x.toInt8.toInt32).toInt8.toInt32 = x.toInt8.toInt32
  rw [Int8.toInt8_toInt32]
theorem own_no {Z : State} {a0 : Array Value} {C S K : String} {n : Nat} (w : (Jvm.Cond.superclass C S).before a0 Z = true) (w0 : (Jvm.Cond.noSuperclass S).before a0 Z = true) (wk : (Jvm.Cond.instantiable K n).before a0 Z = true) (hn : C ≠ K) (hn2 : S ≠ K) : ∃ c t, Z.vm.findClass C = some c ∧ Z.vm.findClass K = some t ∧ Z.vm.assignable c t = false := by
  obtain ⟨t, k', g1, g2, g3, g4, -⟩ := Cond.instantiable_spec wk
  obtain ⟨c0, k0, r1, r2, r3, -, -⟩ := Cond.noSuperclass_spec w0
  obtain ⟨c, h0⟩ := found_sup w
  obtain ⟨p, k, kp, h1, h2, h3, h4, h5, -, h7⟩ := Cond.superclass_spec h0 w
  cases h1.symm.trans r1
  have ne := ids_ne h0 g1 hn
  have ne2 := ids_ne r1 g1 hn2
  refine ⟨c, t, h0, g1, ?_⟩
  simp only [Bool.or_eq_false_iff] at g4
  have n3 : ∀ fuel, Z.vm.isSubclassAux fuel c t = false := fun fuel => by
    cases fuel with
    | zero => rfl
    | succ f =>
      cases f with
      | zero => simp [Vm.isSubclassAux, ne, h2, h4]
      | succ f => simp [Vm.isSubclassAux, ne, h2, h4, ne2, r2, r3]
  show Z.vm.assignableAux (255 + 1) c t = false
  simp [Vm.assignableAux, ne, h2, g2, h5, g3, g4.1, Vm.isSubclass, n3]

theorem own_safeS {Z : State} {EL : List (String × Nat)} {vm : Vm} {h : Heap} {x : Addr} (hal : Z.vm.Alike vm) (E : Exa Z h x "java/lang/String") (V : Fld Z h x "java/lang/String" "value" "[B" .null) : Safe Z EL vm h x := fun B => by
  obtain ⟨cell, k, e1, e2, e3, -, -⟩ := E
  obtain ⟨p, -, u, a, -, q, -, F, rfl | rfl⟩ := B
  · have ha : h[q.sa]? = some q.sC := F.ha
    obtain ⟨cS, ⟨⟨-, -, -, ⟨c1, k1, i1, f1, -⟩, -, -, -, v1, -⟩, -⟩, -⟩ := F
    obtain ⟨cell', cf, kk, i, f, g1, g2, -, -, -, -, g7⟩ := V
    cases g1.symm.trans ha
    obtain ⟨k3, e3', -⟩ := State.fieldFound?_setVm (s := Z) hal g2
    have e4 := (show (Wst Z vm h).fieldFound? _ _ _ = _ from e3').symm.trans f1
    simp only [Option.some.injEq, Prod.mk.injEq] at e4
    rw [e4.2.2.2, v1] at g7; cases g7
  · cases (show h[q.sd]? = some q.SA from F.hd).symm.trans e1
    obtain ⟨cS, -, -, f, -⟩ := F
    have f' : Z.vm.findClass "[B" = some q.SA.cls := by rw [← hal.findClass]; exact f
    obtain ⟨k1, q1, q2⟩ := Vm.findClass_spec f'
    obtain ⟨k2, q3, q4⟩ := Vm.findClass_spec e2
    cases q1.symm.trans q3
    exact absurd (q2.symm.trans q4) (by decide)

def own_EL : List (String × Nat) := [("com/example/facetwork/facetwork/cli/Logging", 9), ("com/example/facetwork/facetwork/cli/Logging", 17), ("java/lang/String", 7)]
theorem own_EW {Z : State} {a0 : Array Value} (hw : ∀ d ∈ tables_1, d.before a0 Z = true) : EW Z a0 own_EL := (EW.cons (own_g hw 40 rfl) (by decide) (EW.cons (own_g hw 53 rfl) (by decide) (EW.cons (own_g hw 54 rfl) (by decide) EW.nil)))

theorem own_sa : ∀ d ∈ Bundle.stringAtoms, d ∈ tables_1 := by decide +kernel
theorem d3_0 : decode jdk_42_method_149_code 0 = .ok (.aload_n 0, 1) := by decide +kernel
theorem d3_1 : decode jdk_42_method_149_code 1 = .ok (.invokespecial 1, 3) := by decide +kernel
theorem d3_4 : decode jdk_42_method_149_code 4 = .ok (.iload_n 3, 1) := by decide +kernel
theorem d3_5 : decode jdk_42_method_149_code 5 = .ok (.ifCond .ne 22, 3) := by decide +kernel
theorem d3_8 : decode jdk_42_method_149_code 8 = .ok (.aload_n 0, 1) := by decide +kernel
theorem d3_9 : decode jdk_42_method_149_code 9 = .ok (.ldc 7, 2) := by decide +kernel
theorem d3_11 : decode jdk_42_method_149_code 11 = .ok (.getfield 9, 3) := by decide +kernel
theorem d3_14 : decode jdk_42_method_149_code 14 = .ok (.putfield 9, 3) := by decide +kernel
theorem d3_17 : decode jdk_42_method_149_code 17 = .ok (.aload_n 0, 1) := by decide +kernel
theorem d3_18 : decode jdk_42_method_149_code 18 = .ok (.ldc 7, 2) := by decide +kernel
theorem d3_20 : decode jdk_42_method_149_code 20 = .ok (.getfield 15, 3) := by decide +kernel
theorem d3_23 : decode jdk_42_method_149_code 23 = .ok (.putfield 15, 3) := by decide +kernel
theorem d3_26 : decode jdk_42_method_149_code 26 = .ok (.return_, 1) := by decide +kernel
theorem pn_java_lang_String : plainName "java/lang/String" = true := by first | (simp [plainName, overriddenIn]; done) | decide +kernel
theorem ef_rm3 (m : MethodId) (x0 : Addr) (x1 : Addr) (x2 : Int32) (x3 : Int32) : entryFrame m #[(.ref x0), (.ref x1), (.int x2), (.int x3), .null] 6 = mkF m 0 #[.val (.ref x0), .val (.ref x1), .val (.int x2), .val (.int x3), .val .null, .unset] [] := by first | (simp [entryFrame, mkF, argsToLocals, Value.category, maxLocals]; done) | rfl
def Q3 (Z : State) (a b : Addr) (h0 : Heap) (n0 : Nat) (v : Option Value) (h : Heap) (L : List Loc) : Prop := v = none ∧ Fr n0 L ∧ Keep h0 h [a] ∧ own_Str Z h h.size a []
set_option maxRecDepth 65536 in
set_option maxHeartbeats 40000000 in
theorem rm3 (l : Launch) (Z : State) (a0 : Array Value) (hw : ∀ d ∈ tables_1, d.before a0 Z = true) (ws : List Jvm.Cond) (a b : Addr) (h0 : Heap) (n0 : Nat) (Z0 : n0 ≤ h0.size) (EX : Exa Z h0 a "java/lang/String") (ge : n0 ≤ a) (F_value : Fld Z h0 a "java/lang/String" "value" "[B" .null) (F_coder : Fld Z h0 a "java/lang/String" "coder" "B" (.int (0 : Int32))) :
    MetFree l (⟨"java/lang/String", "<init>", "([CIILjava/lang/Void;)V"⟩ : MethodName) (head1 (Jvm.Cond.code (⟨"java/lang/String", "<init>", "([CIILjava/lang/Void;)V"⟩ : MethodName) jdk_42_method_149_code 6 none :: ws) ({ frames := 1, cells := 4, slots := 8, locals := 12 } : Room)) (fun ar U => ar = #[(.ref a), (.ref b), (.int (0 : Int32)), (.int (0 : Int32)), .null] ∧ Z.Warmed39 U.vm ∧ U.heap = h0 ∧ CHv Z own_EL U.vm h0) (fun _ _ _ _ _ => True) (fun _ U o U' => ∃ v L, o = .returned v ∧ Q3 Z a b h0 n0 v U'.heap L ∧ CHr Z own_EL U.vm U.heap U'.vm U'.heap ∧ ReturnedEndW U o U' L ({ frames := 1, cells := 4, slots := 8, locals := 12 } : Room).cells ({ frames := 1, cells := 4, slots := 8, locals := 12 } : Room).slots) := by
  refine MetFree.of_bodySF (plainFor_of_name pn_java_lang_String) hisR ?_
  intro p e s m args below meth c s₁ Bd hml0 hP hK
  obtain ⟨rfl, hZ, hh, hH⟩ := hP
  have hx := Bd.exec
  have hby := Bd.bytes
  have hml : c.maxLocals = 6 := hml0
  have hown : s.vm.findClass "java/lang/String" = some m.cls := findClass_of_methodNamed Bd.named
  have hnm := (name_of_methodNamed Bd.named Bd.method).1
  have X0 : Stand p l e ({ frames := 1, cells := 4, slots := 8, locals := 12 } : Room) (s.setVm s.vm) m #[(.ref a), (.ref b), (.int (0 : Int32)), (.int (0 : Int32)), .null] below meth c s₁ [] 0 0 := Stand.of_body Bd
  have e0 : s₁.heap = h0 := by rw [← hh, Bd.state]; rfl
  have N0 := Fr.nil n0
  have hS : s.Since s.vm h0.size := (State.WarmedH.refl s).since _
  have hk := Nat.le_refl h0.size
  have hC0 : CHr Z own_EL s.vm h0 s.vm h0 := CHr.refl hH
  obtain ⟨F, hF⟩ : ∃ F, F = own_FinH Z own_EL s (Q3 Z a b h0 n0) ({ frames := 1, cells := 4, slots := 8, locals := 12 } : Room).cells ({ frames := 1, cells := 4, slots := 8, locals := 12 } : Room).slots := ⟨_, rfl⟩
  show own_Ends p e below (own_FinH Z own_EL s (Q3 Z a b h0 n0) ({ frames := 1, cells := 4, slots := 8, locals := 12 } : Room).cells ({ frames := 1, cells := 4, slots := 8, locals := 12 } : Room).slots) _
  rw [← hF, ef_rm3 m a b (0 : Int32) (0 : Int32)]
  show own_Ends p e below F (s₁.setTop (mkF m 0 #[.val (.ref a), .val (.ref b), .val (.int (0 : Int32)), .val (.int (0 : Int32)), .val .null, .unset] []))
  have sf_a : own_SL Z own_EL s.vm h0 a := ⟨EX.lt, own_safeS hZ.alike EX F_value⟩
  refine own_step (fun _ k => XS.aloadN X0.here hx rfl (hb hby d3_0) rfl rfl k) ?_
  show own_Ends p e below F (s₁.setTop (mkF m 1 #[.val (.ref a), .val (.ref b), .val (.int (0 : Int32)), .val (.int (0 : Int32)), .val .null, .unset] [(.ref a)]))
  obtain ⟨T1, X1, e1, st1⟩ := initO X0 hx hZ hown (own_g hw 17 rfl) (own_g hw 18 rfl) (own_g hw 19 rfl) e0 (g := (mkF m 1 #[.val (.ref a), .val (.ref b), .val (.int (0 : Int32)), .val (.int (0 : Int32)), .val .null, .unset] [(.ref a)])) rfl (by rw [hml]; rfl) rfl (hb hby d3_1) (by decide) (W := 0) (by show 2 * 0 + _ ≤ _; exact Nat.le_of_eq rfl) (by decide)
  refine own_step st1 ?_
  show own_Ends p e below F (T1.setTop (mkF m 4 #[.val (.ref a), .val (.ref b), .val (.int (0 : Int32)), .val (.int (0 : Int32)), .val .null, .unset] []))
  refine own_step (fun _ k => XS.iloadN X1.here hx rfl (hb hby d3_4) rfl k) ?_
  show own_Ends p e below F (T1.setTop (mkF m 5 #[.val (.ref a), .val (.ref b), .val (.int (0 : Int32)), .val (.int (0 : Int32)), .val .null, .unset] [(.int (0 : Int32))]))
  refine own_step (fun _ k => XS.ifNo X1.here hx rfl (hb hby d3_5) rfl ((if0 _ _).trans (teq (by decide : (0 : Int32) = (0 : Int32))).2) k) ?_
  show own_Ends p e below F (T1.setTop (mkF m 8 #[.val (.ref a), .val (.ref b), .val (.int (0 : Int32)), .val (.int (0 : Int32)), .val .null, .unset] []))
  refine own_step (fun _ k => XS.aloadN X1.here hx rfl (hb hby d3_8) rfl rfl k) ?_
  show own_Ends p e below F (T1.setTop (mkF m 9 #[.val (.ref a), .val (.ref b), .val (.int (0 : Int32)), .val (.int (0 : Int32)), .val .null, .unset] [(.ref a)]))
  obtain ⟨a2, T2, h2, kk2, b2, kb2, X2, e2, E2, hS, hk, hZ, hown, fe2, fc2, fv2, fa2, -, -, hr2, -, sf2, st2⟩ := ldcCH X1 hx hZ hown (own_g hw 54 rfl) (fun d hd => hw d (own_sa d hd)) e1 hS hk (own_EW hw) (List.mem_of_getElem? (i := 2) rfl) hC0.1 (vs := []) (z := (0 : Int32)) ⟨by decide, rfl⟩ (by decide) rfl (g := (mkF m 9 #[.val (.ref a), .val (.ref b), .val (.int (0 : Int32)), .val (.int (0 : Int32)), .val .null, .unset] [(.ref a)])) rfl (hb hby d3_9) (n := 0) (by decide) (by decide) (by decide) (by decide)
  have Z2 : n0 ≤ h2.size := Nat.le_trans Z0 E2.1
  have SZ2 : h0.size ≤ h2.size := Nat.le_trans (Nat.le_refl h0.size) E2.1
  have hC2 := hC0.trans hr2
  obtain ⟨ne_a_a2, ne_a_b2⟩ := sf2 a (own_SL.go sf_a hr2).2
  have str2 : own_Str Z h2 h2.size a2 ([] : List Int32) := own_Str.mk fe2 fc2 fv2 fa2 rfl rfl (by decide)
  refine own_step st2 ?_
  show own_Ends p e below F (T2.setTop (mkF m 11 #[.val (.ref a), .val (.ref b), .val (.int (0 : Int32)), .val (.int (0 : Int32)), .val .null, .unset] [(.ref a2), (.ref a)]))
  obtain ⟨T3, X3, e3, st3⟩ := getF X2 hx hZ hown (host := "") (Or.inl (own_g hw 34 rfl)) Via.refl e2 fv2 (g := (mkF m 11 #[.val (.ref a), .val (.ref b), .val (.int (0 : Int32)), .val (.int (0 : Int32)), .val .null, .unset] [(.ref a2), (.ref a)])) rfl rfl (hb hby d3_11)
  refine own_step st3 ?_
  show own_Ends p e below F (T3.setTop (mkF m 14 #[.val (.ref a), .val (.ref b), .val (.int (0 : Int32)), .val (.int (0 : Int32)), .val .null, .unset] [(.ref b2), (.ref a)]))
  obtain ⟨T4, h4, X4, e4, W4, st4⟩ := putF X3 hx hZ hown (host := "") (Or.inl (own_g hw 34 rfl)) Via.refl e3 (F_value.ext E2) (EX.ext E2) (Or.inr ⟨(own_g hw 35 rfl), rfl, hnm⟩) (own_g hw 8 rfl) (ty := (.array .byte)) (by decide) rfl rfl (g := (mkF m 14 #[.val (.ref a), .val (.ref b), .val (.int (0 : Int32)), .val (.int (0 : Int32)), .val .null, .unset] [(.ref b2), (.ref a)])) rfl rfl (hb hby d3_14)
  refine own_step st4 ?_
  have F4 := Fld.same W4 (F_value.ext E2)
  have N4 := Fr.snoc X4 N0 ge
  have Z4 : n0 ≤ h4.size := by rw [W4.size]; exact Z2
  have SZ4 : h0.size ≤ h4.size := by rw [W4.size]; exact SZ2
  have hk := (W4.size.symm ▸ hk : _ ≤ h4.size)
  have hr4 := CHr.wr W4 (own_SL.go sf_a hr2).2 hC2.1
  have hC4 := hC2.trans hr4
  show own_Ends p e below F (T4.setTop (mkF m 17 #[.val (.ref a), .val (.ref b), .val (.int (0 : Int32)), .val (.int (0 : Int32)), .val .null, .unset] []))
  refine own_step (fun _ k => XS.aloadN X4.here hx rfl (hb hby d3_17) rfl rfl k) ?_
  show own_Ends p e below F (T4.setTop (mkF m 18 #[.val (.ref a), .val (.ref b), .val (.int (0 : Int32)), .val (.int (0 : Int32)), .val .null, .unset] [(.ref a)]))
  obtain ⟨a5, T5, h5, kk5, b5, kb5, X5, e5, E5, hS, hk, hZ, hown, fe5, fc5, fv5, fa5, -, -, hr5, -, sf5, st5⟩ := ldcCH X4 hx hZ hown (own_g hw 54 rfl) (fun d hd => hw d (own_sa d hd)) e4 hS hk (own_EW hw) (List.mem_of_getElem? (i := 2) rfl) hC4.1 (vs := []) (z := (0 : Int32)) ⟨by decide, rfl⟩ (by decide) rfl (g := (mkF m 18 #[.val (.ref a), .val (.ref b), .val (.int (0 : Int32)), .val (.int (0 : Int32)), .val .null, .unset] [(.ref a)])) rfl (hb hby d3_18) (n := 0) (by decide) (by decide) (by decide) (by decide)
  have Z5 : n0 ≤ h5.size := Nat.le_trans Z4 E5.1
  have SZ5 : h0.size ≤ h5.size := Nat.le_trans SZ4 E5.1
  have hC5 := hC4.trans hr5
  obtain ⟨ne_a_a5, ne_a_b5⟩ := sf5 a (own_SL.go (own_SL.go (own_SL.go sf_a hr2) hr4) hr5).2
  have str5 : own_Str Z h5 h5.size a5 ([] : List Int32) := own_Str.mk fe5 fc5 fv5 fa5 rfl rfl (by decide)
  refine own_step st5 ?_
  show own_Ends p e below F (T5.setTop (mkF m 20 #[.val (.ref a), .val (.ref b), .val (.int (0 : Int32)), .val (.int (0 : Int32)), .val .null, .unset] [(.ref a5), (.ref a)]))
  obtain ⟨T6, X6, e6, st6⟩ := getF X5 hx hZ hown (host := "") (Or.inl (own_g hw 32 rfl)) Via.refl e5 fc5 (g := (mkF m 20 #[.val (.ref a), .val (.ref b), .val (.int (0 : Int32)), .val (.int (0 : Int32)), .val .null, .unset] [(.ref a5), (.ref a)])) rfl rfl (hb hby d3_20)
  refine own_step st6 ?_
  show own_Ends p e below F (T6.setTop (mkF m 23 #[.val (.ref a), .val (.ref b), .val (.int (0 : Int32)), .val (.int (0 : Int32)), .val .null, .unset] [(.int (0 : Int32)), (.ref a)]))
  obtain ⟨T7, h7, X7, e7, W7, st7⟩ := putFN X6 hx hZ hown (own_g hw 32 rfl) Via.refl e6 ((Fld.other W4 (F_coder.ext E2) (Or.inr (slot_ne (t := .byte) (t' := (.array .byte)) (Or.inr (own_g hw 33 rfl)) (Or.inr (own_g hw 35 rfl)) (by decide) (by decide) (by decide)))).ext E5) (((EX.ext E2).wr W4).ext E5) (Or.inr ⟨(own_g hw 33 rfl), rfl, hnm⟩) (own_g hw 8 rfl) (ty := .byte) (v' := (.int (0 : Int32))) (by decide) rfl rfl (g := (mkF m 23 #[.val (.ref a), .val (.ref b), .val (.int (0 : Int32)), .val (.int (0 : Int32)), .val .null, .unset] [(.int (0 : Int32)), (.ref a)])) rfl rfl (hb hby d3_23)
  refine own_step st7 ?_
  have F7 := Fld.same W7 ((Fld.other W4 (F_coder.ext E2) (Or.inr (slot_ne (t := .byte) (t' := (.array .byte)) (Or.inr (own_g hw 33 rfl)) (Or.inr (own_g hw 35 rfl)) (by decide) (by decide) (by decide)))).ext E5)
  have N7 := Fr.snoc X7 N4 ge
  have Z7 : n0 ≤ h7.size := by rw [W7.size]; exact Z5
  have SZ7 : h0.size ≤ h7.size := by rw [W7.size]; exact SZ5
  have hk := (W7.size.symm ▸ hk : _ ≤ h7.size)
  have hr7 := CHr.wr W7 (own_SL.go (own_SL.go (own_SL.go sf_a hr2) hr4) hr5).2 hC5.1
  have hC7 := hC5.trans hr7
  show own_Ends p e below F (T7.setTop (mkF m 26 #[.val (.ref a), .val (.ref b), .val (.int (0 : Int32)), .val (.int (0 : Int32)), .val .null, .unset] []))
  rw [hF]
  exact own_retH X7 hS (by rw [e7]; exact hk) hh e7 hZ (own_EW hw) hC7 (v := none) (fun _ => rfl) Bd.notSynchronized (fun fs hr => X7.returnOut hx Bd.returns (hb hby d3_26) hr) (by decide) (by decide) (by rw [e7]; exact ⟨rfl, N7, ((Keep.wr (Keep.ext (Keep.wr (Keep.ext (Keep.refl _ _) E2) W4 (Or.inl (List.mem_of_getElem? (i := 0) rfl))) E5) W7 (Or.inl (List.mem_of_getElem? (i := 0) rfl))) : Keep h0 h7 [a]), own_Str.mk (cs := []) ((((EX.ext E2).wr W4).ext E5).wr W7) F7 (Fld.other W7 (F4.ext E5) (Or.inr (slot_ne (t := (.array .byte)) (t' := .byte) (Or.inr (own_g hw 35 rfl)) (Or.inr (own_g hw 33 rfl)) (by decide) (by decide) (by decide)))) (((fa2.other W4 (Ne.symm ne_a_b2)).ext E5).other W7 (Ne.symm ne_a_b2)) rfl rfl own_c0⟩)

theorem d2_0 : decode jdk_42_method_3_code 0 = .ok (.aload_n 0, 1) := by decide +kernel
theorem d2_1 : decode jdk_42_method_3_code 1 = .ok (.aload_n 1, 1) := by decide +kernel
theorem d2_2 : decode jdk_42_method_3_code 2 = .ok (.iconst 0, 1) := by decide +kernel
theorem d2_3 : decode jdk_42_method_3_code 3 = .ok (.aload_n 1, 1) := by decide +kernel
theorem d2_4 : decode jdk_42_method_3_code 4 = .ok (.arraylength, 1) := by decide +kernel
theorem d2_5 : decode jdk_42_method_3_code 5 = .ok (.aconst_null, 1) := by decide +kernel
theorem d2_6 : decode jdk_42_method_3_code 6 = .ok (.invokespecial 27, 3) := by decide +kernel
theorem d2_9 : decode jdk_42_method_3_code 9 = .ok (.return_, 1) := by decide +kernel
theorem pd__28_5bCIILjava_2flang_2fVoid_3b_29V : parseMethodDescriptor "([CIILjava/lang/Void;)V" = some ⟨[(.array .char), .int, .int, (.object "java/lang/Void")], none⟩ := by decide +kernel
theorem ef_rm2 (m : MethodId) (x0 : Addr) (x1 : Addr) : entryFrame m #[(.ref x0), (.ref x1)] 2 = mkF m 0 #[.val (.ref x0), .val (.ref x1)] [] := by first | (simp [entryFrame, mkF, argsToLocals, Value.category, maxLocals]; done) | rfl
def Q2 (Z : State) (a b : Addr) (kb : ClassId) (h0 : Heap) (n0 : Nat) (v : Option Value) (h : Heap) (L : List Loc) : Prop := v = none ∧ Fr n0 L ∧ Keep h0 h [a] ∧ own_Str Z h h.size a []
set_option maxRecDepth 65536 in
set_option maxHeartbeats 40000000 in
theorem rm2 (l : Launch) (Z : State) (a0 : Array Value) (hw : ∀ d ∈ tables_1, d.before a0 Z = true) (ws : List Jvm.Cond) (a b : Addr) (kb : ClassId) (h0 : Heap) (n0 : Nat) (Z0 : n0 ≤ h0.size) (EX : Exa Z h0 a "java/lang/String") (ge : n0 ≤ a) (F_value : Fld Z h0 a "java/lang/String" "value" "[B" .null) (F_coder : Fld Z h0 a "java/lang/String" "coder" "B" (.int (0 : Int32))) (VB : Arv Z h0 b kb .char (0 : Int32) [] (.int (0 : Int32))) :
    MetFree l (⟨"java/lang/String", "<init>", "([C)V"⟩ : MethodName) (head1 (Jvm.Cond.code (⟨"java/lang/String", "<init>", "([C)V"⟩ : MethodName) jdk_42_method_3_code 2 none :: ws) ({ frames := 2, cells := 4, slots := 8, locals := 29 } : Room)) (fun ar U => ar = #[(.ref a), (.ref b)] ∧ Z.Warmed39 U.vm ∧ U.heap = h0 ∧ CHv Z own_EL U.vm h0) (fun _ _ _ _ _ => True) (fun _ U o U' => ∃ v L, o = .returned v ∧ Q2 Z a b kb h0 n0 v U'.heap L ∧ CHr Z own_EL U.vm U.heap U'.vm U'.heap ∧ ReturnedEndW U o U' L ({ frames := 2, cells := 4, slots := 8, locals := 29 } : Room).cells ({ frames := 2, cells := 4, slots := 8, locals := 29 } : Room).slots) := by
  refine MetFree.of_bodySF (plainFor_of_name pn_java_lang_String) hisR ?_
  intro p e s m args below meth c s₁ Bd hml0 hP hK
  obtain ⟨rfl, hZ, hh, hH⟩ := hP
  have hx := Bd.exec
  have hby := Bd.bytes
  have hml : c.maxLocals = 2 := hml0
  have hown : s.vm.findClass "java/lang/String" = some m.cls := findClass_of_methodNamed Bd.named
  have hnm := (name_of_methodNamed Bd.named Bd.method).1
  have X0 : Stand p l e ({ frames := 2, cells := 4, slots := 8, locals := 29 } : Room) (s.setVm s.vm) m #[(.ref a), (.ref b)] below meth c s₁ [] 0 0 := Stand.of_body Bd
  have e0 : s₁.heap = h0 := by rw [← hh, Bd.state]; rfl
  have N0 := Fr.nil n0
  have hS : s.Since s.vm h0.size := (State.WarmedH.refl s).since _
  have hk := Nat.le_refl h0.size
  have hC0 : CHr Z own_EL s.vm h0 s.vm h0 := CHr.refl hH
  obtain ⟨F, hF⟩ : ∃ F, F = own_FinH Z own_EL s (Q2 Z a b kb h0 n0) ({ frames := 2, cells := 4, slots := 8, locals := 29 } : Room).cells ({ frames := 2, cells := 4, slots := 8, locals := 29 } : Room).slots := ⟨_, rfl⟩
  show own_Ends p e below (own_FinH Z own_EL s (Q2 Z a b kb h0 n0) ({ frames := 2, cells := 4, slots := 8, locals := 29 } : Room).cells ({ frames := 2, cells := 4, slots := 8, locals := 29 } : Room).slots) _
  rw [← hF, ef_rm2 m a b]
  show own_Ends p e below F (s₁.setTop (mkF m 0 #[.val (.ref a), .val (.ref b)] []))
  have sf_a : own_SL Z own_EL s.vm h0 a := ⟨EX.lt, own_safeS hZ.alike EX F_value⟩
  refine own_step (fun _ k => XS.aloadN X0.here hx rfl (hb hby d2_0) rfl rfl k) ?_
  show own_Ends p e below F (s₁.setTop (mkF m 1 #[.val (.ref a), .val (.ref b)] [(.ref a)]))
  refine own_step (fun _ k => XS.aloadN X0.here hx rfl (hb hby d2_1) rfl rfl k) ?_
  show own_Ends p e below F (s₁.setTop (mkF m 2 #[.val (.ref a), .val (.ref b)] [(.ref b), (.ref a)]))
  refine own_step (fun _ k => XS.iconst X0.here hx rfl (hb hby d2_2) k) ?_
  show own_Ends p e below F (s₁.setTop (mkF m 3 #[.val (.ref a), .val (.ref b)] [(.int (0 : Int32)), (.ref b), (.ref a)]))
  refine own_step (fun _ k => XS.aloadN X0.here hx rfl (hb hby d2_3) rfl rfl k) ?_
  show own_Ends p e below F (s₁.setTop (mkF m 4 #[.val (.ref a), .val (.ref b)] [(.ref b), (.int (0 : Int32)), (.ref b), (.ref a)]))
  obtain ⟨cl1, Ar1, q1, S1, M1, H1, G1⟩ := id VB
  have al1 := X0.arraylength hx (by rw [e0]; exact Ar1.1) (State.isArrayOf_alike hZ.alike Ar1.2.1) (g := (mkF m 4 #[.val (.ref a), .val (.ref b)] [(.ref b), (.int (0 : Int32)), (.ref b), (.ref a)])) rfl rfl (hb hby d2_4)
  rw [len_of S1 M1] at al1
  refine own_step al1 ?_
  show own_Ends p e below F (s₁.setTop (mkF m 5 #[.val (.ref a), .val (.ref b)] [(.int (0 : Int32)), (.int (0 : Int32)), (.ref b), (.ref a)]))
  refine own_step (fun _ k => XS.aconstNull X0.here hx rfl (hb hby d2_5) k) ?_
  show own_Ends p e below F (s₁.setTop (mkF m 6 #[.val (.ref a), .val (.ref b)] [.null, (.int (0 : Int32)), (.int (0 : Int32)), (.ref b), (.ref a)]))
  obtain ⟨_, _, ⟨T2, L2, k2, n2⟩, -, X2, hS2, gr2, ⟨Lc2, hQ2, l2, y2, z2, hr2⟩, st2⟩ := X0.specialBackS hx (y := (⟨"java/lang/String", "<init>", "([CIILjava/lang/Void;)V"⟩ : MethodName)) rfl hown (mvT hZ (own_g hw 13 rfl)) (mvT hZ (own_g hw 14 rfl)) (mvT hZ (own_g hw 16 rfl)) (by decide) (backOfSH (W := 0) (rm3 l Z a0 hw [] a b h0 n0 Z0 EX ge F_value F_coder) hZ (own_g hw 16 rfl) (own_g hw 9 rfl) (by decide) (by decide) (own_EW hw) hC0.1) (g := (mkF m 6 #[.val (.ref a), .val (.ref b)] [.null, (.int (0 : Int32)), (.int (0 : Int32)), (.ref b), (.ref a)])) rfl (by rw [hml]; rfl) (Steps.refl _) (a := a) (argsL := [(.ref b), (.int (0 : Int32)), (.int (0 : Int32)), .null]) (rest := []) (lenOf pd__28_5bCIILjava_2flang_2fVoid_3b_29V rfl) rfl (by show 2 * 0 + _ ≤ _; exact Nat.le_of_eq rfl) (hb hby d2_6) (fun _ _ => ⟨rfl, e0, (by decide : 0 + 4 ≤ _), (by decide : 0 + 8 ≤ _)⟩)
  dsimp only [Pt.U, Pt.locs, Pt.cells, Pt.slots] at X2 l2 y2 z2 st2 hQ2 hS2 gr2 hr2
  subst l2 y2 z2
  obtain ⟨rfl, Nq2, Kq2, fq0_2⟩ := hQ2
  have N2 := Fr.app N0 Nq2
  have Z2 : n0 ≤ T2.heap.size := Nat.le_trans Z0 Kq2.1
  have SZ2 : h0.size ≤ T2.heap.size := Nat.le_trans (Nat.le_refl h0.size) Kq2.1
  have str2 := fq0_2
  have fe2 := str2.exa
  have hC2 := hC0.trans hr2
  have hZ := own_warm hZ hS2
  have hown := own_find hown hS2
  have hS := foldS hS (by rw [e0]; exact hk) hS2 gr2
  have hk := Nat.le_refl T2.heap.size
  refine own_trans st2 ?_
  show own_Ends p e below F (T2.setTop (mkF m 9 #[.val (.ref a), .val (.ref b)] []))
  rw [hF]
  exact own_retH X2 hS (by exact hk) hh rfl hZ (own_EW hw) hC2 (v := none) (fun _ => rfl) Bd.notSynchronized (fun fs hr => X2.returnOut hx Bd.returns (hb hby d2_9) hr) (by decide) (by decide) (by exact ⟨rfl, N2, ((Keep.trans (Keep.refl _ _) Kq2 (allS (Or.inl (List.mem_of_getElem? (i := 0) rfl)) all0)) : Keep h0 T2.heap [a]), own_Str.top str2⟩)

theorem own_retc {v : Int32} (h : ¬ v < 0 ∧ ¬ (255 : Int32) < v) : ¬ nar .char v < 0 ∧ ¬ (255 : Int32) < nar .char v := by rw [own_narC h]; exact h
theorem own_c8J {v : Int32} {x : Int64} (e : v = ((x &&& (255 : Int64)).toInt32).toUInt32.toUInt16.toUInt32.toInt32) : ¬ v < 0 ∧ ¬ (255 : Int32) < v := by
  have h := c_maskL x 255 8 (by decide) (by decide)
  have p : ((2 ^ 8 : Nat) : Int) = 256 := rfl
  rw [p] at h
  have h2 := c_l2i (x &&& (255 : Int64))
  have r := rng32 (x &&& (255 : Int64)).toInt32
  have h3 := c_i2c ((x &&& (255 : Int64)).toInt32)
  rw [e]
  apply own_rng
  omega
theorem own_at {v k : Int32} (h : v.toInt = k.toInt) : v = k := Int32.toInt_inj.mp h
theorem own_m7 (x : Int32) : x &&& 7 = 0 ∨ x &&& 7 = 1 ∨ x &&& 7 = 2 ∨ x &&& 7 = 3 ∨ x &&& 7 = 4 ∨ x &&& 7 = 5 ∨ x &&& 7 = 6 ∨ x &&& 7 = 7 := by
  have h := c_and x 7 (by decide)
  have e7 : (7 : Int32).toInt = 7 := rfl
  rw [e7] at h
  have q : (x &&& 7).toInt = 0 ∨ (x &&& 7).toInt = 1 ∨ (x &&& 7).toInt = 2 ∨ (x &&& 7).toInt = 3 ∨ (x &&& 7).toInt = 4 ∨ (x &&& 7).toInt = 5 ∨ (x &&& 7).toInt = 6 ∨ (x &&& 7).toInt = 7 := by omega
  rcases q with q | q | q | q | q | q | q | q
  · exact Or.inl (own_at (k := 0) q)
  · exact Or.inr (Or.inl (own_at (k := 1) q))
  · exact Or.inr (Or.inr (Or.inl (own_at (k := 2) q)))
  · exact Or.inr (Or.inr (Or.inr (Or.inl (own_at (k := 3) q))))
  · exact Or.inr (Or.inr (Or.inr (Or.inr (Or.inl (own_at (k := 4) q)))))
  · exact Or.inr (Or.inr (Or.inr (Or.inr (Or.inr (Or.inl (own_at (k := 5) q))))))
  · exact Or.inr (Or.inr (Or.inr (Or.inr (Or.inr (Or.inr (Or.inl (own_at (k := 6) q)))))))
  · exact Or.inr (Or.inr (Or.inr (Or.inr (Or.inr (Or.inr (Or.inr (own_at (k := 7) q)))))))
theorem own_m11 {v x : Int32} (e : v = (x &&& (2147483647 : Int32)) % (11 : Int32)) : v = 0 ∨ v = 1 ∨ v = 2 ∨ v = 3 ∨ v = 4 ∨ v = 5 ∨ v = 6 ∨ v = 7 ∨ v = 8 ∨ v = 9 ∨ v = 10 := by
  have h := c_and x 2147483647 (by decide)
  have h2 := (c_iremV (x &&& (2147483647 : Int32)) 11).1 h.1 (by decide)
  rw [← e] at h2
  have e11 : (11 : Int32).toInt = 11 := rfl
  rw [e11] at h2
  have q : v.toInt = 0 ∨ v.toInt = 1 ∨ v.toInt = 2 ∨ v.toInt = 3 ∨ v.toInt = 4 ∨ v.toInt = 5 ∨ v.toInt = 6 ∨ v.toInt = 7 ∨ v.toInt = 8 ∨ v.toInt = 9 ∨ v.toInt = 10 := by omega
  rcases q with q | q | q | q | q | q | q | q | q | q | q
  · exact Or.inl (own_at (k := 0) q)
  · exact Or.inr (Or.inl (own_at (k := 1) q))
  · exact Or.inr (Or.inr (Or.inl (own_at (k := 2) q)))
  · exact Or.inr (Or.inr (Or.inr (Or.inl (own_at (k := 3) q))))
  · exact Or.inr (Or.inr (Or.inr (Or.inr (Or.inl (own_at (k := 4) q)))))
  · exact Or.inr (Or.inr (Or.inr (Or.inr (Or.inr (Or.inl (own_at (k := 5) q))))))
  · exact Or.inr (Or.inr (Or.inr (Or.inr (Or.inr (Or.inr (Or.inl (own_at (k := 6) q)))))))
  · exact Or.inr (Or.inr (Or.inr (Or.inr (Or.inr (Or.inr (Or.inr (Or.inl (own_at (k := 7) q))))))))
  · exact Or.inr (Or.inr (Or.inr (Or.inr (Or.inr (Or.inr (Or.inr (Or.inr (Or.inl (own_at (k := 8) q)))))))))
  · exact Or.inr (Or.inr (Or.inr (Or.inr (Or.inr (Or.inr (Or.inr (Or.inr (Or.inr (Or.inl (own_at (k := 9) q))))))))))
  · exact Or.inr (Or.inr (Or.inr (Or.inr (Or.inr (Or.inr (Or.inr (Or.inr (Or.inr (Or.inr (own_at (k := 10) q))))))))))
def own_ver (ca : List Int32) : Int32 := if own_eqv ca ([(45 : Int32), (45 : Int32), (118 : Int32), (101 : Int32), (114 : Int32), (98 : Int32), (111 : Int32), (115 : Int32), (101 : Int32)] : List Int32) = (0 : Int32) then (if own_eqv ca ([(45 : Int32), (118 : Int32)] : List Int32) = (0 : Int32) then (0 : Int32) else (1 : Int32)) else (1 : Int32)
theorem own_eqn {c d : List Int32} (h : c.length ≠ d.length) : own_eqv c d = 0 := by unfold own_eqv; rw [if_neg (fun q => h (by rw [q]))]
theorem own_v0 {c : List Int32} (h2 : c.length ≠ 2) (h9 : c.length ≠ 9) : own_ver c = (0 : Int32) := by
  unfold own_ver; rw [own_eqn h9, own_eqn h2]; rfl
theorem own_v2 {a b z y : Int32} (h : z = (if a = (45 : Int32) then (if b = (118 : Int32) then (1 : Int32) else (0 : Int32)) else (0 : Int32))) (h' : y = (if z = (0 : Int32) then (0 : Int32) else (1 : Int32))) : own_ver ([a, b] : List Int32) = y := by
  subst h' h
  unfold own_ver
  rw [own_eqn (Nat.ne_of_beq_eq_false rfl), if_pos rfl]
  unfold own_eqv
  by_cases g : a = 45
  · by_cases g2 : b = 118
    · subst g g2; rfl
    · rw [if_neg (show ¬ ([a, b] : List Int32) = [(45 : Int32), (118 : Int32)] from fun q => g2 (List.cons.inj (List.cons.inj q).2).1)]; simp [g, g2]
  · rw [if_neg (show ¬ ([a, b] : List Int32) = [(45 : Int32), (118 : Int32)] from fun q => g (List.cons.inj q).1)]; simp [g]
theorem own_v9 {a b c d e f g i j z y : Int32} (h : z = (if a = (45 : Int32) then (if b = (45 : Int32) then (if c = (118 : Int32) then (if d = (101 : Int32) then (if e = (114 : Int32) then (if f = (98 : Int32) then (if g = (111 : Int32) then (if i = (115 : Int32) then (if j = (101 : Int32) then (1 : Int32) else (0 : Int32)) else (0 : Int32)) else (0 : Int32)) else (0 : Int32)) else (0 : Int32)) else (0 : Int32)) else (0 : Int32)) else (0 : Int32)) else (0 : Int32))) (h' : y = (if z = (0 : Int32) then (0 : Int32) else (1 : Int32))) : own_ver ([a, b, c, d, e, f, g, i, j] : List Int32) = y := by
  subst h'
  have hz : own_eqv ([a, b, c, d, e, f, g, i, j] : List Int32) ([(45 : Int32), (45 : Int32), (118 : Int32), (101 : Int32), (114 : Int32), (98 : Int32), (111 : Int32), (115 : Int32), (101 : Int32)] : List Int32) = z := by
    subst h
    unfold own_eqv
    simp only [List.cons.injEq, and_true]
    by_cases q1 : a = 45
    case neg => simp [q1]
    by_cases q2 : b = 45
    case neg => simp [q2]
    by_cases q3 : c = 118
    case neg => simp [q3]
    by_cases q4 : d = 101
    case neg => simp [q4]
    by_cases q5 : e = 114
    case neg => simp [q5]
    by_cases q6 : f = 98
    case neg => simp [q6]
    by_cases q7 : g = 111
    case neg => simp [q7]
    by_cases q8 : i = 115
    case neg => simp [q8]
    by_cases q9 : j = 101
    case neg => simp [q9]
    simp [q1, q2, q3, q4, q5, q6, q7, q8, q9]
  unfold own_ver
  rw [hz, own_eqn (d := [(45 : Int32), (118 : Int32)]) (Nat.ne_of_beq_eq_false rfl), if_pos rfl]

theorem d1_0 : decode method_2_code 0 = .ok (.lload_n 0, 1) := by decide +kernel
theorem d1_1 : decode method_2_code 1 = .ok (.ldc2_w 7, 3) := by decide +kernel
theorem d1_4 : decode method_2_code 4 = .ok (.land, 1) := by decide +kernel
theorem d1_5 : decode method_2_code 5 = .ok (.l2i, 1) := by decide +kernel
theorem d1_6 : decode method_2_code 6 = .ok (.istore_n 3, 1) := by decide +kernel
theorem d1_7 : decode method_2_code 7 = .ok (.iload_n 2, 1) := by decide +kernel
theorem d1_8 : decode method_2_code 8 = .ok (.ifCond .eq 59, 3) := by decide +kernel
theorem d1_11 : decode method_2_code 11 = .ok (.bipush 8, 2) := by decide +kernel
theorem d1_13 : decode method_2_code 13 = .ok (.newarray .char, 2) := by decide +kernel
theorem d1_15 : decode method_2_code 15 = .ok (.dup, 1) := by decide +kernel
theorem d1_16 : decode method_2_code 16 = .ok (.iconst 0, 1) := by decide +kernel
theorem d1_17 : decode method_2_code 17 = .ok (.bipush 45, 2) := by decide +kernel
theorem d1_19 : decode method_2_code 19 = .ok (.castore, 1) := by decide +kernel
theorem d1_20 : decode method_2_code 20 = .ok (.dup, 1) := by decide +kernel
theorem d1_21 : decode method_2_code 21 = .ok (.iconst 1, 1) := by decide +kernel
theorem d1_22 : decode method_2_code 22 = .ok (.bipush 118, 2) := by decide +kernel
theorem d1_24 : decode method_2_code 24 = .ok (.castore, 1) := by decide +kernel
theorem d1_25 : decode method_2_code 25 = .ok (.dup, 1) := by decide +kernel
theorem d1_26 : decode method_2_code 26 = .ok (.iconst 2, 1) := by decide +kernel
theorem d1_27 : decode method_2_code 27 = .ok (.bipush 101, 2) := by decide +kernel
theorem d1_29 : decode method_2_code 29 = .ok (.castore, 1) := by decide +kernel
theorem d1_30 : decode method_2_code 30 = .ok (.dup, 1) := by decide +kernel
theorem d1_31 : decode method_2_code 31 = .ok (.iconst 3, 1) := by decide +kernel
theorem d1_32 : decode method_2_code 32 = .ok (.bipush 114, 2) := by decide +kernel
theorem d1_34 : decode method_2_code 34 = .ok (.castore, 1) := by decide +kernel
theorem d1_35 : decode method_2_code 35 = .ok (.dup, 1) := by decide +kernel
theorem d1_36 : decode method_2_code 36 = .ok (.iconst 4, 1) := by decide +kernel
theorem d1_37 : decode method_2_code 37 = .ok (.bipush 98, 2) := by decide +kernel
theorem d1_39 : decode method_2_code 39 = .ok (.castore, 1) := by decide +kernel
theorem d1_40 : decode method_2_code 40 = .ok (.dup, 1) := by decide +kernel
theorem d1_41 : decode method_2_code 41 = .ok (.iconst 5, 1) := by decide +kernel
theorem d1_42 : decode method_2_code 42 = .ok (.bipush 111, 2) := by decide +kernel
theorem d1_44 : decode method_2_code 44 = .ok (.castore, 1) := by decide +kernel
theorem d1_45 : decode method_2_code 45 = .ok (.dup, 1) := by decide +kernel
theorem d1_46 : decode method_2_code 46 = .ok (.bipush 6, 2) := by decide +kernel
theorem d1_48 : decode method_2_code 48 = .ok (.bipush 115, 2) := by decide +kernel
theorem d1_50 : decode method_2_code 50 = .ok (.castore, 1) := by decide +kernel
theorem d1_51 : decode method_2_code 51 = .ok (.dup, 1) := by decide +kernel
theorem d1_52 : decode method_2_code 52 = .ok (.bipush 7, 2) := by decide +kernel
theorem d1_54 : decode method_2_code 54 = .ok (.bipush 86, 2) := by decide +kernel
theorem d1_56 : decode method_2_code 56 = .ok (.castore, 1) := by decide +kernel
theorem d1_57 : decode method_2_code 57 = .ok (.astore 4, 2) := by decide +kernel
theorem d1_59 : decode method_2_code 59 = .ok (.aload 4, 2) := by decide +kernel
theorem d1_61 : decode method_2_code 61 = .ok (.iload_n 3, 1) := by decide +kernel
theorem d1_62 : decode method_2_code 62 = .ok (.bipush 7, 2) := by decide +kernel
theorem d1_64 : decode method_2_code 64 = .ok (.iand, 1) := by decide +kernel
theorem d1_65 : decode method_2_code 65 = .ok (.caload, 1) := by decide +kernel
theorem d1_66 : decode method_2_code 66 = .ok (.ireturn, 1) := by decide +kernel
theorem d1_67 : decode method_2_code 67 = .ok (.iload_n 3, 1) := by decide +kernel
theorem d1_68 : decode method_2_code 68 = .ok (.i2c, 1) := by decide +kernel
theorem d1_69 : decode method_2_code 69 = .ok (.ireturn, 1) := by decide +kernel
theorem pn_com_example_facetwork_facetwork_cli_LoggingIsVerbosePinLaw : plainName "com/example/facetwork/facetwork/cli/LoggingIsVerbosePinLaw" = true := by first | (simp [plainName, overriddenIn]; done) | decide +kernel
theorem ef_rm1 (m : MethodId) (x0 : Int64) (x1 : Int32) : entryFrame m #[(.long x0), (.int x1)] 5 = mkF m 0 #[.val (.long x0), .second, .val (.int x1), .unset, .unset] [] := by first | (simp [entryFrame, mkF, argsToLocals, Value.category, maxLocals]; done) | rfl
def Q1 (Z : State) (p1 : Int64) (p2 : Int32) (h0 : Heap) (n0 : Nat) (v : Option Value) (h : Heap) (L : List Loc) : Prop := ∃ r : Int32, v = some (.int r) ∧ (¬ r < 0 ∧ ¬ (255 : Int32) < r) ∧ Fr n0 L ∧ Keep h0 h []
set_option maxRecDepth 65536 in
set_option maxHeartbeats 40000000 in
theorem rm1 (l : Launch) (Z : State) (a0 : Array Value) (hw : ∀ d ∈ tables_1, d.before a0 Z = true) (ws : List Jvm.Cond) (p1 : Int64) (p2 : Int32) (h0 : Heap) (n0 : Nat) (Z0 : n0 ≤ h0.size)  :
    MetFree l (⟨"com/example/facetwork/facetwork/cli/LoggingIsVerbosePinLaw", "pick", "(JZ)C"⟩ : MethodName) (head1 (Jvm.Cond.code (⟨"com/example/facetwork/facetwork/cli/LoggingIsVerbosePinLaw", "pick", "(JZ)C"⟩ : MethodName) method_2_code 5 (some .char) :: ws) ({ frames := 0, cells := 1, slots := 8, locals := 0 } : Room)) (fun ar U => ar = #[(.long p1), (.int p2)] ∧ Z.Warmed39 U.vm ∧ U.heap = h0) (fun _ _ _ _ _ => True) (fun _ U o U' => ∃ v L, o = .returned v ∧ Q1 Z p1 p2 h0 n0 v U'.heap L ∧ FrameEnd U o U' L ({ frames := 0, cells := 1, slots := 8, locals := 0 } : Room).cells ({ frames := 0, cells := 1, slots := 8, locals := 0 } : Room).slots) := by
  refine MetFree.of_bodySF (plainFor_of_name pn_com_example_facetwork_facetwork_cli_LoggingIsVerbosePinLaw) hisR ?_
  intro p e s m args below meth c s₁ Bd hml0 hP hK
  obtain ⟨rfl, hZ, hh⟩ := hP
  have hx := Bd.exec
  have hby := Bd.bytes
  have hml : c.maxLocals = 5 := hml0
  have hown : s.vm.findClass "com/example/facetwork/facetwork/cli/LoggingIsVerbosePinLaw" = some m.cls := findClass_of_methodNamed Bd.named
  have hnm := (name_of_methodNamed Bd.named Bd.method).1
  have X0 : Stand p l e ({ frames := 0, cells := 1, slots := 8, locals := 0 } : Room) s m #[(.long p1), (.int p2)] below meth c s₁ [] 0 0 := Stand.of_body Bd
  have e0 : s₁.heap = h0 := by rw [← hh, Bd.state]; rfl
  have N0 := Fr.nil n0
  obtain ⟨F, hF⟩ : ∃ F, F = own_Fin s (Q1 Z p1 p2 h0 n0) ({ frames := 0, cells := 1, slots := 8, locals := 0 } : Room).cells ({ frames := 0, cells := 1, slots := 8, locals := 0 } : Room).slots := ⟨_, rfl⟩
  show own_Ends p e below (own_Fin s (Q1 Z p1 p2 h0 n0) ({ frames := 0, cells := 1, slots := 8, locals := 0 } : Room).cells ({ frames := 0, cells := 1, slots := 8, locals := 0 } : Room).slots) _
  rw [← hF, ef_rm1 m p1 p2]
  show own_Ends p e below F (s₁.setTop (mkF m 0 #[.val (.long p1), .second, .val (.int p2), .unset, .unset] []))
  refine own_step (fun _ k => XS.lloadN X0.here hx rfl (hb hby d1_0) rfl k) ?_
  show own_Ends p e below F (s₁.setTop (mkF m 1 #[.val (.long p1), .second, .val (.int p2), .unset, .unset] [(.long p1)]))
  refine own_step (X0.ldc2Long hx hown (mvT hZ (own_g hw 5 rfl)) (g := (mkF m 1 #[.val (.long p1), .second, .val (.int p2), .unset, .unset] [(.long p1)])) rfl (hb hby d1_1)) ?_
  show own_Ends p e below F (s₁.setTop (mkF m 4 #[.val (.long p1), .second, .val (.int p2), .unset, .unset] [(.long (255 : Int64)), (.long p1)]))
  refine own_step (fun _ k => XS.land X0.here hx rfl (hb hby d1_4) rfl k) ?_
  show own_Ends p e below F (s₁.setTop (mkF m 5 #[.val (.long p1), .second, .val (.int p2), .unset, .unset] [(.long (p1 &&& (255 : Int64)))]))
  refine own_step (fun _ k => XS.l2i X0.here hx rfl (hb hby d1_5) rfl k) ?_
  show own_Ends p e below F (s₁.setTop (mkF m 6 #[.val (.long p1), .second, .val (.int p2), .unset, .unset] [(.int ((p1 &&& (255 : Int64)).toInt32))]))
  refine own_step (fun _ k => XS.istoreN X0.here hx rfl (hb hby d1_6) rfl (l' := #[.val (.long p1), .second, .val (.int p2), .val (.int ((p1 &&& (255 : Int64)).toInt32)), .unset]) rfl k) ?_
  show own_Ends p e below F (s₁.setTop (mkF m 7 #[.val (.long p1), .second, .val (.int p2), .val (.int ((p1 &&& (255 : Int64)).toInt32)), .unset] []))
  refine own_step (fun _ k => XS.iloadN X0.here hx rfl (hb hby d1_7) rfl k) ?_
  show own_Ends p e below F (s₁.setTop (mkF m 8 #[.val (.long p1), .second, .val (.int p2), .val (.int ((p1 &&& (255 : Int64)).toInt32)), .unset] [(.int p2)]))
  by_cases c8_1 : p2 = (0 : Int32)
  · refine own_step (fun _ k => XS.ifYes X0.here hx rfl (pc0 := 8) (pc' := 67) rfl (hb hby d1_8) rfl ((if0 _ _).trans (teq c8_1).1) (by decide) (by decide) k) ?_
    show own_Ends p e below F (s₁.setTop (mkF m 67 #[.val (.long p1), .second, .val (.int p2), .val (.int ((p1 &&& (255 : Int64)).toInt32)), .unset] []))
    refine own_step (fun _ k => XS.iloadN X0.here hx rfl (hb hby d1_67) rfl k) ?_
    show own_Ends p e below F (s₁.setTop (mkF m 68 #[.val (.long p1), .second, .val (.int p2), .val (.int ((p1 &&& (255 : Int64)).toInt32)), .unset] [(.int ((p1 &&& (255 : Int64)).toInt32))]))
    refine own_step (fun _ k => XS.i2c X0.here hx rfl (hb hby d1_68) rfl k) ?_
    show own_Ends p e below F (s₁.setTop (mkF m 69 #[.val (.long p1), .second, .val (.int p2), .val (.int ((p1 &&& (255 : Int64)).toInt32)), .unset] [(.int (((p1 &&& (255 : Int64)).toInt32).toUInt32.toUInt16.toUInt32.toInt32))]))
    rw [hF]
    exact own_ret X0 (v := (some (.int (nar .char (((p1 &&& (255 : Int64)).toInt32).toUInt32.toUInt16.toUInt32.toInt32))))) (fun h => by rw [Bd.returns] at h; cases h) Bd.notSynchronized (fun fs hr => retN X0 hx (t := .char) Bd.returns (by simp) (hb hby d1_69) hr) (by decide) (by decide) (by rw [e0]; exact ⟨_, rfl, (own_retc (own_c8J rfl)), N0, ((Keep.refl _ _) : Keep h0 h0 [])⟩)
  · refine own_step (fun _ k => XS.ifNo X0.here hx rfl (hb hby d1_8) rfl ((if0 _ _).trans (feq c8_1).1) k) ?_
    show own_Ends p e below F (s₁.setTop (mkF m 11 #[.val (.long p1), .second, .val (.int p2), .val (.int ((p1 &&& (255 : Int64)).toInt32)), .unset] []))
    refine own_step (fun _ k => XS.bipush X0.here hx rfl (hb hby d1_11) k) ?_
    show own_Ends p e below F (s₁.setTop (mkF m 13 #[.val (.long p1), .second, .val (.int p2), .val (.int ((p1 &&& (255 : Int64)).toInt32)), .unset] [(.int (8 : Int32))]))
    obtain ⟨T2, h2, k2, X2, e2, E2, A2, st2⟩ := newP X0 hx hZ (own_g hw 6 rfl) e0 (g := (mkF m 13 #[.val (.long p1), .second, .val (.int p2), .val (.int ((p1 &&& (255 : Int64)).toInt32)), .unset] [(.int (8 : Int32))])) rfl (hb hby d1_13) rfl (by decide) (cap := 8) (by decide) (by decide) (by decide) (by decide)
    obtain ⟨a2, g2⟩ : ∃ z, z = h0.size := ⟨_, rfl⟩
    rw [← g2] at A2 st2
    have ge_a2 : n0 ≤ a2 := Nat.le_trans Z0 (Nat.le_of_eq g2.symm)
    have sz_a2 : h0.size ≤ a2 := Nat.le_trans (Nat.le_refl h0.size) (Nat.le_of_eq g2.symm)
    have Z2 : n0 ≤ h2.size := Nat.le_trans Z0 E2.1
    have SZ2 : h0.size ≤ h2.size := Nat.le_trans (Nat.le_refl h0.size) E2.1
    have V2 : Arv Z h2 a2 k2 .char (8 : Int32) [(.int (0 : Int32)), (.int (0 : Int32)), (.int (0 : Int32)), (.int (0 : Int32)), (.int (0 : Int32)), (.int (0 : Int32)), (.int (0 : Int32)), (.int (0 : Int32))] (.int (0 : Int32)) := Arv.pad (Arv.new A2 (by decide)) (pad_rep [] _ 8)
    refine own_step st2 ?_
    show own_Ends p e below F (T2.setTop (mkF m 15 #[.val (.long p1), .second, .val (.int p2), .val (.int ((p1 &&& (255 : Int64)).toInt32)), .unset] [(.ref a2)]))
    refine own_step (fun _ k => XS.dup X2.here hx rfl (hb hby d1_15) rfl rfl k) ?_
    show own_Ends p e below F (T2.setTop (mkF m 16 #[.val (.long p1), .second, .val (.int p2), .val (.int ((p1 &&& (255 : Int64)).toInt32)), .unset] [(.ref a2), (.ref a2)]))
    refine own_step (fun _ k => XS.iconst X2.here hx rfl (hb hby d1_16) k) ?_
    show own_Ends p e below F (T2.setTop (mkF m 17 #[.val (.long p1), .second, .val (.int p2), .val (.int ((p1 &&& (255 : Int64)).toInt32)), .unset] [(.int (0 : Int32)), (.ref a2), (.ref a2)]))
    refine own_step (fun _ k => XS.bipush X2.here hx rfl (hb hby d1_17) k) ?_
    show own_Ends p e below F (T2.setTop (mkF m 19 #[.val (.long p1), .second, .val (.int p2), .val (.int ((p1 &&& (255 : Int64)).toInt32)), .unset] [(.int (45 : Int32)), (.int (0 : Int32)), (.ref a2), (.ref a2)]))
    obtain ⟨cl3, Ar3, q3, S3, M3, H3, G3⟩ := id V2
    have hin3 : ¬ ((0 : Int32) < 0 ∨ cl3.slots.size ≤ ((0 : Int32) : Int32).toNatClampNeg) := inb_of S3 ⟨by decide, by decide⟩
    obtain ⟨T3, h3, X3, e3, W3, st3⟩ := stC X2 hx hZ e2 Ar3 (j := (0 : Int32)) hin3 (g := (mkF m 19 #[.val (.long p1), .second, .val (.int p2), .val (.int ((p1 &&& (255 : Int64)).toInt32)), .unset] [(.int (45 : Int32)), (.int (0 : Int32)), (.ref a2), (.ref a2)])) rfl rfl (hb hby d1_19)
    rw [(rfl : nar .char (45 : Int32) = (45 : Int32))] at W3
    have V3 := Arv.set Ar3 q3 S3 M3 H3 G3 rfl W3 0 rfl (Nat.le_of_ble_eq_true rfl)
    have V3 : Arv Z h3 a2 k2 .char (8 : Int32) [(.int (45 : Int32)), (.int (0 : Int32)), (.int (0 : Int32)), (.int (0 : Int32)), (.int (0 : Int32)), (.int (0 : Int32)), (.int (0 : Int32)), (.int (0 : Int32))] (.int (0 : Int32)) := V3
    refine own_step st3 ?_
    have N3 := Fr.snoc X3 N0 ge_a2
    have Z3 : n0 ≤ h3.size := by rw [W3.size]; exact Z2
    have SZ3 : h0.size ≤ h3.size := by rw [W3.size]; exact SZ2
    show own_Ends p e below F (T3.setTop (mkF m 20 #[.val (.long p1), .second, .val (.int p2), .val (.int ((p1 &&& (255 : Int64)).toInt32)), .unset] [(.ref a2)]))
    refine own_step (fun _ k => XS.dup X3.here hx rfl (hb hby d1_20) rfl rfl k) ?_
    show own_Ends p e below F (T3.setTop (mkF m 21 #[.val (.long p1), .second, .val (.int p2), .val (.int ((p1 &&& (255 : Int64)).toInt32)), .unset] [(.ref a2), (.ref a2)]))
    refine own_step (fun _ k => XS.iconst X3.here hx rfl (hb hby d1_21) k) ?_
    show own_Ends p e below F (T3.setTop (mkF m 22 #[.val (.long p1), .second, .val (.int p2), .val (.int ((p1 &&& (255 : Int64)).toInt32)), .unset] [(.int (1 : Int32)), (.ref a2), (.ref a2)]))
    refine own_step (fun _ k => XS.bipush X3.here hx rfl (hb hby d1_22) k) ?_
    show own_Ends p e below F (T3.setTop (mkF m 24 #[.val (.long p1), .second, .val (.int p2), .val (.int ((p1 &&& (255 : Int64)).toInt32)), .unset] [(.int (118 : Int32)), (.int (1 : Int32)), (.ref a2), (.ref a2)]))
    obtain ⟨cl4, Ar4, q4, S4, M4, H4, G4⟩ := id V3
    have hin4 : ¬ ((1 : Int32) < 0 ∨ cl4.slots.size ≤ ((1 : Int32) : Int32).toNatClampNeg) := inb_of S4 ⟨by decide, by decide⟩
    obtain ⟨T4, h4, X4, e4, W4, st4⟩ := stC X3 hx hZ e3 Ar4 (j := (1 : Int32)) hin4 (g := (mkF m 24 #[.val (.long p1), .second, .val (.int p2), .val (.int ((p1 &&& (255 : Int64)).toInt32)), .unset] [(.int (118 : Int32)), (.int (1 : Int32)), (.ref a2), (.ref a2)])) rfl rfl (hb hby d1_24)
    rw [(rfl : nar .char (118 : Int32) = (118 : Int32))] at W4
    have V4 := Arv.set Ar4 q4 S4 M4 H4 G4 rfl W4 1 rfl (Nat.le_of_ble_eq_true rfl)
    have V4 : Arv Z h4 a2 k2 .char (8 : Int32) [(.int (45 : Int32)), (.int (118 : Int32)), (.int (0 : Int32)), (.int (0 : Int32)), (.int (0 : Int32)), (.int (0 : Int32)), (.int (0 : Int32)), (.int (0 : Int32))] (.int (0 : Int32)) := V4
    refine own_step st4 ?_
    have N4 := Fr.snoc X4 N3 ge_a2
    have Z4 : n0 ≤ h4.size := by rw [W4.size]; exact Z3
    have SZ4 : h0.size ≤ h4.size := by rw [W4.size]; exact SZ3
    show own_Ends p e below F (T4.setTop (mkF m 25 #[.val (.long p1), .second, .val (.int p2), .val (.int ((p1 &&& (255 : Int64)).toInt32)), .unset] [(.ref a2)]))
    refine own_step (fun _ k => XS.dup X4.here hx rfl (hb hby d1_25) rfl rfl k) ?_
    show own_Ends p e below F (T4.setTop (mkF m 26 #[.val (.long p1), .second, .val (.int p2), .val (.int ((p1 &&& (255 : Int64)).toInt32)), .unset] [(.ref a2), (.ref a2)]))
    refine own_step (fun _ k => XS.iconst X4.here hx rfl (hb hby d1_26) k) ?_
    show own_Ends p e below F (T4.setTop (mkF m 27 #[.val (.long p1), .second, .val (.int p2), .val (.int ((p1 &&& (255 : Int64)).toInt32)), .unset] [(.int (2 : Int32)), (.ref a2), (.ref a2)]))
    refine own_step (fun _ k => XS.bipush X4.here hx rfl (hb hby d1_27) k) ?_
    show own_Ends p e below F (T4.setTop (mkF m 29 #[.val (.long p1), .second, .val (.int p2), .val (.int ((p1 &&& (255 : Int64)).toInt32)), .unset] [(.int (101 : Int32)), (.int (2 : Int32)), (.ref a2), (.ref a2)]))
    obtain ⟨cl5, Ar5, q5, S5, M5, H5, G5⟩ := id V4
    have hin5 : ¬ ((2 : Int32) < 0 ∨ cl5.slots.size ≤ ((2 : Int32) : Int32).toNatClampNeg) := inb_of S5 ⟨by decide, by decide⟩
    obtain ⟨T5, h5, X5, e5, W5, st5⟩ := stC X4 hx hZ e4 Ar5 (j := (2 : Int32)) hin5 (g := (mkF m 29 #[.val (.long p1), .second, .val (.int p2), .val (.int ((p1 &&& (255 : Int64)).toInt32)), .unset] [(.int (101 : Int32)), (.int (2 : Int32)), (.ref a2), (.ref a2)])) rfl rfl (hb hby d1_29)
    rw [(rfl : nar .char (101 : Int32) = (101 : Int32))] at W5
    have V5 := Arv.set Ar5 q5 S5 M5 H5 G5 rfl W5 2 rfl (Nat.le_of_ble_eq_true rfl)
    have V5 : Arv Z h5 a2 k2 .char (8 : Int32) [(.int (45 : Int32)), (.int (118 : Int32)), (.int (101 : Int32)), (.int (0 : Int32)), (.int (0 : Int32)), (.int (0 : Int32)), (.int (0 : Int32)), (.int (0 : Int32))] (.int (0 : Int32)) := V5
    refine own_step st5 ?_
    have N5 := Fr.snoc X5 N4 ge_a2
    have Z5 : n0 ≤ h5.size := by rw [W5.size]; exact Z4
    have SZ5 : h0.size ≤ h5.size := by rw [W5.size]; exact SZ4
    show own_Ends p e below F (T5.setTop (mkF m 30 #[.val (.long p1), .second, .val (.int p2), .val (.int ((p1 &&& (255 : Int64)).toInt32)), .unset] [(.ref a2)]))
    refine own_step (fun _ k => XS.dup X5.here hx rfl (hb hby d1_30) rfl rfl k) ?_
    show own_Ends p e below F (T5.setTop (mkF m 31 #[.val (.long p1), .second, .val (.int p2), .val (.int ((p1 &&& (255 : Int64)).toInt32)), .unset] [(.ref a2), (.ref a2)]))
    refine own_step (fun _ k => XS.iconst X5.here hx rfl (hb hby d1_31) k) ?_
    show own_Ends p e below F (T5.setTop (mkF m 32 #[.val (.long p1), .second, .val (.int p2), .val (.int ((p1 &&& (255 : Int64)).toInt32)), .unset] [(.int (3 : Int32)), (.ref a2), (.ref a2)]))
    refine own_step (fun _ k => XS.bipush X5.here hx rfl (hb hby d1_32) k) ?_
    show own_Ends p e below F (T5.setTop (mkF m 34 #[.val (.long p1), .second, .val (.int p2), .val (.int ((p1 &&& (255 : Int64)).toInt32)), .unset] [(.int (114 : Int32)), (.int (3 : Int32)), (.ref a2), (.ref a2)]))
    obtain ⟨cl6, Ar6, q6, S6, M6, H6, G6⟩ := id V5
    have hin6 : ¬ ((3 : Int32) < 0 ∨ cl6.slots.size ≤ ((3 : Int32) : Int32).toNatClampNeg) := inb_of S6 ⟨by decide, by decide⟩
    obtain ⟨T6, h6, X6, e6, W6, st6⟩ := stC X5 hx hZ e5 Ar6 (j := (3 : Int32)) hin6 (g := (mkF m 34 #[.val (.long p1), .second, .val (.int p2), .val (.int ((p1 &&& (255 : Int64)).toInt32)), .unset] [(.int (114 : Int32)), (.int (3 : Int32)), (.ref a2), (.ref a2)])) rfl rfl (hb hby d1_34)
    rw [(rfl : nar .char (114 : Int32) = (114 : Int32))] at W6
    have V6 := Arv.set Ar6 q6 S6 M6 H6 G6 rfl W6 3 rfl (Nat.le_of_ble_eq_true rfl)
    have V6 : Arv Z h6 a2 k2 .char (8 : Int32) [(.int (45 : Int32)), (.int (118 : Int32)), (.int (101 : Int32)), (.int (114 : Int32)), (.int (0 : Int32)), (.int (0 : Int32)), (.int (0 : Int32)), (.int (0 : Int32))] (.int (0 : Int32)) := V6
    refine own_step st6 ?_
    have N6 := Fr.snoc X6 N5 ge_a2
    have Z6 : n0 ≤ h6.size := by rw [W6.size]; exact Z5
    have SZ6 : h0.size ≤ h6.size := by rw [W6.size]; exact SZ5
    show own_Ends p e below F (T6.setTop (mkF m 35 #[.val (.long p1), .second, .val (.int p2), .val (.int ((p1 &&& (255 : Int64)).toInt32)), .unset] [(.ref a2)]))
    refine own_step (fun _ k => XS.dup X6.here hx rfl (hb hby d1_35) rfl rfl k) ?_
    show own_Ends p e below F (T6.setTop (mkF m 36 #[.val (.long p1), .second, .val (.int p2), .val (.int ((p1 &&& (255 : Int64)).toInt32)), .unset] [(.ref a2), (.ref a2)]))
    refine own_step (fun _ k => XS.iconst X6.here hx rfl (hb hby d1_36) k) ?_
    show own_Ends p e below F (T6.setTop (mkF m 37 #[.val (.long p1), .second, .val (.int p2), .val (.int ((p1 &&& (255 : Int64)).toInt32)), .unset] [(.int (4 : Int32)), (.ref a2), (.ref a2)]))
    refine own_step (fun _ k => XS.bipush X6.here hx rfl (hb hby d1_37) k) ?_
    show own_Ends p e below F (T6.setTop (mkF m 39 #[.val (.long p1), .second, .val (.int p2), .val (.int ((p1 &&& (255 : Int64)).toInt32)), .unset] [(.int (98 : Int32)), (.int (4 : Int32)), (.ref a2), (.ref a2)]))
    obtain ⟨cl7, Ar7, q7, S7, M7, H7, G7⟩ := id V6
    have hin7 : ¬ ((4 : Int32) < 0 ∨ cl7.slots.size ≤ ((4 : Int32) : Int32).toNatClampNeg) := inb_of S7 ⟨by decide, by decide⟩
    obtain ⟨T7, h7, X7, e7, W7, st7⟩ := stC X6 hx hZ e6 Ar7 (j := (4 : Int32)) hin7 (g := (mkF m 39 #[.val (.long p1), .second, .val (.int p2), .val (.int ((p1 &&& (255 : Int64)).toInt32)), .unset] [(.int (98 : Int32)), (.int (4 : Int32)), (.ref a2), (.ref a2)])) rfl rfl (hb hby d1_39)
    rw [(rfl : nar .char (98 : Int32) = (98 : Int32))] at W7
    have V7 := Arv.set Ar7 q7 S7 M7 H7 G7 rfl W7 4 rfl (Nat.le_of_ble_eq_true rfl)
    have V7 : Arv Z h7 a2 k2 .char (8 : Int32) [(.int (45 : Int32)), (.int (118 : Int32)), (.int (101 : Int32)), (.int (114 : Int32)), (.int (98 : Int32)), (.int (0 : Int32)), (.int (0 : Int32)), (.int (0 : Int32))] (.int (0 : Int32)) := V7
    refine own_step st7 ?_
    have N7 := Fr.snoc X7 N6 ge_a2
    have Z7 : n0 ≤ h7.size := by rw [W7.size]; exact Z6
    have SZ7 : h0.size ≤ h7.size := by rw [W7.size]; exact SZ6
    show own_Ends p e below F (T7.setTop (mkF m 40 #[.val (.long p1), .second, .val (.int p2), .val (.int ((p1 &&& (255 : Int64)).toInt32)), .unset] [(.ref a2)]))
    refine own_step (fun _ k => XS.dup X7.here hx rfl (hb hby d1_40) rfl rfl k) ?_
    show own_Ends p e below F (T7.setTop (mkF m 41 #[.val (.long p1), .second, .val (.int p2), .val (.int ((p1 &&& (255 : Int64)).toInt32)), .unset] [(.ref a2), (.ref a2)]))
    refine own_step (fun _ k => XS.iconst X7.here hx rfl (hb hby d1_41) k) ?_
    show own_Ends p e below F (T7.setTop (mkF m 42 #[.val (.long p1), .second, .val (.int p2), .val (.int ((p1 &&& (255 : Int64)).toInt32)), .unset] [(.int (5 : Int32)), (.ref a2), (.ref a2)]))
    refine own_step (fun _ k => XS.bipush X7.here hx rfl (hb hby d1_42) k) ?_
    show own_Ends p e below F (T7.setTop (mkF m 44 #[.val (.long p1), .second, .val (.int p2), .val (.int ((p1 &&& (255 : Int64)).toInt32)), .unset] [(.int (111 : Int32)), (.int (5 : Int32)), (.ref a2), (.ref a2)]))
    obtain ⟨cl8, Ar8, q8, S8, M8, H8, G8⟩ := id V7
    have hin8 : ¬ ((5 : Int32) < 0 ∨ cl8.slots.size ≤ ((5 : Int32) : Int32).toNatClampNeg) := inb_of S8 ⟨by decide, by decide⟩
    obtain ⟨T8, h8, X8, e8, W8, st8⟩ := stC X7 hx hZ e7 Ar8 (j := (5 : Int32)) hin8 (g := (mkF m 44 #[.val (.long p1), .second, .val (.int p2), .val (.int ((p1 &&& (255 : Int64)).toInt32)), .unset] [(.int (111 : Int32)), (.int (5 : Int32)), (.ref a2), (.ref a2)])) rfl rfl (hb hby d1_44)
    rw [(rfl : nar .char (111 : Int32) = (111 : Int32))] at W8
    have V8 := Arv.set Ar8 q8 S8 M8 H8 G8 rfl W8 5 rfl (Nat.le_of_ble_eq_true rfl)
    have V8 : Arv Z h8 a2 k2 .char (8 : Int32) [(.int (45 : Int32)), (.int (118 : Int32)), (.int (101 : Int32)), (.int (114 : Int32)), (.int (98 : Int32)), (.int (111 : Int32)), (.int (0 : Int32)), (.int (0 : Int32))] (.int (0 : Int32)) := V8
    refine own_step st8 ?_
    have N8 := Fr.snoc X8 N7 ge_a2
    have Z8 : n0 ≤ h8.size := by rw [W8.size]; exact Z7
    have SZ8 : h0.size ≤ h8.size := by rw [W8.size]; exact SZ7
    show own_Ends p e below F (T8.setTop (mkF m 45 #[.val (.long p1), .second, .val (.int p2), .val (.int ((p1 &&& (255 : Int64)).toInt32)), .unset] [(.ref a2)]))
    refine own_step (fun _ k => XS.dup X8.here hx rfl (hb hby d1_45) rfl rfl k) ?_
    show own_Ends p e below F (T8.setTop (mkF m 46 #[.val (.long p1), .second, .val (.int p2), .val (.int ((p1 &&& (255 : Int64)).toInt32)), .unset] [(.ref a2), (.ref a2)]))
    refine own_step (fun _ k => XS.bipush X8.here hx rfl (hb hby d1_46) k) ?_
    show own_Ends p e below F (T8.setTop (mkF m 48 #[.val (.long p1), .second, .val (.int p2), .val (.int ((p1 &&& (255 : Int64)).toInt32)), .unset] [(.int (6 : Int32)), (.ref a2), (.ref a2)]))
    refine own_step (fun _ k => XS.bipush X8.here hx rfl (hb hby d1_48) k) ?_
    show own_Ends p e below F (T8.setTop (mkF m 50 #[.val (.long p1), .second, .val (.int p2), .val (.int ((p1 &&& (255 : Int64)).toInt32)), .unset] [(.int (115 : Int32)), (.int (6 : Int32)), (.ref a2), (.ref a2)]))
    obtain ⟨cl9, Ar9, q9, S9, M9, H9, G9⟩ := id V8
    have hin9 : ¬ ((6 : Int32) < 0 ∨ cl9.slots.size ≤ ((6 : Int32) : Int32).toNatClampNeg) := inb_of S9 ⟨by decide, by decide⟩
    obtain ⟨T9, h9, X9, e9, W9, st9⟩ := stC X8 hx hZ e8 Ar9 (j := (6 : Int32)) hin9 (g := (mkF m 50 #[.val (.long p1), .second, .val (.int p2), .val (.int ((p1 &&& (255 : Int64)).toInt32)), .unset] [(.int (115 : Int32)), (.int (6 : Int32)), (.ref a2), (.ref a2)])) rfl rfl (hb hby d1_50)
    rw [(rfl : nar .char (115 : Int32) = (115 : Int32))] at W9
    have V9 := Arv.set Ar9 q9 S9 M9 H9 G9 rfl W9 6 rfl (Nat.le_of_ble_eq_true rfl)
    have V9 : Arv Z h9 a2 k2 .char (8 : Int32) [(.int (45 : Int32)), (.int (118 : Int32)), (.int (101 : Int32)), (.int (114 : Int32)), (.int (98 : Int32)), (.int (111 : Int32)), (.int (115 : Int32)), (.int (0 : Int32))] (.int (0 : Int32)) := V9
    refine own_step st9 ?_
    have N9 := Fr.snoc X9 N8 ge_a2
    have Z9 : n0 ≤ h9.size := by rw [W9.size]; exact Z8
    have SZ9 : h0.size ≤ h9.size := by rw [W9.size]; exact SZ8
    show own_Ends p e below F (T9.setTop (mkF m 51 #[.val (.long p1), .second, .val (.int p2), .val (.int ((p1 &&& (255 : Int64)).toInt32)), .unset] [(.ref a2)]))
    refine own_step (fun _ k => XS.dup X9.here hx rfl (hb hby d1_51) rfl rfl k) ?_
    show own_Ends p e below F (T9.setTop (mkF m 52 #[.val (.long p1), .second, .val (.int p2), .val (.int ((p1 &&& (255 : Int64)).toInt32)), .unset] [(.ref a2), (.ref a2)]))
    refine own_step (fun _ k => XS.bipush X9.here hx rfl (hb hby d1_52) k) ?_
    show own_Ends p e below F (T9.setTop (mkF m 54 #[.val (.long p1), .second, .val (.int p2), .val (.int ((p1 &&& (255 : Int64)).toInt32)), .unset] [(.int (7 : Int32)), (.ref a2), (.ref a2)]))
    refine own_step (fun _ k => XS.bipush X9.here hx rfl (hb hby d1_54) k) ?_
    show own_Ends p e below F (T9.setTop (mkF m 56 #[.val (.long p1), .second, .val (.int p2), .val (.int ((p1 &&& (255 : Int64)).toInt32)), .unset] [(.int (86 : Int32)), (.int (7 : Int32)), (.ref a2), (.ref a2)]))
    obtain ⟨cl10, Ar10, q10, S10, M10, H10, G10⟩ := id V9
    have hin10 : ¬ ((7 : Int32) < 0 ∨ cl10.slots.size ≤ ((7 : Int32) : Int32).toNatClampNeg) := inb_of S10 ⟨by decide, by decide⟩
    obtain ⟨T10, h10, X10, e10, W10, st10⟩ := stC X9 hx hZ e9 Ar10 (j := (7 : Int32)) hin10 (g := (mkF m 56 #[.val (.long p1), .second, .val (.int p2), .val (.int ((p1 &&& (255 : Int64)).toInt32)), .unset] [(.int (86 : Int32)), (.int (7 : Int32)), (.ref a2), (.ref a2)])) rfl rfl (hb hby d1_56)
    rw [(rfl : nar .char (86 : Int32) = (86 : Int32))] at W10
    have V10 := Arv.set Ar10 q10 S10 M10 H10 G10 rfl W10 7 rfl (Nat.le_of_ble_eq_true rfl)
    have V10 : Arv Z h10 a2 k2 .char (8 : Int32) [(.int (45 : Int32)), (.int (118 : Int32)), (.int (101 : Int32)), (.int (114 : Int32)), (.int (98 : Int32)), (.int (111 : Int32)), (.int (115 : Int32)), (.int (86 : Int32))] (.int (0 : Int32)) := V10
    refine own_step st10 ?_
    have N10 := Fr.snoc X10 N9 ge_a2
    have Z10 : n0 ≤ h10.size := by rw [W10.size]; exact Z9
    have SZ10 : h0.size ≤ h10.size := by rw [W10.size]; exact SZ9
    show own_Ends p e below F (T10.setTop (mkF m 57 #[.val (.long p1), .second, .val (.int p2), .val (.int ((p1 &&& (255 : Int64)).toInt32)), .unset] [(.ref a2)]))
    refine own_step (fun _ k => XS.astore X10.here hx rfl (hb hby d1_57) rfl rfl (l' := #[.val (.long p1), .second, .val (.int p2), .val (.int ((p1 &&& (255 : Int64)).toInt32)), .val (.ref a2)]) rfl k) ?_
    show own_Ends p e below F (T10.setTop (mkF m 59 #[.val (.long p1), .second, .val (.int p2), .val (.int ((p1 &&& (255 : Int64)).toInt32)), .val (.ref a2)] []))
    refine own_step (fun _ k => XS.aload X10.here hx rfl (hb hby d1_59) rfl rfl k) ?_
    show own_Ends p e below F (T10.setTop (mkF m 61 #[.val (.long p1), .second, .val (.int p2), .val (.int ((p1 &&& (255 : Int64)).toInt32)), .val (.ref a2)] [(.ref a2)]))
    refine own_step (fun _ k => XS.iloadN X10.here hx rfl (hb hby d1_61) rfl k) ?_
    show own_Ends p e below F (T10.setTop (mkF m 62 #[.val (.long p1), .second, .val (.int p2), .val (.int ((p1 &&& (255 : Int64)).toInt32)), .val (.ref a2)] [(.int ((p1 &&& (255 : Int64)).toInt32)), (.ref a2)]))
    refine own_step (fun _ k => XS.bipush X10.here hx rfl (hb hby d1_62) k) ?_
    show own_Ends p e below F (T10.setTop (mkF m 64 #[.val (.long p1), .second, .val (.int p2), .val (.int ((p1 &&& (255 : Int64)).toInt32)), .val (.ref a2)] [(.int (7 : Int32)), (.int ((p1 &&& (255 : Int64)).toInt32)), (.ref a2)]))
    refine own_step (fun _ k => XS.iand X10.here hx rfl (hb hby d1_64) rfl k) ?_
    show own_Ends p e below F (T10.setTop (mkF m 65 #[.val (.long p1), .second, .val (.int p2), .val (.int ((p1 &&& (255 : Int64)).toInt32)), .val (.ref a2)] [(.int (((p1 &&& (255 : Int64)).toInt32) &&& (7 : Int32))), (.ref a2)]))
    rcases own_m7 _ with q65 | q65 | q65 | q65 | q65 | q65 | q65 | q65
    · rw [q65]
      show own_Ends p e below F (T10.setTop (mkF m 65 #[.val (.long p1), .second, .val (.int p2), .val (.int ((p1 &&& (255 : Int64)).toInt32)), .val (.ref a2)] [(.int (0 : Int32)), (.ref a2)]))
      obtain ⟨cl11, Ar11, q11, S11, M11, H11, G11⟩ := id V10
      have hin11 : ¬ ((0 : Int32) < 0 ∨ cl11.slots.size ≤ ((0 : Int32) : Int32).toNatClampNeg) := inb_of S11 ⟨by decide, by decide⟩
      refine own_step (X10.caload hx (j := (0 : Int32)) (v := (.int (45 : Int32))) (by rw [e10]; exact Ar11.1) (State.isArrayOf_alike hZ.alike Ar11.2.1) Ar11.2.2 hin11 (Has.at H11 hin11 rfl) (g := (mkF m 65 #[.val (.long p1), .second, .val (.int p2), .val (.int ((p1 &&& (255 : Int64)).toInt32)), .val (.ref a2)] [(.int (0 : Int32)), (.ref a2)])) rfl rfl (hb hby d1_65)) ?_
      show own_Ends p e below F (T10.setTop (mkF m 66 #[.val (.long p1), .second, .val (.int p2), .val (.int ((p1 &&& (255 : Int64)).toInt32)), .val (.ref a2)] [(.int (45 : Int32))]))
      rw [hF]
      exact own_ret X10 (v := (some (.int (nar .char (45 : Int32))))) (fun h => by rw [Bd.returns] at h; cases h) Bd.notSynchronized (fun fs hr => retN X10 hx (t := .char) Bd.returns (by simp) (hb hby d1_66) hr) (by decide) (by decide) (by rw [e10]; exact ⟨_, rfl, (own_retc (by decide)), N10, ((Keep.wr (Keep.wr (Keep.wr (Keep.wr (Keep.wr (Keep.wr (Keep.wr (Keep.wr (Keep.ext (Keep.refl _ _) E2) W3 (Or.inr sz_a2)) W4 (Or.inr sz_a2)) W5 (Or.inr sz_a2)) W6 (Or.inr sz_a2)) W7 (Or.inr sz_a2)) W8 (Or.inr sz_a2)) W9 (Or.inr sz_a2)) W10 (Or.inr sz_a2)) : Keep h0 h10 [])⟩)
    · rw [q65]
      show own_Ends p e below F (T10.setTop (mkF m 65 #[.val (.long p1), .second, .val (.int p2), .val (.int ((p1 &&& (255 : Int64)).toInt32)), .val (.ref a2)] [(.int (1 : Int32)), (.ref a2)]))
      obtain ⟨cl12, Ar12, q12, S12, M12, H12, G12⟩ := id V10
      have hin12 : ¬ ((1 : Int32) < 0 ∨ cl12.slots.size ≤ ((1 : Int32) : Int32).toNatClampNeg) := inb_of S12 ⟨by decide, by decide⟩
      refine own_step (X10.caload hx (j := (1 : Int32)) (v := (.int (118 : Int32))) (by rw [e10]; exact Ar12.1) (State.isArrayOf_alike hZ.alike Ar12.2.1) Ar12.2.2 hin12 (Has.at H12 hin12 rfl) (g := (mkF m 65 #[.val (.long p1), .second, .val (.int p2), .val (.int ((p1 &&& (255 : Int64)).toInt32)), .val (.ref a2)] [(.int (1 : Int32)), (.ref a2)])) rfl rfl (hb hby d1_65)) ?_
      show own_Ends p e below F (T10.setTop (mkF m 66 #[.val (.long p1), .second, .val (.int p2), .val (.int ((p1 &&& (255 : Int64)).toInt32)), .val (.ref a2)] [(.int (118 : Int32))]))
      rw [hF]
      exact own_ret X10 (v := (some (.int (nar .char (118 : Int32))))) (fun h => by rw [Bd.returns] at h; cases h) Bd.notSynchronized (fun fs hr => retN X10 hx (t := .char) Bd.returns (by simp) (hb hby d1_66) hr) (by decide) (by decide) (by rw [e10]; exact ⟨_, rfl, (own_retc (by decide)), N10, ((Keep.wr (Keep.wr (Keep.wr (Keep.wr (Keep.wr (Keep.wr (Keep.wr (Keep.wr (Keep.ext (Keep.refl _ _) E2) W3 (Or.inr sz_a2)) W4 (Or.inr sz_a2)) W5 (Or.inr sz_a2)) W6 (Or.inr sz_a2)) W7 (Or.inr sz_a2)) W8 (Or.inr sz_a2)) W9 (Or.inr sz_a2)) W10 (Or.inr sz_a2)) : Keep h0 h10 [])⟩)
    · rw [q65]
      show own_Ends p e below F (T10.setTop (mkF m 65 #[.val (.long p1), .second, .val (.int p2), .val (.int ((p1 &&& (255 : Int64)).toInt32)), .val (.ref a2)] [(.int (2 : Int32)), (.ref a2)]))
      obtain ⟨cl13, Ar13, q13, S13, M13, H13, G13⟩ := id V10
      have hin13 : ¬ ((2 : Int32) < 0 ∨ cl13.slots.size ≤ ((2 : Int32) : Int32).toNatClampNeg) := inb_of S13 ⟨by decide, by decide⟩
      refine own_step (X10.caload hx (j := (2 : Int32)) (v := (.int (101 : Int32))) (by rw [e10]; exact Ar13.1) (State.isArrayOf_alike hZ.alike Ar13.2.1) Ar13.2.2 hin13 (Has.at H13 hin13 rfl) (g := (mkF m 65 #[.val (.long p1), .second, .val (.int p2), .val (.int ((p1 &&& (255 : Int64)).toInt32)), .val (.ref a2)] [(.int (2 : Int32)), (.ref a2)])) rfl rfl (hb hby d1_65)) ?_
      show own_Ends p e below F (T10.setTop (mkF m 66 #[.val (.long p1), .second, .val (.int p2), .val (.int ((p1 &&& (255 : Int64)).toInt32)), .val (.ref a2)] [(.int (101 : Int32))]))
      rw [hF]
      exact own_ret X10 (v := (some (.int (nar .char (101 : Int32))))) (fun h => by rw [Bd.returns] at h; cases h) Bd.notSynchronized (fun fs hr => retN X10 hx (t := .char) Bd.returns (by simp) (hb hby d1_66) hr) (by decide) (by decide) (by rw [e10]; exact ⟨_, rfl, (own_retc (by decide)), N10, ((Keep.wr (Keep.wr (Keep.wr (Keep.wr (Keep.wr (Keep.wr (Keep.wr (Keep.wr (Keep.ext (Keep.refl _ _) E2) W3 (Or.inr sz_a2)) W4 (Or.inr sz_a2)) W5 (Or.inr sz_a2)) W6 (Or.inr sz_a2)) W7 (Or.inr sz_a2)) W8 (Or.inr sz_a2)) W9 (Or.inr sz_a2)) W10 (Or.inr sz_a2)) : Keep h0 h10 [])⟩)
    · rw [q65]
      show own_Ends p e below F (T10.setTop (mkF m 65 #[.val (.long p1), .second, .val (.int p2), .val (.int ((p1 &&& (255 : Int64)).toInt32)), .val (.ref a2)] [(.int (3 : Int32)), (.ref a2)]))
      obtain ⟨cl14, Ar14, q14, S14, M14, H14, G14⟩ := id V10
      have hin14 : ¬ ((3 : Int32) < 0 ∨ cl14.slots.size ≤ ((3 : Int32) : Int32).toNatClampNeg) := inb_of S14 ⟨by decide, by decide⟩
      refine own_step (X10.caload hx (j := (3 : Int32)) (v := (.int (114 : Int32))) (by rw [e10]; exact Ar14.1) (State.isArrayOf_alike hZ.alike Ar14.2.1) Ar14.2.2 hin14 (Has.at H14 hin14 rfl) (g := (mkF m 65 #[.val (.long p1), .second, .val (.int p2), .val (.int ((p1 &&& (255 : Int64)).toInt32)), .val (.ref a2)] [(.int (3 : Int32)), (.ref a2)])) rfl rfl (hb hby d1_65)) ?_
      show own_Ends p e below F (T10.setTop (mkF m 66 #[.val (.long p1), .second, .val (.int p2), .val (.int ((p1 &&& (255 : Int64)).toInt32)), .val (.ref a2)] [(.int (114 : Int32))]))
      rw [hF]
      exact own_ret X10 (v := (some (.int (nar .char (114 : Int32))))) (fun h => by rw [Bd.returns] at h; cases h) Bd.notSynchronized (fun fs hr => retN X10 hx (t := .char) Bd.returns (by simp) (hb hby d1_66) hr) (by decide) (by decide) (by rw [e10]; exact ⟨_, rfl, (own_retc (by decide)), N10, ((Keep.wr (Keep.wr (Keep.wr (Keep.wr (Keep.wr (Keep.wr (Keep.wr (Keep.wr (Keep.ext (Keep.refl _ _) E2) W3 (Or.inr sz_a2)) W4 (Or.inr sz_a2)) W5 (Or.inr sz_a2)) W6 (Or.inr sz_a2)) W7 (Or.inr sz_a2)) W8 (Or.inr sz_a2)) W9 (Or.inr sz_a2)) W10 (Or.inr sz_a2)) : Keep h0 h10 [])⟩)
    · rw [q65]
      show own_Ends p e below F (T10.setTop (mkF m 65 #[.val (.long p1), .second, .val (.int p2), .val (.int ((p1 &&& (255 : Int64)).toInt32)), .val (.ref a2)] [(.int (4 : Int32)), (.ref a2)]))
      obtain ⟨cl15, Ar15, q15, S15, M15, H15, G15⟩ := id V10
      have hin15 : ¬ ((4 : Int32) < 0 ∨ cl15.slots.size ≤ ((4 : Int32) : Int32).toNatClampNeg) := inb_of S15 ⟨by decide, by decide⟩
      refine own_step (X10.caload hx (j := (4 : Int32)) (v := (.int (98 : Int32))) (by rw [e10]; exact Ar15.1) (State.isArrayOf_alike hZ.alike Ar15.2.1) Ar15.2.2 hin15 (Has.at H15 hin15 rfl) (g := (mkF m 65 #[.val (.long p1), .second, .val (.int p2), .val (.int ((p1 &&& (255 : Int64)).toInt32)), .val (.ref a2)] [(.int (4 : Int32)), (.ref a2)])) rfl rfl (hb hby d1_65)) ?_
      show own_Ends p e below F (T10.setTop (mkF m 66 #[.val (.long p1), .second, .val (.int p2), .val (.int ((p1 &&& (255 : Int64)).toInt32)), .val (.ref a2)] [(.int (98 : Int32))]))
      rw [hF]
      exact own_ret X10 (v := (some (.int (nar .char (98 : Int32))))) (fun h => by rw [Bd.returns] at h; cases h) Bd.notSynchronized (fun fs hr => retN X10 hx (t := .char) Bd.returns (by simp) (hb hby d1_66) hr) (by decide) (by decide) (by rw [e10]; exact ⟨_, rfl, (own_retc (by decide)), N10, ((Keep.wr (Keep.wr (Keep.wr (Keep.wr (Keep.wr (Keep.wr (Keep.wr (Keep.wr (Keep.ext (Keep.refl _ _) E2) W3 (Or.inr sz_a2)) W4 (Or.inr sz_a2)) W5 (Or.inr sz_a2)) W6 (Or.inr sz_a2)) W7 (Or.inr sz_a2)) W8 (Or.inr sz_a2)) W9 (Or.inr sz_a2)) W10 (Or.inr sz_a2)) : Keep h0 h10 [])⟩)
    · rw [q65]
      show own_Ends p e below F (T10.setTop (mkF m 65 #[.val (.long p1), .second, .val (.int p2), .val (.int ((p1 &&& (255 : Int64)).toInt32)), .val (.ref a2)] [(.int (5 : Int32)), (.ref a2)]))
      obtain ⟨cl16, Ar16, q16, S16, M16, H16, G16⟩ := id V10
      have hin16 : ¬ ((5 : Int32) < 0 ∨ cl16.slots.size ≤ ((5 : Int32) : Int32).toNatClampNeg) := inb_of S16 ⟨by decide, by decide⟩
      refine own_step (X10.caload hx (j := (5 : Int32)) (v := (.int (111 : Int32))) (by rw [e10]; exact Ar16.1) (State.isArrayOf_alike hZ.alike Ar16.2.1) Ar16.2.2 hin16 (Has.at H16 hin16 rfl) (g := (mkF m 65 #[.val (.long p1), .second, .val (.int p2), .val (.int ((p1 &&& (255 : Int64)).toInt32)), .val (.ref a2)] [(.int (5 : Int32)), (.ref a2)])) rfl rfl (hb hby d1_65)) ?_
      show own_Ends p e below F (T10.setTop (mkF m 66 #[.val (.long p1), .second, .val (.int p2), .val (.int ((p1 &&& (255 : Int64)).toInt32)), .val (.ref a2)] [(.int (111 : Int32))]))
      rw [hF]
      exact own_ret X10 (v := (some (.int (nar .char (111 : Int32))))) (fun h => by rw [Bd.returns] at h; cases h) Bd.notSynchronized (fun fs hr => retN X10 hx (t := .char) Bd.returns (by simp) (hb hby d1_66) hr) (by decide) (by decide) (by rw [e10]; exact ⟨_, rfl, (own_retc (by decide)), N10, ((Keep.wr (Keep.wr (Keep.wr (Keep.wr (Keep.wr (Keep.wr (Keep.wr (Keep.wr (Keep.ext (Keep.refl _ _) E2) W3 (Or.inr sz_a2)) W4 (Or.inr sz_a2)) W5 (Or.inr sz_a2)) W6 (Or.inr sz_a2)) W7 (Or.inr sz_a2)) W8 (Or.inr sz_a2)) W9 (Or.inr sz_a2)) W10 (Or.inr sz_a2)) : Keep h0 h10 [])⟩)
    · rw [q65]
      show own_Ends p e below F (T10.setTop (mkF m 65 #[.val (.long p1), .second, .val (.int p2), .val (.int ((p1 &&& (255 : Int64)).toInt32)), .val (.ref a2)] [(.int (6 : Int32)), (.ref a2)]))
      obtain ⟨cl17, Ar17, q17, S17, M17, H17, G17⟩ := id V10
      have hin17 : ¬ ((6 : Int32) < 0 ∨ cl17.slots.size ≤ ((6 : Int32) : Int32).toNatClampNeg) := inb_of S17 ⟨by decide, by decide⟩
      refine own_step (X10.caload hx (j := (6 : Int32)) (v := (.int (115 : Int32))) (by rw [e10]; exact Ar17.1) (State.isArrayOf_alike hZ.alike Ar17.2.1) Ar17.2.2 hin17 (Has.at H17 hin17 rfl) (g := (mkF m 65 #[.val (.long p1), .second, .val (.int p2), .val (.int ((p1 &&& (255 : Int64)).toInt32)), .val (.ref a2)] [(.int (6 : Int32)), (.ref a2)])) rfl rfl (hb hby d1_65)) ?_
      show own_Ends p e below F (T10.setTop (mkF m 66 #[.val (.long p1), .second, .val (.int p2), .val (.int ((p1 &&& (255 : Int64)).toInt32)), .val (.ref a2)] [(.int (115 : Int32))]))
      rw [hF]
      exact own_ret X10 (v := (some (.int (nar .char (115 : Int32))))) (fun h => by rw [Bd.returns] at h; cases h) Bd.notSynchronized (fun fs hr => retN X10 hx (t := .char) Bd.returns (by simp) (hb hby d1_66) hr) (by decide) (by decide) (by rw [e10]; exact ⟨_, rfl, (own_retc (by decide)), N10, ((Keep.wr (Keep.wr (Keep.wr (Keep.wr (Keep.wr (Keep.wr (Keep.wr (Keep.wr (Keep.ext (Keep.refl _ _) E2) W3 (Or.inr sz_a2)) W4 (Or.inr sz_a2)) W5 (Or.inr sz_a2)) W6 (Or.inr sz_a2)) W7 (Or.inr sz_a2)) W8 (Or.inr sz_a2)) W9 (Or.inr sz_a2)) W10 (Or.inr sz_a2)) : Keep h0 h10 [])⟩)
    · rw [q65]
      show own_Ends p e below F (T10.setTop (mkF m 65 #[.val (.long p1), .second, .val (.int p2), .val (.int ((p1 &&& (255 : Int64)).toInt32)), .val (.ref a2)] [(.int (7 : Int32)), (.ref a2)]))
      obtain ⟨cl18, Ar18, q18, S18, M18, H18, G18⟩ := id V10
      have hin18 : ¬ ((7 : Int32) < 0 ∨ cl18.slots.size ≤ ((7 : Int32) : Int32).toNatClampNeg) := inb_of S18 ⟨by decide, by decide⟩
      refine own_step (X10.caload hx (j := (7 : Int32)) (v := (.int (86 : Int32))) (by rw [e10]; exact Ar18.1) (State.isArrayOf_alike hZ.alike Ar18.2.1) Ar18.2.2 hin18 (Has.at H18 hin18 rfl) (g := (mkF m 65 #[.val (.long p1), .second, .val (.int p2), .val (.int ((p1 &&& (255 : Int64)).toInt32)), .val (.ref a2)] [(.int (7 : Int32)), (.ref a2)])) rfl rfl (hb hby d1_65)) ?_
      show own_Ends p e below F (T10.setTop (mkF m 66 #[.val (.long p1), .second, .val (.int p2), .val (.int ((p1 &&& (255 : Int64)).toInt32)), .val (.ref a2)] [(.int (86 : Int32))]))
      rw [hF]
      exact own_ret X10 (v := (some (.int (nar .char (86 : Int32))))) (fun h => by rw [Bd.returns] at h; cases h) Bd.notSynchronized (fun fs hr => retN X10 hx (t := .char) Bd.returns (by simp) (hb hby d1_66) hr) (by decide) (by decide) (by rw [e10]; exact ⟨_, rfl, (own_retc (by decide)), N10, ((Keep.wr (Keep.wr (Keep.wr (Keep.wr (Keep.wr (Keep.wr (Keep.wr (Keep.wr (Keep.ext (Keep.refl _ _) E2) W3 (Or.inr sz_a2)) W4 (Or.inr sz_a2)) W5 (Or.inr sz_a2)) W6 (Or.inr sz_a2)) W7 (Or.inr sz_a2)) W8 (Or.inr sz_a2)) W9 (Or.inr sz_a2)) W10 (Or.inr sz_a2)) : Keep h0 h10 [])⟩)

theorem d8_0 : decode prog_5_method_2_code 0 = .ok (.aload_n 0, 1) := by decide +kernel
theorem d8_1 : decode prog_5_method_2_code 1 = .ok (.ldc 9, 2) := by decide +kernel
theorem d8_3 : decode prog_5_method_2_code 3 = .ok (.invokevirtual 11, 3) := by decide +kernel
theorem d8_6 : decode prog_5_method_2_code 6 = .ok (.ifCond .ne 12, 3) := by decide +kernel
theorem d8_9 : decode prog_5_method_2_code 9 = .ok (.aload_n 0, 1) := by decide +kernel
theorem d8_10 : decode prog_5_method_2_code 10 = .ok (.ldc 17, 2) := by decide +kernel
theorem d8_12 : decode prog_5_method_2_code 12 = .ok (.invokevirtual 11, 3) := by decide +kernel
theorem d8_15 : decode prog_5_method_2_code 15 = .ok (.ifCond .eq 7, 3) := by decide +kernel
theorem d8_18 : decode prog_5_method_2_code 18 = .ok (.iconst 1, 1) := by decide +kernel
theorem d8_19 : decode prog_5_method_2_code 19 = .ok (.goto 4, 3) := by decide +kernel
theorem d8_22 : decode prog_5_method_2_code 22 = .ok (.iconst 0, 1) := by decide +kernel
theorem d8_23 : decode prog_5_method_2_code 23 = .ok (.ireturn, 1) := by decide +kernel
theorem pn_com_example_facetwork_facetwork_cli_Logging : plainName "com/example/facetwork/facetwork/cli/Logging" = true := by first | (simp [plainName, overriddenIn]; done) | decide +kernel
theorem pd__28Ljava_2flang_2fObject_3b_29Z : parseMethodDescriptor "(Ljava/lang/Object;)Z" = some ⟨[(.object "java/lang/Object")], some .boolean⟩ := by decide +kernel
theorem ef_rm8 (m : MethodId) (x0 : Addr) : entryFrame m #[(.ref x0)] 1 = mkF m 0 #[.val (.ref x0)] [] := by first | (simp [entryFrame, mkF, argsToLocals, Value.category, maxLocals]; done) | rfl
def Q8 (Z : State) (sa : Addr) (ca : List Int32) (Bq : Nat) (zc : Int32) (h0 : Heap) (n0 : Nat) (v : Option Value) (h : Heap) (L : List Loc) : Prop := v = some (.int (own_ver ca)) ∧ Fr n0 L ∧ Keep h0 h []
set_option maxRecDepth 65536 in
set_option maxHeartbeats 40000000 in
theorem rm8 (l : Launch) (Z : State) (a0 : Array Value) (hw : ∀ d ∈ tables_1, d.before a0 Z = true) (ws : List Jvm.Cond) (sa : Addr) (ca : List Int32) (Bq : Nat) (zc : Int32) (h0 : Heap) (n0 : Nat) (Z0 : n0 ≤ h0.size) (SC : Sta Z h0 "java/lang/String" "COMPACT_STRINGS" "Z" (.int zc)) (hz : ¬ zc = 0) (TA : own_Str Z h0 Bq sa ca) (LA : ca.length ≤ 4000) :
    MetFree l (⟨"com/example/facetwork/facetwork/cli/Logging", "isVerbose", "(Ljava/lang/String;)Z"⟩ : MethodName) (head1 (Jvm.Cond.code (⟨"com/example/facetwork/facetwork/cli/Logging", "isVerbose", "(Ljava/lang/String;)Z"⟩ : MethodName) prog_5_method_2_code 1 (some .boolean) :: ws) ({ frames := 2, cells := 4, slots := 52, locals := 28 } : Room)) (fun ar U => ar = #[(.ref sa)] ∧ Z.Warmed39 U.vm ∧ U.heap = h0 ∧ CHv Z own_EL U.vm h0) (fun _ _ _ _ _ => True) (fun _ U o U' => ∃ v L, o = .returned v ∧ Q8 Z sa ca Bq zc h0 n0 v U'.heap L ∧ CHr Z own_EL U.vm U.heap U'.vm U'.heap ∧ ReturnedEndW U o U' L ({ frames := 2, cells := 4, slots := 52, locals := 28 } : Room).cells ({ frames := 2, cells := 4, slots := 52, locals := 28 } : Room).slots) := by
  refine MetFree.of_bodySF (plainFor_of_name pn_com_example_facetwork_facetwork_cli_Logging) hisR ?_
  intro p e s m args below meth c s₁ Bd hml0 hP hK
  obtain ⟨rfl, hZ, hh, hH⟩ := hP
  have hx := Bd.exec
  have hby := Bd.bytes
  have hml : c.maxLocals = 1 := hml0
  have hown : s.vm.findClass "com/example/facetwork/facetwork/cli/Logging" = some m.cls := findClass_of_methodNamed Bd.named
  have hnm := (name_of_methodNamed Bd.named Bd.method).1
  have X0 : Stand p l e ({ frames := 2, cells := 4, slots := 52, locals := 28 } : Room) (s.setVm s.vm) m #[(.ref sa)] below meth c s₁ [] 0 0 := Stand.of_body Bd
  have e0 : s₁.heap = h0 := by rw [← hh, Bd.state]; rfl
  have N0 := Fr.nil n0
  have hS : s.Since s.vm h0.size := (State.WarmedH.refl s).since _
  have hk := Nat.le_refl h0.size
  have hC0 : CHr Z own_EL s.vm h0 s.vm h0 := CHr.refl hH
  obtain ⟨F, hF⟩ : ∃ F, F = own_FinH Z own_EL s (Q8 Z sa ca Bq zc h0 n0) ({ frames := 2, cells := 4, slots := 52, locals := 28 } : Room).cells ({ frames := 2, cells := 4, slots := 52, locals := 28 } : Room).slots := ⟨_, rfl⟩
  show own_Ends p e below (own_FinH Z own_EL s (Q8 Z sa ca Bq zc h0 n0) ({ frames := 2, cells := 4, slots := 52, locals := 28 } : Room).cells ({ frames := 2, cells := 4, slots := 52, locals := 28 } : Room).slots) _
  rw [← hF, ef_rm8 m sa]
  show own_Ends p e below F (s₁.setTop (mkF m 0 #[.val (.ref sa)] []))
  refine own_step (fun _ k => XS.aloadN X0.here hx rfl (hb hby d8_0) rfl rfl k) ?_
  show own_Ends p e below F (s₁.setTop (mkF m 1 #[.val (.ref sa)] [(.ref sa)]))
  obtain ⟨a1, T1, h1, kk1, b1, kb1, X1, e1, E1, hS, hk, hZ, hown, fe1, fc1, fv1, fa1, -, -, hr1, -, sf1, st1⟩ := ldcCH X0 hx hZ hown (own_g hw 40 rfl) (fun d hd => hw d (own_sa d hd)) e0 hS hk (own_EW hw) (List.mem_of_getElem? (i := 0) rfl) hC0.1 (vs := [(.int (45 : Int32)), (.int (45 : Int32)), (.int (118 : Int32)), (.int (101 : Int32)), (.int (114 : Int32)), (.int (98 : Int32)), (.int (111 : Int32)), (.int (115 : Int32)), (.int (101 : Int32))]) (z := (9 : Int32)) ⟨by decide, rfl⟩ (by decide) rfl (g := (mkF m 1 #[.val (.ref sa)] [(.ref sa)])) rfl (hb hby d8_1) (n := 36) (by decide) (by decide) (by decide) (by decide)
  have Z1 : n0 ≤ h1.size := Nat.le_trans Z0 E1.1
  have SZ1 : h0.size ≤ h1.size := Nat.le_trans (Nat.le_refl h0.size) E1.1
  have hC1 := hC0.trans hr1
  have str1 : own_Str Z h1 h1.size a1 ([(45 : Int32), (45 : Int32), (118 : Int32), (101 : Int32), (114 : Int32), (98 : Int32), (111 : Int32), (115 : Int32), (101 : Int32)] : List Int32) := own_Str.mk fe1 fc1 fv1 fa1 rfl rfl (by decide)
  refine own_step st1 ?_
  show own_Ends p e below F (T1.setTop (mkF m 3 #[.val (.ref sa)] [(.ref a1), (.ref sa)]))
  obtain ⟨cq2, kq2, qa2, qb2, qc2⟩ := isOf (s := (s.setVm T1.vm)) (T := T1) hZ e1 (TA.exa.ext E1)
  obtain ⟨_, _, ⟨T2, L2, k2, n2⟩, -, X2, ⟨Lc2, hQ2, l2, y2, z2⟩, st2⟩ := X1.virtualBack hx (y := (⟨"java/lang/String", "equals", "(Ljava/lang/Object;)Z"⟩ : MethodName)) (z := (⟨"java/lang/String", "equals", "(Ljava/lang/Object;)Z"⟩ : MethodName)) hown (mvT hZ (own_g hw 43 rfl)) (mvT hZ (own_g hw 44 rfl)) (notFace_of_selects (args := #[]) (mvT hZ (own_g hw 46 rfl))) (mvT hZ (own_g hw 46 rfl)) (mvT hZ (own_g hw 45 rfl)) (by decide) (own_eqB (W := 0) hZ hw (own_g hw 8 rfl) (TA.ext E1) str1 (Sta.ext E1 SC) hz LA (Nat.le_of_ble_eq_true rfl) (by decide) (by decide)) qa2 qc2 (g := (mkF m 3 #[.val (.ref sa)] [(.ref a1), (.ref sa)])) rfl (by rw [hml]; rfl) (Steps.refl _) (argsL := [(.ref a1)]) (rest := []) (lenOf pd__28Ljava_2flang_2fObject_3b_29Z rfl) rfl (by show 2 * 0 + _ ≤ _; exact Nat.le_of_eq rfl) (hb hby d8_3) (fun _ _ => ⟨rfl, e1, (by decide : 2 + 0 ≤ _), (by decide : 40 + 0 ≤ _)⟩)
  dsimp only [Pt.U, Pt.locs, Pt.cells, Pt.slots] at X2 l2 y2 z2 st2 hQ2
  subst l2 y2 z2
  obtain ⟨rfl, Nr2, eq2⟩ := hQ2
  have N2 := Fr.app N0 (Nr2 n0)
  refine own_trans st2 ?_
  show own_Ends p e below F (T2.setTop (mkF m 6 #[.val (.ref sa)] [(.int (own_eqv ca ([(45 : Int32), (45 : Int32), (118 : Int32), (101 : Int32), (114 : Int32), (98 : Int32), (111 : Int32), (115 : Int32), (101 : Int32)] : List Int32)))]))
  by_cases c6_3 : (own_eqv ca ([(45 : Int32), (45 : Int32), (118 : Int32), (101 : Int32), (114 : Int32), (98 : Int32), (111 : Int32), (115 : Int32), (101 : Int32)] : List Int32)) = (0 : Int32)
  · refine own_step (fun _ k => XS.ifNo X2.here hx rfl (hb hby d8_6) rfl ((if0 _ _).trans (teq c6_3).2) k) ?_
    show own_Ends p e below F (T2.setTop (mkF m 9 #[.val (.ref sa)] []))
    refine own_step (fun _ k => XS.aloadN X2.here hx rfl (hb hby d8_9) rfl rfl k) ?_
    show own_Ends p e below F (T2.setTop (mkF m 10 #[.val (.ref sa)] [(.ref sa)]))
    obtain ⟨a4, T4, h4, kk4, b4, kb4, X4, e4, E4, hS, hk, hZ, hown, fe4, fc4, fv4, fa4, -, -, hr4, -, sf4, st4⟩ := ldcCH X2 hx hZ hown (own_g hw 53 rfl) (fun d hd => hw d (own_sa d hd)) eq2 hS hk (own_EW hw) (List.mem_of_getElem? (i := 1) rfl) hC1.1 (vs := [(.int (45 : Int32)), (.int (118 : Int32))]) (z := (2 : Int32)) ⟨by decide, rfl⟩ (by decide) rfl (g := (mkF m 10 #[.val (.ref sa)] [(.ref sa)])) rfl (hb hby d8_10) (n := 8) (by decide) (by decide) (by decide) (by decide)
    have Z4 : n0 ≤ h4.size := Nat.le_trans Z1 E4.1
    have SZ4 : h0.size ≤ h4.size := Nat.le_trans SZ1 E4.1
    have hC4 := hC1.trans hr4
    have str4 : own_Str Z h4 h4.size a4 ([(45 : Int32), (118 : Int32)] : List Int32) := own_Str.mk fe4 fc4 fv4 fa4 rfl rfl (by decide)
    refine own_step st4 ?_
    show own_Ends p e below F (T4.setTop (mkF m 12 #[.val (.ref sa)] [(.ref a4), (.ref sa)]))
    obtain ⟨cq5, kq5, qa5, qb5, qc5⟩ := isOf (s := (s.setVm T4.vm)) (T := T4) hZ e4 ((TA.exa.ext E1).ext E4)
    obtain ⟨_, _, ⟨T5, L5, k5, n5⟩, -, X5, ⟨Lc5, hQ5, l5, y5, z5⟩, st5⟩ := X4.virtualBack hx (y := (⟨"java/lang/String", "equals", "(Ljava/lang/Object;)Z"⟩ : MethodName)) (z := (⟨"java/lang/String", "equals", "(Ljava/lang/Object;)Z"⟩ : MethodName)) hown (mvT hZ (own_g hw 43 rfl)) (mvT hZ (own_g hw 44 rfl)) (notFace_of_selects (args := #[]) (mvT hZ (own_g hw 46 rfl))) (mvT hZ (own_g hw 46 rfl)) (mvT hZ (own_g hw 45 rfl)) (by decide) (own_eqB (W := 0) hZ hw (own_g hw 8 rfl) ((TA.ext E1).ext E4) str4 (Sta.ext E4 (Sta.ext E1 SC)) hz LA (Nat.le_of_ble_eq_true rfl) (by decide) (by decide)) qa5 qc5 (g := (mkF m 12 #[.val (.ref sa)] [(.ref a4), (.ref sa)])) rfl (by rw [hml]; rfl) (Steps.refl _) (argsL := [(.ref a4)]) (rest := []) (lenOf pd__28Ljava_2flang_2fObject_3b_29Z rfl) rfl (by show 2 * 0 + _ ≤ _; exact Nat.le_of_eq rfl) (hb hby d8_12) (fun _ _ => ⟨rfl, e4, (by decide : 4 + 0 ≤ _), (by decide : 52 + 0 ≤ _)⟩)
    dsimp only [Pt.U, Pt.locs, Pt.cells, Pt.slots] at X5 l5 y5 z5 st5 hQ5
    subst l5 y5 z5
    obtain ⟨rfl, Nr5, eq5⟩ := hQ5
    have N5 := Fr.app N2 (Nr5 n0)
    refine own_trans st5 ?_
    show own_Ends p e below F (T5.setTop (mkF m 15 #[.val (.ref sa)] [(.int (own_eqv ca ([(45 : Int32), (118 : Int32)] : List Int32)))]))
    by_cases c15_6 : (own_eqv ca ([(45 : Int32), (118 : Int32)] : List Int32)) = (0 : Int32)
    · refine own_step (fun _ k => XS.ifYes X5.here hx rfl (pc0 := 15) (pc' := 22) rfl (hb hby d8_15) rfl ((if0 _ _).trans (teq c15_6).1) (by decide) (by decide) k) ?_
      show own_Ends p e below F (T5.setTop (mkF m 22 #[.val (.ref sa)] []))
      refine own_step (fun _ k => XS.iconst X5.here hx rfl (hb hby d8_22) k) ?_
      show own_Ends p e below F (T5.setTop (mkF m 23 #[.val (.ref sa)] [(.int (0 : Int32))]))
      rw [hF]
      exact own_retH X5 hS (by rw [eq5]; exact hk) hh eq5 hZ (own_EW hw) hC4 (v := (some (.int (nar .boolean (0 : Int32))))) (fun h => by rw [Bd.returns] at h; cases h) Bd.notSynchronized (fun fs hr => retN X5 hx (t := .boolean) Bd.returns (by simp) (hb hby d8_23) hr) (by decide) (by decide) (by rw [eq5]; exact ⟨by simp only [own_ver, c6_3, c15_6, if_true, if_false]; first | done | rfl, N5, ((Keep.ext (Keep.ext (Keep.refl _ _) E1) E4) : Keep h0 h4 [])⟩)
    · refine own_step (fun _ k => XS.ifNo X5.here hx rfl (hb hby d8_15) rfl ((if0 _ _).trans (feq c15_6).1) k) ?_
      show own_Ends p e below F (T5.setTop (mkF m 18 #[.val (.ref sa)] []))
      refine own_step (fun _ k => XS.iconst X5.here hx rfl (hb hby d8_18) k) ?_
      show own_Ends p e below F (T5.setTop (mkF m 19 #[.val (.ref sa)] [(.int (1 : Int32))]))
      refine own_step (fun _ k => XS.goto X5.here hx rfl (pc0 := 19) (pc' := 23) rfl (hb hby d8_19) (by decide) (by decide) k) ?_
      show own_Ends p e below F (T5.setTop (mkF m 23 #[.val (.ref sa)] [(.int (1 : Int32))]))
      rw [hF]
      exact own_retH X5 hS (by rw [eq5]; exact hk) hh eq5 hZ (own_EW hw) hC4 (v := (some (.int (nar .boolean (1 : Int32))))) (fun h => by rw [Bd.returns] at h; cases h) Bd.notSynchronized (fun fs hr => retN X5 hx (t := .boolean) Bd.returns (by simp) (hb hby d8_23) hr) (by decide) (by decide) (by rw [eq5]; exact ⟨by simp only [own_ver, c6_3, c15_6, if_true, if_false]; first | done | rfl, N5, ((Keep.ext (Keep.ext (Keep.refl _ _) E1) E4) : Keep h0 h4 [])⟩)
  · refine own_step (fun _ k => XS.ifYes X2.here hx rfl (pc0 := 6) (pc' := 18) rfl (hb hby d8_6) rfl ((if0 _ _).trans (feq c6_3).2) (by decide) (by decide) k) ?_
    show own_Ends p e below F (T2.setTop (mkF m 18 #[.val (.ref sa)] []))
    refine own_step (fun _ k => XS.iconst X2.here hx rfl (hb hby d8_18) k) ?_
    show own_Ends p e below F (T2.setTop (mkF m 19 #[.val (.ref sa)] [(.int (1 : Int32))]))
    refine own_step (fun _ k => XS.goto X2.here hx rfl (pc0 := 19) (pc' := 23) rfl (hb hby d8_19) (by decide) (by decide) k) ?_
    show own_Ends p e below F (T2.setTop (mkF m 23 #[.val (.ref sa)] [(.int (1 : Int32))]))
    rw [hF]
    exact own_retH X2 hS (by rw [eq2]; exact hk) hh eq2 hZ (own_EW hw) hC1 (v := (some (.int (nar .boolean (1 : Int32))))) (fun h => by rw [Bd.returns] at h; cases h) Bd.notSynchronized (fun fs hr => retN X2 hx (t := .boolean) Bd.returns (by simp) (hb hby d8_23) hr) (by decide) (by decide) (by rw [eq2]; exact ⟨by simp only [own_ver, c6_3, if_true, if_false]; first | done | rfl, N2, ((Keep.ext (Keep.refl _ _) E1) : Keep h0 h1 [])⟩)

theorem pd__28JZ_29C : parseMethodDescriptor "(JZ)C" = some ⟨[.long, .boolean], some .char⟩ := by decide +kernel
theorem pd__28_5bC_29V : parseMethodDescriptor "([C)V" = some ⟨[(.array .char)], none⟩ := by decide +kernel
theorem pd__28Ljava_2flang_2fString_3b_29Z : parseMethodDescriptor "(Ljava/lang/String;)Z" = some ⟨[(.object "java/lang/String")], some .boolean⟩ := by decide +kernel
theorem ef_rm0 (m : MethodId) (x0 : Int64) (x1 : Int32) (x2 : Int32) (x3 : Int32) : entryFrame m #[(.long x0), (.int x1), (.int x2), (.int x3)] maxLocals = mkF m 0 #[.val (.long x0), .second, .val (.int x1), .val (.int x2), .val (.int x3), .unset, .unset, .unset, .unset, .unset, .unset, .unset, .unset, .unset, .unset, .unset, .unset, .unset, .unset, .unset, .unset, .unset] [] := by first | (simp [entryFrame, mkF, argsToLocals, Value.category, maxLocals]; done) | rfl
def Q0 (Z : State) (p1 : Int64) (p2 p3 p4 : Int32) (zc : Int32) (h0 : Heap) (n0 : Nat) (v : Option Value) (h : Heap) (L : List Loc) : Prop := v = some (.int 1) ∧ Fr n0 L
set_option maxRecDepth 65536 in
set_option maxHeartbeats 40000000 in
theorem rm0 (l : Launch) (Z : State) (a0 : Array Value) (hw : ∀ d ∈ tables_1, d.before a0 Z = true) (ws : List Jvm.Cond) (p1 : Int64) (p2 p3 p4 : Int32) (zc : Int32) (h0 : Heap) (n0 : Nat) (Z0 : n0 ≤ h0.size) (SC : Sta Z h0 "java/lang/String" "COMPACT_STRINGS" "Z" (.int zc)) (hz : ¬ zc = 0) :
    MetFree l x (head1 (Jvm.Cond.code x code maxLocals ret :: ws) room_1) (fun ar U => ar = #[(.long p1), (.int p2), (.int p3), (.int p4)] ∧ Z.Warmed39 U.vm ∧ U.heap = h0 ∧ CHv Z own_EL U.vm h0) (fun _ _ _ _ _ => True) (fun _ U o U' => ∃ v L, o = .returned v ∧ Q0 Z p1 p2 p3 p4 zc h0 n0 v U'.heap L ∧ CHr Z own_EL U.vm U.heap U'.vm U'.heap ∧ ReturnedEndW U o U' L room_1.cells room_1.slots) := by
  refine MetFree.of_bodySF (plainFor_of_name pn_com_example_facetwork_facetwork_cli_LoggingIsVerbosePinLaw) hisR ?_
  intro p e s m args below meth c s₁ Bd hml0 hP hK
  obtain ⟨rfl, hZ, hh, hH⟩ := hP
  have hx := Bd.exec
  have hby := Bd.bytes
  have hml : c.maxLocals = 22 := hml0
  have hown : s.vm.findClass "com/example/facetwork/facetwork/cli/LoggingIsVerbosePinLaw" = some m.cls := findClass_of_methodNamed Bd.named
  have hnm := (name_of_methodNamed Bd.named Bd.method).1
  have X0 : Stand p l e room_1 (s.setVm s.vm) m #[(.long p1), (.int p2), (.int p3), (.int p4)] below meth c s₁ [] 0 0 := Stand.of_body Bd
  have e0 : s₁.heap = h0 := by rw [← hh, Bd.state]; rfl
  have N0 := Fr.nil n0
  have hS : s.Since s.vm h0.size := (State.WarmedH.refl s).since _
  have hk := Nat.le_refl h0.size
  have hC0 : CHr Z own_EL s.vm h0 s.vm h0 := CHr.refl hH
  obtain ⟨F, hF⟩ : ∃ F, F = own_FinH Z own_EL s (Q0 Z p1 p2 p3 p4 zc h0 n0) room_1.cells room_1.slots := ⟨_, rfl⟩
  show own_Ends p e below (own_FinH Z own_EL s (Q0 Z p1 p2 p3 p4 zc h0 n0) room_1.cells room_1.slots) _
  rw [← hF, ef_rm0 m p1 p2 p3 p4]
  show own_Ends p e below F (s₁.setTop (mkF m 0 #[.val (.long p1), .second, .val (.int p2), .val (.int p3), .val (.int p4), .unset, .unset, .unset, .unset, .unset, .unset, .unset, .unset, .unset, .unset, .unset, .unset, .unset, .unset, .unset, .unset, .unset] []))
  obtain ⟨A1, hA1⟩ : ∃ z : Array Slot, z = #[.val (.long p1), .second, .val (.int p2), .val (.int p3), .val (.int p4), .unset, .unset, .unset, .unset, .unset, .unset, .unset, .unset, .unset, .unset, .unset, .unset, .unset, .unset, .unset, .unset, .unset] := ⟨_, rfl⟩
  rw [← hA1]
  show own_Ends p e below F (s₁.setTop (mkF m 0 A1 []))
  refine own_step (fun _ k => XS.iload X0.here hx rfl (hb hby at_0) (by rw [hA1]; rfl) k) ?_
  show own_Ends p e below F (s₁.setTop (mkF m 2 A1 [(.int p4)]))
  refine own_step (fun _ k => XS.iconst X0.here hx rfl (hb hby at_2) k) ?_
  show own_Ends p e below F (s₁.setTop (mkF m 3 A1 [(.int (1 : Int32)), (.int p4)]))
  refine own_step (fun _ k => XS.iand X0.here hx rfl (hb hby at_3) rfl k) ?_
  show own_Ends p e below F (s₁.setTop (mkF m 4 A1 [(.int (p4 &&& (1 : Int32)))]))
  have J4_3 : ∀ (z2 : Int32) (hz2 : z2 = (if (p4 &&& (1 : Int32)) = (0 : Int32) then (0 : Int32) else (1 : Int32))), own_Ends p e below F (s₁.setTop (mkF m 12 #[.val (.long p1), .second, .val (.int p2), .val (.int p3), .val (.int p4), .unset, .unset, .unset, .unset, .unset, .unset, .unset, .unset, .unset, .unset, .unset, .unset, .unset, .unset, .unset, .unset, .unset] [(.int z2)])) := by
    intro z2 hz2
    obtain ⟨A5, hA5⟩ : ∃ z : Array Slot, z = #[.val (.long p1), .second, .val (.int p2), .val (.int p3), .val (.int p4), .unset, .unset, .unset, .unset, .unset, .unset, .unset, .unset, .unset, .unset, .unset, .unset, .unset, .unset, .unset, .unset, .unset] := ⟨_, rfl⟩
    rw [← hA5]
    show own_Ends p e below F (s₁.setTop (mkF m 12 A5 [(.int z2)]))
    obtain ⟨A6, hA6⟩ : ∃ z : Array Slot, z = #[.val (.long p1), .second, .val (.int p2), .val (.int p3), .val (.int p4), .val (.int z2), .unset, .unset, .unset, .unset, .unset, .unset, .unset, .unset, .unset, .unset, .unset, .unset, .unset, .unset, .unset, .unset] := ⟨_, rfl⟩
    refine own_step (fun _ k => XS.istore X0.here hx rfl (hb hby at_12) rfl (l' := A6) (by rw [hA5, hA6]; exact rfl) k) ?_
    show own_Ends p e below F (s₁.setTop (mkF m 14 A6 []))
    refine own_step (fun _ k => XS.iloadN X0.here hx rfl (hb hby at_14) (by rw [hA6]; rfl) k) ?_
    show own_Ends p e below F (s₁.setTop (mkF m 15 A6 [(.int p3)]))
    refine own_step (X0.ldcInt hx hown (mvT hZ (own_g hw 0 rfl)) (g := (mkF m 15 A6 [(.int p3)])) rfl (hb hby at_15)) ?_
    show own_Ends p e below F (s₁.setTop (mkF m 17 A6 [(.int (2147483647 : Int32)), (.int p3)]))
    refine own_step (fun _ k => XS.iand X0.here hx rfl (hb hby at_17) rfl k) ?_
    show own_Ends p e below F (s₁.setTop (mkF m 18 A6 [(.int (p3 &&& (2147483647 : Int32)))]))
    refine own_step (fun _ k => XS.bipush X0.here hx rfl (hb hby at_18) k) ?_
    show own_Ends p e below F (s₁.setTop (mkF m 20 A6 [(.int (11 : Int32)), (.int (p3 &&& (2147483647 : Int32)))]))
    refine own_step (fun _ k => iremM (below := below) X0 hx rfl (hb hby at_20) rfl (by decide) k) ?_
    show own_Ends p e below F (s₁.setTop (mkF m 21 A6 [(.int ((p3 &&& (2147483647 : Int32)) % (11 : Int32)))]))
    obtain ⟨v7, ev7⟩ : ∃ z : Int32, z = ((p3 &&& (2147483647 : Int32)) % (11 : Int32)) := ⟨_, rfl⟩
    rw [← ev7]
    show own_Ends p e below F (s₁.setTop (mkF m 21 A6 [(.int v7)]))
    obtain ⟨A8, hA8⟩ : ∃ z : Array Slot, z = #[.val (.long p1), .second, .val (.int p2), .val (.int p3), .val (.int p4), .val (.int z2), .val (.int v7), .unset, .unset, .unset, .unset, .unset, .unset, .unset, .unset, .unset, .unset, .unset, .unset, .unset, .unset, .unset] := ⟨_, rfl⟩
    refine own_step (fun _ k => XS.istore X0.here hx rfl (hb hby at_21) rfl (l' := A8) (by rw [hA6, hA8]; exact rfl) k) ?_
    show own_Ends p e below F (s₁.setTop (mkF m 23 A8 []))
    refine own_step (fun _ k => XS.lloadN X0.here hx rfl (hb hby at_23) (by rw [hA8]; rfl) k) ?_
    show own_Ends p e below F (s₁.setTop (mkF m 24 A8 [(.long p1)]))
    refine own_step (fun _ k => XS.iload X0.here hx rfl (hb hby at_24) (by rw [hA8]; rfl) k) ?_
    show own_Ends p e below F (s₁.setTop (mkF m 26 A8 [(.int z2), (.long p1)]))
    obtain ⟨_, _, ⟨T9, L9, k9, n9⟩, -, X9, ⟨Lc9, hQ9, l9, y9, z9⟩, st9⟩ := Jvm.LawKit.callS X0 hx (y := (⟨"com/example/facetwork/facetwork/cli/LoggingIsVerbosePinLaw", "pick", "(JZ)C"⟩ : MethodName)) hown (mvT hZ (own_g hw 1 rfl)) (mvT hZ (own_g hw 2 rfl)) (mvT hZ (own_g hw 3 rfl)) (mvT hZ (own_g hw 4 rfl)) (by decide) (backOf (W := 0) (rm1 l Z a0 hw [] p1 z2 h0 n0 Z0) hZ (own_g hw 4 rfl) (own_g hw 3 rfl) (by decide) (by decide)) (g := (mkF m 26 A8 [(.int z2), (.long p1)])) rfl (by rw [hml]; show A8.size = _; rw [hA8]; rfl) (argsL := [(.long p1), (.int z2)]) (rest := []) (lenOf pd__28JZ_29C rfl) rfl (by show 2 * 0 + _ ≤ _; exact Nat.le_of_eq rfl) (hb hby at_26) (fun _ _ => ⟨rfl, e0, (by decide : 0 + 1 ≤ _), (by decide : 0 + 8 ≤ _)⟩)
    dsimp only [Pt.U, Pt.locs, Pt.cells, Pt.slots] at X9 l9 y9 z9 st9 hQ9
    subst l9 y9 z9
    obtain ⟨r9, rfl, rr9, Nq9, Kq9⟩ := hQ9
    have N9 := Fr.app N0 Nq9
    have Z9 : n0 ≤ T9.heap.size := Nat.le_trans Z0 Kq9.1
    have SZ9 : h0.size ≤ T9.heap.size := Nat.le_trans (Nat.le_refl h0.size) Kq9.1
    have S0_9 := own_Sta_keep SC Kq9 all0
    have hr9 := CHr.keep Kq9 sf0 hC0.1
    have hC9 := hC0.trans hr9
    have hk := Nat.le_trans hk Kq9.1
    refine own_step st9 ?_
    show own_Ends p e below F (T9.setTop (mkF m 29 A8 [(.int r9)]))
    obtain ⟨A10, hA10⟩ : ∃ z : Array Slot, z = #[.val (.long p1), .second, .val (.int p2), .val (.int p3), .val (.int p4), .val (.int z2), .val (.int v7), .val (.int r9), .unset, .unset, .unset, .unset, .unset, .unset, .unset, .unset, .unset, .unset, .unset, .unset, .unset, .unset] := ⟨_, rfl⟩
    refine own_step (fun _ k => XS.istore X9.here hx rfl (hb hby at_29) rfl (l' := A10) (by rw [hA8, hA10]; exact rfl) k) ?_
    show own_Ends p e below F (T9.setTop (mkF m 31 A10 []))
    refine own_step (fun _ k => XS.lloadN X9.here hx rfl (hb hby at_31) (by rw [hA10]; rfl) k) ?_
    show own_Ends p e below F (T9.setTop (mkF m 32 A10 [(.long p1)]))
    refine own_step (fun _ k => XS.bipush X9.here hx rfl (hb hby at_32) k) ?_
    show own_Ends p e below F (T9.setTop (mkF m 34 A10 [(.int (8 : Int32)), (.long p1)]))
    refine own_step (fun _ k => XS.lushr X9.here hx rfl (hb hby at_34) rfl k) ?_
    show own_Ends p e below F (T9.setTop (mkF m 35 A10 [(.long ((p1.toUInt64 >>> ((8 : Int32) &&& 0x3f).toInt64.toUInt64).toInt64))]))
    refine own_step (fun _ k => XS.iload X9.here hx rfl (hb hby at_35) (by rw [hA10]; rfl) k) ?_
    show own_Ends p e below F (T9.setTop (mkF m 37 A10 [(.int z2), (.long ((p1.toUInt64 >>> ((8 : Int32) &&& 0x3f).toInt64.toUInt64).toInt64))]))
    obtain ⟨_, _, ⟨T11, L11, k11, n11⟩, -, X11, ⟨Lc11, hQ11, l11, y11, z11⟩, st11⟩ := Jvm.LawKit.callS X9 hx (y := (⟨"com/example/facetwork/facetwork/cli/LoggingIsVerbosePinLaw", "pick", "(JZ)C"⟩ : MethodName)) hown (mvT hZ (own_g hw 1 rfl)) (mvT hZ (own_g hw 2 rfl)) (mvT hZ (own_g hw 3 rfl)) (mvT hZ (own_g hw 4 rfl)) (by decide) (backOf (W := 0) (rm1 l Z a0 hw [] ((p1.toUInt64 >>> ((8 : Int32) &&& 0x3f).toInt64.toUInt64).toInt64) z2 T9.heap n0 Z9) hZ (own_g hw 4 rfl) (own_g hw 3 rfl) (by decide) (by decide)) (g := (mkF m 37 A10 [(.int z2), (.long ((p1.toUInt64 >>> ((8 : Int32) &&& 0x3f).toInt64.toUInt64).toInt64))])) rfl (by rw [hml]; show A10.size = _; rw [hA10]; rfl) (argsL := [(.long ((p1.toUInt64 >>> ((8 : Int32) &&& 0x3f).toInt64.toUInt64).toInt64)), (.int z2)]) (rest := []) (lenOf pd__28JZ_29C rfl) rfl (by show 2 * 0 + _ ≤ _; exact Nat.le_of_eq rfl) (hb hby at_37) (fun _ _ => ⟨rfl, rfl, (by decide : 1 + 1 ≤ _), (by decide : 8 + 8 ≤ _)⟩)
    dsimp only [Pt.U, Pt.locs, Pt.cells, Pt.slots] at X11 l11 y11 z11 st11 hQ11
    subst l11 y11 z11
    obtain ⟨r11, rfl, rr11, Nq11, Kq11⟩ := hQ11
    have N11 := Fr.app N9 Nq11
    have Z11 : n0 ≤ T11.heap.size := Nat.le_trans Z9 Kq11.1
    have SZ11 : h0.size ≤ T11.heap.size := Nat.le_trans SZ9 Kq11.1
    have S0_11 := own_Sta_keep S0_9 Kq11 all0
    have hr11 := CHr.keep Kq11 sf0 hC9.1
    have hC11 := hC9.trans hr11
    have hk := Nat.le_trans hk Kq11.1
    refine own_step st11 ?_
    show own_Ends p e below F (T11.setTop (mkF m 40 A10 [(.int r11)]))
    obtain ⟨A12, hA12⟩ : ∃ z : Array Slot, z = #[.val (.long p1), .second, .val (.int p2), .val (.int p3), .val (.int p4), .val (.int z2), .val (.int v7), .val (.int r9), .val (.int r11), .unset, .unset, .unset, .unset, .unset, .unset, .unset, .unset, .unset, .unset, .unset, .unset, .unset] := ⟨_, rfl⟩
    refine own_step (fun _ k => XS.istore X11.here hx rfl (hb hby at_40) rfl (l' := A12) (by rw [hA10, hA12]; exact rfl) k) ?_
    show own_Ends p e below F (T11.setTop (mkF m 42 A12 []))
    refine own_step (fun _ k => XS.lloadN X11.here hx rfl (hb hby at_42) (by rw [hA12]; rfl) k) ?_
    show own_Ends p e below F (T11.setTop (mkF m 43 A12 [(.long p1)]))
    refine own_step (fun _ k => XS.bipush X11.here hx rfl (hb hby at_43) k) ?_
    show own_Ends p e below F (T11.setTop (mkF m 45 A12 [(.int (16 : Int32)), (.long p1)]))
    refine own_step (fun _ k => XS.lushr X11.here hx rfl (hb hby at_45) rfl k) ?_
    show own_Ends p e below F (T11.setTop (mkF m 46 A12 [(.long ((p1.toUInt64 >>> ((16 : Int32) &&& 0x3f).toInt64.toUInt64).toInt64))]))
    refine own_step (fun _ k => XS.iload X11.here hx rfl (hb hby at_46) (by rw [hA12]; rfl) k) ?_
    show own_Ends p e below F (T11.setTop (mkF m 48 A12 [(.int z2), (.long ((p1.toUInt64 >>> ((16 : Int32) &&& 0x3f).toInt64.toUInt64).toInt64))]))
    obtain ⟨_, _, ⟨T13, L13, k13, n13⟩, -, X13, ⟨Lc13, hQ13, l13, y13, z13⟩, st13⟩ := Jvm.LawKit.callS X11 hx (y := (⟨"com/example/facetwork/facetwork/cli/LoggingIsVerbosePinLaw", "pick", "(JZ)C"⟩ : MethodName)) hown (mvT hZ (own_g hw 1 rfl)) (mvT hZ (own_g hw 2 rfl)) (mvT hZ (own_g hw 3 rfl)) (mvT hZ (own_g hw 4 rfl)) (by decide) (backOf (W := 0) (rm1 l Z a0 hw [] ((p1.toUInt64 >>> ((16 : Int32) &&& 0x3f).toInt64.toUInt64).toInt64) z2 T11.heap n0 Z11) hZ (own_g hw 4 rfl) (own_g hw 3 rfl) (by decide) (by decide)) (g := (mkF m 48 A12 [(.int z2), (.long ((p1.toUInt64 >>> ((16 : Int32) &&& 0x3f).toInt64.toUInt64).toInt64))])) rfl (by rw [hml]; show A12.size = _; rw [hA12]; rfl) (argsL := [(.long ((p1.toUInt64 >>> ((16 : Int32) &&& 0x3f).toInt64.toUInt64).toInt64)), (.int z2)]) (rest := []) (lenOf pd__28JZ_29C rfl) rfl (by show 2 * 0 + _ ≤ _; exact Nat.le_of_eq rfl) (hb hby at_48) (fun _ _ => ⟨rfl, rfl, (by decide : 2 + 1 ≤ _), (by decide : 16 + 8 ≤ _)⟩)
    dsimp only [Pt.U, Pt.locs, Pt.cells, Pt.slots] at X13 l13 y13 z13 st13 hQ13
    subst l13 y13 z13
    obtain ⟨r13, rfl, rr13, Nq13, Kq13⟩ := hQ13
    have N13 := Fr.app N11 Nq13
    have Z13 : n0 ≤ T13.heap.size := Nat.le_trans Z11 Kq13.1
    have SZ13 : h0.size ≤ T13.heap.size := Nat.le_trans SZ11 Kq13.1
    have S0_13 := own_Sta_keep S0_11 Kq13 all0
    have hr13 := CHr.keep Kq13 sf0 hC11.1
    have hC13 := hC11.trans hr13
    have hk := Nat.le_trans hk Kq13.1
    refine own_step st13 ?_
    show own_Ends p e below F (T13.setTop (mkF m 51 A12 [(.int r13)]))
    obtain ⟨A14, hA14⟩ : ∃ z : Array Slot, z = #[.val (.long p1), .second, .val (.int p2), .val (.int p3), .val (.int p4), .val (.int z2), .val (.int v7), .val (.int r9), .val (.int r11), .val (.int r13), .unset, .unset, .unset, .unset, .unset, .unset, .unset, .unset, .unset, .unset, .unset, .unset] := ⟨_, rfl⟩
    refine own_step (fun _ k => XS.istore X13.here hx rfl (hb hby at_51) rfl (l' := A14) (by rw [hA12, hA14]; exact rfl) k) ?_
    show own_Ends p e below F (T13.setTop (mkF m 53 A14 []))
    refine own_step (fun _ k => XS.lloadN X13.here hx rfl (hb hby at_53) (by rw [hA14]; rfl) k) ?_
    show own_Ends p e below F (T13.setTop (mkF m 54 A14 [(.long p1)]))
    refine own_step (fun _ k => XS.bipush X13.here hx rfl (hb hby at_54) k) ?_
    show own_Ends p e below F (T13.setTop (mkF m 56 A14 [(.int (24 : Int32)), (.long p1)]))
    refine own_step (fun _ k => XS.lushr X13.here hx rfl (hb hby at_56) rfl k) ?_
    show own_Ends p e below F (T13.setTop (mkF m 57 A14 [(.long ((p1.toUInt64 >>> ((24 : Int32) &&& 0x3f).toInt64.toUInt64).toInt64))]))
    refine own_step (fun _ k => XS.iload X13.here hx rfl (hb hby at_57) (by rw [hA14]; rfl) k) ?_
    show own_Ends p e below F (T13.setTop (mkF m 59 A14 [(.int z2), (.long ((p1.toUInt64 >>> ((24 : Int32) &&& 0x3f).toInt64.toUInt64).toInt64))]))
    obtain ⟨_, _, ⟨T15, L15, k15, n15⟩, -, X15, ⟨Lc15, hQ15, l15, y15, z15⟩, st15⟩ := Jvm.LawKit.callS X13 hx (y := (⟨"com/example/facetwork/facetwork/cli/LoggingIsVerbosePinLaw", "pick", "(JZ)C"⟩ : MethodName)) hown (mvT hZ (own_g hw 1 rfl)) (mvT hZ (own_g hw 2 rfl)) (mvT hZ (own_g hw 3 rfl)) (mvT hZ (own_g hw 4 rfl)) (by decide) (backOf (W := 0) (rm1 l Z a0 hw [] ((p1.toUInt64 >>> ((24 : Int32) &&& 0x3f).toInt64.toUInt64).toInt64) z2 T13.heap n0 Z13) hZ (own_g hw 4 rfl) (own_g hw 3 rfl) (by decide) (by decide)) (g := (mkF m 59 A14 [(.int z2), (.long ((p1.toUInt64 >>> ((24 : Int32) &&& 0x3f).toInt64.toUInt64).toInt64))])) rfl (by rw [hml]; show A14.size = _; rw [hA14]; rfl) (argsL := [(.long ((p1.toUInt64 >>> ((24 : Int32) &&& 0x3f).toInt64.toUInt64).toInt64)), (.int z2)]) (rest := []) (lenOf pd__28JZ_29C rfl) rfl (by show 2 * 0 + _ ≤ _; exact Nat.le_of_eq rfl) (hb hby at_59) (fun _ _ => ⟨rfl, rfl, (by decide : 3 + 1 ≤ _), (by decide : 24 + 8 ≤ _)⟩)
    dsimp only [Pt.U, Pt.locs, Pt.cells, Pt.slots] at X15 l15 y15 z15 st15 hQ15
    subst l15 y15 z15
    obtain ⟨r15, rfl, rr15, Nq15, Kq15⟩ := hQ15
    have N15 := Fr.app N13 Nq15
    have Z15 : n0 ≤ T15.heap.size := Nat.le_trans Z13 Kq15.1
    have SZ15 : h0.size ≤ T15.heap.size := Nat.le_trans SZ13 Kq15.1
    have S0_15 := own_Sta_keep S0_13 Kq15 all0
    have hr15 := CHr.keep Kq15 sf0 hC13.1
    have hC15 := hC13.trans hr15
    have hk := Nat.le_trans hk Kq15.1
    refine own_step st15 ?_
    show own_Ends p e below F (T15.setTop (mkF m 62 A14 [(.int r15)]))
    obtain ⟨A16, hA16⟩ : ∃ z : Array Slot, z = #[.val (.long p1), .second, .val (.int p2), .val (.int p3), .val (.int p4), .val (.int z2), .val (.int v7), .val (.int r9), .val (.int r11), .val (.int r13), .val (.int r15), .unset, .unset, .unset, .unset, .unset, .unset, .unset, .unset, .unset, .unset, .unset] := ⟨_, rfl⟩
    refine own_step (fun _ k => XS.istore X15.here hx rfl (hb hby at_62) rfl (l' := A16) (by rw [hA14, hA16]; exact rfl) k) ?_
    show own_Ends p e below F (T15.setTop (mkF m 64 A16 []))
    refine own_step (fun _ k => XS.lloadN X15.here hx rfl (hb hby at_64) (by rw [hA16]; rfl) k) ?_
    show own_Ends p e below F (T15.setTop (mkF m 65 A16 [(.long p1)]))
    refine own_step (fun _ k => XS.bipush X15.here hx rfl (hb hby at_65) k) ?_
    show own_Ends p e below F (T15.setTop (mkF m 67 A16 [(.int (32 : Int32)), (.long p1)]))
    refine own_step (fun _ k => XS.lushr X15.here hx rfl (hb hby at_67) rfl k) ?_
    show own_Ends p e below F (T15.setTop (mkF m 68 A16 [(.long ((p1.toUInt64 >>> ((32 : Int32) &&& 0x3f).toInt64.toUInt64).toInt64))]))
    refine own_step (fun _ k => XS.iload X15.here hx rfl (hb hby at_68) (by rw [hA16]; rfl) k) ?_
    show own_Ends p e below F (T15.setTop (mkF m 70 A16 [(.int z2), (.long ((p1.toUInt64 >>> ((32 : Int32) &&& 0x3f).toInt64.toUInt64).toInt64))]))
    obtain ⟨_, _, ⟨T17, L17, k17, n17⟩, -, X17, ⟨Lc17, hQ17, l17, y17, z17⟩, st17⟩ := Jvm.LawKit.callS X15 hx (y := (⟨"com/example/facetwork/facetwork/cli/LoggingIsVerbosePinLaw", "pick", "(JZ)C"⟩ : MethodName)) hown (mvT hZ (own_g hw 1 rfl)) (mvT hZ (own_g hw 2 rfl)) (mvT hZ (own_g hw 3 rfl)) (mvT hZ (own_g hw 4 rfl)) (by decide) (backOf (W := 0) (rm1 l Z a0 hw [] ((p1.toUInt64 >>> ((32 : Int32) &&& 0x3f).toInt64.toUInt64).toInt64) z2 T15.heap n0 Z15) hZ (own_g hw 4 rfl) (own_g hw 3 rfl) (by decide) (by decide)) (g := (mkF m 70 A16 [(.int z2), (.long ((p1.toUInt64 >>> ((32 : Int32) &&& 0x3f).toInt64.toUInt64).toInt64))])) rfl (by rw [hml]; show A16.size = _; rw [hA16]; rfl) (argsL := [(.long ((p1.toUInt64 >>> ((32 : Int32) &&& 0x3f).toInt64.toUInt64).toInt64)), (.int z2)]) (rest := []) (lenOf pd__28JZ_29C rfl) rfl (by show 2 * 0 + _ ≤ _; exact Nat.le_of_eq rfl) (hb hby at_70) (fun _ _ => ⟨rfl, rfl, (by decide : 4 + 1 ≤ _), (by decide : 32 + 8 ≤ _)⟩)
    dsimp only [Pt.U, Pt.locs, Pt.cells, Pt.slots] at X17 l17 y17 z17 st17 hQ17
    subst l17 y17 z17
    obtain ⟨r17, rfl, rr17, Nq17, Kq17⟩ := hQ17
    have N17 := Fr.app N15 Nq17
    have Z17 : n0 ≤ T17.heap.size := Nat.le_trans Z15 Kq17.1
    have SZ17 : h0.size ≤ T17.heap.size := Nat.le_trans SZ15 Kq17.1
    have S0_17 := own_Sta_keep S0_15 Kq17 all0
    have hr17 := CHr.keep Kq17 sf0 hC15.1
    have hC17 := hC15.trans hr17
    have hk := Nat.le_trans hk Kq17.1
    refine own_step st17 ?_
    show own_Ends p e below F (T17.setTop (mkF m 73 A16 [(.int r17)]))
    obtain ⟨A18, hA18⟩ : ∃ z : Array Slot, z = #[.val (.long p1), .second, .val (.int p2), .val (.int p3), .val (.int p4), .val (.int z2), .val (.int v7), .val (.int r9), .val (.int r11), .val (.int r13), .val (.int r15), .val (.int r17), .unset, .unset, .unset, .unset, .unset, .unset, .unset, .unset, .unset, .unset] := ⟨_, rfl⟩
    refine own_step (fun _ k => XS.istore X17.here hx rfl (hb hby at_73) rfl (l' := A18) (by rw [hA16, hA18]; exact rfl) k) ?_
    show own_Ends p e below F (T17.setTop (mkF m 75 A18 []))
    refine own_step (fun _ k => XS.lloadN X17.here hx rfl (hb hby at_75) (by rw [hA18]; rfl) k) ?_
    show own_Ends p e below F (T17.setTop (mkF m 76 A18 [(.long p1)]))
    refine own_step (fun _ k => XS.bipush X17.here hx rfl (hb hby at_76) k) ?_
    show own_Ends p e below F (T17.setTop (mkF m 78 A18 [(.int (40 : Int32)), (.long p1)]))
    refine own_step (fun _ k => XS.lushr X17.here hx rfl (hb hby at_78) rfl k) ?_
    show own_Ends p e below F (T17.setTop (mkF m 79 A18 [(.long ((p1.toUInt64 >>> ((40 : Int32) &&& 0x3f).toInt64.toUInt64).toInt64))]))
    refine own_step (fun _ k => XS.iload X17.here hx rfl (hb hby at_79) (by rw [hA18]; rfl) k) ?_
    show own_Ends p e below F (T17.setTop (mkF m 81 A18 [(.int z2), (.long ((p1.toUInt64 >>> ((40 : Int32) &&& 0x3f).toInt64.toUInt64).toInt64))]))
    obtain ⟨_, _, ⟨T19, L19, k19, n19⟩, -, X19, ⟨Lc19, hQ19, l19, y19, z19⟩, st19⟩ := Jvm.LawKit.callS X17 hx (y := (⟨"com/example/facetwork/facetwork/cli/LoggingIsVerbosePinLaw", "pick", "(JZ)C"⟩ : MethodName)) hown (mvT hZ (own_g hw 1 rfl)) (mvT hZ (own_g hw 2 rfl)) (mvT hZ (own_g hw 3 rfl)) (mvT hZ (own_g hw 4 rfl)) (by decide) (backOf (W := 0) (rm1 l Z a0 hw [] ((p1.toUInt64 >>> ((40 : Int32) &&& 0x3f).toInt64.toUInt64).toInt64) z2 T17.heap n0 Z17) hZ (own_g hw 4 rfl) (own_g hw 3 rfl) (by decide) (by decide)) (g := (mkF m 81 A18 [(.int z2), (.long ((p1.toUInt64 >>> ((40 : Int32) &&& 0x3f).toInt64.toUInt64).toInt64))])) rfl (by rw [hml]; show A18.size = _; rw [hA18]; rfl) (argsL := [(.long ((p1.toUInt64 >>> ((40 : Int32) &&& 0x3f).toInt64.toUInt64).toInt64)), (.int z2)]) (rest := []) (lenOf pd__28JZ_29C rfl) rfl (by show 2 * 0 + _ ≤ _; exact Nat.le_of_eq rfl) (hb hby at_81) (fun _ _ => ⟨rfl, rfl, (by decide : 5 + 1 ≤ _), (by decide : 40 + 8 ≤ _)⟩)
    dsimp only [Pt.U, Pt.locs, Pt.cells, Pt.slots] at X19 l19 y19 z19 st19 hQ19
    subst l19 y19 z19
    obtain ⟨r19, rfl, rr19, Nq19, Kq19⟩ := hQ19
    have N19 := Fr.app N17 Nq19
    have Z19 : n0 ≤ T19.heap.size := Nat.le_trans Z17 Kq19.1
    have SZ19 : h0.size ≤ T19.heap.size := Nat.le_trans SZ17 Kq19.1
    have S0_19 := own_Sta_keep S0_17 Kq19 all0
    have hr19 := CHr.keep Kq19 sf0 hC17.1
    have hC19 := hC17.trans hr19
    have hk := Nat.le_trans hk Kq19.1
    refine own_step st19 ?_
    show own_Ends p e below F (T19.setTop (mkF m 84 A18 [(.int r19)]))
    obtain ⟨A20, hA20⟩ : ∃ z : Array Slot, z = #[.val (.long p1), .second, .val (.int p2), .val (.int p3), .val (.int p4), .val (.int z2), .val (.int v7), .val (.int r9), .val (.int r11), .val (.int r13), .val (.int r15), .val (.int r17), .val (.int r19), .unset, .unset, .unset, .unset, .unset, .unset, .unset, .unset, .unset] := ⟨_, rfl⟩
    refine own_step (fun _ k => XS.istore X19.here hx rfl (hb hby at_84) rfl (l' := A20) (by rw [hA18, hA20]; exact rfl) k) ?_
    show own_Ends p e below F (T19.setTop (mkF m 86 A20 []))
    refine own_step (fun _ k => XS.lloadN X19.here hx rfl (hb hby at_86) (by rw [hA20]; rfl) k) ?_
    show own_Ends p e below F (T19.setTop (mkF m 87 A20 [(.long p1)]))
    refine own_step (fun _ k => XS.bipush X19.here hx rfl (hb hby at_87) k) ?_
    show own_Ends p e below F (T19.setTop (mkF m 89 A20 [(.int (48 : Int32)), (.long p1)]))
    refine own_step (fun _ k => XS.lushr X19.here hx rfl (hb hby at_89) rfl k) ?_
    show own_Ends p e below F (T19.setTop (mkF m 90 A20 [(.long ((p1.toUInt64 >>> ((48 : Int32) &&& 0x3f).toInt64.toUInt64).toInt64))]))
    refine own_step (fun _ k => XS.iload X19.here hx rfl (hb hby at_90) (by rw [hA20]; rfl) k) ?_
    show own_Ends p e below F (T19.setTop (mkF m 92 A20 [(.int z2), (.long ((p1.toUInt64 >>> ((48 : Int32) &&& 0x3f).toInt64.toUInt64).toInt64))]))
    obtain ⟨_, _, ⟨T21, L21, k21, n21⟩, -, X21, ⟨Lc21, hQ21, l21, y21, z21⟩, st21⟩ := Jvm.LawKit.callS X19 hx (y := (⟨"com/example/facetwork/facetwork/cli/LoggingIsVerbosePinLaw", "pick", "(JZ)C"⟩ : MethodName)) hown (mvT hZ (own_g hw 1 rfl)) (mvT hZ (own_g hw 2 rfl)) (mvT hZ (own_g hw 3 rfl)) (mvT hZ (own_g hw 4 rfl)) (by decide) (backOf (W := 0) (rm1 l Z a0 hw [] ((p1.toUInt64 >>> ((48 : Int32) &&& 0x3f).toInt64.toUInt64).toInt64) z2 T19.heap n0 Z19) hZ (own_g hw 4 rfl) (own_g hw 3 rfl) (by decide) (by decide)) (g := (mkF m 92 A20 [(.int z2), (.long ((p1.toUInt64 >>> ((48 : Int32) &&& 0x3f).toInt64.toUInt64).toInt64))])) rfl (by rw [hml]; show A20.size = _; rw [hA20]; rfl) (argsL := [(.long ((p1.toUInt64 >>> ((48 : Int32) &&& 0x3f).toInt64.toUInt64).toInt64)), (.int z2)]) (rest := []) (lenOf pd__28JZ_29C rfl) rfl (by show 2 * 0 + _ ≤ _; exact Nat.le_of_eq rfl) (hb hby at_92) (fun _ _ => ⟨rfl, rfl, (by decide : 6 + 1 ≤ _), (by decide : 48 + 8 ≤ _)⟩)
    dsimp only [Pt.U, Pt.locs, Pt.cells, Pt.slots] at X21 l21 y21 z21 st21 hQ21
    subst l21 y21 z21
    obtain ⟨r21, rfl, rr21, Nq21, Kq21⟩ := hQ21
    have N21 := Fr.app N19 Nq21
    have Z21 : n0 ≤ T21.heap.size := Nat.le_trans Z19 Kq21.1
    have SZ21 : h0.size ≤ T21.heap.size := Nat.le_trans SZ19 Kq21.1
    have S0_21 := own_Sta_keep S0_19 Kq21 all0
    have hr21 := CHr.keep Kq21 sf0 hC19.1
    have hC21 := hC19.trans hr21
    have hk := Nat.le_trans hk Kq21.1
    refine own_step st21 ?_
    show own_Ends p e below F (T21.setTop (mkF m 95 A20 [(.int r21)]))
    obtain ⟨A22, hA22⟩ : ∃ z : Array Slot, z = #[.val (.long p1), .second, .val (.int p2), .val (.int p3), .val (.int p4), .val (.int z2), .val (.int v7), .val (.int r9), .val (.int r11), .val (.int r13), .val (.int r15), .val (.int r17), .val (.int r19), .val (.int r21), .unset, .unset, .unset, .unset, .unset, .unset, .unset, .unset] := ⟨_, rfl⟩
    refine own_step (fun _ k => XS.istore X21.here hx rfl (hb hby at_95) rfl (l' := A22) (by rw [hA20, hA22]; exact rfl) k) ?_
    show own_Ends p e below F (T21.setTop (mkF m 97 A22 []))
    refine own_step (fun _ k => XS.lloadN X21.here hx rfl (hb hby at_97) (by rw [hA22]; rfl) k) ?_
    show own_Ends p e below F (T21.setTop (mkF m 98 A22 [(.long p1)]))
    refine own_step (fun _ k => XS.bipush X21.here hx rfl (hb hby at_98) k) ?_
    show own_Ends p e below F (T21.setTop (mkF m 100 A22 [(.int (56 : Int32)), (.long p1)]))
    refine own_step (fun _ k => XS.lushr X21.here hx rfl (hb hby at_100) rfl k) ?_
    show own_Ends p e below F (T21.setTop (mkF m 101 A22 [(.long ((p1.toUInt64 >>> ((56 : Int32) &&& 0x3f).toInt64.toUInt64).toInt64))]))
    refine own_step (fun _ k => XS.iload X21.here hx rfl (hb hby at_101) (by rw [hA22]; rfl) k) ?_
    show own_Ends p e below F (T21.setTop (mkF m 103 A22 [(.int z2), (.long ((p1.toUInt64 >>> ((56 : Int32) &&& 0x3f).toInt64.toUInt64).toInt64))]))
    obtain ⟨_, _, ⟨T23, L23, k23, n23⟩, -, X23, ⟨Lc23, hQ23, l23, y23, z23⟩, st23⟩ := Jvm.LawKit.callS X21 hx (y := (⟨"com/example/facetwork/facetwork/cli/LoggingIsVerbosePinLaw", "pick", "(JZ)C"⟩ : MethodName)) hown (mvT hZ (own_g hw 1 rfl)) (mvT hZ (own_g hw 2 rfl)) (mvT hZ (own_g hw 3 rfl)) (mvT hZ (own_g hw 4 rfl)) (by decide) (backOf (W := 0) (rm1 l Z a0 hw [] ((p1.toUInt64 >>> ((56 : Int32) &&& 0x3f).toInt64.toUInt64).toInt64) z2 T21.heap n0 Z21) hZ (own_g hw 4 rfl) (own_g hw 3 rfl) (by decide) (by decide)) (g := (mkF m 103 A22 [(.int z2), (.long ((p1.toUInt64 >>> ((56 : Int32) &&& 0x3f).toInt64.toUInt64).toInt64))])) rfl (by rw [hml]; show A22.size = _; rw [hA22]; rfl) (argsL := [(.long ((p1.toUInt64 >>> ((56 : Int32) &&& 0x3f).toInt64.toUInt64).toInt64)), (.int z2)]) (rest := []) (lenOf pd__28JZ_29C rfl) rfl (by show 2 * 0 + _ ≤ _; exact Nat.le_of_eq rfl) (hb hby at_103) (fun _ _ => ⟨rfl, rfl, (by decide : 7 + 1 ≤ _), (by decide : 56 + 8 ≤ _)⟩)
    dsimp only [Pt.U, Pt.locs, Pt.cells, Pt.slots] at X23 l23 y23 z23 st23 hQ23
    subst l23 y23 z23
    obtain ⟨r23, rfl, rr23, Nq23, Kq23⟩ := hQ23
    have N23 := Fr.app N21 Nq23
    have Z23 : n0 ≤ T23.heap.size := Nat.le_trans Z21 Kq23.1
    have SZ23 : h0.size ≤ T23.heap.size := Nat.le_trans SZ21 Kq23.1
    have S0_23 := own_Sta_keep S0_21 Kq23 all0
    have hr23 := CHr.keep Kq23 sf0 hC21.1
    have hC23 := hC21.trans hr23
    have hk := Nat.le_trans hk Kq23.1
    refine own_step st23 ?_
    show own_Ends p e below F (T23.setTop (mkF m 106 A22 [(.int r23)]))
    obtain ⟨A24, hA24⟩ : ∃ z : Array Slot, z = #[.val (.long p1), .second, .val (.int p2), .val (.int p3), .val (.int p4), .val (.int z2), .val (.int v7), .val (.int r9), .val (.int r11), .val (.int r13), .val (.int r15), .val (.int r17), .val (.int r19), .val (.int r21), .val (.int r23), .unset, .unset, .unset, .unset, .unset, .unset, .unset] := ⟨_, rfl⟩
    refine own_step (fun _ k => XS.istore X23.here hx rfl (hb hby at_106) rfl (l' := A24) (by rw [hA22, hA24]; exact rfl) k) ?_
    show own_Ends p e below F (T23.setTop (mkF m 108 A24 []))
    refine own_step (fun _ k => XS.iloadN X23.here hx rfl (hb hby at_108) (by rw [hA24]; rfl) k) ?_
    show own_Ends p e below F (T23.setTop (mkF m 109 A24 [(.int p2)]))
    refine own_step (fun _ k => XS.i2l X23.here hx rfl (hb hby at_109) rfl k) ?_
    show own_Ends p e below F (T23.setTop (mkF m 110 A24 [(.long (p2.toInt64))]))
    refine own_step (fun _ k => XS.iload X23.here hx rfl (hb hby at_110) (by rw [hA24]; rfl) k) ?_
    show own_Ends p e below F (T23.setTop (mkF m 112 A24 [(.int z2), (.long (p2.toInt64))]))
    obtain ⟨_, _, ⟨T25, L25, k25, n25⟩, -, X25, ⟨Lc25, hQ25, l25, y25, z25⟩, st25⟩ := Jvm.LawKit.callS X23 hx (y := (⟨"com/example/facetwork/facetwork/cli/LoggingIsVerbosePinLaw", "pick", "(JZ)C"⟩ : MethodName)) hown (mvT hZ (own_g hw 1 rfl)) (mvT hZ (own_g hw 2 rfl)) (mvT hZ (own_g hw 3 rfl)) (mvT hZ (own_g hw 4 rfl)) (by decide) (backOf (W := 0) (rm1 l Z a0 hw [] (p2.toInt64) z2 T23.heap n0 Z23) hZ (own_g hw 4 rfl) (own_g hw 3 rfl) (by decide) (by decide)) (g := (mkF m 112 A24 [(.int z2), (.long (p2.toInt64))])) rfl (by rw [hml]; show A24.size = _; rw [hA24]; rfl) (argsL := [(.long (p2.toInt64)), (.int z2)]) (rest := []) (lenOf pd__28JZ_29C rfl) rfl (by show 2 * 0 + _ ≤ _; exact Nat.le_of_eq rfl) (hb hby at_112) (fun _ _ => ⟨rfl, rfl, (by decide : 8 + 1 ≤ _), (by decide : 64 + 8 ≤ _)⟩)
    dsimp only [Pt.U, Pt.locs, Pt.cells, Pt.slots] at X25 l25 y25 z25 st25 hQ25
    subst l25 y25 z25
    obtain ⟨r25, rfl, rr25, Nq25, Kq25⟩ := hQ25
    have N25 := Fr.app N23 Nq25
    have Z25 : n0 ≤ T25.heap.size := Nat.le_trans Z23 Kq25.1
    have SZ25 : h0.size ≤ T25.heap.size := Nat.le_trans SZ23 Kq25.1
    have S0_25 := own_Sta_keep S0_23 Kq25 all0
    have hr25 := CHr.keep Kq25 sf0 hC23.1
    have hC25 := hC23.trans hr25
    have hk := Nat.le_trans hk Kq25.1
    refine own_step st25 ?_
    show own_Ends p e below F (T25.setTop (mkF m 115 A24 [(.int r25)]))
    obtain ⟨A26, hA26⟩ : ∃ z : Array Slot, z = #[.val (.long p1), .second, .val (.int p2), .val (.int p3), .val (.int p4), .val (.int z2), .val (.int v7), .val (.int r9), .val (.int r11), .val (.int r13), .val (.int r15), .val (.int r17), .val (.int r19), .val (.int r21), .val (.int r23), .val (.int r25), .unset, .unset, .unset, .unset, .unset, .unset] := ⟨_, rfl⟩
    refine own_step (fun _ k => XS.istore X25.here hx rfl (hb hby at_115) rfl (l' := A26) (by rw [hA24, hA26]; exact rfl) k) ?_
    show own_Ends p e below F (T25.setTop (mkF m 117 A26 []))
    refine own_step (fun _ k => XS.iloadN X25.here hx rfl (hb hby at_117) (by rw [hA26]; rfl) k) ?_
    show own_Ends p e below F (T25.setTop (mkF m 118 A26 [(.int p2)]))
    refine own_step (fun _ k => XS.bipush X25.here hx rfl (hb hby at_118) k) ?_
    show own_Ends p e below F (T25.setTop (mkF m 120 A26 [(.int (8 : Int32)), (.int p2)]))
    refine own_step (fun _ k => XS.iushr X25.here hx rfl (hb hby at_120) rfl k) ?_
    show own_Ends p e below F (T25.setTop (mkF m 121 A26 [(.int ((p2.toUInt32 >>> ((8 : Int32) &&& 31).toUInt32).toInt32))]))
    refine own_step (fun _ k => XS.i2l X25.here hx rfl (hb hby at_121) rfl k) ?_
    show own_Ends p e below F (T25.setTop (mkF m 122 A26 [(.long (((p2.toUInt32 >>> ((8 : Int32) &&& 31).toUInt32).toInt32).toInt64))]))
    refine own_step (fun _ k => XS.iload X25.here hx rfl (hb hby at_122) (by rw [hA26]; rfl) k) ?_
    show own_Ends p e below F (T25.setTop (mkF m 124 A26 [(.int z2), (.long (((p2.toUInt32 >>> ((8 : Int32) &&& 31).toUInt32).toInt32).toInt64))]))
    obtain ⟨_, _, ⟨T27, L27, k27, n27⟩, -, X27, ⟨Lc27, hQ27, l27, y27, z27⟩, st27⟩ := Jvm.LawKit.callS X25 hx (y := (⟨"com/example/facetwork/facetwork/cli/LoggingIsVerbosePinLaw", "pick", "(JZ)C"⟩ : MethodName)) hown (mvT hZ (own_g hw 1 rfl)) (mvT hZ (own_g hw 2 rfl)) (mvT hZ (own_g hw 3 rfl)) (mvT hZ (own_g hw 4 rfl)) (by decide) (backOf (W := 0) (rm1 l Z a0 hw [] (((p2.toUInt32 >>> ((8 : Int32) &&& 31).toUInt32).toInt32).toInt64) z2 T25.heap n0 Z25) hZ (own_g hw 4 rfl) (own_g hw 3 rfl) (by decide) (by decide)) (g := (mkF m 124 A26 [(.int z2), (.long (((p2.toUInt32 >>> ((8 : Int32) &&& 31).toUInt32).toInt32).toInt64))])) rfl (by rw [hml]; show A26.size = _; rw [hA26]; rfl) (argsL := [(.long (((p2.toUInt32 >>> ((8 : Int32) &&& 31).toUInt32).toInt32).toInt64)), (.int z2)]) (rest := []) (lenOf pd__28JZ_29C rfl) rfl (by show 2 * 0 + _ ≤ _; exact Nat.le_of_eq rfl) (hb hby at_124) (fun _ _ => ⟨rfl, rfl, (by decide : 9 + 1 ≤ _), (by decide : 72 + 8 ≤ _)⟩)
    dsimp only [Pt.U, Pt.locs, Pt.cells, Pt.slots] at X27 l27 y27 z27 st27 hQ27
    subst l27 y27 z27
    obtain ⟨r27, rfl, rr27, Nq27, Kq27⟩ := hQ27
    have N27 := Fr.app N25 Nq27
    have Z27 : n0 ≤ T27.heap.size := Nat.le_trans Z25 Kq27.1
    have SZ27 : h0.size ≤ T27.heap.size := Nat.le_trans SZ25 Kq27.1
    have S0_27 := own_Sta_keep S0_25 Kq27 all0
    have hr27 := CHr.keep Kq27 sf0 hC25.1
    have hC27 := hC25.trans hr27
    have hk := Nat.le_trans hk Kq27.1
    refine own_step st27 ?_
    show own_Ends p e below F (T27.setTop (mkF m 127 A26 [(.int r27)]))
    obtain ⟨A28, hA28⟩ : ∃ z : Array Slot, z = #[.val (.long p1), .second, .val (.int p2), .val (.int p3), .val (.int p4), .val (.int z2), .val (.int v7), .val (.int r9), .val (.int r11), .val (.int r13), .val (.int r15), .val (.int r17), .val (.int r19), .val (.int r21), .val (.int r23), .val (.int r25), .val (.int r27), .unset, .unset, .unset, .unset, .unset] := ⟨_, rfl⟩
    refine own_step (fun _ k => XS.istore X27.here hx rfl (hb hby at_127) rfl (l' := A28) (by rw [hA26, hA28]; exact rfl) k) ?_
    show own_Ends p e below F (T27.setTop (mkF m 129 A28 []))
    rcases own_m11 ev7 with rfl | rfl | rfl | rfl | rfl | rfl | rfl | rfl | rfl | rfl | rfl
    · show own_Ends p e below F (T27.setTop (mkF m 129 A28 []))
      refine own_step (fun _ k => XS.iload X27.here hx rfl (hb hby at_129) (by rw [hA28]; rfl) k) ?_
      show own_Ends p e below F (T27.setTop (mkF m 131 A28 [(.int (0 : Int32))]))
      obtain ⟨T29, h29, k29, X29, e29, E29, A29, st29⟩ := newP X27 hx hZ (own_g hw 6 rfl) rfl (g := (mkF m 131 A28 [(.int (0 : Int32))])) rfl (hb hby at_131) rfl (by decide) (cap := 0) (by decide) (by decide) (by decide) (by decide)
      obtain ⟨a29, g29⟩ : ∃ z, z = T27.heap.size := ⟨_, rfl⟩
      rw [← g29] at A29 st29
      have ge_a29 : n0 ≤ a29 := Nat.le_trans Z27 (Nat.le_of_eq g29.symm)
      have sz_a29 : h0.size ≤ a29 := Nat.le_trans SZ27 (Nat.le_of_eq g29.symm)
      have Z29 : n0 ≤ h29.size := Nat.le_trans Z27 E29.1
      have SZ29 : h0.size ≤ h29.size := Nat.le_trans SZ27 E29.1
      have hk := Nat.le_trans hk E29.1
      have hr29 := CHr.ext E29 hC27.1
      have hC29 := hC27.trans hr29
      have V29 : Arv Z h29 a29 k29 .char (0 : Int32) [] (.int (0 : Int32)) := Arv.pad (Arv.new A29 (by decide)) (pad_rep [] _ 0)
      have sf_a29 : own_SL Z own_EL s.vm h29 a29 := own_SL.born hC27.1 E29 g29 V29.lt
      refine own_step st29 ?_
      show own_Ends p e below F (T29.setTop (mkF m 133 A28 [(.ref a29)]))
      obtain ⟨A30, hA30⟩ : ∃ z : Array Slot, z = #[.val (.long p1), .second, .val (.int p2), .val (.int p3), .val (.int p4), .val (.int z2), .val (.int (0 : Int32)), .val (.int r9), .val (.int r11), .val (.int r13), .val (.int r15), .val (.int r17), .val (.int r19), .val (.int r21), .val (.int r23), .val (.int r25), .val (.int r27), .val (.ref a29), .unset, .unset, .unset, .unset] := ⟨_, rfl⟩
      refine own_step (fun _ k => XS.astore X29.here hx rfl (hb hby at_133) rfl rfl (l' := A30) (by rw [hA28, hA30]; exact rfl) k) ?_
      show own_Ends p e below F (T29.setTop (mkF m 135 A30 []))
      refine own_step (fun _ k => XS.iload X29.here hx rfl (hb hby at_135) (by rw [hA30]; rfl) k) ?_
      show own_Ends p e below F (T29.setTop (mkF m 137 A30 [(.int (0 : Int32))]))
      refine own_step (fun _ k => XS.ifYes X29.here hx rfl (pc0 := 137) (pc' := 146) rfl (hb hby at_137) rfl ((if0 _ _).trans (flt (by decide : ¬ ((0 : Int32) < (0 : Int32)))).2.2.2) (by decide) (by decide) k) ?_
      show own_Ends p e below F (T29.setTop (mkF m 146 A30 []))
      refine own_step (fun _ k => XS.iload X29.here hx rfl (hb hby at_146) (by rw [hA30]; rfl) k) ?_
      show own_Ends p e below F (T29.setTop (mkF m 148 A30 [(.int (0 : Int32))]))
      refine own_step (fun _ k => XS.iconst X29.here hx rfl (hb hby at_148) k) ?_
      show own_Ends p e below F (T29.setTop (mkF m 149 A30 [(.int (1 : Int32)), (.int (0 : Int32))]))
      refine own_step (fun _ k => XS.icmpYes X29.here hx rfl (pc0 := 149) (pc' := 158) rfl (hb hby at_149) rfl (flt (by decide : ¬ ((1 : Int32) < (0 : Int32)))).2.2.2 (by decide) (by decide) k) ?_
      show own_Ends p e below F (T29.setTop (mkF m 158 A30 []))
      refine own_step (fun _ k => XS.iload X29.here hx rfl (hb hby at_158) (by rw [hA30]; rfl) k) ?_
      show own_Ends p e below F (T29.setTop (mkF m 160 A30 [(.int (0 : Int32))]))
      refine own_step (fun _ k => XS.iconst X29.here hx rfl (hb hby at_160) k) ?_
      show own_Ends p e below F (T29.setTop (mkF m 161 A30 [(.int (2 : Int32)), (.int (0 : Int32))]))
      refine own_step (fun _ k => XS.icmpYes X29.here hx rfl (pc0 := 161) (pc' := 170) rfl (hb hby at_161) rfl (flt (by decide : ¬ ((2 : Int32) < (0 : Int32)))).2.2.2 (by decide) (by decide) k) ?_
      show own_Ends p e below F (T29.setTop (mkF m 170 A30 []))
      refine own_step (fun _ k => XS.iload X29.here hx rfl (hb hby at_170) (by rw [hA30]; rfl) k) ?_
      show own_Ends p e below F (T29.setTop (mkF m 172 A30 [(.int (0 : Int32))]))
      refine own_step (fun _ k => XS.iconst X29.here hx rfl (hb hby at_172) k) ?_
      show own_Ends p e below F (T29.setTop (mkF m 173 A30 [(.int (3 : Int32)), (.int (0 : Int32))]))
      refine own_step (fun _ k => XS.icmpYes X29.here hx rfl (pc0 := 173) (pc' := 182) rfl (hb hby at_173) rfl (flt (by decide : ¬ ((3 : Int32) < (0 : Int32)))).2.2.2 (by decide) (by decide) k) ?_
      show own_Ends p e below F (T29.setTop (mkF m 182 A30 []))
      refine own_step (fun _ k => XS.iload X29.here hx rfl (hb hby at_182) (by rw [hA30]; rfl) k) ?_
      show own_Ends p e below F (T29.setTop (mkF m 184 A30 [(.int (0 : Int32))]))
      refine own_step (fun _ k => XS.iconst X29.here hx rfl (hb hby at_184) k) ?_
      show own_Ends p e below F (T29.setTop (mkF m 185 A30 [(.int (4 : Int32)), (.int (0 : Int32))]))
      refine own_step (fun _ k => XS.icmpYes X29.here hx rfl (pc0 := 185) (pc' := 194) rfl (hb hby at_185) rfl (flt (by decide : ¬ ((4 : Int32) < (0 : Int32)))).2.2.2 (by decide) (by decide) k) ?_
      show own_Ends p e below F (T29.setTop (mkF m 194 A30 []))
      refine own_step (fun _ k => XS.iload X29.here hx rfl (hb hby at_194) (by rw [hA30]; rfl) k) ?_
      show own_Ends p e below F (T29.setTop (mkF m 196 A30 [(.int (0 : Int32))]))
      refine own_step (fun _ k => XS.iconst X29.here hx rfl (hb hby at_196) k) ?_
      show own_Ends p e below F (T29.setTop (mkF m 197 A30 [(.int (5 : Int32)), (.int (0 : Int32))]))
      refine own_step (fun _ k => XS.icmpYes X29.here hx rfl (pc0 := 197) (pc' := 206) rfl (hb hby at_197) rfl (flt (by decide : ¬ ((5 : Int32) < (0 : Int32)))).2.2.2 (by decide) (by decide) k) ?_
      show own_Ends p e below F (T29.setTop (mkF m 206 A30 []))
      refine own_step (fun _ k => XS.iload X29.here hx rfl (hb hby at_206) (by rw [hA30]; rfl) k) ?_
      show own_Ends p e below F (T29.setTop (mkF m 208 A30 [(.int (0 : Int32))]))
      refine own_step (fun _ k => XS.bipush X29.here hx rfl (hb hby at_208) k) ?_
      show own_Ends p e below F (T29.setTop (mkF m 210 A30 [(.int (6 : Int32)), (.int (0 : Int32))]))
      refine own_step (fun _ k => XS.icmpYes X29.here hx rfl (pc0 := 210) (pc' := 220) rfl (hb hby at_210) rfl (flt (by decide : ¬ ((6 : Int32) < (0 : Int32)))).2.2.2 (by decide) (by decide) k) ?_
      show own_Ends p e below F (T29.setTop (mkF m 220 A30 []))
      refine own_step (fun _ k => XS.iload X29.here hx rfl (hb hby at_220) (by rw [hA30]; rfl) k) ?_
      show own_Ends p e below F (T29.setTop (mkF m 222 A30 [(.int (0 : Int32))]))
      refine own_step (fun _ k => XS.bipush X29.here hx rfl (hb hby at_222) k) ?_
      show own_Ends p e below F (T29.setTop (mkF m 224 A30 [(.int (7 : Int32)), (.int (0 : Int32))]))
      refine own_step (fun _ k => XS.icmpYes X29.here hx rfl (pc0 := 224) (pc' := 234) rfl (hb hby at_224) rfl (flt (by decide : ¬ ((7 : Int32) < (0 : Int32)))).2.2.2 (by decide) (by decide) k) ?_
      show own_Ends p e below F (T29.setTop (mkF m 234 A30 []))
      refine own_step (fun _ k => XS.iload X29.here hx rfl (hb hby at_234) (by rw [hA30]; rfl) k) ?_
      show own_Ends p e below F (T29.setTop (mkF m 236 A30 [(.int (0 : Int32))]))
      refine own_step (fun _ k => XS.bipush X29.here hx rfl (hb hby at_236) k) ?_
      show own_Ends p e below F (T29.setTop (mkF m 238 A30 [(.int (8 : Int32)), (.int (0 : Int32))]))
      refine own_step (fun _ k => XS.icmpYes X29.here hx rfl (pc0 := 238) (pc' := 248) rfl (hb hby at_238) rfl (flt (by decide : ¬ ((8 : Int32) < (0 : Int32)))).2.2.2 (by decide) (by decide) k) ?_
      show own_Ends p e below F (T29.setTop (mkF m 248 A30 []))
      refine own_step (fun _ k => XS.iload X29.here hx rfl (hb hby at_248) (by rw [hA30]; rfl) k) ?_
      show own_Ends p e below F (T29.setTop (mkF m 250 A30 [(.int (0 : Int32))]))
      refine own_step (fun _ k => XS.bipush X29.here hx rfl (hb hby at_250) k) ?_
      show own_Ends p e below F (T29.setTop (mkF m 252 A30 [(.int (9 : Int32)), (.int (0 : Int32))]))
      refine own_step (fun _ k => XS.icmpYes X29.here hx rfl (pc0 := 252) (pc' := 262) rfl (hb hby at_252) rfl (flt (by decide : ¬ ((9 : Int32) < (0 : Int32)))).2.2.2 (by decide) (by decide) k) ?_
      show own_Ends p e below F (T29.setTop (mkF m 262 A30 []))
      obtain ⟨T31, h31, X31, e31, E31, A31, D31, -, st31⟩ := newO X29 hx hZ hown (own_g hw 7 rfl) (own_g hw 8 rfl) (own_g hw 9 rfl) e29 (g := (mkF m 262 A30 [])) rfl (hb hby at_262) (by decide) (by decide)
      obtain ⟨a31, g31⟩ : ∃ z, z = h29.size := ⟨_, rfl⟩
      rw [← g31] at A31 D31 st31
      have ge_a31 : n0 ≤ a31 := Nat.le_trans Z29 (Nat.le_of_eq g31.symm)
      have sz_a31 : h0.size ≤ a31 := Nat.le_trans SZ29 (Nat.le_of_eq g31.symm)
      have ne_a29_a31 : a29 ≠ a31 := Nat.ne_of_lt (by rw [g31]; exact V29.lt)
      have Z31 : n0 ≤ h31.size := Nat.le_trans Z29 E31.1
      have SZ31 : h0.size ≤ h31.size := Nat.le_trans SZ29 E31.1
      have hk := Nat.le_trans hk E31.1
      have hr31 := CHr.ext E31 hC29.1
      have hC31 := hC29.trans hr31
      have F31_coder : Fld Z h31 a31 "java/lang/String" "coder" "B" (.int (0 : Int32)) := D31 (Or.inr (own_g hw 33 rfl)) (ty := .byte) (by decide)
      have F31_value : Fld Z h31 a31 "java/lang/String" "value" "[B" .null := D31 (Or.inr (own_g hw 35 rfl)) (ty := (.array .byte)) (by decide)
      have sf_a31 : own_SL Z own_EL s.vm h31 a31 := own_SL.born hC29.1 E31 g31 A31.lt
      refine own_step st31 ?_
      show own_Ends p e below F (T31.setTop (mkF m 265 A30 [(.ref a31)]))
      refine own_step (fun _ k => XS.dup X31.here hx rfl (hb hby at_265) rfl rfl k) ?_
      show own_Ends p e below F (T31.setTop (mkF m 266 A30 [(.ref a31), (.ref a31)]))
      refine own_step (fun _ k => XS.aload X31.here hx rfl (hb hby at_266) (by rw [hA30]; rfl) rfl k) ?_
      show own_Ends p e below F (T31.setTop (mkF m 268 A30 [(.ref a29), (.ref a31), (.ref a31)]))
      obtain ⟨_, _, ⟨T32, L32, k32, n32⟩, -, X32, hS32, gr32, ⟨Lc32, hQ32, l32, y32, z32, hr32⟩, st32⟩ := X31.specialBackS hx (y := (⟨"java/lang/String", "<init>", "([C)V"⟩ : MethodName)) rfl hown (mvT hZ (own_g hw 10 rfl)) (mvT hZ (own_g hw 11 rfl)) (mvT hZ (own_g hw 12 rfl)) (by decide) (backOfSH (W := 1) (rm2 l Z a0 hw [] a31 a29 k29 h31 n0 Z31 A31 ge_a31 F31_value F31_coder (V29.ext E31)) hZ (own_g hw 12 rfl) (own_g hw 9 rfl) (by decide) (by decide) (own_EW hw) hC31.1) (g := (mkF m 268 A30 [(.ref a29), (.ref a31), (.ref a31)])) rfl (by rw [hml]; show A30.size = _; rw [hA30]; rfl) (Steps.refl _) (a := a31) (argsL := [(.ref a29)]) (rest := [(.ref a31)]) (lenOf pd__28_5bC_29V rfl) rfl (by show 2 * 0 + _ ≤ _; exact Nat.le_of_eq rfl) (hb hby at_268) (fun _ _ => ⟨rfl, e31, (by decide : 12 + 4 ≤ _), (by decide : 84 + 8 ≤ _)⟩)
      dsimp only [Pt.U, Pt.locs, Pt.cells, Pt.slots] at X32 l32 y32 z32 st32 hQ32 hS32 gr32 hr32
      subst l32 y32 z32
      obtain ⟨rfl, Nq32, Kq32, fq0_32⟩ := hQ32
      have N32 := Fr.app N27 Nq32
      have Z32 : n0 ≤ T32.heap.size := Nat.le_trans Z31 Kq32.1
      have SZ32 : h0.size ≤ T32.heap.size := Nat.le_trans SZ31 Kq32.1
      have S0_32 := own_Sta_keep (Sta.ext E31 (Sta.ext E29 S0_27)) Kq32 (allS (own_ns_exa A31) all0)
      have str32 := fq0_32
      have fe32 := str32.exa
      have hC32 := hC31.trans hr32
      have hZ := own_warm hZ hS32
      have hown := own_find hown hS32
      have hS := foldS hS (by rw [e31]; exact hk) hS32 gr32
      have hk := Nat.le_refl T32.heap.size
      refine own_trans st32 ?_
      show own_Ends p e below F (T32.setTop (mkF m 271 A30 [(.ref a31)]))
      obtain ⟨A33, hA33⟩ : ∃ z : Array Slot, z = #[.val (.long p1), .second, .val (.int p2), .val (.int p3), .val (.int p4), .val (.int z2), .val (.int (0 : Int32)), .val (.int r9), .val (.int r11), .val (.int r13), .val (.int r15), .val (.int r17), .val (.int r19), .val (.int r21), .val (.int r23), .val (.int r25), .val (.int r27), .val (.ref a29), .val (.ref a31), .unset, .unset, .unset] := ⟨_, rfl⟩
      refine own_step (fun _ k => XS.astore X32.here hx rfl (hb hby at_271) rfl rfl (l' := A33) (by rw [hA30, hA33]; exact rfl) k) ?_
      show own_Ends p e below F (T32.setTop (mkF m 273 A33 []))
      refine own_step (fun _ k => XS.iload X32.here hx rfl (hb hby at_273) (by rw [hA33]; rfl) k) ?_
      show own_Ends p e below F (T32.setTop (mkF m 275 A33 [(.int (0 : Int32))]))
      refine own_step (fun _ k => XS.iconst X32.here hx rfl (hb hby at_275) k) ?_
      show own_Ends p e below F (T32.setTop (mkF m 276 A33 [(.int (2 : Int32)), (.int (0 : Int32))]))
      refine own_step (fun _ k => XS.icmpYes X32.here hx rfl (pc0 := 276) (pc' := 297) rfl (hb hby at_276) rfl (feq (by decide : ¬ ((0 : Int32) = (2 : Int32)))).2 (by decide) (by decide) k) ?_
      show own_Ends p e below F (T32.setTop (mkF m 297 A33 []))
      refine own_step (fun _ k => XS.iconst X32.here hx rfl (hb hby at_297) k) ?_
      show own_Ends p e below F (T32.setTop (mkF m 298 A33 [(.int (0 : Int32))]))
      obtain ⟨A34, hA34⟩ : ∃ z : Array Slot, z = #[.val (.long p1), .second, .val (.int p2), .val (.int p3), .val (.int p4), .val (.int z2), .val (.int (0 : Int32)), .val (.int r9), .val (.int r11), .val (.int r13), .val (.int r15), .val (.int r17), .val (.int r19), .val (.int r21), .val (.int r23), .val (.int r25), .val (.int r27), .val (.ref a29), .val (.ref a31), .val (.int (0 : Int32)), .unset, .unset] := ⟨_, rfl⟩
      refine own_step (fun _ k => XS.istore X32.here hx rfl (hb hby at_298) rfl (l' := A34) (by rw [hA33, hA34]; exact rfl) k) ?_
      show own_Ends p e below F (T32.setTop (mkF m 300 A34 []))
      refine own_step (fun _ k => XS.iload X32.here hx rfl (hb hby at_300) (by rw [hA34]; rfl) k) ?_
      show own_Ends p e below F (T32.setTop (mkF m 302 A34 [(.int (0 : Int32))]))
      refine own_step (fun _ k => XS.bipush X32.here hx rfl (hb hby at_302) k) ?_
      show own_Ends p e below F (T32.setTop (mkF m 304 A34 [(.int (9 : Int32)), (.int (0 : Int32))]))
      refine own_step (fun _ k => XS.icmpYes X32.here hx rfl (pc0 := 304) (pc' := 374) rfl (hb hby at_304) rfl (feq (by decide : ¬ ((0 : Int32) = (9 : Int32)))).2 (by decide) (by decide) k) ?_
      show own_Ends p e below F (T32.setTop (mkF m 374 A34 []))
      refine own_step (fun _ k => XS.iconst X32.here hx rfl (hb hby at_374) k) ?_
      show own_Ends p e below F (T32.setTop (mkF m 375 A34 [(.int (0 : Int32))]))
      obtain ⟨A35, hA35⟩ : ∃ z : Array Slot, z = #[.val (.long p1), .second, .val (.int p2), .val (.int p3), .val (.int p4), .val (.int z2), .val (.int (0 : Int32)), .val (.int r9), .val (.int r11), .val (.int r13), .val (.int r15), .val (.int r17), .val (.int r19), .val (.int r21), .val (.int r23), .val (.int r25), .val (.int r27), .val (.ref a29), .val (.ref a31), .val (.int (0 : Int32)), .val (.int (0 : Int32)), .unset] := ⟨_, rfl⟩
      refine own_step (fun _ k => XS.istore X32.here hx rfl (hb hby at_375) rfl (l' := A35) (by rw [hA34, hA35]; exact rfl) k) ?_
      show own_Ends p e below F (T32.setTop (mkF m 377 A35 []))
      refine own_step (fun _ k => XS.iload X32.here hx rfl (hb hby at_377) (by rw [hA35]; rfl) k) ?_
      show own_Ends p e below F (T32.setTop (mkF m 379 A35 [(.int (0 : Int32))]))
      refine own_step (fun _ k => XS.ifNo X32.here hx rfl (hb hby at_379) rfl ((if0 _ _).trans (teq (by decide : (0 : Int32) = (0 : Int32))).2) k) ?_
      show own_Ends p e below F (T32.setTop (mkF m 382 A35 []))
      refine own_step (fun _ k => XS.iload X32.here hx rfl (hb hby at_382) (by rw [hA35]; rfl) k) ?_
      show own_Ends p e below F (T32.setTop (mkF m 384 A35 [(.int (0 : Int32))]))
      refine own_step (fun _ k => XS.ifYes X32.here hx rfl (pc0 := 384) (pc' := 391) rfl (hb hby at_384) rfl ((if0 _ _).trans (teq (by decide : (0 : Int32) = (0 : Int32))).1) (by decide) (by decide) k) ?_
      show own_Ends p e below F (T32.setTop (mkF m 391 A35 []))
      refine own_step (fun _ k => XS.iconst X32.here hx rfl (hb hby at_391) k) ?_
      show own_Ends p e below F (T32.setTop (mkF m 392 A35 [(.int (0 : Int32))]))
      obtain ⟨A36, hA36⟩ : ∃ z : Array Slot, z = #[.val (.long p1), .second, .val (.int p2), .val (.int p3), .val (.int p4), .val (.int z2), .val (.int (0 : Int32)), .val (.int r9), .val (.int r11), .val (.int r13), .val (.int r15), .val (.int r17), .val (.int r19), .val (.int r21), .val (.int r23), .val (.int r25), .val (.int r27), .val (.ref a29), .val (.ref a31), .val (.int (0 : Int32)), .val (.int (0 : Int32)), .val (.int (0 : Int32))] := ⟨_, rfl⟩
      refine own_step (fun _ k => XS.istore X32.here hx rfl (hb hby at_392) rfl (l' := A36) (by rw [hA35, hA36]; exact rfl) k) ?_
      show own_Ends p e below F (T32.setTop (mkF m 394 A36 []))
      refine own_step (fun _ k => XS.aload X32.here hx rfl (hb hby at_394) (by rw [hA36]; rfl) rfl k) ?_
      show own_Ends p e below F (T32.setTop (mkF m 396 A36 [(.ref a31)]))
      obtain ⟨_, _, ⟨T37, L37, k37, n37⟩, -, X37, hS37, gr37, ⟨Lc37, hQ37, l37, y37, z37, hr37⟩, st37⟩ := callSS X32 hx (y := (⟨"com/example/facetwork/facetwork/cli/Logging", "isVerbose", "(Ljava/lang/String;)Z"⟩ : MethodName)) hown (mvT hZ (own_g hw 36 rfl)) (mvT hZ (own_g hw 37 rfl)) (mvT hZ (own_g hw 38 rfl)) (mvT hZ (own_g hw 39 rfl)) (by decide) (backOfSH (W := 0) (rm8 l Z a0 hw [] a31 ([] : List Int32) T32.heap.size zc T32.heap n0 Z32 S0_32 hz (own_Str.top str32) (Nat.le_of_ble_eq_true rfl)) hZ (own_g hw 39 rfl) (own_g hw 38 rfl) (by decide) (by decide) (own_EW hw) hC32.1) (g := (mkF m 396 A36 [(.ref a31)])) rfl (by rw [hml]; show A36.size = _; rw [hA36]; rfl) (argsL := [(.ref a31)]) (rest := []) (lenOf pd__28Ljava_2flang_2fString_3b_29Z rfl) rfl (by show 2 * 0 + _ ≤ _; exact Nat.le_of_eq rfl) (hb hby at_396) (fun _ _ => ⟨rfl, rfl, (by decide : 16 + 4 ≤ _), (by decide : 92 + 52 ≤ _)⟩)
      dsimp only [Pt.U, Pt.locs, Pt.cells, Pt.slots] at X37 l37 y37 z37 st37 hQ37 hS37 gr37 hr37
      subst l37 y37 z37
      obtain ⟨rfl, Nq37, Kq37⟩ := hQ37
      have N37 := Fr.app N32 Nq37
      have Z37 : n0 ≤ T37.heap.size := Nat.le_trans Z32 Kq37.1
      have SZ37 : h0.size ≤ T37.heap.size := Nat.le_trans SZ32 Kq37.1
      have S0_37 := own_Sta_keep S0_32 Kq37 all0
      have hC37 := hC32.trans hr37
      have hZ := own_warm hZ hS37
      have hown := own_find hown hS37
      have hS := foldS hS (by exact hk) hS37 gr37
      have hk := Nat.le_refl T37.heap.size
      refine own_trans st37 ?_
      show own_Ends p e below F (T37.setTop (mkF m 399 A36 [(.int (own_ver ([] : List Int32)))]))
      refine own_step (fun _ k => XS.iload X37.here hx rfl (hb hby at_399) (by rw [hA36]; rfl) k) ?_
      show own_Ends p e below F (T37.setTop (mkF m 401 A36 [(.int (0 : Int32)), (.int (own_ver ([] : List Int32)))]))
      refine own_step (fun _ k => XS.icmpNo X37.here hx rfl (hb hby at_401) rfl (teq (own_v0 (Nat.ne_of_beq_eq_false rfl) (Nat.ne_of_beq_eq_false rfl) : (own_ver ([] : List Int32)) = (0 : Int32))).2 k) ?_
      show own_Ends p e below F (T37.setTop (mkF m 404 A36 []))
      refine own_step (fun _ k => XS.iconst X37.here hx rfl (hb hby at_404) k) ?_
      show own_Ends p e below F (T37.setTop (mkF m 405 A36 [(.int (1 : Int32))]))
      refine own_step (fun _ k => XS.goto X37.here hx rfl (pc0 := 405) (pc' := 409) rfl (hb hby at_405) (by decide) (by decide) k) ?_
      show own_Ends p e below F (T37.setTop (mkF m 409 A36 [(.int (1 : Int32))]))
      rw [hF]
      exact own_retH X37 hS (by exact hk) hh rfl hZ (own_EW hw) hC37 (v := (some (.int (nar .boolean (1 : Int32))))) (fun h => by rw [Bd.returns] at h; cases h) Bd.notSynchronized (fun fs hr => retN X37 hx (t := .boolean) Bd.returns (by simp) (hb hby at_409) hr) (by decide) (by decide) (by exact ⟨rfl, N37⟩)
    · show own_Ends p e below F (T27.setTop (mkF m 129 A28 []))
      refine own_step (fun _ k => XS.iload X27.here hx rfl (hb hby at_129) (by rw [hA28]; rfl) k) ?_
      show own_Ends p e below F (T27.setTop (mkF m 131 A28 [(.int (1 : Int32))]))
      obtain ⟨T38, h38, k38, X38, e38, E38, A38, st38⟩ := newP X27 hx hZ (own_g hw 6 rfl) rfl (g := (mkF m 131 A28 [(.int (1 : Int32))])) rfl (hb hby at_131) rfl (by decide) (cap := 1) (by decide) (by decide) (by decide) (by decide)
      obtain ⟨a38, g38⟩ : ∃ z, z = T27.heap.size := ⟨_, rfl⟩
      rw [← g38] at A38 st38
      have ge_a38 : n0 ≤ a38 := Nat.le_trans Z27 (Nat.le_of_eq g38.symm)
      have sz_a38 : h0.size ≤ a38 := Nat.le_trans SZ27 (Nat.le_of_eq g38.symm)
      have Z38 : n0 ≤ h38.size := Nat.le_trans Z27 E38.1
      have SZ38 : h0.size ≤ h38.size := Nat.le_trans SZ27 E38.1
      have hk := Nat.le_trans hk E38.1
      have hr38 := CHr.ext E38 hC27.1
      have hC38 := hC27.trans hr38
      have V38 : Arv Z h38 a38 k38 .char (1 : Int32) [(.int (0 : Int32))] (.int (0 : Int32)) := Arv.pad (Arv.new A38 (by decide)) (pad_rep [] _ 1)
      have sf_a38 : own_SL Z own_EL s.vm h38 a38 := own_SL.born hC27.1 E38 g38 V38.lt
      refine own_step st38 ?_
      show own_Ends p e below F (T38.setTop (mkF m 133 A28 [(.ref a38)]))
      obtain ⟨A39, hA39⟩ : ∃ z : Array Slot, z = #[.val (.long p1), .second, .val (.int p2), .val (.int p3), .val (.int p4), .val (.int z2), .val (.int (1 : Int32)), .val (.int r9), .val (.int r11), .val (.int r13), .val (.int r15), .val (.int r17), .val (.int r19), .val (.int r21), .val (.int r23), .val (.int r25), .val (.int r27), .val (.ref a38), .unset, .unset, .unset, .unset] := ⟨_, rfl⟩
      refine own_step (fun _ k => XS.astore X38.here hx rfl (hb hby at_133) rfl rfl (l' := A39) (by rw [hA28, hA39]; exact rfl) k) ?_
      show own_Ends p e below F (T38.setTop (mkF m 135 A39 []))
      refine own_step (fun _ k => XS.iload X38.here hx rfl (hb hby at_135) (by rw [hA39]; rfl) k) ?_
      show own_Ends p e below F (T38.setTop (mkF m 137 A39 [(.int (1 : Int32))]))
      refine own_step (fun _ k => XS.ifNo X38.here hx rfl (hb hby at_137) rfl ((if0 _ _).trans (tlt (by decide : (0 : Int32) < (1 : Int32))).2.2.2) k) ?_
      show own_Ends p e below F (T38.setTop (mkF m 140 A39 []))
      refine own_step (fun _ k => XS.aload X38.here hx rfl (hb hby at_140) (by rw [hA39]; rfl) rfl k) ?_
      show own_Ends p e below F (T38.setTop (mkF m 142 A39 [(.ref a38)]))
      refine own_step (fun _ k => XS.iconst X38.here hx rfl (hb hby at_142) k) ?_
      show own_Ends p e below F (T38.setTop (mkF m 143 A39 [(.int (0 : Int32)), (.ref a38)]))
      refine own_step (fun _ k => XS.iload X38.here hx rfl (hb hby at_143) (by rw [hA39]; rfl) k) ?_
      show own_Ends p e below F (T38.setTop (mkF m 145 A39 [(.int r9), (.int (0 : Int32)), (.ref a38)]))
      obtain ⟨cl40, Ar40, q40, S40, M40, H40, G40⟩ := id V38
      have hin40 : ¬ ((0 : Int32) < 0 ∨ cl40.slots.size ≤ ((0 : Int32) : Int32).toNatClampNeg) := inb_of S40 ⟨by decide, by decide⟩
      obtain ⟨T40, h40, X40, e40, W40, st40⟩ := stC X38 hx hZ e38 Ar40 (j := (0 : Int32)) hin40 (g := (mkF m 145 A39 [(.int r9), (.int (0 : Int32)), (.ref a38)])) rfl rfl (hb hby at_145)
      rw [own_narC rr9] at W40
      have V40 := Arv.set Ar40 q40 S40 M40 H40 G40 (own_fitC rr9) W40 0 rfl (Nat.le_of_ble_eq_true rfl)
      have V40 : Arv Z h40 a38 k38 .char (1 : Int32) [(.int r9)] (.int (0 : Int32)) := V40
      refine own_step st40 ?_
      have N40 := Fr.snoc X40 N27 ge_a38
      have Z40 : n0 ≤ h40.size := by rw [W40.size]; exact Z38
      have SZ40 : h0.size ≤ h40.size := by rw [W40.size]; exact SZ38
      have hk := (W40.size.symm ▸ hk : _ ≤ h40.size)
      have hr40 := CHr.wr W40 sf_a38.2 hC38.1
      have hC40 := hC38.trans hr40
      show own_Ends p e below F (T40.setTop (mkF m 146 A39 []))
      refine own_step (fun _ k => XS.iload X40.here hx rfl (hb hby at_146) (by rw [hA39]; rfl) k) ?_
      show own_Ends p e below F (T40.setTop (mkF m 148 A39 [(.int (1 : Int32))]))
      refine own_step (fun _ k => XS.iconst X40.here hx rfl (hb hby at_148) k) ?_
      show own_Ends p e below F (T40.setTop (mkF m 149 A39 [(.int (1 : Int32)), (.int (1 : Int32))]))
      refine own_step (fun _ k => XS.icmpYes X40.here hx rfl (pc0 := 149) (pc' := 158) rfl (hb hby at_149) rfl (flt (by decide : ¬ ((1 : Int32) < (1 : Int32)))).2.2.2 (by decide) (by decide) k) ?_
      show own_Ends p e below F (T40.setTop (mkF m 158 A39 []))
      refine own_step (fun _ k => XS.iload X40.here hx rfl (hb hby at_158) (by rw [hA39]; rfl) k) ?_
      show own_Ends p e below F (T40.setTop (mkF m 160 A39 [(.int (1 : Int32))]))
      refine own_step (fun _ k => XS.iconst X40.here hx rfl (hb hby at_160) k) ?_
      show own_Ends p e below F (T40.setTop (mkF m 161 A39 [(.int (2 : Int32)), (.int (1 : Int32))]))
      refine own_step (fun _ k => XS.icmpYes X40.here hx rfl (pc0 := 161) (pc' := 170) rfl (hb hby at_161) rfl (flt (by decide : ¬ ((2 : Int32) < (1 : Int32)))).2.2.2 (by decide) (by decide) k) ?_
      show own_Ends p e below F (T40.setTop (mkF m 170 A39 []))
      refine own_step (fun _ k => XS.iload X40.here hx rfl (hb hby at_170) (by rw [hA39]; rfl) k) ?_
      show own_Ends p e below F (T40.setTop (mkF m 172 A39 [(.int (1 : Int32))]))
      refine own_step (fun _ k => XS.iconst X40.here hx rfl (hb hby at_172) k) ?_
      show own_Ends p e below F (T40.setTop (mkF m 173 A39 [(.int (3 : Int32)), (.int (1 : Int32))]))
      refine own_step (fun _ k => XS.icmpYes X40.here hx rfl (pc0 := 173) (pc' := 182) rfl (hb hby at_173) rfl (flt (by decide : ¬ ((3 : Int32) < (1 : Int32)))).2.2.2 (by decide) (by decide) k) ?_
      show own_Ends p e below F (T40.setTop (mkF m 182 A39 []))
      refine own_step (fun _ k => XS.iload X40.here hx rfl (hb hby at_182) (by rw [hA39]; rfl) k) ?_
      show own_Ends p e below F (T40.setTop (mkF m 184 A39 [(.int (1 : Int32))]))
      refine own_step (fun _ k => XS.iconst X40.here hx rfl (hb hby at_184) k) ?_
      show own_Ends p e below F (T40.setTop (mkF m 185 A39 [(.int (4 : Int32)), (.int (1 : Int32))]))
      refine own_step (fun _ k => XS.icmpYes X40.here hx rfl (pc0 := 185) (pc' := 194) rfl (hb hby at_185) rfl (flt (by decide : ¬ ((4 : Int32) < (1 : Int32)))).2.2.2 (by decide) (by decide) k) ?_
      show own_Ends p e below F (T40.setTop (mkF m 194 A39 []))
      refine own_step (fun _ k => XS.iload X40.here hx rfl (hb hby at_194) (by rw [hA39]; rfl) k) ?_
      show own_Ends p e below F (T40.setTop (mkF m 196 A39 [(.int (1 : Int32))]))
      refine own_step (fun _ k => XS.iconst X40.here hx rfl (hb hby at_196) k) ?_
      show own_Ends p e below F (T40.setTop (mkF m 197 A39 [(.int (5 : Int32)), (.int (1 : Int32))]))
      refine own_step (fun _ k => XS.icmpYes X40.here hx rfl (pc0 := 197) (pc' := 206) rfl (hb hby at_197) rfl (flt (by decide : ¬ ((5 : Int32) < (1 : Int32)))).2.2.2 (by decide) (by decide) k) ?_
      show own_Ends p e below F (T40.setTop (mkF m 206 A39 []))
      refine own_step (fun _ k => XS.iload X40.here hx rfl (hb hby at_206) (by rw [hA39]; rfl) k) ?_
      show own_Ends p e below F (T40.setTop (mkF m 208 A39 [(.int (1 : Int32))]))
      refine own_step (fun _ k => XS.bipush X40.here hx rfl (hb hby at_208) k) ?_
      show own_Ends p e below F (T40.setTop (mkF m 210 A39 [(.int (6 : Int32)), (.int (1 : Int32))]))
      refine own_step (fun _ k => XS.icmpYes X40.here hx rfl (pc0 := 210) (pc' := 220) rfl (hb hby at_210) rfl (flt (by decide : ¬ ((6 : Int32) < (1 : Int32)))).2.2.2 (by decide) (by decide) k) ?_
      show own_Ends p e below F (T40.setTop (mkF m 220 A39 []))
      refine own_step (fun _ k => XS.iload X40.here hx rfl (hb hby at_220) (by rw [hA39]; rfl) k) ?_
      show own_Ends p e below F (T40.setTop (mkF m 222 A39 [(.int (1 : Int32))]))
      refine own_step (fun _ k => XS.bipush X40.here hx rfl (hb hby at_222) k) ?_
      show own_Ends p e below F (T40.setTop (mkF m 224 A39 [(.int (7 : Int32)), (.int (1 : Int32))]))
      refine own_step (fun _ k => XS.icmpYes X40.here hx rfl (pc0 := 224) (pc' := 234) rfl (hb hby at_224) rfl (flt (by decide : ¬ ((7 : Int32) < (1 : Int32)))).2.2.2 (by decide) (by decide) k) ?_
      show own_Ends p e below F (T40.setTop (mkF m 234 A39 []))
      refine own_step (fun _ k => XS.iload X40.here hx rfl (hb hby at_234) (by rw [hA39]; rfl) k) ?_
      show own_Ends p e below F (T40.setTop (mkF m 236 A39 [(.int (1 : Int32))]))
      refine own_step (fun _ k => XS.bipush X40.here hx rfl (hb hby at_236) k) ?_
      show own_Ends p e below F (T40.setTop (mkF m 238 A39 [(.int (8 : Int32)), (.int (1 : Int32))]))
      refine own_step (fun _ k => XS.icmpYes X40.here hx rfl (pc0 := 238) (pc' := 248) rfl (hb hby at_238) rfl (flt (by decide : ¬ ((8 : Int32) < (1 : Int32)))).2.2.2 (by decide) (by decide) k) ?_
      show own_Ends p e below F (T40.setTop (mkF m 248 A39 []))
      refine own_step (fun _ k => XS.iload X40.here hx rfl (hb hby at_248) (by rw [hA39]; rfl) k) ?_
      show own_Ends p e below F (T40.setTop (mkF m 250 A39 [(.int (1 : Int32))]))
      refine own_step (fun _ k => XS.bipush X40.here hx rfl (hb hby at_250) k) ?_
      show own_Ends p e below F (T40.setTop (mkF m 252 A39 [(.int (9 : Int32)), (.int (1 : Int32))]))
      refine own_step (fun _ k => XS.icmpYes X40.here hx rfl (pc0 := 252) (pc' := 262) rfl (hb hby at_252) rfl (flt (by decide : ¬ ((9 : Int32) < (1 : Int32)))).2.2.2 (by decide) (by decide) k) ?_
      show own_Ends p e below F (T40.setTop (mkF m 262 A39 []))
      obtain ⟨T41, h41, X41, e41, E41, A41, D41, -, st41⟩ := newO X40 hx hZ hown (own_g hw 7 rfl) (own_g hw 8 rfl) (own_g hw 9 rfl) e40 (g := (mkF m 262 A39 [])) rfl (hb hby at_262) (by decide) (by decide)
      obtain ⟨a41, g41⟩ : ∃ z, z = h40.size := ⟨_, rfl⟩
      rw [← g41] at A41 D41 st41
      have ge_a41 : n0 ≤ a41 := Nat.le_trans Z40 (Nat.le_of_eq g41.symm)
      have sz_a41 : h0.size ≤ a41 := Nat.le_trans SZ40 (Nat.le_of_eq g41.symm)
      have ne_a38_a41 : a38 ≠ a41 := Nat.ne_of_lt (by rw [g41]; exact V40.lt)
      have Z41 : n0 ≤ h41.size := Nat.le_trans Z40 E41.1
      have SZ41 : h0.size ≤ h41.size := Nat.le_trans SZ40 E41.1
      have hk := Nat.le_trans hk E41.1
      have hr41 := CHr.ext E41 hC40.1
      have hC41 := hC40.trans hr41
      have F41_coder : Fld Z h41 a41 "java/lang/String" "coder" "B" (.int (0 : Int32)) := D41 (Or.inr (own_g hw 33 rfl)) (ty := .byte) (by decide)
      have F41_value : Fld Z h41 a41 "java/lang/String" "value" "[B" .null := D41 (Or.inr (own_g hw 35 rfl)) (ty := (.array .byte)) (by decide)
      have sf_a41 : own_SL Z own_EL s.vm h41 a41 := own_SL.born hC40.1 E41 g41 A41.lt
      refine own_step st41 ?_
      show own_Ends p e below F (T41.setTop (mkF m 265 A39 [(.ref a41)]))
      refine own_step (fun _ k => XS.dup X41.here hx rfl (hb hby at_265) rfl rfl k) ?_
      show own_Ends p e below F (T41.setTop (mkF m 266 A39 [(.ref a41), (.ref a41)]))
      refine own_step (fun _ k => XS.aload X41.here hx rfl (hb hby at_266) (by rw [hA39]; rfl) rfl k) ?_
      show own_Ends p e below F (T41.setTop (mkF m 268 A39 [(.ref a38), (.ref a41), (.ref a41)]))
      obtain ⟨_, _, ⟨T42, L42, k42, n42⟩, -, X42, ⟨Lc42, hQ42, l42, y42, z42⟩, st42⟩ := X41.specialBack hx (y := (⟨"java/lang/String", "<init>", "([C)V"⟩ : MethodName)) rfl hown (mvT hZ (own_g hw 10 rfl)) (mvT hZ (own_g hw 11 rfl)) (mvT hZ (own_g hw 12 rfl)) (by decide) (StrChars.Road.backV (W := 1) hZ (fun d hd => hw d ((by decide +kernel : ∀ d ∈ StrChars.Road.words, d ∈ tables_1) d hd)) (kI := 4) (own_g hw 8 rfl) (cs := ([r9] : List Int32)) (bs := ([r9] : List Int32).map (fun c => c.toInt8.toInt32)) (n := 1) ge_a41 Z41 A41 F41_value F41_coder (V40.ext E41) (Sta.ext E41 (Sta.wr W40 (Sta.ext E38 S0_27))) hz rfl rfl (by decide) (by decide) (own_cS rr9 own_c0) rfl (by decide) (by decide)) (g := (mkF m 268 A39 [(.ref a38), (.ref a41), (.ref a41)])) rfl (by rw [hml]; show A39.size = _; rw [hA39]; rfl) (Steps.refl _) (a := a41) (argsL := [(.ref a38)]) (rest := [(.ref a41)]) (lenOf pd__28_5bC_29V rfl) rfl (by show 2 * 0 + _ ≤ _; exact Nat.le_of_eq rfl) (hb hby at_268) (fun _ _ => ⟨rfl, e41, (by decide : 12 + 1 ≤ _), (by decide : 85 + 1 ≤ _)⟩)
      dsimp only [Pt.U, Pt.locs, Pt.cells, Pt.slots] at X42 l42 y42 z42 st42 hQ42
      subst l42 y42 z42
      obtain ⟨rfl, Nq42, Kq42, fe42, fc42, tt42, kt42, -, -, -, fv42, fa42⟩ := hQ42
      have N42 := Fr.app N40 Nq42
      have Z42 : n0 ≤ T42.heap.size := Nat.le_trans Z41 Kq42.1
      have SZ42 : h0.size ≤ T42.heap.size := Nat.le_trans SZ41 Kq42.1
      have S0_42 := own_Sta_keep (Sta.ext E41 (Sta.wr W40 (Sta.ext E38 S0_27))) Kq42 (allS (own_ns_exa A41) all0)
      have str42 : own_Str Z T42.heap T42.heap.size a41 ([r9] : List Int32) := own_Str.mk fe42 fc42 fv42 fa42 rfl rfl (own_cS rr9 own_c0)
      have hr42 := CHr.keep Kq42 (sfS sf_a41.2 sf0) hC41.1
      have hC42 := hC41.trans hr42
      have hk := Nat.le_trans hk Kq42.1
      refine own_trans st42 ?_
      show own_Ends p e below F (T42.setTop (mkF m 271 A39 [(.ref a41)]))
      obtain ⟨A43, hA43⟩ : ∃ z : Array Slot, z = #[.val (.long p1), .second, .val (.int p2), .val (.int p3), .val (.int p4), .val (.int z2), .val (.int (1 : Int32)), .val (.int r9), .val (.int r11), .val (.int r13), .val (.int r15), .val (.int r17), .val (.int r19), .val (.int r21), .val (.int r23), .val (.int r25), .val (.int r27), .val (.ref a38), .val (.ref a41), .unset, .unset, .unset] := ⟨_, rfl⟩
      refine own_step (fun _ k => XS.astore X42.here hx rfl (hb hby at_271) rfl rfl (l' := A43) (by rw [hA39, hA43]; exact rfl) k) ?_
      show own_Ends p e below F (T42.setTop (mkF m 273 A43 []))
      refine own_step (fun _ k => XS.iload X42.here hx rfl (hb hby at_273) (by rw [hA43]; rfl) k) ?_
      show own_Ends p e below F (T42.setTop (mkF m 275 A43 [(.int (1 : Int32))]))
      refine own_step (fun _ k => XS.iconst X42.here hx rfl (hb hby at_275) k) ?_
      show own_Ends p e below F (T42.setTop (mkF m 276 A43 [(.int (2 : Int32)), (.int (1 : Int32))]))
      refine own_step (fun _ k => XS.icmpYes X42.here hx rfl (pc0 := 276) (pc' := 297) rfl (hb hby at_276) rfl (feq (by decide : ¬ ((1 : Int32) = (2 : Int32)))).2 (by decide) (by decide) k) ?_
      show own_Ends p e below F (T42.setTop (mkF m 297 A43 []))
      refine own_step (fun _ k => XS.iconst X42.here hx rfl (hb hby at_297) k) ?_
      show own_Ends p e below F (T42.setTop (mkF m 298 A43 [(.int (0 : Int32))]))
      obtain ⟨A44, hA44⟩ : ∃ z : Array Slot, z = #[.val (.long p1), .second, .val (.int p2), .val (.int p3), .val (.int p4), .val (.int z2), .val (.int (1 : Int32)), .val (.int r9), .val (.int r11), .val (.int r13), .val (.int r15), .val (.int r17), .val (.int r19), .val (.int r21), .val (.int r23), .val (.int r25), .val (.int r27), .val (.ref a38), .val (.ref a41), .val (.int (0 : Int32)), .unset, .unset] := ⟨_, rfl⟩
      refine own_step (fun _ k => XS.istore X42.here hx rfl (hb hby at_298) rfl (l' := A44) (by rw [hA43, hA44]; exact rfl) k) ?_
      show own_Ends p e below F (T42.setTop (mkF m 300 A44 []))
      refine own_step (fun _ k => XS.iload X42.here hx rfl (hb hby at_300) (by rw [hA44]; rfl) k) ?_
      show own_Ends p e below F (T42.setTop (mkF m 302 A44 [(.int (1 : Int32))]))
      refine own_step (fun _ k => XS.bipush X42.here hx rfl (hb hby at_302) k) ?_
      show own_Ends p e below F (T42.setTop (mkF m 304 A44 [(.int (9 : Int32)), (.int (1 : Int32))]))
      refine own_step (fun _ k => XS.icmpYes X42.here hx rfl (pc0 := 304) (pc' := 374) rfl (hb hby at_304) rfl (feq (by decide : ¬ ((1 : Int32) = (9 : Int32)))).2 (by decide) (by decide) k) ?_
      show own_Ends p e below F (T42.setTop (mkF m 374 A44 []))
      refine own_step (fun _ k => XS.iconst X42.here hx rfl (hb hby at_374) k) ?_
      show own_Ends p e below F (T42.setTop (mkF m 375 A44 [(.int (0 : Int32))]))
      obtain ⟨A45, hA45⟩ : ∃ z : Array Slot, z = #[.val (.long p1), .second, .val (.int p2), .val (.int p3), .val (.int p4), .val (.int z2), .val (.int (1 : Int32)), .val (.int r9), .val (.int r11), .val (.int r13), .val (.int r15), .val (.int r17), .val (.int r19), .val (.int r21), .val (.int r23), .val (.int r25), .val (.int r27), .val (.ref a38), .val (.ref a41), .val (.int (0 : Int32)), .val (.int (0 : Int32)), .unset] := ⟨_, rfl⟩
      refine own_step (fun _ k => XS.istore X42.here hx rfl (hb hby at_375) rfl (l' := A45) (by rw [hA44, hA45]; exact rfl) k) ?_
      show own_Ends p e below F (T42.setTop (mkF m 377 A45 []))
      refine own_step (fun _ k => XS.iload X42.here hx rfl (hb hby at_377) (by rw [hA45]; rfl) k) ?_
      show own_Ends p e below F (T42.setTop (mkF m 379 A45 [(.int (0 : Int32))]))
      refine own_step (fun _ k => XS.ifNo X42.here hx rfl (hb hby at_379) rfl ((if0 _ _).trans (teq (by decide : (0 : Int32) = (0 : Int32))).2) k) ?_
      show own_Ends p e below F (T42.setTop (mkF m 382 A45 []))
      refine own_step (fun _ k => XS.iload X42.here hx rfl (hb hby at_382) (by rw [hA45]; rfl) k) ?_
      show own_Ends p e below F (T42.setTop (mkF m 384 A45 [(.int (0 : Int32))]))
      refine own_step (fun _ k => XS.ifYes X42.here hx rfl (pc0 := 384) (pc' := 391) rfl (hb hby at_384) rfl ((if0 _ _).trans (teq (by decide : (0 : Int32) = (0 : Int32))).1) (by decide) (by decide) k) ?_
      show own_Ends p e below F (T42.setTop (mkF m 391 A45 []))
      refine own_step (fun _ k => XS.iconst X42.here hx rfl (hb hby at_391) k) ?_
      show own_Ends p e below F (T42.setTop (mkF m 392 A45 [(.int (0 : Int32))]))
      obtain ⟨A46, hA46⟩ : ∃ z : Array Slot, z = #[.val (.long p1), .second, .val (.int p2), .val (.int p3), .val (.int p4), .val (.int z2), .val (.int (1 : Int32)), .val (.int r9), .val (.int r11), .val (.int r13), .val (.int r15), .val (.int r17), .val (.int r19), .val (.int r21), .val (.int r23), .val (.int r25), .val (.int r27), .val (.ref a38), .val (.ref a41), .val (.int (0 : Int32)), .val (.int (0 : Int32)), .val (.int (0 : Int32))] := ⟨_, rfl⟩
      refine own_step (fun _ k => XS.istore X42.here hx rfl (hb hby at_392) rfl (l' := A46) (by rw [hA45, hA46]; exact rfl) k) ?_
      show own_Ends p e below F (T42.setTop (mkF m 394 A46 []))
      refine own_step (fun _ k => XS.aload X42.here hx rfl (hb hby at_394) (by rw [hA46]; rfl) rfl k) ?_
      show own_Ends p e below F (T42.setTop (mkF m 396 A46 [(.ref a41)]))
      obtain ⟨_, _, ⟨T47, L47, k47, n47⟩, -, X47, hS47, gr47, ⟨Lc47, hQ47, l47, y47, z47, hr47⟩, st47⟩ := callSS X42 hx (y := (⟨"com/example/facetwork/facetwork/cli/Logging", "isVerbose", "(Ljava/lang/String;)Z"⟩ : MethodName)) hown (mvT hZ (own_g hw 36 rfl)) (mvT hZ (own_g hw 37 rfl)) (mvT hZ (own_g hw 38 rfl)) (mvT hZ (own_g hw 39 rfl)) (by decide) (backOfSH (W := 0) (rm8 l Z a0 hw [] a41 ([r9] : List Int32) T42.heap.size zc T42.heap n0 Z42 S0_42 hz (own_Str.top str42) (Nat.le_of_ble_eq_true rfl)) hZ (own_g hw 39 rfl) (own_g hw 38 rfl) (by decide) (by decide) (own_EW hw) hC42.1) (g := (mkF m 396 A46 [(.ref a41)])) rfl (by rw [hml]; show A46.size = _; rw [hA46]; rfl) (argsL := [(.ref a41)]) (rest := []) (lenOf pd__28Ljava_2flang_2fString_3b_29Z rfl) rfl (by show 2 * 0 + _ ≤ _; exact Nat.le_of_eq rfl) (hb hby at_396) (fun _ _ => ⟨rfl, rfl, (by decide : 13 + 4 ≤ _), (by decide : 86 + 52 ≤ _)⟩)
      dsimp only [Pt.U, Pt.locs, Pt.cells, Pt.slots] at X47 l47 y47 z47 st47 hQ47 hS47 gr47 hr47
      subst l47 y47 z47
      obtain ⟨rfl, Nq47, Kq47⟩ := hQ47
      have N47 := Fr.app N42 Nq47
      have Z47 : n0 ≤ T47.heap.size := Nat.le_trans Z42 Kq47.1
      have SZ47 : h0.size ≤ T47.heap.size := Nat.le_trans SZ42 Kq47.1
      have S0_47 := own_Sta_keep S0_42 Kq47 all0
      have hC47 := hC42.trans hr47
      have hZ := own_warm hZ hS47
      have hown := own_find hown hS47
      have hS := foldS hS (by exact hk) hS47 gr47
      have hk := Nat.le_refl T47.heap.size
      refine own_trans st47 ?_
      show own_Ends p e below F (T47.setTop (mkF m 399 A46 [(.int (own_ver ([r9] : List Int32)))]))
      refine own_step (fun _ k => XS.iload X47.here hx rfl (hb hby at_399) (by rw [hA46]; rfl) k) ?_
      show own_Ends p e below F (T47.setTop (mkF m 401 A46 [(.int (0 : Int32)), (.int (own_ver ([r9] : List Int32)))]))
      refine own_step (fun _ k => XS.icmpNo X47.here hx rfl (hb hby at_401) rfl (teq (own_v0 (Nat.ne_of_beq_eq_false rfl) (Nat.ne_of_beq_eq_false rfl) : (own_ver ([r9] : List Int32)) = (0 : Int32))).2 k) ?_
      show own_Ends p e below F (T47.setTop (mkF m 404 A46 []))
      refine own_step (fun _ k => XS.iconst X47.here hx rfl (hb hby at_404) k) ?_
      show own_Ends p e below F (T47.setTop (mkF m 405 A46 [(.int (1 : Int32))]))
      refine own_step (fun _ k => XS.goto X47.here hx rfl (pc0 := 405) (pc' := 409) rfl (hb hby at_405) (by decide) (by decide) k) ?_
      show own_Ends p e below F (T47.setTop (mkF m 409 A46 [(.int (1 : Int32))]))
      rw [hF]
      exact own_retH X47 hS (by exact hk) hh rfl hZ (own_EW hw) hC47 (v := (some (.int (nar .boolean (1 : Int32))))) (fun h => by rw [Bd.returns] at h; cases h) Bd.notSynchronized (fun fs hr => retN X47 hx (t := .boolean) Bd.returns (by simp) (hb hby at_409) hr) (by decide) (by decide) (by exact ⟨rfl, N47⟩)
    · show own_Ends p e below F (T27.setTop (mkF m 129 A28 []))
      refine own_step (fun _ k => XS.iload X27.here hx rfl (hb hby at_129) (by rw [hA28]; rfl) k) ?_
      show own_Ends p e below F (T27.setTop (mkF m 131 A28 [(.int (2 : Int32))]))
      obtain ⟨T48, h48, k48, X48, e48, E48, A48, st48⟩ := newP X27 hx hZ (own_g hw 6 rfl) rfl (g := (mkF m 131 A28 [(.int (2 : Int32))])) rfl (hb hby at_131) rfl (by decide) (cap := 2) (by decide) (by decide) (by decide) (by decide)
      obtain ⟨a48, g48⟩ : ∃ z, z = T27.heap.size := ⟨_, rfl⟩
      rw [← g48] at A48 st48
      have ge_a48 : n0 ≤ a48 := Nat.le_trans Z27 (Nat.le_of_eq g48.symm)
      have sz_a48 : h0.size ≤ a48 := Nat.le_trans SZ27 (Nat.le_of_eq g48.symm)
      have Z48 : n0 ≤ h48.size := Nat.le_trans Z27 E48.1
      have SZ48 : h0.size ≤ h48.size := Nat.le_trans SZ27 E48.1
      have hk := Nat.le_trans hk E48.1
      have hr48 := CHr.ext E48 hC27.1
      have hC48 := hC27.trans hr48
      have V48 : Arv Z h48 a48 k48 .char (2 : Int32) [(.int (0 : Int32)), (.int (0 : Int32))] (.int (0 : Int32)) := Arv.pad (Arv.new A48 (by decide)) (pad_rep [] _ 2)
      have sf_a48 : own_SL Z own_EL s.vm h48 a48 := own_SL.born hC27.1 E48 g48 V48.lt
      refine own_step st48 ?_
      show own_Ends p e below F (T48.setTop (mkF m 133 A28 [(.ref a48)]))
      obtain ⟨A49, hA49⟩ : ∃ z : Array Slot, z = #[.val (.long p1), .second, .val (.int p2), .val (.int p3), .val (.int p4), .val (.int z2), .val (.int (2 : Int32)), .val (.int r9), .val (.int r11), .val (.int r13), .val (.int r15), .val (.int r17), .val (.int r19), .val (.int r21), .val (.int r23), .val (.int r25), .val (.int r27), .val (.ref a48), .unset, .unset, .unset, .unset] := ⟨_, rfl⟩
      refine own_step (fun _ k => XS.astore X48.here hx rfl (hb hby at_133) rfl rfl (l' := A49) (by rw [hA28, hA49]; exact rfl) k) ?_
      show own_Ends p e below F (T48.setTop (mkF m 135 A49 []))
      refine own_step (fun _ k => XS.iload X48.here hx rfl (hb hby at_135) (by rw [hA49]; rfl) k) ?_
      show own_Ends p e below F (T48.setTop (mkF m 137 A49 [(.int (2 : Int32))]))
      refine own_step (fun _ k => XS.ifNo X48.here hx rfl (hb hby at_137) rfl ((if0 _ _).trans (tlt (by decide : (0 : Int32) < (2 : Int32))).2.2.2) k) ?_
      show own_Ends p e below F (T48.setTop (mkF m 140 A49 []))
      refine own_step (fun _ k => XS.aload X48.here hx rfl (hb hby at_140) (by rw [hA49]; rfl) rfl k) ?_
      show own_Ends p e below F (T48.setTop (mkF m 142 A49 [(.ref a48)]))
      refine own_step (fun _ k => XS.iconst X48.here hx rfl (hb hby at_142) k) ?_
      show own_Ends p e below F (T48.setTop (mkF m 143 A49 [(.int (0 : Int32)), (.ref a48)]))
      refine own_step (fun _ k => XS.iload X48.here hx rfl (hb hby at_143) (by rw [hA49]; rfl) k) ?_
      show own_Ends p e below F (T48.setTop (mkF m 145 A49 [(.int r9), (.int (0 : Int32)), (.ref a48)]))
      obtain ⟨cl50, Ar50, q50, S50, M50, H50, G50⟩ := id V48
      have hin50 : ¬ ((0 : Int32) < 0 ∨ cl50.slots.size ≤ ((0 : Int32) : Int32).toNatClampNeg) := inb_of S50 ⟨by decide, by decide⟩
      obtain ⟨T50, h50, X50, e50, W50, st50⟩ := stC X48 hx hZ e48 Ar50 (j := (0 : Int32)) hin50 (g := (mkF m 145 A49 [(.int r9), (.int (0 : Int32)), (.ref a48)])) rfl rfl (hb hby at_145)
      rw [own_narC rr9] at W50
      have V50 := Arv.set Ar50 q50 S50 M50 H50 G50 (own_fitC rr9) W50 0 rfl (Nat.le_of_ble_eq_true rfl)
      have V50 : Arv Z h50 a48 k48 .char (2 : Int32) [(.int r9), (.int (0 : Int32))] (.int (0 : Int32)) := V50
      refine own_step st50 ?_
      have N50 := Fr.snoc X50 N27 ge_a48
      have Z50 : n0 ≤ h50.size := by rw [W50.size]; exact Z48
      have SZ50 : h0.size ≤ h50.size := by rw [W50.size]; exact SZ48
      have hk := (W50.size.symm ▸ hk : _ ≤ h50.size)
      have hr50 := CHr.wr W50 sf_a48.2 hC48.1
      have hC50 := hC48.trans hr50
      show own_Ends p e below F (T50.setTop (mkF m 146 A49 []))
      refine own_step (fun _ k => XS.iload X50.here hx rfl (hb hby at_146) (by rw [hA49]; rfl) k) ?_
      show own_Ends p e below F (T50.setTop (mkF m 148 A49 [(.int (2 : Int32))]))
      refine own_step (fun _ k => XS.iconst X50.here hx rfl (hb hby at_148) k) ?_
      show own_Ends p e below F (T50.setTop (mkF m 149 A49 [(.int (1 : Int32)), (.int (2 : Int32))]))
      refine own_step (fun _ k => XS.icmpNo X50.here hx rfl (hb hby at_149) rfl (tlt (by decide : (1 : Int32) < (2 : Int32))).2.2.2 k) ?_
      show own_Ends p e below F (T50.setTop (mkF m 152 A49 []))
      refine own_step (fun _ k => XS.aload X50.here hx rfl (hb hby at_152) (by rw [hA49]; rfl) rfl k) ?_
      show own_Ends p e below F (T50.setTop (mkF m 154 A49 [(.ref a48)]))
      refine own_step (fun _ k => XS.iconst X50.here hx rfl (hb hby at_154) k) ?_
      show own_Ends p e below F (T50.setTop (mkF m 155 A49 [(.int (1 : Int32)), (.ref a48)]))
      refine own_step (fun _ k => XS.iload X50.here hx rfl (hb hby at_155) (by rw [hA49]; rfl) k) ?_
      show own_Ends p e below F (T50.setTop (mkF m 157 A49 [(.int r11), (.int (1 : Int32)), (.ref a48)]))
      obtain ⟨cl51, Ar51, q51, S51, M51, H51, G51⟩ := id V50
      have hin51 : ¬ ((1 : Int32) < 0 ∨ cl51.slots.size ≤ ((1 : Int32) : Int32).toNatClampNeg) := inb_of S51 ⟨by decide, by decide⟩
      obtain ⟨T51, h51, X51, e51, W51, st51⟩ := stC X50 hx hZ e50 Ar51 (j := (1 : Int32)) hin51 (g := (mkF m 157 A49 [(.int r11), (.int (1 : Int32)), (.ref a48)])) rfl rfl (hb hby at_157)
      rw [own_narC rr11] at W51
      have V51 := Arv.set Ar51 q51 S51 M51 H51 G51 (own_fitC rr11) W51 1 rfl (Nat.le_of_ble_eq_true rfl)
      have V51 : Arv Z h51 a48 k48 .char (2 : Int32) [(.int r9), (.int r11)] (.int (0 : Int32)) := V51
      refine own_step st51 ?_
      have N51 := Fr.snoc X51 N50 ge_a48
      have Z51 : n0 ≤ h51.size := by rw [W51.size]; exact Z50
      have SZ51 : h0.size ≤ h51.size := by rw [W51.size]; exact SZ50
      have hk := (W51.size.symm ▸ hk : _ ≤ h51.size)
      have hr51 := CHr.wr W51 (own_SL.go sf_a48 hr50).2 hC50.1
      have hC51 := hC50.trans hr51
      show own_Ends p e below F (T51.setTop (mkF m 158 A49 []))
      refine own_step (fun _ k => XS.iload X51.here hx rfl (hb hby at_158) (by rw [hA49]; rfl) k) ?_
      show own_Ends p e below F (T51.setTop (mkF m 160 A49 [(.int (2 : Int32))]))
      refine own_step (fun _ k => XS.iconst X51.here hx rfl (hb hby at_160) k) ?_
      show own_Ends p e below F (T51.setTop (mkF m 161 A49 [(.int (2 : Int32)), (.int (2 : Int32))]))
      refine own_step (fun _ k => XS.icmpYes X51.here hx rfl (pc0 := 161) (pc' := 170) rfl (hb hby at_161) rfl (flt (by decide : ¬ ((2 : Int32) < (2 : Int32)))).2.2.2 (by decide) (by decide) k) ?_
      show own_Ends p e below F (T51.setTop (mkF m 170 A49 []))
      refine own_step (fun _ k => XS.iload X51.here hx rfl (hb hby at_170) (by rw [hA49]; rfl) k) ?_
      show own_Ends p e below F (T51.setTop (mkF m 172 A49 [(.int (2 : Int32))]))
      refine own_step (fun _ k => XS.iconst X51.here hx rfl (hb hby at_172) k) ?_
      show own_Ends p e below F (T51.setTop (mkF m 173 A49 [(.int (3 : Int32)), (.int (2 : Int32))]))
      refine own_step (fun _ k => XS.icmpYes X51.here hx rfl (pc0 := 173) (pc' := 182) rfl (hb hby at_173) rfl (flt (by decide : ¬ ((3 : Int32) < (2 : Int32)))).2.2.2 (by decide) (by decide) k) ?_
      show own_Ends p e below F (T51.setTop (mkF m 182 A49 []))
      refine own_step (fun _ k => XS.iload X51.here hx rfl (hb hby at_182) (by rw [hA49]; rfl) k) ?_
      show own_Ends p e below F (T51.setTop (mkF m 184 A49 [(.int (2 : Int32))]))
      refine own_step (fun _ k => XS.iconst X51.here hx rfl (hb hby at_184) k) ?_
      show own_Ends p e below F (T51.setTop (mkF m 185 A49 [(.int (4 : Int32)), (.int (2 : Int32))]))
      refine own_step (fun _ k => XS.icmpYes X51.here hx rfl (pc0 := 185) (pc' := 194) rfl (hb hby at_185) rfl (flt (by decide : ¬ ((4 : Int32) < (2 : Int32)))).2.2.2 (by decide) (by decide) k) ?_
      show own_Ends p e below F (T51.setTop (mkF m 194 A49 []))
      refine own_step (fun _ k => XS.iload X51.here hx rfl (hb hby at_194) (by rw [hA49]; rfl) k) ?_
      show own_Ends p e below F (T51.setTop (mkF m 196 A49 [(.int (2 : Int32))]))
      refine own_step (fun _ k => XS.iconst X51.here hx rfl (hb hby at_196) k) ?_
      show own_Ends p e below F (T51.setTop (mkF m 197 A49 [(.int (5 : Int32)), (.int (2 : Int32))]))
      refine own_step (fun _ k => XS.icmpYes X51.here hx rfl (pc0 := 197) (pc' := 206) rfl (hb hby at_197) rfl (flt (by decide : ¬ ((5 : Int32) < (2 : Int32)))).2.2.2 (by decide) (by decide) k) ?_
      show own_Ends p e below F (T51.setTop (mkF m 206 A49 []))
      refine own_step (fun _ k => XS.iload X51.here hx rfl (hb hby at_206) (by rw [hA49]; rfl) k) ?_
      show own_Ends p e below F (T51.setTop (mkF m 208 A49 [(.int (2 : Int32))]))
      refine own_step (fun _ k => XS.bipush X51.here hx rfl (hb hby at_208) k) ?_
      show own_Ends p e below F (T51.setTop (mkF m 210 A49 [(.int (6 : Int32)), (.int (2 : Int32))]))
      refine own_step (fun _ k => XS.icmpYes X51.here hx rfl (pc0 := 210) (pc' := 220) rfl (hb hby at_210) rfl (flt (by decide : ¬ ((6 : Int32) < (2 : Int32)))).2.2.2 (by decide) (by decide) k) ?_
      show own_Ends p e below F (T51.setTop (mkF m 220 A49 []))
      refine own_step (fun _ k => XS.iload X51.here hx rfl (hb hby at_220) (by rw [hA49]; rfl) k) ?_
      show own_Ends p e below F (T51.setTop (mkF m 222 A49 [(.int (2 : Int32))]))
      refine own_step (fun _ k => XS.bipush X51.here hx rfl (hb hby at_222) k) ?_
      show own_Ends p e below F (T51.setTop (mkF m 224 A49 [(.int (7 : Int32)), (.int (2 : Int32))]))
      refine own_step (fun _ k => XS.icmpYes X51.here hx rfl (pc0 := 224) (pc' := 234) rfl (hb hby at_224) rfl (flt (by decide : ¬ ((7 : Int32) < (2 : Int32)))).2.2.2 (by decide) (by decide) k) ?_
      show own_Ends p e below F (T51.setTop (mkF m 234 A49 []))
      refine own_step (fun _ k => XS.iload X51.here hx rfl (hb hby at_234) (by rw [hA49]; rfl) k) ?_
      show own_Ends p e below F (T51.setTop (mkF m 236 A49 [(.int (2 : Int32))]))
      refine own_step (fun _ k => XS.bipush X51.here hx rfl (hb hby at_236) k) ?_
      show own_Ends p e below F (T51.setTop (mkF m 238 A49 [(.int (8 : Int32)), (.int (2 : Int32))]))
      refine own_step (fun _ k => XS.icmpYes X51.here hx rfl (pc0 := 238) (pc' := 248) rfl (hb hby at_238) rfl (flt (by decide : ¬ ((8 : Int32) < (2 : Int32)))).2.2.2 (by decide) (by decide) k) ?_
      show own_Ends p e below F (T51.setTop (mkF m 248 A49 []))
      refine own_step (fun _ k => XS.iload X51.here hx rfl (hb hby at_248) (by rw [hA49]; rfl) k) ?_
      show own_Ends p e below F (T51.setTop (mkF m 250 A49 [(.int (2 : Int32))]))
      refine own_step (fun _ k => XS.bipush X51.here hx rfl (hb hby at_250) k) ?_
      show own_Ends p e below F (T51.setTop (mkF m 252 A49 [(.int (9 : Int32)), (.int (2 : Int32))]))
      refine own_step (fun _ k => XS.icmpYes X51.here hx rfl (pc0 := 252) (pc' := 262) rfl (hb hby at_252) rfl (flt (by decide : ¬ ((9 : Int32) < (2 : Int32)))).2.2.2 (by decide) (by decide) k) ?_
      show own_Ends p e below F (T51.setTop (mkF m 262 A49 []))
      obtain ⟨T52, h52, X52, e52, E52, A52, D52, -, st52⟩ := newO X51 hx hZ hown (own_g hw 7 rfl) (own_g hw 8 rfl) (own_g hw 9 rfl) e51 (g := (mkF m 262 A49 [])) rfl (hb hby at_262) (by decide) (by decide)
      obtain ⟨a52, g52⟩ : ∃ z, z = h51.size := ⟨_, rfl⟩
      rw [← g52] at A52 D52 st52
      have ge_a52 : n0 ≤ a52 := Nat.le_trans Z51 (Nat.le_of_eq g52.symm)
      have sz_a52 : h0.size ≤ a52 := Nat.le_trans SZ51 (Nat.le_of_eq g52.symm)
      have ne_a48_a52 : a48 ≠ a52 := Nat.ne_of_lt (by rw [g52]; exact V51.lt)
      have Z52 : n0 ≤ h52.size := Nat.le_trans Z51 E52.1
      have SZ52 : h0.size ≤ h52.size := Nat.le_trans SZ51 E52.1
      have hk := Nat.le_trans hk E52.1
      have hr52 := CHr.ext E52 hC51.1
      have hC52 := hC51.trans hr52
      have F52_coder : Fld Z h52 a52 "java/lang/String" "coder" "B" (.int (0 : Int32)) := D52 (Or.inr (own_g hw 33 rfl)) (ty := .byte) (by decide)
      have F52_value : Fld Z h52 a52 "java/lang/String" "value" "[B" .null := D52 (Or.inr (own_g hw 35 rfl)) (ty := (.array .byte)) (by decide)
      have sf_a52 : own_SL Z own_EL s.vm h52 a52 := own_SL.born hC51.1 E52 g52 A52.lt
      refine own_step st52 ?_
      show own_Ends p e below F (T52.setTop (mkF m 265 A49 [(.ref a52)]))
      refine own_step (fun _ k => XS.dup X52.here hx rfl (hb hby at_265) rfl rfl k) ?_
      show own_Ends p e below F (T52.setTop (mkF m 266 A49 [(.ref a52), (.ref a52)]))
      refine own_step (fun _ k => XS.aload X52.here hx rfl (hb hby at_266) (by rw [hA49]; rfl) rfl k) ?_
      show own_Ends p e below F (T52.setTop (mkF m 268 A49 [(.ref a48), (.ref a52), (.ref a52)]))
      obtain ⟨_, _, ⟨T53, L53, k53, n53⟩, -, X53, ⟨Lc53, hQ53, l53, y53, z53⟩, st53⟩ := X52.specialBack hx (y := (⟨"java/lang/String", "<init>", "([C)V"⟩ : MethodName)) rfl hown (mvT hZ (own_g hw 10 rfl)) (mvT hZ (own_g hw 11 rfl)) (mvT hZ (own_g hw 12 rfl)) (by decide) (StrChars.Road.backV (W := 1) hZ (fun d hd => hw d ((by decide +kernel : ∀ d ∈ StrChars.Road.words, d ∈ tables_1) d hd)) (kI := 4) (own_g hw 8 rfl) (cs := ([r9, r11] : List Int32)) (bs := ([r9, r11] : List Int32).map (fun c => c.toInt8.toInt32)) (n := 2) ge_a52 Z52 A52 F52_value F52_coder (V51.ext E52) (Sta.ext E52 (Sta.wr W51 (Sta.wr W50 (Sta.ext E48 S0_27)))) hz rfl rfl (by decide) (by decide) (own_cS rr9 (own_cS rr11 own_c0)) rfl (by decide) (by decide)) (g := (mkF m 268 A49 [(.ref a48), (.ref a52), (.ref a52)])) rfl (by rw [hml]; show A49.size = _; rw [hA49]; rfl) (Steps.refl _) (a := a52) (argsL := [(.ref a48)]) (rest := [(.ref a52)]) (lenOf pd__28_5bC_29V rfl) rfl (by show 2 * 0 + _ ≤ _; exact Nat.le_of_eq rfl) (hb hby at_268) (fun _ _ => ⟨rfl, e52, (by decide : 12 + 1 ≤ _), (by decide : 86 + 2 ≤ _)⟩)
      dsimp only [Pt.U, Pt.locs, Pt.cells, Pt.slots] at X53 l53 y53 z53 st53 hQ53
      subst l53 y53 z53
      obtain ⟨rfl, Nq53, Kq53, fe53, fc53, tt53, kt53, -, -, -, fv53, fa53⟩ := hQ53
      have N53 := Fr.app N51 Nq53
      have Z53 : n0 ≤ T53.heap.size := Nat.le_trans Z52 Kq53.1
      have SZ53 : h0.size ≤ T53.heap.size := Nat.le_trans SZ52 Kq53.1
      have S0_53 := own_Sta_keep (Sta.ext E52 (Sta.wr W51 (Sta.wr W50 (Sta.ext E48 S0_27)))) Kq53 (allS (own_ns_exa A52) all0)
      have str53 : own_Str Z T53.heap T53.heap.size a52 ([r9, r11] : List Int32) := own_Str.mk fe53 fc53 fv53 fa53 rfl rfl (own_cS rr9 (own_cS rr11 own_c0))
      have hr53 := CHr.keep Kq53 (sfS sf_a52.2 sf0) hC52.1
      have hC53 := hC52.trans hr53
      have hk := Nat.le_trans hk Kq53.1
      refine own_trans st53 ?_
      show own_Ends p e below F (T53.setTop (mkF m 271 A49 [(.ref a52)]))
      obtain ⟨A54, hA54⟩ : ∃ z : Array Slot, z = #[.val (.long p1), .second, .val (.int p2), .val (.int p3), .val (.int p4), .val (.int z2), .val (.int (2 : Int32)), .val (.int r9), .val (.int r11), .val (.int r13), .val (.int r15), .val (.int r17), .val (.int r19), .val (.int r21), .val (.int r23), .val (.int r25), .val (.int r27), .val (.ref a48), .val (.ref a52), .unset, .unset, .unset] := ⟨_, rfl⟩
      refine own_step (fun _ k => XS.astore X53.here hx rfl (hb hby at_271) rfl rfl (l' := A54) (by rw [hA49, hA54]; exact rfl) k) ?_
      show own_Ends p e below F (T53.setTop (mkF m 273 A54 []))
      refine own_step (fun _ k => XS.iload X53.here hx rfl (hb hby at_273) (by rw [hA54]; rfl) k) ?_
      show own_Ends p e below F (T53.setTop (mkF m 275 A54 [(.int (2 : Int32))]))
      refine own_step (fun _ k => XS.iconst X53.here hx rfl (hb hby at_275) k) ?_
      show own_Ends p e below F (T53.setTop (mkF m 276 A54 [(.int (2 : Int32)), (.int (2 : Int32))]))
      refine own_step (fun _ k => XS.icmpNo X53.here hx rfl (hb hby at_276) rfl (teq (by decide : (2 : Int32) = (2 : Int32))).2 k) ?_
      show own_Ends p e below F (T53.setTop (mkF m 279 A54 []))
      refine own_step (fun _ k => XS.iload X53.here hx rfl (hb hby at_279) (by rw [hA54]; rfl) k) ?_
      show own_Ends p e below F (T53.setTop (mkF m 281 A54 [(.int r9)]))
      refine own_step (fun _ k => XS.bipush X53.here hx rfl (hb hby at_281) k) ?_
      show own_Ends p e below F (T53.setTop (mkF m 283 A54 [(.int (45 : Int32)), (.int r9)]))
      have J283_56 : ∀ (z55 : Int32) (hz55 : z55 = (if r9 = (45 : Int32) then (if r11 = (118 : Int32) then (1 : Int32) else (0 : Int32)) else (0 : Int32))), own_Ends p e below F (T53.setTop (mkF m 298 #[.val (.long p1), .second, .val (.int p2), .val (.int p3), .val (.int p4), .val (.int z2), .val (.int (2 : Int32)), .val (.int r9), .val (.int r11), .val (.int r13), .val (.int r15), .val (.int r17), .val (.int r19), .val (.int r21), .val (.int r23), .val (.int r25), .val (.int r27), .val (.ref a48), .val (.ref a52), .unset, .unset, .unset] [(.int z55)])) := by
        intro z55 hz55
        obtain ⟨A58, hA58⟩ : ∃ z : Array Slot, z = #[.val (.long p1), .second, .val (.int p2), .val (.int p3), .val (.int p4), .val (.int z2), .val (.int (2 : Int32)), .val (.int r9), .val (.int r11), .val (.int r13), .val (.int r15), .val (.int r17), .val (.int r19), .val (.int r21), .val (.int r23), .val (.int r25), .val (.int r27), .val (.ref a48), .val (.ref a52), .unset, .unset, .unset] := ⟨_, rfl⟩
        rw [← hA58]
        show own_Ends p e below F (T53.setTop (mkF m 298 A58 [(.int z55)]))
        obtain ⟨A59, hA59⟩ : ∃ z : Array Slot, z = #[.val (.long p1), .second, .val (.int p2), .val (.int p3), .val (.int p4), .val (.int z2), .val (.int (2 : Int32)), .val (.int r9), .val (.int r11), .val (.int r13), .val (.int r15), .val (.int r17), .val (.int r19), .val (.int r21), .val (.int r23), .val (.int r25), .val (.int r27), .val (.ref a48), .val (.ref a52), .val (.int z55), .unset, .unset] := ⟨_, rfl⟩
        refine own_step (fun _ k => XS.istore X53.here hx rfl (hb hby at_298) rfl (l' := A59) (by rw [hA58, hA59]; exact rfl) k) ?_
        show own_Ends p e below F (T53.setTop (mkF m 300 A59 []))
        refine own_step (fun _ k => XS.iload X53.here hx rfl (hb hby at_300) (by rw [hA59]; rfl) k) ?_
        show own_Ends p e below F (T53.setTop (mkF m 302 A59 [(.int (2 : Int32))]))
        refine own_step (fun _ k => XS.bipush X53.here hx rfl (hb hby at_302) k) ?_
        show own_Ends p e below F (T53.setTop (mkF m 304 A59 [(.int (9 : Int32)), (.int (2 : Int32))]))
        refine own_step (fun _ k => XS.icmpYes X53.here hx rfl (pc0 := 304) (pc' := 374) rfl (hb hby at_304) rfl (feq (by decide : ¬ ((2 : Int32) = (9 : Int32)))).2 (by decide) (by decide) k) ?_
        show own_Ends p e below F (T53.setTop (mkF m 374 A59 []))
        refine own_step (fun _ k => XS.iconst X53.here hx rfl (hb hby at_374) k) ?_
        show own_Ends p e below F (T53.setTop (mkF m 375 A59 [(.int (0 : Int32))]))
        obtain ⟨A60, hA60⟩ : ∃ z : Array Slot, z = #[.val (.long p1), .second, .val (.int p2), .val (.int p3), .val (.int p4), .val (.int z2), .val (.int (2 : Int32)), .val (.int r9), .val (.int r11), .val (.int r13), .val (.int r15), .val (.int r17), .val (.int r19), .val (.int r21), .val (.int r23), .val (.int r25), .val (.int r27), .val (.ref a48), .val (.ref a52), .val (.int z55), .val (.int (0 : Int32)), .unset] := ⟨_, rfl⟩
        refine own_step (fun _ k => XS.istore X53.here hx rfl (hb hby at_375) rfl (l' := A60) (by rw [hA59, hA60]; exact rfl) k) ?_
        show own_Ends p e below F (T53.setTop (mkF m 377 A60 []))
        refine own_step (fun _ k => XS.iload X53.here hx rfl (hb hby at_377) (by rw [hA60]; rfl) k) ?_
        show own_Ends p e below F (T53.setTop (mkF m 379 A60 [(.int z55)]))
        have J379_62 : ∀ (z61 : Int32) (hz61 : z61 = (if z55 = (0 : Int32) then (0 : Int32) else (1 : Int32))), own_Ends p e below F (T53.setTop (mkF m 392 #[.val (.long p1), .second, .val (.int p2), .val (.int p3), .val (.int p4), .val (.int z2), .val (.int (2 : Int32)), .val (.int r9), .val (.int r11), .val (.int r13), .val (.int r15), .val (.int r17), .val (.int r19), .val (.int r21), .val (.int r23), .val (.int r25), .val (.int r27), .val (.ref a48), .val (.ref a52), .val (.int z55), .val (.int (0 : Int32)), .unset] [(.int z61)])) := by
          intro z61 hz61
          obtain ⟨A64, hA64⟩ : ∃ z : Array Slot, z = #[.val (.long p1), .second, .val (.int p2), .val (.int p3), .val (.int p4), .val (.int z2), .val (.int (2 : Int32)), .val (.int r9), .val (.int r11), .val (.int r13), .val (.int r15), .val (.int r17), .val (.int r19), .val (.int r21), .val (.int r23), .val (.int r25), .val (.int r27), .val (.ref a48), .val (.ref a52), .val (.int z55), .val (.int (0 : Int32)), .unset] := ⟨_, rfl⟩
          rw [← hA64]
          show own_Ends p e below F (T53.setTop (mkF m 392 A64 [(.int z61)]))
          obtain ⟨A65, hA65⟩ : ∃ z : Array Slot, z = #[.val (.long p1), .second, .val (.int p2), .val (.int p3), .val (.int p4), .val (.int z2), .val (.int (2 : Int32)), .val (.int r9), .val (.int r11), .val (.int r13), .val (.int r15), .val (.int r17), .val (.int r19), .val (.int r21), .val (.int r23), .val (.int r25), .val (.int r27), .val (.ref a48), .val (.ref a52), .val (.int z55), .val (.int (0 : Int32)), .val (.int z61)] := ⟨_, rfl⟩
          refine own_step (fun _ k => XS.istore X53.here hx rfl (hb hby at_392) rfl (l' := A65) (by rw [hA64, hA65]; exact rfl) k) ?_
          show own_Ends p e below F (T53.setTop (mkF m 394 A65 []))
          refine own_step (fun _ k => XS.aload X53.here hx rfl (hb hby at_394) (by rw [hA65]; rfl) rfl k) ?_
          show own_Ends p e below F (T53.setTop (mkF m 396 A65 [(.ref a52)]))
          obtain ⟨_, _, ⟨T66, L66, k66, n66⟩, -, X66, hS66, gr66, ⟨Lc66, hQ66, l66, y66, z66, hr66⟩, st66⟩ := callSS X53 hx (y := (⟨"com/example/facetwork/facetwork/cli/Logging", "isVerbose", "(Ljava/lang/String;)Z"⟩ : MethodName)) hown (mvT hZ (own_g hw 36 rfl)) (mvT hZ (own_g hw 37 rfl)) (mvT hZ (own_g hw 38 rfl)) (mvT hZ (own_g hw 39 rfl)) (by decide) (backOfSH (W := 0) (rm8 l Z a0 hw [] a52 ([r9, r11] : List Int32) T53.heap.size zc T53.heap n0 Z53 S0_53 hz (own_Str.top str53) (Nat.le_of_ble_eq_true rfl)) hZ (own_g hw 39 rfl) (own_g hw 38 rfl) (by decide) (by decide) (own_EW hw) hC53.1) (g := (mkF m 396 A65 [(.ref a52)])) rfl (by rw [hml]; show A65.size = _; rw [hA65]; rfl) (argsL := [(.ref a52)]) (rest := []) (lenOf pd__28Ljava_2flang_2fString_3b_29Z rfl) rfl (by show 2 * 0 + _ ≤ _; exact Nat.le_of_eq rfl) (hb hby at_396) (fun _ _ => ⟨rfl, rfl, (by decide : 13 + 4 ≤ _), (by decide : 88 + 52 ≤ _)⟩)
          dsimp only [Pt.U, Pt.locs, Pt.cells, Pt.slots] at X66 l66 y66 z66 st66 hQ66 hS66 gr66 hr66
          subst l66 y66 z66
          obtain ⟨rfl, Nq66, Kq66⟩ := hQ66
          have N66 := Fr.app N53 Nq66
          have Z66 : n0 ≤ T66.heap.size := Nat.le_trans Z53 Kq66.1
          have SZ66 : h0.size ≤ T66.heap.size := Nat.le_trans SZ53 Kq66.1
          have S0_66 := own_Sta_keep S0_53 Kq66 all0
          have hC66 := hC53.trans hr66
          have hZ := own_warm hZ hS66
          have hown := own_find hown hS66
          have hS := foldS hS (by exact hk) hS66 gr66
          have hk := Nat.le_refl T66.heap.size
          refine own_trans st66 ?_
          show own_Ends p e below F (T66.setTop (mkF m 399 A65 [(.int (own_ver ([r9, r11] : List Int32)))]))
          refine own_step (fun _ k => XS.iload X66.here hx rfl (hb hby at_399) (by rw [hA65]; rfl) k) ?_
          show own_Ends p e below F (T66.setTop (mkF m 401 A65 [(.int z61), (.int (own_ver ([r9, r11] : List Int32)))]))
          refine own_step (fun _ k => XS.icmpNo X66.here hx rfl (hb hby at_401) rfl (teq (own_v2 hz55 hz61 : (own_ver ([r9, r11] : List Int32)) = z61)).2 k) ?_
          show own_Ends p e below F (T66.setTop (mkF m 404 A65 []))
          refine own_step (fun _ k => XS.iconst X66.here hx rfl (hb hby at_404) k) ?_
          show own_Ends p e below F (T66.setTop (mkF m 405 A65 [(.int (1 : Int32))]))
          refine own_step (fun _ k => XS.goto X66.here hx rfl (pc0 := 405) (pc' := 409) rfl (hb hby at_405) (by decide) (by decide) k) ?_
          show own_Ends p e below F (T66.setTop (mkF m 409 A65 [(.int (1 : Int32))]))
          rw [hF]
          exact own_retH X66 hS (by exact hk) hh rfl hZ (own_EW hw) hC66 (v := (some (.int (nar .boolean (1 : Int32))))) (fun h => by rw [Bd.returns] at h; cases h) Bd.notSynchronized (fun fs hr => retN X66 hx (t := .boolean) Bd.returns (by simp) (hb hby at_409) hr) (by decide) (by decide) (by exact ⟨rfl, N66⟩)
        by_cases c379_67 : z55 = (0 : Int32)
        · refine own_step (fun _ k => XS.ifNo X53.here hx rfl (hb hby at_379) rfl ((if0 _ _).trans (teq c379_67).2) k) ?_
          show own_Ends p e below F (T53.setTop (mkF m 382 A60 []))
          refine own_step (fun _ k => XS.iload X53.here hx rfl (hb hby at_382) (by rw [hA60]; rfl) k) ?_
          show own_Ends p e below F (T53.setTop (mkF m 384 A60 [(.int (0 : Int32))]))
          refine own_step (fun _ k => XS.ifYes X53.here hx rfl (pc0 := 384) (pc' := 391) rfl (hb hby at_384) rfl ((if0 _ _).trans (teq (by decide : (0 : Int32) = (0 : Int32))).1) (by decide) (by decide) k) ?_
          show own_Ends p e below F (T53.setTop (mkF m 391 A60 []))
          refine own_step (fun _ k => XS.iconst X53.here hx rfl (hb hby at_391) k) ?_
          show own_Ends p e below F (T53.setTop (mkF m 392 A60 [(.int (0 : Int32))]))
          rw [hA60]
          exact J379_62 _ (by simp only [if_true, if_false, c379_67])
        · refine own_step (fun _ k => XS.ifYes X53.here hx rfl (pc0 := 379) (pc' := 387) rfl (hb hby at_379) rfl ((if0 _ _).trans (feq c379_67).2) (by decide) (by decide) k) ?_
          show own_Ends p e below F (T53.setTop (mkF m 387 A60 []))
          refine own_step (fun _ k => XS.iconst X53.here hx rfl (hb hby at_387) k) ?_
          show own_Ends p e below F (T53.setTop (mkF m 388 A60 [(.int (1 : Int32))]))
          refine own_step (fun _ k => XS.goto X53.here hx rfl (pc0 := 388) (pc' := 392) rfl (hb hby at_388) (by decide) (by decide) k) ?_
          show own_Ends p e below F (T53.setTop (mkF m 392 A60 [(.int (1 : Int32))]))
          rw [hA60]
          exact J379_62 _ (by simp only [if_true, if_false, c379_67])
      by_cases c283_68 : r9 = (45 : Int32)
      · refine own_step (fun _ k => XS.icmpNo X53.here hx rfl (hb hby at_283) rfl (teq c283_68).2 k) ?_
        show own_Ends p e below F (T53.setTop (mkF m 286 A54 []))
        refine own_step (fun _ k => XS.iload X53.here hx rfl (hb hby at_286) (by rw [hA54]; rfl) k) ?_
        show own_Ends p e below F (T53.setTop (mkF m 288 A54 [(.int r11)]))
        refine own_step (fun _ k => XS.bipush X53.here hx rfl (hb hby at_288) k) ?_
        show own_Ends p e below F (T53.setTop (mkF m 290 A54 [(.int (118 : Int32)), (.int r11)]))
        by_cases c290_69 : r11 = (118 : Int32)
        · refine own_step (fun _ k => XS.icmpNo X53.here hx rfl (hb hby at_290) rfl (teq c290_69).2 k) ?_
          show own_Ends p e below F (T53.setTop (mkF m 293 A54 []))
          refine own_step (fun _ k => XS.iconst X53.here hx rfl (hb hby at_293) k) ?_
          show own_Ends p e below F (T53.setTop (mkF m 294 A54 [(.int (1 : Int32))]))
          refine own_step (fun _ k => XS.goto X53.here hx rfl (pc0 := 294) (pc' := 298) rfl (hb hby at_294) (by decide) (by decide) k) ?_
          show own_Ends p e below F (T53.setTop (mkF m 298 A54 [(.int (1 : Int32))]))
          rw [hA54]
          exact J283_56 _ (by first | (simp only [if_true, if_false, c283_68, c290_69]; done) | ((first | rw [if_pos c283_68] | rw [if_neg c283_68] | skip); (first | rw [if_pos c290_69] | rw [if_neg c290_69] | skip)))
        · refine own_step (fun _ k => XS.icmpYes X53.here hx rfl (pc0 := 290) (pc' := 297) rfl (hb hby at_290) rfl (feq c290_69).2 (by decide) (by decide) k) ?_
          show own_Ends p e below F (T53.setTop (mkF m 297 A54 []))
          refine own_step (fun _ k => XS.iconst X53.here hx rfl (hb hby at_297) k) ?_
          show own_Ends p e below F (T53.setTop (mkF m 298 A54 [(.int (0 : Int32))]))
          rw [hA54]
          exact J283_56 _ (by first | (simp only [if_true, if_false, c283_68, c290_69]; done) | ((first | rw [if_pos c283_68] | rw [if_neg c283_68] | skip); (first | rw [if_pos c290_69] | rw [if_neg c290_69] | skip)))
      · refine own_step (fun _ k => XS.icmpYes X53.here hx rfl (pc0 := 283) (pc' := 297) rfl (hb hby at_283) rfl (feq c283_68).2 (by decide) (by decide) k) ?_
        show own_Ends p e below F (T53.setTop (mkF m 297 A54 []))
        refine own_step (fun _ k => XS.iconst X53.here hx rfl (hb hby at_297) k) ?_
        show own_Ends p e below F (T53.setTop (mkF m 298 A54 [(.int (0 : Int32))]))
        rw [hA54]
        exact J283_56 _ (by simp only [if_true, if_false, c283_68])
    · show own_Ends p e below F (T27.setTop (mkF m 129 A28 []))
      refine own_step (fun _ k => XS.iload X27.here hx rfl (hb hby at_129) (by rw [hA28]; rfl) k) ?_
      show own_Ends p e below F (T27.setTop (mkF m 131 A28 [(.int (3 : Int32))]))
      obtain ⟨T70, h70, k70, X70, e70, E70, A70, st70⟩ := newP X27 hx hZ (own_g hw 6 rfl) rfl (g := (mkF m 131 A28 [(.int (3 : Int32))])) rfl (hb hby at_131) rfl (by decide) (cap := 3) (by decide) (by decide) (by decide) (by decide)
      obtain ⟨a70, g70⟩ : ∃ z, z = T27.heap.size := ⟨_, rfl⟩
      rw [← g70] at A70 st70
      have ge_a70 : n0 ≤ a70 := Nat.le_trans Z27 (Nat.le_of_eq g70.symm)
      have sz_a70 : h0.size ≤ a70 := Nat.le_trans SZ27 (Nat.le_of_eq g70.symm)
      have Z70 : n0 ≤ h70.size := Nat.le_trans Z27 E70.1
      have SZ70 : h0.size ≤ h70.size := Nat.le_trans SZ27 E70.1
      have hk := Nat.le_trans hk E70.1
      have hr70 := CHr.ext E70 hC27.1
      have hC70 := hC27.trans hr70
      have V70 : Arv Z h70 a70 k70 .char (3 : Int32) [(.int (0 : Int32)), (.int (0 : Int32)), (.int (0 : Int32))] (.int (0 : Int32)) := Arv.pad (Arv.new A70 (by decide)) (pad_rep [] _ 3)
      have sf_a70 : own_SL Z own_EL s.vm h70 a70 := own_SL.born hC27.1 E70 g70 V70.lt
      refine own_step st70 ?_
      show own_Ends p e below F (T70.setTop (mkF m 133 A28 [(.ref a70)]))
      obtain ⟨A71, hA71⟩ : ∃ z : Array Slot, z = #[.val (.long p1), .second, .val (.int p2), .val (.int p3), .val (.int p4), .val (.int z2), .val (.int (3 : Int32)), .val (.int r9), .val (.int r11), .val (.int r13), .val (.int r15), .val (.int r17), .val (.int r19), .val (.int r21), .val (.int r23), .val (.int r25), .val (.int r27), .val (.ref a70), .unset, .unset, .unset, .unset] := ⟨_, rfl⟩
      refine own_step (fun _ k => XS.astore X70.here hx rfl (hb hby at_133) rfl rfl (l' := A71) (by rw [hA28, hA71]; exact rfl) k) ?_
      show own_Ends p e below F (T70.setTop (mkF m 135 A71 []))
      refine own_step (fun _ k => XS.iload X70.here hx rfl (hb hby at_135) (by rw [hA71]; rfl) k) ?_
      show own_Ends p e below F (T70.setTop (mkF m 137 A71 [(.int (3 : Int32))]))
      refine own_step (fun _ k => XS.ifNo X70.here hx rfl (hb hby at_137) rfl ((if0 _ _).trans (tlt (by decide : (0 : Int32) < (3 : Int32))).2.2.2) k) ?_
      show own_Ends p e below F (T70.setTop (mkF m 140 A71 []))
      refine own_step (fun _ k => XS.aload X70.here hx rfl (hb hby at_140) (by rw [hA71]; rfl) rfl k) ?_
      show own_Ends p e below F (T70.setTop (mkF m 142 A71 [(.ref a70)]))
      refine own_step (fun _ k => XS.iconst X70.here hx rfl (hb hby at_142) k) ?_
      show own_Ends p e below F (T70.setTop (mkF m 143 A71 [(.int (0 : Int32)), (.ref a70)]))
      refine own_step (fun _ k => XS.iload X70.here hx rfl (hb hby at_143) (by rw [hA71]; rfl) k) ?_
      show own_Ends p e below F (T70.setTop (mkF m 145 A71 [(.int r9), (.int (0 : Int32)), (.ref a70)]))
      obtain ⟨cl72, Ar72, q72, S72, M72, H72, G72⟩ := id V70
      have hin72 : ¬ ((0 : Int32) < 0 ∨ cl72.slots.size ≤ ((0 : Int32) : Int32).toNatClampNeg) := inb_of S72 ⟨by decide, by decide⟩
      obtain ⟨T72, h72, X72, e72, W72, st72⟩ := stC X70 hx hZ e70 Ar72 (j := (0 : Int32)) hin72 (g := (mkF m 145 A71 [(.int r9), (.int (0 : Int32)), (.ref a70)])) rfl rfl (hb hby at_145)
      rw [own_narC rr9] at W72
      have V72 := Arv.set Ar72 q72 S72 M72 H72 G72 (own_fitC rr9) W72 0 rfl (Nat.le_of_ble_eq_true rfl)
      have V72 : Arv Z h72 a70 k70 .char (3 : Int32) [(.int r9), (.int (0 : Int32)), (.int (0 : Int32))] (.int (0 : Int32)) := V72
      refine own_step st72 ?_
      have N72 := Fr.snoc X72 N27 ge_a70
      have Z72 : n0 ≤ h72.size := by rw [W72.size]; exact Z70
      have SZ72 : h0.size ≤ h72.size := by rw [W72.size]; exact SZ70
      have hk := (W72.size.symm ▸ hk : _ ≤ h72.size)
      have hr72 := CHr.wr W72 sf_a70.2 hC70.1
      have hC72 := hC70.trans hr72
      show own_Ends p e below F (T72.setTop (mkF m 146 A71 []))
      refine own_step (fun _ k => XS.iload X72.here hx rfl (hb hby at_146) (by rw [hA71]; rfl) k) ?_
      show own_Ends p e below F (T72.setTop (mkF m 148 A71 [(.int (3 : Int32))]))
      refine own_step (fun _ k => XS.iconst X72.here hx rfl (hb hby at_148) k) ?_
      show own_Ends p e below F (T72.setTop (mkF m 149 A71 [(.int (1 : Int32)), (.int (3 : Int32))]))
      refine own_step (fun _ k => XS.icmpNo X72.here hx rfl (hb hby at_149) rfl (tlt (by decide : (1 : Int32) < (3 : Int32))).2.2.2 k) ?_
      show own_Ends p e below F (T72.setTop (mkF m 152 A71 []))
      refine own_step (fun _ k => XS.aload X72.here hx rfl (hb hby at_152) (by rw [hA71]; rfl) rfl k) ?_
      show own_Ends p e below F (T72.setTop (mkF m 154 A71 [(.ref a70)]))
      refine own_step (fun _ k => XS.iconst X72.here hx rfl (hb hby at_154) k) ?_
      show own_Ends p e below F (T72.setTop (mkF m 155 A71 [(.int (1 : Int32)), (.ref a70)]))
      refine own_step (fun _ k => XS.iload X72.here hx rfl (hb hby at_155) (by rw [hA71]; rfl) k) ?_
      show own_Ends p e below F (T72.setTop (mkF m 157 A71 [(.int r11), (.int (1 : Int32)), (.ref a70)]))
      obtain ⟨cl73, Ar73, q73, S73, M73, H73, G73⟩ := id V72
      have hin73 : ¬ ((1 : Int32) < 0 ∨ cl73.slots.size ≤ ((1 : Int32) : Int32).toNatClampNeg) := inb_of S73 ⟨by decide, by decide⟩
      obtain ⟨T73, h73, X73, e73, W73, st73⟩ := stC X72 hx hZ e72 Ar73 (j := (1 : Int32)) hin73 (g := (mkF m 157 A71 [(.int r11), (.int (1 : Int32)), (.ref a70)])) rfl rfl (hb hby at_157)
      rw [own_narC rr11] at W73
      have V73 := Arv.set Ar73 q73 S73 M73 H73 G73 (own_fitC rr11) W73 1 rfl (Nat.le_of_ble_eq_true rfl)
      have V73 : Arv Z h73 a70 k70 .char (3 : Int32) [(.int r9), (.int r11), (.int (0 : Int32))] (.int (0 : Int32)) := V73
      refine own_step st73 ?_
      have N73 := Fr.snoc X73 N72 ge_a70
      have Z73 : n0 ≤ h73.size := by rw [W73.size]; exact Z72
      have SZ73 : h0.size ≤ h73.size := by rw [W73.size]; exact SZ72
      have hk := (W73.size.symm ▸ hk : _ ≤ h73.size)
      have hr73 := CHr.wr W73 (own_SL.go sf_a70 hr72).2 hC72.1
      have hC73 := hC72.trans hr73
      show own_Ends p e below F (T73.setTop (mkF m 158 A71 []))
      refine own_step (fun _ k => XS.iload X73.here hx rfl (hb hby at_158) (by rw [hA71]; rfl) k) ?_
      show own_Ends p e below F (T73.setTop (mkF m 160 A71 [(.int (3 : Int32))]))
      refine own_step (fun _ k => XS.iconst X73.here hx rfl (hb hby at_160) k) ?_
      show own_Ends p e below F (T73.setTop (mkF m 161 A71 [(.int (2 : Int32)), (.int (3 : Int32))]))
      refine own_step (fun _ k => XS.icmpNo X73.here hx rfl (hb hby at_161) rfl (tlt (by decide : (2 : Int32) < (3 : Int32))).2.2.2 k) ?_
      show own_Ends p e below F (T73.setTop (mkF m 164 A71 []))
      refine own_step (fun _ k => XS.aload X73.here hx rfl (hb hby at_164) (by rw [hA71]; rfl) rfl k) ?_
      show own_Ends p e below F (T73.setTop (mkF m 166 A71 [(.ref a70)]))
      refine own_step (fun _ k => XS.iconst X73.here hx rfl (hb hby at_166) k) ?_
      show own_Ends p e below F (T73.setTop (mkF m 167 A71 [(.int (2 : Int32)), (.ref a70)]))
      refine own_step (fun _ k => XS.iload X73.here hx rfl (hb hby at_167) (by rw [hA71]; rfl) k) ?_
      show own_Ends p e below F (T73.setTop (mkF m 169 A71 [(.int r13), (.int (2 : Int32)), (.ref a70)]))
      obtain ⟨cl74, Ar74, q74, S74, M74, H74, G74⟩ := id V73
      have hin74 : ¬ ((2 : Int32) < 0 ∨ cl74.slots.size ≤ ((2 : Int32) : Int32).toNatClampNeg) := inb_of S74 ⟨by decide, by decide⟩
      obtain ⟨T74, h74, X74, e74, W74, st74⟩ := stC X73 hx hZ e73 Ar74 (j := (2 : Int32)) hin74 (g := (mkF m 169 A71 [(.int r13), (.int (2 : Int32)), (.ref a70)])) rfl rfl (hb hby at_169)
      rw [own_narC rr13] at W74
      have V74 := Arv.set Ar74 q74 S74 M74 H74 G74 (own_fitC rr13) W74 2 rfl (Nat.le_of_ble_eq_true rfl)
      have V74 : Arv Z h74 a70 k70 .char (3 : Int32) [(.int r9), (.int r11), (.int r13)] (.int (0 : Int32)) := V74
      refine own_step st74 ?_
      have N74 := Fr.snoc X74 N73 ge_a70
      have Z74 : n0 ≤ h74.size := by rw [W74.size]; exact Z73
      have SZ74 : h0.size ≤ h74.size := by rw [W74.size]; exact SZ73
      have hk := (W74.size.symm ▸ hk : _ ≤ h74.size)
      have hr74 := CHr.wr W74 (own_SL.go (own_SL.go sf_a70 hr72) hr73).2 hC73.1
      have hC74 := hC73.trans hr74
      show own_Ends p e below F (T74.setTop (mkF m 170 A71 []))
      refine own_step (fun _ k => XS.iload X74.here hx rfl (hb hby at_170) (by rw [hA71]; rfl) k) ?_
      show own_Ends p e below F (T74.setTop (mkF m 172 A71 [(.int (3 : Int32))]))
      refine own_step (fun _ k => XS.iconst X74.here hx rfl (hb hby at_172) k) ?_
      show own_Ends p e below F (T74.setTop (mkF m 173 A71 [(.int (3 : Int32)), (.int (3 : Int32))]))
      refine own_step (fun _ k => XS.icmpYes X74.here hx rfl (pc0 := 173) (pc' := 182) rfl (hb hby at_173) rfl (flt (by decide : ¬ ((3 : Int32) < (3 : Int32)))).2.2.2 (by decide) (by decide) k) ?_
      show own_Ends p e below F (T74.setTop (mkF m 182 A71 []))
      refine own_step (fun _ k => XS.iload X74.here hx rfl (hb hby at_182) (by rw [hA71]; rfl) k) ?_
      show own_Ends p e below F (T74.setTop (mkF m 184 A71 [(.int (3 : Int32))]))
      refine own_step (fun _ k => XS.iconst X74.here hx rfl (hb hby at_184) k) ?_
      show own_Ends p e below F (T74.setTop (mkF m 185 A71 [(.int (4 : Int32)), (.int (3 : Int32))]))
      refine own_step (fun _ k => XS.icmpYes X74.here hx rfl (pc0 := 185) (pc' := 194) rfl (hb hby at_185) rfl (flt (by decide : ¬ ((4 : Int32) < (3 : Int32)))).2.2.2 (by decide) (by decide) k) ?_
      show own_Ends p e below F (T74.setTop (mkF m 194 A71 []))
      refine own_step (fun _ k => XS.iload X74.here hx rfl (hb hby at_194) (by rw [hA71]; rfl) k) ?_
      show own_Ends p e below F (T74.setTop (mkF m 196 A71 [(.int (3 : Int32))]))
      refine own_step (fun _ k => XS.iconst X74.here hx rfl (hb hby at_196) k) ?_
      show own_Ends p e below F (T74.setTop (mkF m 197 A71 [(.int (5 : Int32)), (.int (3 : Int32))]))
      refine own_step (fun _ k => XS.icmpYes X74.here hx rfl (pc0 := 197) (pc' := 206) rfl (hb hby at_197) rfl (flt (by decide : ¬ ((5 : Int32) < (3 : Int32)))).2.2.2 (by decide) (by decide) k) ?_
      show own_Ends p e below F (T74.setTop (mkF m 206 A71 []))
      refine own_step (fun _ k => XS.iload X74.here hx rfl (hb hby at_206) (by rw [hA71]; rfl) k) ?_
      show own_Ends p e below F (T74.setTop (mkF m 208 A71 [(.int (3 : Int32))]))
      refine own_step (fun _ k => XS.bipush X74.here hx rfl (hb hby at_208) k) ?_
      show own_Ends p e below F (T74.setTop (mkF m 210 A71 [(.int (6 : Int32)), (.int (3 : Int32))]))
      refine own_step (fun _ k => XS.icmpYes X74.here hx rfl (pc0 := 210) (pc' := 220) rfl (hb hby at_210) rfl (flt (by decide : ¬ ((6 : Int32) < (3 : Int32)))).2.2.2 (by decide) (by decide) k) ?_
      show own_Ends p e below F (T74.setTop (mkF m 220 A71 []))
      refine own_step (fun _ k => XS.iload X74.here hx rfl (hb hby at_220) (by rw [hA71]; rfl) k) ?_
      show own_Ends p e below F (T74.setTop (mkF m 222 A71 [(.int (3 : Int32))]))
      refine own_step (fun _ k => XS.bipush X74.here hx rfl (hb hby at_222) k) ?_
      show own_Ends p e below F (T74.setTop (mkF m 224 A71 [(.int (7 : Int32)), (.int (3 : Int32))]))
      refine own_step (fun _ k => XS.icmpYes X74.here hx rfl (pc0 := 224) (pc' := 234) rfl (hb hby at_224) rfl (flt (by decide : ¬ ((7 : Int32) < (3 : Int32)))).2.2.2 (by decide) (by decide) k) ?_
      show own_Ends p e below F (T74.setTop (mkF m 234 A71 []))
      refine own_step (fun _ k => XS.iload X74.here hx rfl (hb hby at_234) (by rw [hA71]; rfl) k) ?_
      show own_Ends p e below F (T74.setTop (mkF m 236 A71 [(.int (3 : Int32))]))
      refine own_step (fun _ k => XS.bipush X74.here hx rfl (hb hby at_236) k) ?_
      show own_Ends p e below F (T74.setTop (mkF m 238 A71 [(.int (8 : Int32)), (.int (3 : Int32))]))
      refine own_step (fun _ k => XS.icmpYes X74.here hx rfl (pc0 := 238) (pc' := 248) rfl (hb hby at_238) rfl (flt (by decide : ¬ ((8 : Int32) < (3 : Int32)))).2.2.2 (by decide) (by decide) k) ?_
      show own_Ends p e below F (T74.setTop (mkF m 248 A71 []))
      refine own_step (fun _ k => XS.iload X74.here hx rfl (hb hby at_248) (by rw [hA71]; rfl) k) ?_
      show own_Ends p e below F (T74.setTop (mkF m 250 A71 [(.int (3 : Int32))]))
      refine own_step (fun _ k => XS.bipush X74.here hx rfl (hb hby at_250) k) ?_
      show own_Ends p e below F (T74.setTop (mkF m 252 A71 [(.int (9 : Int32)), (.int (3 : Int32))]))
      refine own_step (fun _ k => XS.icmpYes X74.here hx rfl (pc0 := 252) (pc' := 262) rfl (hb hby at_252) rfl (flt (by decide : ¬ ((9 : Int32) < (3 : Int32)))).2.2.2 (by decide) (by decide) k) ?_
      show own_Ends p e below F (T74.setTop (mkF m 262 A71 []))
      obtain ⟨T75, h75, X75, e75, E75, A75, D75, -, st75⟩ := newO X74 hx hZ hown (own_g hw 7 rfl) (own_g hw 8 rfl) (own_g hw 9 rfl) e74 (g := (mkF m 262 A71 [])) rfl (hb hby at_262) (by decide) (by decide)
      obtain ⟨a75, g75⟩ : ∃ z, z = h74.size := ⟨_, rfl⟩
      rw [← g75] at A75 D75 st75
      have ge_a75 : n0 ≤ a75 := Nat.le_trans Z74 (Nat.le_of_eq g75.symm)
      have sz_a75 : h0.size ≤ a75 := Nat.le_trans SZ74 (Nat.le_of_eq g75.symm)
      have ne_a70_a75 : a70 ≠ a75 := Nat.ne_of_lt (by rw [g75]; exact V74.lt)
      have Z75 : n0 ≤ h75.size := Nat.le_trans Z74 E75.1
      have SZ75 : h0.size ≤ h75.size := Nat.le_trans SZ74 E75.1
      have hk := Nat.le_trans hk E75.1
      have hr75 := CHr.ext E75 hC74.1
      have hC75 := hC74.trans hr75
      have F75_coder : Fld Z h75 a75 "java/lang/String" "coder" "B" (.int (0 : Int32)) := D75 (Or.inr (own_g hw 33 rfl)) (ty := .byte) (by decide)
      have F75_value : Fld Z h75 a75 "java/lang/String" "value" "[B" .null := D75 (Or.inr (own_g hw 35 rfl)) (ty := (.array .byte)) (by decide)
      have sf_a75 : own_SL Z own_EL s.vm h75 a75 := own_SL.born hC74.1 E75 g75 A75.lt
      refine own_step st75 ?_
      show own_Ends p e below F (T75.setTop (mkF m 265 A71 [(.ref a75)]))
      refine own_step (fun _ k => XS.dup X75.here hx rfl (hb hby at_265) rfl rfl k) ?_
      show own_Ends p e below F (T75.setTop (mkF m 266 A71 [(.ref a75), (.ref a75)]))
      refine own_step (fun _ k => XS.aload X75.here hx rfl (hb hby at_266) (by rw [hA71]; rfl) rfl k) ?_
      show own_Ends p e below F (T75.setTop (mkF m 268 A71 [(.ref a70), (.ref a75), (.ref a75)]))
      obtain ⟨_, _, ⟨T76, L76, k76, n76⟩, -, X76, ⟨Lc76, hQ76, l76, y76, z76⟩, st76⟩ := X75.specialBack hx (y := (⟨"java/lang/String", "<init>", "([C)V"⟩ : MethodName)) rfl hown (mvT hZ (own_g hw 10 rfl)) (mvT hZ (own_g hw 11 rfl)) (mvT hZ (own_g hw 12 rfl)) (by decide) (StrChars.Road.backV (W := 1) hZ (fun d hd => hw d ((by decide +kernel : ∀ d ∈ StrChars.Road.words, d ∈ tables_1) d hd)) (kI := 4) (own_g hw 8 rfl) (cs := ([r9, r11, r13] : List Int32)) (bs := ([r9, r11, r13] : List Int32).map (fun c => c.toInt8.toInt32)) (n := 3) ge_a75 Z75 A75 F75_value F75_coder (V74.ext E75) (Sta.ext E75 (Sta.wr W74 (Sta.wr W73 (Sta.wr W72 (Sta.ext E70 S0_27))))) hz rfl rfl (by decide) (by decide) (own_cS rr9 (own_cS rr11 (own_cS rr13 own_c0))) rfl (by decide) (by decide)) (g := (mkF m 268 A71 [(.ref a70), (.ref a75), (.ref a75)])) rfl (by rw [hml]; show A71.size = _; rw [hA71]; rfl) (Steps.refl _) (a := a75) (argsL := [(.ref a70)]) (rest := [(.ref a75)]) (lenOf pd__28_5bC_29V rfl) rfl (by show 2 * 0 + _ ≤ _; exact Nat.le_of_eq rfl) (hb hby at_268) (fun _ _ => ⟨rfl, e75, (by decide : 12 + 1 ≤ _), (by decide : 87 + 3 ≤ _)⟩)
      dsimp only [Pt.U, Pt.locs, Pt.cells, Pt.slots] at X76 l76 y76 z76 st76 hQ76
      subst l76 y76 z76
      obtain ⟨rfl, Nq76, Kq76, fe76, fc76, tt76, kt76, -, -, -, fv76, fa76⟩ := hQ76
      have N76 := Fr.app N74 Nq76
      have Z76 : n0 ≤ T76.heap.size := Nat.le_trans Z75 Kq76.1
      have SZ76 : h0.size ≤ T76.heap.size := Nat.le_trans SZ75 Kq76.1
      have S0_76 := own_Sta_keep (Sta.ext E75 (Sta.wr W74 (Sta.wr W73 (Sta.wr W72 (Sta.ext E70 S0_27))))) Kq76 (allS (own_ns_exa A75) all0)
      have str76 : own_Str Z T76.heap T76.heap.size a75 ([r9, r11, r13] : List Int32) := own_Str.mk fe76 fc76 fv76 fa76 rfl rfl (own_cS rr9 (own_cS rr11 (own_cS rr13 own_c0)))
      have hr76 := CHr.keep Kq76 (sfS sf_a75.2 sf0) hC75.1
      have hC76 := hC75.trans hr76
      have hk := Nat.le_trans hk Kq76.1
      refine own_trans st76 ?_
      show own_Ends p e below F (T76.setTop (mkF m 271 A71 [(.ref a75)]))
      obtain ⟨A77, hA77⟩ : ∃ z : Array Slot, z = #[.val (.long p1), .second, .val (.int p2), .val (.int p3), .val (.int p4), .val (.int z2), .val (.int (3 : Int32)), .val (.int r9), .val (.int r11), .val (.int r13), .val (.int r15), .val (.int r17), .val (.int r19), .val (.int r21), .val (.int r23), .val (.int r25), .val (.int r27), .val (.ref a70), .val (.ref a75), .unset, .unset, .unset] := ⟨_, rfl⟩
      refine own_step (fun _ k => XS.astore X76.here hx rfl (hb hby at_271) rfl rfl (l' := A77) (by rw [hA71, hA77]; exact rfl) k) ?_
      show own_Ends p e below F (T76.setTop (mkF m 273 A77 []))
      refine own_step (fun _ k => XS.iload X76.here hx rfl (hb hby at_273) (by rw [hA77]; rfl) k) ?_
      show own_Ends p e below F (T76.setTop (mkF m 275 A77 [(.int (3 : Int32))]))
      refine own_step (fun _ k => XS.iconst X76.here hx rfl (hb hby at_275) k) ?_
      show own_Ends p e below F (T76.setTop (mkF m 276 A77 [(.int (2 : Int32)), (.int (3 : Int32))]))
      refine own_step (fun _ k => XS.icmpYes X76.here hx rfl (pc0 := 276) (pc' := 297) rfl (hb hby at_276) rfl (feq (by decide : ¬ ((3 : Int32) = (2 : Int32)))).2 (by decide) (by decide) k) ?_
      show own_Ends p e below F (T76.setTop (mkF m 297 A77 []))
      refine own_step (fun _ k => XS.iconst X76.here hx rfl (hb hby at_297) k) ?_
      show own_Ends p e below F (T76.setTop (mkF m 298 A77 [(.int (0 : Int32))]))
      obtain ⟨A78, hA78⟩ : ∃ z : Array Slot, z = #[.val (.long p1), .second, .val (.int p2), .val (.int p3), .val (.int p4), .val (.int z2), .val (.int (3 : Int32)), .val (.int r9), .val (.int r11), .val (.int r13), .val (.int r15), .val (.int r17), .val (.int r19), .val (.int r21), .val (.int r23), .val (.int r25), .val (.int r27), .val (.ref a70), .val (.ref a75), .val (.int (0 : Int32)), .unset, .unset] := ⟨_, rfl⟩
      refine own_step (fun _ k => XS.istore X76.here hx rfl (hb hby at_298) rfl (l' := A78) (by rw [hA77, hA78]; exact rfl) k) ?_
      show own_Ends p e below F (T76.setTop (mkF m 300 A78 []))
      refine own_step (fun _ k => XS.iload X76.here hx rfl (hb hby at_300) (by rw [hA78]; rfl) k) ?_
      show own_Ends p e below F (T76.setTop (mkF m 302 A78 [(.int (3 : Int32))]))
      refine own_step (fun _ k => XS.bipush X76.here hx rfl (hb hby at_302) k) ?_
      show own_Ends p e below F (T76.setTop (mkF m 304 A78 [(.int (9 : Int32)), (.int (3 : Int32))]))
      refine own_step (fun _ k => XS.icmpYes X76.here hx rfl (pc0 := 304) (pc' := 374) rfl (hb hby at_304) rfl (feq (by decide : ¬ ((3 : Int32) = (9 : Int32)))).2 (by decide) (by decide) k) ?_
      show own_Ends p e below F (T76.setTop (mkF m 374 A78 []))
      refine own_step (fun _ k => XS.iconst X76.here hx rfl (hb hby at_374) k) ?_
      show own_Ends p e below F (T76.setTop (mkF m 375 A78 [(.int (0 : Int32))]))
      obtain ⟨A79, hA79⟩ : ∃ z : Array Slot, z = #[.val (.long p1), .second, .val (.int p2), .val (.int p3), .val (.int p4), .val (.int z2), .val (.int (3 : Int32)), .val (.int r9), .val (.int r11), .val (.int r13), .val (.int r15), .val (.int r17), .val (.int r19), .val (.int r21), .val (.int r23), .val (.int r25), .val (.int r27), .val (.ref a70), .val (.ref a75), .val (.int (0 : Int32)), .val (.int (0 : Int32)), .unset] := ⟨_, rfl⟩
      refine own_step (fun _ k => XS.istore X76.here hx rfl (hb hby at_375) rfl (l' := A79) (by rw [hA78, hA79]; exact rfl) k) ?_
      show own_Ends p e below F (T76.setTop (mkF m 377 A79 []))
      refine own_step (fun _ k => XS.iload X76.here hx rfl (hb hby at_377) (by rw [hA79]; rfl) k) ?_
      show own_Ends p e below F (T76.setTop (mkF m 379 A79 [(.int (0 : Int32))]))
      refine own_step (fun _ k => XS.ifNo X76.here hx rfl (hb hby at_379) rfl ((if0 _ _).trans (teq (by decide : (0 : Int32) = (0 : Int32))).2) k) ?_
      show own_Ends p e below F (T76.setTop (mkF m 382 A79 []))
      refine own_step (fun _ k => XS.iload X76.here hx rfl (hb hby at_382) (by rw [hA79]; rfl) k) ?_
      show own_Ends p e below F (T76.setTop (mkF m 384 A79 [(.int (0 : Int32))]))
      refine own_step (fun _ k => XS.ifYes X76.here hx rfl (pc0 := 384) (pc' := 391) rfl (hb hby at_384) rfl ((if0 _ _).trans (teq (by decide : (0 : Int32) = (0 : Int32))).1) (by decide) (by decide) k) ?_
      show own_Ends p e below F (T76.setTop (mkF m 391 A79 []))
      refine own_step (fun _ k => XS.iconst X76.here hx rfl (hb hby at_391) k) ?_
      show own_Ends p e below F (T76.setTop (mkF m 392 A79 [(.int (0 : Int32))]))
      obtain ⟨A80, hA80⟩ : ∃ z : Array Slot, z = #[.val (.long p1), .second, .val (.int p2), .val (.int p3), .val (.int p4), .val (.int z2), .val (.int (3 : Int32)), .val (.int r9), .val (.int r11), .val (.int r13), .val (.int r15), .val (.int r17), .val (.int r19), .val (.int r21), .val (.int r23), .val (.int r25), .val (.int r27), .val (.ref a70), .val (.ref a75), .val (.int (0 : Int32)), .val (.int (0 : Int32)), .val (.int (0 : Int32))] := ⟨_, rfl⟩
      refine own_step (fun _ k => XS.istore X76.here hx rfl (hb hby at_392) rfl (l' := A80) (by rw [hA79, hA80]; exact rfl) k) ?_
      show own_Ends p e below F (T76.setTop (mkF m 394 A80 []))
      refine own_step (fun _ k => XS.aload X76.here hx rfl (hb hby at_394) (by rw [hA80]; rfl) rfl k) ?_
      show own_Ends p e below F (T76.setTop (mkF m 396 A80 [(.ref a75)]))
      obtain ⟨_, _, ⟨T81, L81, k81, n81⟩, -, X81, hS81, gr81, ⟨Lc81, hQ81, l81, y81, z81, hr81⟩, st81⟩ := callSS X76 hx (y := (⟨"com/example/facetwork/facetwork/cli/Logging", "isVerbose", "(Ljava/lang/String;)Z"⟩ : MethodName)) hown (mvT hZ (own_g hw 36 rfl)) (mvT hZ (own_g hw 37 rfl)) (mvT hZ (own_g hw 38 rfl)) (mvT hZ (own_g hw 39 rfl)) (by decide) (backOfSH (W := 0) (rm8 l Z a0 hw [] a75 ([r9, r11, r13] : List Int32) T76.heap.size zc T76.heap n0 Z76 S0_76 hz (own_Str.top str76) (Nat.le_of_ble_eq_true rfl)) hZ (own_g hw 39 rfl) (own_g hw 38 rfl) (by decide) (by decide) (own_EW hw) hC76.1) (g := (mkF m 396 A80 [(.ref a75)])) rfl (by rw [hml]; show A80.size = _; rw [hA80]; rfl) (argsL := [(.ref a75)]) (rest := []) (lenOf pd__28Ljava_2flang_2fString_3b_29Z rfl) rfl (by show 2 * 0 + _ ≤ _; exact Nat.le_of_eq rfl) (hb hby at_396) (fun _ _ => ⟨rfl, rfl, (by decide : 13 + 4 ≤ _), (by decide : 90 + 52 ≤ _)⟩)
      dsimp only [Pt.U, Pt.locs, Pt.cells, Pt.slots] at X81 l81 y81 z81 st81 hQ81 hS81 gr81 hr81
      subst l81 y81 z81
      obtain ⟨rfl, Nq81, Kq81⟩ := hQ81
      have N81 := Fr.app N76 Nq81
      have Z81 : n0 ≤ T81.heap.size := Nat.le_trans Z76 Kq81.1
      have SZ81 : h0.size ≤ T81.heap.size := Nat.le_trans SZ76 Kq81.1
      have S0_81 := own_Sta_keep S0_76 Kq81 all0
      have hC81 := hC76.trans hr81
      have hZ := own_warm hZ hS81
      have hown := own_find hown hS81
      have hS := foldS hS (by exact hk) hS81 gr81
      have hk := Nat.le_refl T81.heap.size
      refine own_trans st81 ?_
      show own_Ends p e below F (T81.setTop (mkF m 399 A80 [(.int (own_ver ([r9, r11, r13] : List Int32)))]))
      refine own_step (fun _ k => XS.iload X81.here hx rfl (hb hby at_399) (by rw [hA80]; rfl) k) ?_
      show own_Ends p e below F (T81.setTop (mkF m 401 A80 [(.int (0 : Int32)), (.int (own_ver ([r9, r11, r13] : List Int32)))]))
      refine own_step (fun _ k => XS.icmpNo X81.here hx rfl (hb hby at_401) rfl (teq (own_v0 (Nat.ne_of_beq_eq_false rfl) (Nat.ne_of_beq_eq_false rfl) : (own_ver ([r9, r11, r13] : List Int32)) = (0 : Int32))).2 k) ?_
      show own_Ends p e below F (T81.setTop (mkF m 404 A80 []))
      refine own_step (fun _ k => XS.iconst X81.here hx rfl (hb hby at_404) k) ?_
      show own_Ends p e below F (T81.setTop (mkF m 405 A80 [(.int (1 : Int32))]))
      refine own_step (fun _ k => XS.goto X81.here hx rfl (pc0 := 405) (pc' := 409) rfl (hb hby at_405) (by decide) (by decide) k) ?_
      show own_Ends p e below F (T81.setTop (mkF m 409 A80 [(.int (1 : Int32))]))
      rw [hF]
      exact own_retH X81 hS (by exact hk) hh rfl hZ (own_EW hw) hC81 (v := (some (.int (nar .boolean (1 : Int32))))) (fun h => by rw [Bd.returns] at h; cases h) Bd.notSynchronized (fun fs hr => retN X81 hx (t := .boolean) Bd.returns (by simp) (hb hby at_409) hr) (by decide) (by decide) (by exact ⟨rfl, N81⟩)
    · show own_Ends p e below F (T27.setTop (mkF m 129 A28 []))
      refine own_step (fun _ k => XS.iload X27.here hx rfl (hb hby at_129) (by rw [hA28]; rfl) k) ?_
      show own_Ends p e below F (T27.setTop (mkF m 131 A28 [(.int (4 : Int32))]))
      obtain ⟨T82, h82, k82, X82, e82, E82, A82, st82⟩ := newP X27 hx hZ (own_g hw 6 rfl) rfl (g := (mkF m 131 A28 [(.int (4 : Int32))])) rfl (hb hby at_131) rfl (by decide) (cap := 4) (by decide) (by decide) (by decide) (by decide)
      obtain ⟨a82, g82⟩ : ∃ z, z = T27.heap.size := ⟨_, rfl⟩
      rw [← g82] at A82 st82
      have ge_a82 : n0 ≤ a82 := Nat.le_trans Z27 (Nat.le_of_eq g82.symm)
      have sz_a82 : h0.size ≤ a82 := Nat.le_trans SZ27 (Nat.le_of_eq g82.symm)
      have Z82 : n0 ≤ h82.size := Nat.le_trans Z27 E82.1
      have SZ82 : h0.size ≤ h82.size := Nat.le_trans SZ27 E82.1
      have hk := Nat.le_trans hk E82.1
      have hr82 := CHr.ext E82 hC27.1
      have hC82 := hC27.trans hr82
      have V82 : Arv Z h82 a82 k82 .char (4 : Int32) [(.int (0 : Int32)), (.int (0 : Int32)), (.int (0 : Int32)), (.int (0 : Int32))] (.int (0 : Int32)) := Arv.pad (Arv.new A82 (by decide)) (pad_rep [] _ 4)
      have sf_a82 : own_SL Z own_EL s.vm h82 a82 := own_SL.born hC27.1 E82 g82 V82.lt
      refine own_step st82 ?_
      show own_Ends p e below F (T82.setTop (mkF m 133 A28 [(.ref a82)]))
      obtain ⟨A83, hA83⟩ : ∃ z : Array Slot, z = #[.val (.long p1), .second, .val (.int p2), .val (.int p3), .val (.int p4), .val (.int z2), .val (.int (4 : Int32)), .val (.int r9), .val (.int r11), .val (.int r13), .val (.int r15), .val (.int r17), .val (.int r19), .val (.int r21), .val (.int r23), .val (.int r25), .val (.int r27), .val (.ref a82), .unset, .unset, .unset, .unset] := ⟨_, rfl⟩
      refine own_step (fun _ k => XS.astore X82.here hx rfl (hb hby at_133) rfl rfl (l' := A83) (by rw [hA28, hA83]; exact rfl) k) ?_
      show own_Ends p e below F (T82.setTop (mkF m 135 A83 []))
      refine own_step (fun _ k => XS.iload X82.here hx rfl (hb hby at_135) (by rw [hA83]; rfl) k) ?_
      show own_Ends p e below F (T82.setTop (mkF m 137 A83 [(.int (4 : Int32))]))
      refine own_step (fun _ k => XS.ifNo X82.here hx rfl (hb hby at_137) rfl ((if0 _ _).trans (tlt (by decide : (0 : Int32) < (4 : Int32))).2.2.2) k) ?_
      show own_Ends p e below F (T82.setTop (mkF m 140 A83 []))
      refine own_step (fun _ k => XS.aload X82.here hx rfl (hb hby at_140) (by rw [hA83]; rfl) rfl k) ?_
      show own_Ends p e below F (T82.setTop (mkF m 142 A83 [(.ref a82)]))
      refine own_step (fun _ k => XS.iconst X82.here hx rfl (hb hby at_142) k) ?_
      show own_Ends p e below F (T82.setTop (mkF m 143 A83 [(.int (0 : Int32)), (.ref a82)]))
      refine own_step (fun _ k => XS.iload X82.here hx rfl (hb hby at_143) (by rw [hA83]; rfl) k) ?_
      show own_Ends p e below F (T82.setTop (mkF m 145 A83 [(.int r9), (.int (0 : Int32)), (.ref a82)]))
      obtain ⟨cl84, Ar84, q84, S84, M84, H84, G84⟩ := id V82
      have hin84 : ¬ ((0 : Int32) < 0 ∨ cl84.slots.size ≤ ((0 : Int32) : Int32).toNatClampNeg) := inb_of S84 ⟨by decide, by decide⟩
      obtain ⟨T84, h84, X84, e84, W84, st84⟩ := stC X82 hx hZ e82 Ar84 (j := (0 : Int32)) hin84 (g := (mkF m 145 A83 [(.int r9), (.int (0 : Int32)), (.ref a82)])) rfl rfl (hb hby at_145)
      rw [own_narC rr9] at W84
      have V84 := Arv.set Ar84 q84 S84 M84 H84 G84 (own_fitC rr9) W84 0 rfl (Nat.le_of_ble_eq_true rfl)
      have V84 : Arv Z h84 a82 k82 .char (4 : Int32) [(.int r9), (.int (0 : Int32)), (.int (0 : Int32)), (.int (0 : Int32))] (.int (0 : Int32)) := V84
      refine own_step st84 ?_
      have N84 := Fr.snoc X84 N27 ge_a82
      have Z84 : n0 ≤ h84.size := by rw [W84.size]; exact Z82
      have SZ84 : h0.size ≤ h84.size := by rw [W84.size]; exact SZ82
      have hk := (W84.size.symm ▸ hk : _ ≤ h84.size)
      have hr84 := CHr.wr W84 sf_a82.2 hC82.1
      have hC84 := hC82.trans hr84
      show own_Ends p e below F (T84.setTop (mkF m 146 A83 []))
      refine own_step (fun _ k => XS.iload X84.here hx rfl (hb hby at_146) (by rw [hA83]; rfl) k) ?_
      show own_Ends p e below F (T84.setTop (mkF m 148 A83 [(.int (4 : Int32))]))
      refine own_step (fun _ k => XS.iconst X84.here hx rfl (hb hby at_148) k) ?_
      show own_Ends p e below F (T84.setTop (mkF m 149 A83 [(.int (1 : Int32)), (.int (4 : Int32))]))
      refine own_step (fun _ k => XS.icmpNo X84.here hx rfl (hb hby at_149) rfl (tlt (by decide : (1 : Int32) < (4 : Int32))).2.2.2 k) ?_
      show own_Ends p e below F (T84.setTop (mkF m 152 A83 []))
      refine own_step (fun _ k => XS.aload X84.here hx rfl (hb hby at_152) (by rw [hA83]; rfl) rfl k) ?_
      show own_Ends p e below F (T84.setTop (mkF m 154 A83 [(.ref a82)]))
      refine own_step (fun _ k => XS.iconst X84.here hx rfl (hb hby at_154) k) ?_
      show own_Ends p e below F (T84.setTop (mkF m 155 A83 [(.int (1 : Int32)), (.ref a82)]))
      refine own_step (fun _ k => XS.iload X84.here hx rfl (hb hby at_155) (by rw [hA83]; rfl) k) ?_
      show own_Ends p e below F (T84.setTop (mkF m 157 A83 [(.int r11), (.int (1 : Int32)), (.ref a82)]))
      obtain ⟨cl85, Ar85, q85, S85, M85, H85, G85⟩ := id V84
      have hin85 : ¬ ((1 : Int32) < 0 ∨ cl85.slots.size ≤ ((1 : Int32) : Int32).toNatClampNeg) := inb_of S85 ⟨by decide, by decide⟩
      obtain ⟨T85, h85, X85, e85, W85, st85⟩ := stC X84 hx hZ e84 Ar85 (j := (1 : Int32)) hin85 (g := (mkF m 157 A83 [(.int r11), (.int (1 : Int32)), (.ref a82)])) rfl rfl (hb hby at_157)
      rw [own_narC rr11] at W85
      have V85 := Arv.set Ar85 q85 S85 M85 H85 G85 (own_fitC rr11) W85 1 rfl (Nat.le_of_ble_eq_true rfl)
      have V85 : Arv Z h85 a82 k82 .char (4 : Int32) [(.int r9), (.int r11), (.int (0 : Int32)), (.int (0 : Int32))] (.int (0 : Int32)) := V85
      refine own_step st85 ?_
      have N85 := Fr.snoc X85 N84 ge_a82
      have Z85 : n0 ≤ h85.size := by rw [W85.size]; exact Z84
      have SZ85 : h0.size ≤ h85.size := by rw [W85.size]; exact SZ84
      have hk := (W85.size.symm ▸ hk : _ ≤ h85.size)
      have hr85 := CHr.wr W85 (own_SL.go sf_a82 hr84).2 hC84.1
      have hC85 := hC84.trans hr85
      show own_Ends p e below F (T85.setTop (mkF m 158 A83 []))
      refine own_step (fun _ k => XS.iload X85.here hx rfl (hb hby at_158) (by rw [hA83]; rfl) k) ?_
      show own_Ends p e below F (T85.setTop (mkF m 160 A83 [(.int (4 : Int32))]))
      refine own_step (fun _ k => XS.iconst X85.here hx rfl (hb hby at_160) k) ?_
      show own_Ends p e below F (T85.setTop (mkF m 161 A83 [(.int (2 : Int32)), (.int (4 : Int32))]))
      refine own_step (fun _ k => XS.icmpNo X85.here hx rfl (hb hby at_161) rfl (tlt (by decide : (2 : Int32) < (4 : Int32))).2.2.2 k) ?_
      show own_Ends p e below F (T85.setTop (mkF m 164 A83 []))
      refine own_step (fun _ k => XS.aload X85.here hx rfl (hb hby at_164) (by rw [hA83]; rfl) rfl k) ?_
      show own_Ends p e below F (T85.setTop (mkF m 166 A83 [(.ref a82)]))
      refine own_step (fun _ k => XS.iconst X85.here hx rfl (hb hby at_166) k) ?_
      show own_Ends p e below F (T85.setTop (mkF m 167 A83 [(.int (2 : Int32)), (.ref a82)]))
      refine own_step (fun _ k => XS.iload X85.here hx rfl (hb hby at_167) (by rw [hA83]; rfl) k) ?_
      show own_Ends p e below F (T85.setTop (mkF m 169 A83 [(.int r13), (.int (2 : Int32)), (.ref a82)]))
      obtain ⟨cl86, Ar86, q86, S86, M86, H86, G86⟩ := id V85
      have hin86 : ¬ ((2 : Int32) < 0 ∨ cl86.slots.size ≤ ((2 : Int32) : Int32).toNatClampNeg) := inb_of S86 ⟨by decide, by decide⟩
      obtain ⟨T86, h86, X86, e86, W86, st86⟩ := stC X85 hx hZ e85 Ar86 (j := (2 : Int32)) hin86 (g := (mkF m 169 A83 [(.int r13), (.int (2 : Int32)), (.ref a82)])) rfl rfl (hb hby at_169)
      rw [own_narC rr13] at W86
      have V86 := Arv.set Ar86 q86 S86 M86 H86 G86 (own_fitC rr13) W86 2 rfl (Nat.le_of_ble_eq_true rfl)
      have V86 : Arv Z h86 a82 k82 .char (4 : Int32) [(.int r9), (.int r11), (.int r13), (.int (0 : Int32))] (.int (0 : Int32)) := V86
      refine own_step st86 ?_
      have N86 := Fr.snoc X86 N85 ge_a82
      have Z86 : n0 ≤ h86.size := by rw [W86.size]; exact Z85
      have SZ86 : h0.size ≤ h86.size := by rw [W86.size]; exact SZ85
      have hk := (W86.size.symm ▸ hk : _ ≤ h86.size)
      have hr86 := CHr.wr W86 (own_SL.go (own_SL.go sf_a82 hr84) hr85).2 hC85.1
      have hC86 := hC85.trans hr86
      show own_Ends p e below F (T86.setTop (mkF m 170 A83 []))
      refine own_step (fun _ k => XS.iload X86.here hx rfl (hb hby at_170) (by rw [hA83]; rfl) k) ?_
      show own_Ends p e below F (T86.setTop (mkF m 172 A83 [(.int (4 : Int32))]))
      refine own_step (fun _ k => XS.iconst X86.here hx rfl (hb hby at_172) k) ?_
      show own_Ends p e below F (T86.setTop (mkF m 173 A83 [(.int (3 : Int32)), (.int (4 : Int32))]))
      refine own_step (fun _ k => XS.icmpNo X86.here hx rfl (hb hby at_173) rfl (tlt (by decide : (3 : Int32) < (4 : Int32))).2.2.2 k) ?_
      show own_Ends p e below F (T86.setTop (mkF m 176 A83 []))
      refine own_step (fun _ k => XS.aload X86.here hx rfl (hb hby at_176) (by rw [hA83]; rfl) rfl k) ?_
      show own_Ends p e below F (T86.setTop (mkF m 178 A83 [(.ref a82)]))
      refine own_step (fun _ k => XS.iconst X86.here hx rfl (hb hby at_178) k) ?_
      show own_Ends p e below F (T86.setTop (mkF m 179 A83 [(.int (3 : Int32)), (.ref a82)]))
      refine own_step (fun _ k => XS.iload X86.here hx rfl (hb hby at_179) (by rw [hA83]; rfl) k) ?_
      show own_Ends p e below F (T86.setTop (mkF m 181 A83 [(.int r15), (.int (3 : Int32)), (.ref a82)]))
      obtain ⟨cl87, Ar87, q87, S87, M87, H87, G87⟩ := id V86
      have hin87 : ¬ ((3 : Int32) < 0 ∨ cl87.slots.size ≤ ((3 : Int32) : Int32).toNatClampNeg) := inb_of S87 ⟨by decide, by decide⟩
      obtain ⟨T87, h87, X87, e87, W87, st87⟩ := stC X86 hx hZ e86 Ar87 (j := (3 : Int32)) hin87 (g := (mkF m 181 A83 [(.int r15), (.int (3 : Int32)), (.ref a82)])) rfl rfl (hb hby at_181)
      rw [own_narC rr15] at W87
      have V87 := Arv.set Ar87 q87 S87 M87 H87 G87 (own_fitC rr15) W87 3 rfl (Nat.le_of_ble_eq_true rfl)
      have V87 : Arv Z h87 a82 k82 .char (4 : Int32) [(.int r9), (.int r11), (.int r13), (.int r15)] (.int (0 : Int32)) := V87
      refine own_step st87 ?_
      have N87 := Fr.snoc X87 N86 ge_a82
      have Z87 : n0 ≤ h87.size := by rw [W87.size]; exact Z86
      have SZ87 : h0.size ≤ h87.size := by rw [W87.size]; exact SZ86
      have hk := (W87.size.symm ▸ hk : _ ≤ h87.size)
      have hr87 := CHr.wr W87 (own_SL.go (own_SL.go (own_SL.go sf_a82 hr84) hr85) hr86).2 hC86.1
      have hC87 := hC86.trans hr87
      show own_Ends p e below F (T87.setTop (mkF m 182 A83 []))
      refine own_step (fun _ k => XS.iload X87.here hx rfl (hb hby at_182) (by rw [hA83]; rfl) k) ?_
      show own_Ends p e below F (T87.setTop (mkF m 184 A83 [(.int (4 : Int32))]))
      refine own_step (fun _ k => XS.iconst X87.here hx rfl (hb hby at_184) k) ?_
      show own_Ends p e below F (T87.setTop (mkF m 185 A83 [(.int (4 : Int32)), (.int (4 : Int32))]))
      refine own_step (fun _ k => XS.icmpYes X87.here hx rfl (pc0 := 185) (pc' := 194) rfl (hb hby at_185) rfl (flt (by decide : ¬ ((4 : Int32) < (4 : Int32)))).2.2.2 (by decide) (by decide) k) ?_
      show own_Ends p e below F (T87.setTop (mkF m 194 A83 []))
      refine own_step (fun _ k => XS.iload X87.here hx rfl (hb hby at_194) (by rw [hA83]; rfl) k) ?_
      show own_Ends p e below F (T87.setTop (mkF m 196 A83 [(.int (4 : Int32))]))
      refine own_step (fun _ k => XS.iconst X87.here hx rfl (hb hby at_196) k) ?_
      show own_Ends p e below F (T87.setTop (mkF m 197 A83 [(.int (5 : Int32)), (.int (4 : Int32))]))
      refine own_step (fun _ k => XS.icmpYes X87.here hx rfl (pc0 := 197) (pc' := 206) rfl (hb hby at_197) rfl (flt (by decide : ¬ ((5 : Int32) < (4 : Int32)))).2.2.2 (by decide) (by decide) k) ?_
      show own_Ends p e below F (T87.setTop (mkF m 206 A83 []))
      refine own_step (fun _ k => XS.iload X87.here hx rfl (hb hby at_206) (by rw [hA83]; rfl) k) ?_
      show own_Ends p e below F (T87.setTop (mkF m 208 A83 [(.int (4 : Int32))]))
      refine own_step (fun _ k => XS.bipush X87.here hx rfl (hb hby at_208) k) ?_
      show own_Ends p e below F (T87.setTop (mkF m 210 A83 [(.int (6 : Int32)), (.int (4 : Int32))]))
      refine own_step (fun _ k => XS.icmpYes X87.here hx rfl (pc0 := 210) (pc' := 220) rfl (hb hby at_210) rfl (flt (by decide : ¬ ((6 : Int32) < (4 : Int32)))).2.2.2 (by decide) (by decide) k) ?_
      show own_Ends p e below F (T87.setTop (mkF m 220 A83 []))
      refine own_step (fun _ k => XS.iload X87.here hx rfl (hb hby at_220) (by rw [hA83]; rfl) k) ?_
      show own_Ends p e below F (T87.setTop (mkF m 222 A83 [(.int (4 : Int32))]))
      refine own_step (fun _ k => XS.bipush X87.here hx rfl (hb hby at_222) k) ?_
      show own_Ends p e below F (T87.setTop (mkF m 224 A83 [(.int (7 : Int32)), (.int (4 : Int32))]))
      refine own_step (fun _ k => XS.icmpYes X87.here hx rfl (pc0 := 224) (pc' := 234) rfl (hb hby at_224) rfl (flt (by decide : ¬ ((7 : Int32) < (4 : Int32)))).2.2.2 (by decide) (by decide) k) ?_
      show own_Ends p e below F (T87.setTop (mkF m 234 A83 []))
      refine own_step (fun _ k => XS.iload X87.here hx rfl (hb hby at_234) (by rw [hA83]; rfl) k) ?_
      show own_Ends p e below F (T87.setTop (mkF m 236 A83 [(.int (4 : Int32))]))
      refine own_step (fun _ k => XS.bipush X87.here hx rfl (hb hby at_236) k) ?_
      show own_Ends p e below F (T87.setTop (mkF m 238 A83 [(.int (8 : Int32)), (.int (4 : Int32))]))
      refine own_step (fun _ k => XS.icmpYes X87.here hx rfl (pc0 := 238) (pc' := 248) rfl (hb hby at_238) rfl (flt (by decide : ¬ ((8 : Int32) < (4 : Int32)))).2.2.2 (by decide) (by decide) k) ?_
      show own_Ends p e below F (T87.setTop (mkF m 248 A83 []))
      refine own_step (fun _ k => XS.iload X87.here hx rfl (hb hby at_248) (by rw [hA83]; rfl) k) ?_
      show own_Ends p e below F (T87.setTop (mkF m 250 A83 [(.int (4 : Int32))]))
      refine own_step (fun _ k => XS.bipush X87.here hx rfl (hb hby at_250) k) ?_
      show own_Ends p e below F (T87.setTop (mkF m 252 A83 [(.int (9 : Int32)), (.int (4 : Int32))]))
      refine own_step (fun _ k => XS.icmpYes X87.here hx rfl (pc0 := 252) (pc' := 262) rfl (hb hby at_252) rfl (flt (by decide : ¬ ((9 : Int32) < (4 : Int32)))).2.2.2 (by decide) (by decide) k) ?_
      show own_Ends p e below F (T87.setTop (mkF m 262 A83 []))
      obtain ⟨T88, h88, X88, e88, E88, A88, D88, -, st88⟩ := newO X87 hx hZ hown (own_g hw 7 rfl) (own_g hw 8 rfl) (own_g hw 9 rfl) e87 (g := (mkF m 262 A83 [])) rfl (hb hby at_262) (by decide) (by decide)
      obtain ⟨a88, g88⟩ : ∃ z, z = h87.size := ⟨_, rfl⟩
      rw [← g88] at A88 D88 st88
      have ge_a88 : n0 ≤ a88 := Nat.le_trans Z87 (Nat.le_of_eq g88.symm)
      have sz_a88 : h0.size ≤ a88 := Nat.le_trans SZ87 (Nat.le_of_eq g88.symm)
      have ne_a82_a88 : a82 ≠ a88 := Nat.ne_of_lt (by rw [g88]; exact V87.lt)
      have Z88 : n0 ≤ h88.size := Nat.le_trans Z87 E88.1
      have SZ88 : h0.size ≤ h88.size := Nat.le_trans SZ87 E88.1
      have hk := Nat.le_trans hk E88.1
      have hr88 := CHr.ext E88 hC87.1
      have hC88 := hC87.trans hr88
      have F88_coder : Fld Z h88 a88 "java/lang/String" "coder" "B" (.int (0 : Int32)) := D88 (Or.inr (own_g hw 33 rfl)) (ty := .byte) (by decide)
      have F88_value : Fld Z h88 a88 "java/lang/String" "value" "[B" .null := D88 (Or.inr (own_g hw 35 rfl)) (ty := (.array .byte)) (by decide)
      have sf_a88 : own_SL Z own_EL s.vm h88 a88 := own_SL.born hC87.1 E88 g88 A88.lt
      refine own_step st88 ?_
      show own_Ends p e below F (T88.setTop (mkF m 265 A83 [(.ref a88)]))
      refine own_step (fun _ k => XS.dup X88.here hx rfl (hb hby at_265) rfl rfl k) ?_
      show own_Ends p e below F (T88.setTop (mkF m 266 A83 [(.ref a88), (.ref a88)]))
      refine own_step (fun _ k => XS.aload X88.here hx rfl (hb hby at_266) (by rw [hA83]; rfl) rfl k) ?_
      show own_Ends p e below F (T88.setTop (mkF m 268 A83 [(.ref a82), (.ref a88), (.ref a88)]))
      obtain ⟨_, _, ⟨T89, L89, k89, n89⟩, -, X89, ⟨Lc89, hQ89, l89, y89, z89⟩, st89⟩ := X88.specialBack hx (y := (⟨"java/lang/String", "<init>", "([C)V"⟩ : MethodName)) rfl hown (mvT hZ (own_g hw 10 rfl)) (mvT hZ (own_g hw 11 rfl)) (mvT hZ (own_g hw 12 rfl)) (by decide) (StrChars.Road.backV (W := 1) hZ (fun d hd => hw d ((by decide +kernel : ∀ d ∈ StrChars.Road.words, d ∈ tables_1) d hd)) (kI := 4) (own_g hw 8 rfl) (cs := ([r9, r11, r13, r15] : List Int32)) (bs := ([r9, r11, r13, r15] : List Int32).map (fun c => c.toInt8.toInt32)) (n := 4) ge_a88 Z88 A88 F88_value F88_coder (V87.ext E88) (Sta.ext E88 (Sta.wr W87 (Sta.wr W86 (Sta.wr W85 (Sta.wr W84 (Sta.ext E82 S0_27)))))) hz rfl rfl (by decide) (by decide) (own_cS rr9 (own_cS rr11 (own_cS rr13 (own_cS rr15 own_c0)))) rfl (by decide) (by decide)) (g := (mkF m 268 A83 [(.ref a82), (.ref a88), (.ref a88)])) rfl (by rw [hml]; show A83.size = _; rw [hA83]; rfl) (Steps.refl _) (a := a88) (argsL := [(.ref a82)]) (rest := [(.ref a88)]) (lenOf pd__28_5bC_29V rfl) rfl (by show 2 * 0 + _ ≤ _; exact Nat.le_of_eq rfl) (hb hby at_268) (fun _ _ => ⟨rfl, e88, (by decide : 12 + 1 ≤ _), (by decide : 88 + 4 ≤ _)⟩)
      dsimp only [Pt.U, Pt.locs, Pt.cells, Pt.slots] at X89 l89 y89 z89 st89 hQ89
      subst l89 y89 z89
      obtain ⟨rfl, Nq89, Kq89, fe89, fc89, tt89, kt89, -, -, -, fv89, fa89⟩ := hQ89
      have N89 := Fr.app N87 Nq89
      have Z89 : n0 ≤ T89.heap.size := Nat.le_trans Z88 Kq89.1
      have SZ89 : h0.size ≤ T89.heap.size := Nat.le_trans SZ88 Kq89.1
      have S0_89 := own_Sta_keep (Sta.ext E88 (Sta.wr W87 (Sta.wr W86 (Sta.wr W85 (Sta.wr W84 (Sta.ext E82 S0_27)))))) Kq89 (allS (own_ns_exa A88) all0)
      have str89 : own_Str Z T89.heap T89.heap.size a88 ([r9, r11, r13, r15] : List Int32) := own_Str.mk fe89 fc89 fv89 fa89 rfl rfl (own_cS rr9 (own_cS rr11 (own_cS rr13 (own_cS rr15 own_c0))))
      have hr89 := CHr.keep Kq89 (sfS sf_a88.2 sf0) hC88.1
      have hC89 := hC88.trans hr89
      have hk := Nat.le_trans hk Kq89.1
      refine own_trans st89 ?_
      show own_Ends p e below F (T89.setTop (mkF m 271 A83 [(.ref a88)]))
      obtain ⟨A90, hA90⟩ : ∃ z : Array Slot, z = #[.val (.long p1), .second, .val (.int p2), .val (.int p3), .val (.int p4), .val (.int z2), .val (.int (4 : Int32)), .val (.int r9), .val (.int r11), .val (.int r13), .val (.int r15), .val (.int r17), .val (.int r19), .val (.int r21), .val (.int r23), .val (.int r25), .val (.int r27), .val (.ref a82), .val (.ref a88), .unset, .unset, .unset] := ⟨_, rfl⟩
      refine own_step (fun _ k => XS.astore X89.here hx rfl (hb hby at_271) rfl rfl (l' := A90) (by rw [hA83, hA90]; exact rfl) k) ?_
      show own_Ends p e below F (T89.setTop (mkF m 273 A90 []))
      refine own_step (fun _ k => XS.iload X89.here hx rfl (hb hby at_273) (by rw [hA90]; rfl) k) ?_
      show own_Ends p e below F (T89.setTop (mkF m 275 A90 [(.int (4 : Int32))]))
      refine own_step (fun _ k => XS.iconst X89.here hx rfl (hb hby at_275) k) ?_
      show own_Ends p e below F (T89.setTop (mkF m 276 A90 [(.int (2 : Int32)), (.int (4 : Int32))]))
      refine own_step (fun _ k => XS.icmpYes X89.here hx rfl (pc0 := 276) (pc' := 297) rfl (hb hby at_276) rfl (feq (by decide : ¬ ((4 : Int32) = (2 : Int32)))).2 (by decide) (by decide) k) ?_
      show own_Ends p e below F (T89.setTop (mkF m 297 A90 []))
      refine own_step (fun _ k => XS.iconst X89.here hx rfl (hb hby at_297) k) ?_
      show own_Ends p e below F (T89.setTop (mkF m 298 A90 [(.int (0 : Int32))]))
      obtain ⟨A91, hA91⟩ : ∃ z : Array Slot, z = #[.val (.long p1), .second, .val (.int p2), .val (.int p3), .val (.int p4), .val (.int z2), .val (.int (4 : Int32)), .val (.int r9), .val (.int r11), .val (.int r13), .val (.int r15), .val (.int r17), .val (.int r19), .val (.int r21), .val (.int r23), .val (.int r25), .val (.int r27), .val (.ref a82), .val (.ref a88), .val (.int (0 : Int32)), .unset, .unset] := ⟨_, rfl⟩
      refine own_step (fun _ k => XS.istore X89.here hx rfl (hb hby at_298) rfl (l' := A91) (by rw [hA90, hA91]; exact rfl) k) ?_
      show own_Ends p e below F (T89.setTop (mkF m 300 A91 []))
      refine own_step (fun _ k => XS.iload X89.here hx rfl (hb hby at_300) (by rw [hA91]; rfl) k) ?_
      show own_Ends p e below F (T89.setTop (mkF m 302 A91 [(.int (4 : Int32))]))
      refine own_step (fun _ k => XS.bipush X89.here hx rfl (hb hby at_302) k) ?_
      show own_Ends p e below F (T89.setTop (mkF m 304 A91 [(.int (9 : Int32)), (.int (4 : Int32))]))
      refine own_step (fun _ k => XS.icmpYes X89.here hx rfl (pc0 := 304) (pc' := 374) rfl (hb hby at_304) rfl (feq (by decide : ¬ ((4 : Int32) = (9 : Int32)))).2 (by decide) (by decide) k) ?_
      show own_Ends p e below F (T89.setTop (mkF m 374 A91 []))
      refine own_step (fun _ k => XS.iconst X89.here hx rfl (hb hby at_374) k) ?_
      show own_Ends p e below F (T89.setTop (mkF m 375 A91 [(.int (0 : Int32))]))
      obtain ⟨A92, hA92⟩ : ∃ z : Array Slot, z = #[.val (.long p1), .second, .val (.int p2), .val (.int p3), .val (.int p4), .val (.int z2), .val (.int (4 : Int32)), .val (.int r9), .val (.int r11), .val (.int r13), .val (.int r15), .val (.int r17), .val (.int r19), .val (.int r21), .val (.int r23), .val (.int r25), .val (.int r27), .val (.ref a82), .val (.ref a88), .val (.int (0 : Int32)), .val (.int (0 : Int32)), .unset] := ⟨_, rfl⟩
      refine own_step (fun _ k => XS.istore X89.here hx rfl (hb hby at_375) rfl (l' := A92) (by rw [hA91, hA92]; exact rfl) k) ?_
      show own_Ends p e below F (T89.setTop (mkF m 377 A92 []))
      refine own_step (fun _ k => XS.iload X89.here hx rfl (hb hby at_377) (by rw [hA92]; rfl) k) ?_
      show own_Ends p e below F (T89.setTop (mkF m 379 A92 [(.int (0 : Int32))]))
      refine own_step (fun _ k => XS.ifNo X89.here hx rfl (hb hby at_379) rfl ((if0 _ _).trans (teq (by decide : (0 : Int32) = (0 : Int32))).2) k) ?_
      show own_Ends p e below F (T89.setTop (mkF m 382 A92 []))
      refine own_step (fun _ k => XS.iload X89.here hx rfl (hb hby at_382) (by rw [hA92]; rfl) k) ?_
      show own_Ends p e below F (T89.setTop (mkF m 384 A92 [(.int (0 : Int32))]))
      refine own_step (fun _ k => XS.ifYes X89.here hx rfl (pc0 := 384) (pc' := 391) rfl (hb hby at_384) rfl ((if0 _ _).trans (teq (by decide : (0 : Int32) = (0 : Int32))).1) (by decide) (by decide) k) ?_
      show own_Ends p e below F (T89.setTop (mkF m 391 A92 []))
      refine own_step (fun _ k => XS.iconst X89.here hx rfl (hb hby at_391) k) ?_
      show own_Ends p e below F (T89.setTop (mkF m 392 A92 [(.int (0 : Int32))]))
      obtain ⟨A93, hA93⟩ : ∃ z : Array Slot, z = #[.val (.long p1), .second, .val (.int p2), .val (.int p3), .val (.int p4), .val (.int z2), .val (.int (4 : Int32)), .val (.int r9), .val (.int r11), .val (.int r13), .val (.int r15), .val (.int r17), .val (.int r19), .val (.int r21), .val (.int r23), .val (.int r25), .val (.int r27), .val (.ref a82), .val (.ref a88), .val (.int (0 : Int32)), .val (.int (0 : Int32)), .val (.int (0 : Int32))] := ⟨_, rfl⟩
      refine own_step (fun _ k => XS.istore X89.here hx rfl (hb hby at_392) rfl (l' := A93) (by rw [hA92, hA93]; exact rfl) k) ?_
      show own_Ends p e below F (T89.setTop (mkF m 394 A93 []))
      refine own_step (fun _ k => XS.aload X89.here hx rfl (hb hby at_394) (by rw [hA93]; rfl) rfl k) ?_
      show own_Ends p e below F (T89.setTop (mkF m 396 A93 [(.ref a88)]))
      obtain ⟨_, _, ⟨T94, L94, k94, n94⟩, -, X94, hS94, gr94, ⟨Lc94, hQ94, l94, y94, z94, hr94⟩, st94⟩ := callSS X89 hx (y := (⟨"com/example/facetwork/facetwork/cli/Logging", "isVerbose", "(Ljava/lang/String;)Z"⟩ : MethodName)) hown (mvT hZ (own_g hw 36 rfl)) (mvT hZ (own_g hw 37 rfl)) (mvT hZ (own_g hw 38 rfl)) (mvT hZ (own_g hw 39 rfl)) (by decide) (backOfSH (W := 0) (rm8 l Z a0 hw [] a88 ([r9, r11, r13, r15] : List Int32) T89.heap.size zc T89.heap n0 Z89 S0_89 hz (own_Str.top str89) (Nat.le_of_ble_eq_true rfl)) hZ (own_g hw 39 rfl) (own_g hw 38 rfl) (by decide) (by decide) (own_EW hw) hC89.1) (g := (mkF m 396 A93 [(.ref a88)])) rfl (by rw [hml]; show A93.size = _; rw [hA93]; rfl) (argsL := [(.ref a88)]) (rest := []) (lenOf pd__28Ljava_2flang_2fString_3b_29Z rfl) rfl (by show 2 * 0 + _ ≤ _; exact Nat.le_of_eq rfl) (hb hby at_396) (fun _ _ => ⟨rfl, rfl, (by decide : 13 + 4 ≤ _), (by decide : 92 + 52 ≤ _)⟩)
      dsimp only [Pt.U, Pt.locs, Pt.cells, Pt.slots] at X94 l94 y94 z94 st94 hQ94 hS94 gr94 hr94
      subst l94 y94 z94
      obtain ⟨rfl, Nq94, Kq94⟩ := hQ94
      have N94 := Fr.app N89 Nq94
      have Z94 : n0 ≤ T94.heap.size := Nat.le_trans Z89 Kq94.1
      have SZ94 : h0.size ≤ T94.heap.size := Nat.le_trans SZ89 Kq94.1
      have S0_94 := own_Sta_keep S0_89 Kq94 all0
      have hC94 := hC89.trans hr94
      have hZ := own_warm hZ hS94
      have hown := own_find hown hS94
      have hS := foldS hS (by exact hk) hS94 gr94
      have hk := Nat.le_refl T94.heap.size
      refine own_trans st94 ?_
      show own_Ends p e below F (T94.setTop (mkF m 399 A93 [(.int (own_ver ([r9, r11, r13, r15] : List Int32)))]))
      refine own_step (fun _ k => XS.iload X94.here hx rfl (hb hby at_399) (by rw [hA93]; rfl) k) ?_
      show own_Ends p e below F (T94.setTop (mkF m 401 A93 [(.int (0 : Int32)), (.int (own_ver ([r9, r11, r13, r15] : List Int32)))]))
      refine own_step (fun _ k => XS.icmpNo X94.here hx rfl (hb hby at_401) rfl (teq (own_v0 (Nat.ne_of_beq_eq_false rfl) (Nat.ne_of_beq_eq_false rfl) : (own_ver ([r9, r11, r13, r15] : List Int32)) = (0 : Int32))).2 k) ?_
      show own_Ends p e below F (T94.setTop (mkF m 404 A93 []))
      refine own_step (fun _ k => XS.iconst X94.here hx rfl (hb hby at_404) k) ?_
      show own_Ends p e below F (T94.setTop (mkF m 405 A93 [(.int (1 : Int32))]))
      refine own_step (fun _ k => XS.goto X94.here hx rfl (pc0 := 405) (pc' := 409) rfl (hb hby at_405) (by decide) (by decide) k) ?_
      show own_Ends p e below F (T94.setTop (mkF m 409 A93 [(.int (1 : Int32))]))
      rw [hF]
      exact own_retH X94 hS (by exact hk) hh rfl hZ (own_EW hw) hC94 (v := (some (.int (nar .boolean (1 : Int32))))) (fun h => by rw [Bd.returns] at h; cases h) Bd.notSynchronized (fun fs hr => retN X94 hx (t := .boolean) Bd.returns (by simp) (hb hby at_409) hr) (by decide) (by decide) (by exact ⟨rfl, N94⟩)
    · show own_Ends p e below F (T27.setTop (mkF m 129 A28 []))
      refine own_step (fun _ k => XS.iload X27.here hx rfl (hb hby at_129) (by rw [hA28]; rfl) k) ?_
      show own_Ends p e below F (T27.setTop (mkF m 131 A28 [(.int (5 : Int32))]))
      obtain ⟨T95, h95, k95, X95, e95, E95, A95, st95⟩ := newP X27 hx hZ (own_g hw 6 rfl) rfl (g := (mkF m 131 A28 [(.int (5 : Int32))])) rfl (hb hby at_131) rfl (by decide) (cap := 5) (by decide) (by decide) (by decide) (by decide)
      obtain ⟨a95, g95⟩ : ∃ z, z = T27.heap.size := ⟨_, rfl⟩
      rw [← g95] at A95 st95
      have ge_a95 : n0 ≤ a95 := Nat.le_trans Z27 (Nat.le_of_eq g95.symm)
      have sz_a95 : h0.size ≤ a95 := Nat.le_trans SZ27 (Nat.le_of_eq g95.symm)
      have Z95 : n0 ≤ h95.size := Nat.le_trans Z27 E95.1
      have SZ95 : h0.size ≤ h95.size := Nat.le_trans SZ27 E95.1
      have hk := Nat.le_trans hk E95.1
      have hr95 := CHr.ext E95 hC27.1
      have hC95 := hC27.trans hr95
      have V95 : Arv Z h95 a95 k95 .char (5 : Int32) [(.int (0 : Int32)), (.int (0 : Int32)), (.int (0 : Int32)), (.int (0 : Int32)), (.int (0 : Int32))] (.int (0 : Int32)) := Arv.pad (Arv.new A95 (by decide)) (pad_rep [] _ 5)
      have sf_a95 : own_SL Z own_EL s.vm h95 a95 := own_SL.born hC27.1 E95 g95 V95.lt
      refine own_step st95 ?_
      show own_Ends p e below F (T95.setTop (mkF m 133 A28 [(.ref a95)]))
      obtain ⟨A96, hA96⟩ : ∃ z : Array Slot, z = #[.val (.long p1), .second, .val (.int p2), .val (.int p3), .val (.int p4), .val (.int z2), .val (.int (5 : Int32)), .val (.int r9), .val (.int r11), .val (.int r13), .val (.int r15), .val (.int r17), .val (.int r19), .val (.int r21), .val (.int r23), .val (.int r25), .val (.int r27), .val (.ref a95), .unset, .unset, .unset, .unset] := ⟨_, rfl⟩
      refine own_step (fun _ k => XS.astore X95.here hx rfl (hb hby at_133) rfl rfl (l' := A96) (by rw [hA28, hA96]; exact rfl) k) ?_
      show own_Ends p e below F (T95.setTop (mkF m 135 A96 []))
      refine own_step (fun _ k => XS.iload X95.here hx rfl (hb hby at_135) (by rw [hA96]; rfl) k) ?_
      show own_Ends p e below F (T95.setTop (mkF m 137 A96 [(.int (5 : Int32))]))
      refine own_step (fun _ k => XS.ifNo X95.here hx rfl (hb hby at_137) rfl ((if0 _ _).trans (tlt (by decide : (0 : Int32) < (5 : Int32))).2.2.2) k) ?_
      show own_Ends p e below F (T95.setTop (mkF m 140 A96 []))
      refine own_step (fun _ k => XS.aload X95.here hx rfl (hb hby at_140) (by rw [hA96]; rfl) rfl k) ?_
      show own_Ends p e below F (T95.setTop (mkF m 142 A96 [(.ref a95)]))
      refine own_step (fun _ k => XS.iconst X95.here hx rfl (hb hby at_142) k) ?_
      show own_Ends p e below F (T95.setTop (mkF m 143 A96 [(.int (0 : Int32)), (.ref a95)]))
      refine own_step (fun _ k => XS.iload X95.here hx rfl (hb hby at_143) (by rw [hA96]; rfl) k) ?_
      show own_Ends p e below F (T95.setTop (mkF m 145 A96 [(.int r9), (.int (0 : Int32)), (.ref a95)]))
      obtain ⟨cl97, Ar97, q97, S97, M97, H97, G97⟩ := id V95
      have hin97 : ¬ ((0 : Int32) < 0 ∨ cl97.slots.size ≤ ((0 : Int32) : Int32).toNatClampNeg) := inb_of S97 ⟨by decide, by decide⟩
      obtain ⟨T97, h97, X97, e97, W97, st97⟩ := stC X95 hx hZ e95 Ar97 (j := (0 : Int32)) hin97 (g := (mkF m 145 A96 [(.int r9), (.int (0 : Int32)), (.ref a95)])) rfl rfl (hb hby at_145)
      rw [own_narC rr9] at W97
      have V97 := Arv.set Ar97 q97 S97 M97 H97 G97 (own_fitC rr9) W97 0 rfl (Nat.le_of_ble_eq_true rfl)
      have V97 : Arv Z h97 a95 k95 .char (5 : Int32) [(.int r9), (.int (0 : Int32)), (.int (0 : Int32)), (.int (0 : Int32)), (.int (0 : Int32))] (.int (0 : Int32)) := V97
      refine own_step st97 ?_
      have N97 := Fr.snoc X97 N27 ge_a95
      have Z97 : n0 ≤ h97.size := by rw [W97.size]; exact Z95
      have SZ97 : h0.size ≤ h97.size := by rw [W97.size]; exact SZ95
      have hk := (W97.size.symm ▸ hk : _ ≤ h97.size)
      have hr97 := CHr.wr W97 sf_a95.2 hC95.1
      have hC97 := hC95.trans hr97
      show own_Ends p e below F (T97.setTop (mkF m 146 A96 []))
      refine own_step (fun _ k => XS.iload X97.here hx rfl (hb hby at_146) (by rw [hA96]; rfl) k) ?_
      show own_Ends p e below F (T97.setTop (mkF m 148 A96 [(.int (5 : Int32))]))
      refine own_step (fun _ k => XS.iconst X97.here hx rfl (hb hby at_148) k) ?_
      show own_Ends p e below F (T97.setTop (mkF m 149 A96 [(.int (1 : Int32)), (.int (5 : Int32))]))
      refine own_step (fun _ k => XS.icmpNo X97.here hx rfl (hb hby at_149) rfl (tlt (by decide : (1 : Int32) < (5 : Int32))).2.2.2 k) ?_
      show own_Ends p e below F (T97.setTop (mkF m 152 A96 []))
      refine own_step (fun _ k => XS.aload X97.here hx rfl (hb hby at_152) (by rw [hA96]; rfl) rfl k) ?_
      show own_Ends p e below F (T97.setTop (mkF m 154 A96 [(.ref a95)]))
      refine own_step (fun _ k => XS.iconst X97.here hx rfl (hb hby at_154) k) ?_
      show own_Ends p e below F (T97.setTop (mkF m 155 A96 [(.int (1 : Int32)), (.ref a95)]))
      refine own_step (fun _ k => XS.iload X97.here hx rfl (hb hby at_155) (by rw [hA96]; rfl) k) ?_
      show own_Ends p e below F (T97.setTop (mkF m 157 A96 [(.int r11), (.int (1 : Int32)), (.ref a95)]))
      obtain ⟨cl98, Ar98, q98, S98, M98, H98, G98⟩ := id V97
      have hin98 : ¬ ((1 : Int32) < 0 ∨ cl98.slots.size ≤ ((1 : Int32) : Int32).toNatClampNeg) := inb_of S98 ⟨by decide, by decide⟩
      obtain ⟨T98, h98, X98, e98, W98, st98⟩ := stC X97 hx hZ e97 Ar98 (j := (1 : Int32)) hin98 (g := (mkF m 157 A96 [(.int r11), (.int (1 : Int32)), (.ref a95)])) rfl rfl (hb hby at_157)
      rw [own_narC rr11] at W98
      have V98 := Arv.set Ar98 q98 S98 M98 H98 G98 (own_fitC rr11) W98 1 rfl (Nat.le_of_ble_eq_true rfl)
      have V98 : Arv Z h98 a95 k95 .char (5 : Int32) [(.int r9), (.int r11), (.int (0 : Int32)), (.int (0 : Int32)), (.int (0 : Int32))] (.int (0 : Int32)) := V98
      refine own_step st98 ?_
      have N98 := Fr.snoc X98 N97 ge_a95
      have Z98 : n0 ≤ h98.size := by rw [W98.size]; exact Z97
      have SZ98 : h0.size ≤ h98.size := by rw [W98.size]; exact SZ97
      have hk := (W98.size.symm ▸ hk : _ ≤ h98.size)
      have hr98 := CHr.wr W98 (own_SL.go sf_a95 hr97).2 hC97.1
      have hC98 := hC97.trans hr98
      show own_Ends p e below F (T98.setTop (mkF m 158 A96 []))
      refine own_step (fun _ k => XS.iload X98.here hx rfl (hb hby at_158) (by rw [hA96]; rfl) k) ?_
      show own_Ends p e below F (T98.setTop (mkF m 160 A96 [(.int (5 : Int32))]))
      refine own_step (fun _ k => XS.iconst X98.here hx rfl (hb hby at_160) k) ?_
      show own_Ends p e below F (T98.setTop (mkF m 161 A96 [(.int (2 : Int32)), (.int (5 : Int32))]))
      refine own_step (fun _ k => XS.icmpNo X98.here hx rfl (hb hby at_161) rfl (tlt (by decide : (2 : Int32) < (5 : Int32))).2.2.2 k) ?_
      show own_Ends p e below F (T98.setTop (mkF m 164 A96 []))
      refine own_step (fun _ k => XS.aload X98.here hx rfl (hb hby at_164) (by rw [hA96]; rfl) rfl k) ?_
      show own_Ends p e below F (T98.setTop (mkF m 166 A96 [(.ref a95)]))
      refine own_step (fun _ k => XS.iconst X98.here hx rfl (hb hby at_166) k) ?_
      show own_Ends p e below F (T98.setTop (mkF m 167 A96 [(.int (2 : Int32)), (.ref a95)]))
      refine own_step (fun _ k => XS.iload X98.here hx rfl (hb hby at_167) (by rw [hA96]; rfl) k) ?_
      show own_Ends p e below F (T98.setTop (mkF m 169 A96 [(.int r13), (.int (2 : Int32)), (.ref a95)]))
      obtain ⟨cl99, Ar99, q99, S99, M99, H99, G99⟩ := id V98
      have hin99 : ¬ ((2 : Int32) < 0 ∨ cl99.slots.size ≤ ((2 : Int32) : Int32).toNatClampNeg) := inb_of S99 ⟨by decide, by decide⟩
      obtain ⟨T99, h99, X99, e99, W99, st99⟩ := stC X98 hx hZ e98 Ar99 (j := (2 : Int32)) hin99 (g := (mkF m 169 A96 [(.int r13), (.int (2 : Int32)), (.ref a95)])) rfl rfl (hb hby at_169)
      rw [own_narC rr13] at W99
      have V99 := Arv.set Ar99 q99 S99 M99 H99 G99 (own_fitC rr13) W99 2 rfl (Nat.le_of_ble_eq_true rfl)
      have V99 : Arv Z h99 a95 k95 .char (5 : Int32) [(.int r9), (.int r11), (.int r13), (.int (0 : Int32)), (.int (0 : Int32))] (.int (0 : Int32)) := V99
      refine own_step st99 ?_
      have N99 := Fr.snoc X99 N98 ge_a95
      have Z99 : n0 ≤ h99.size := by rw [W99.size]; exact Z98
      have SZ99 : h0.size ≤ h99.size := by rw [W99.size]; exact SZ98
      have hk := (W99.size.symm ▸ hk : _ ≤ h99.size)
      have hr99 := CHr.wr W99 (own_SL.go (own_SL.go sf_a95 hr97) hr98).2 hC98.1
      have hC99 := hC98.trans hr99
      show own_Ends p e below F (T99.setTop (mkF m 170 A96 []))
      refine own_step (fun _ k => XS.iload X99.here hx rfl (hb hby at_170) (by rw [hA96]; rfl) k) ?_
      show own_Ends p e below F (T99.setTop (mkF m 172 A96 [(.int (5 : Int32))]))
      refine own_step (fun _ k => XS.iconst X99.here hx rfl (hb hby at_172) k) ?_
      show own_Ends p e below F (T99.setTop (mkF m 173 A96 [(.int (3 : Int32)), (.int (5 : Int32))]))
      refine own_step (fun _ k => XS.icmpNo X99.here hx rfl (hb hby at_173) rfl (tlt (by decide : (3 : Int32) < (5 : Int32))).2.2.2 k) ?_
      show own_Ends p e below F (T99.setTop (mkF m 176 A96 []))
      refine own_step (fun _ k => XS.aload X99.here hx rfl (hb hby at_176) (by rw [hA96]; rfl) rfl k) ?_
      show own_Ends p e below F (T99.setTop (mkF m 178 A96 [(.ref a95)]))
      refine own_step (fun _ k => XS.iconst X99.here hx rfl (hb hby at_178) k) ?_
      show own_Ends p e below F (T99.setTop (mkF m 179 A96 [(.int (3 : Int32)), (.ref a95)]))
      refine own_step (fun _ k => XS.iload X99.here hx rfl (hb hby at_179) (by rw [hA96]; rfl) k) ?_
      show own_Ends p e below F (T99.setTop (mkF m 181 A96 [(.int r15), (.int (3 : Int32)), (.ref a95)]))
      obtain ⟨cl100, Ar100, q100, S100, M100, H100, G100⟩ := id V99
      have hin100 : ¬ ((3 : Int32) < 0 ∨ cl100.slots.size ≤ ((3 : Int32) : Int32).toNatClampNeg) := inb_of S100 ⟨by decide, by decide⟩
      obtain ⟨T100, h100, X100, e100, W100, st100⟩ := stC X99 hx hZ e99 Ar100 (j := (3 : Int32)) hin100 (g := (mkF m 181 A96 [(.int r15), (.int (3 : Int32)), (.ref a95)])) rfl rfl (hb hby at_181)
      rw [own_narC rr15] at W100
      have V100 := Arv.set Ar100 q100 S100 M100 H100 G100 (own_fitC rr15) W100 3 rfl (Nat.le_of_ble_eq_true rfl)
      have V100 : Arv Z h100 a95 k95 .char (5 : Int32) [(.int r9), (.int r11), (.int r13), (.int r15), (.int (0 : Int32))] (.int (0 : Int32)) := V100
      refine own_step st100 ?_
      have N100 := Fr.snoc X100 N99 ge_a95
      have Z100 : n0 ≤ h100.size := by rw [W100.size]; exact Z99
      have SZ100 : h0.size ≤ h100.size := by rw [W100.size]; exact SZ99
      have hk := (W100.size.symm ▸ hk : _ ≤ h100.size)
      have hr100 := CHr.wr W100 (own_SL.go (own_SL.go (own_SL.go sf_a95 hr97) hr98) hr99).2 hC99.1
      have hC100 := hC99.trans hr100
      show own_Ends p e below F (T100.setTop (mkF m 182 A96 []))
      refine own_step (fun _ k => XS.iload X100.here hx rfl (hb hby at_182) (by rw [hA96]; rfl) k) ?_
      show own_Ends p e below F (T100.setTop (mkF m 184 A96 [(.int (5 : Int32))]))
      refine own_step (fun _ k => XS.iconst X100.here hx rfl (hb hby at_184) k) ?_
      show own_Ends p e below F (T100.setTop (mkF m 185 A96 [(.int (4 : Int32)), (.int (5 : Int32))]))
      refine own_step (fun _ k => XS.icmpNo X100.here hx rfl (hb hby at_185) rfl (tlt (by decide : (4 : Int32) < (5 : Int32))).2.2.2 k) ?_
      show own_Ends p e below F (T100.setTop (mkF m 188 A96 []))
      refine own_step (fun _ k => XS.aload X100.here hx rfl (hb hby at_188) (by rw [hA96]; rfl) rfl k) ?_
      show own_Ends p e below F (T100.setTop (mkF m 190 A96 [(.ref a95)]))
      refine own_step (fun _ k => XS.iconst X100.here hx rfl (hb hby at_190) k) ?_
      show own_Ends p e below F (T100.setTop (mkF m 191 A96 [(.int (4 : Int32)), (.ref a95)]))
      refine own_step (fun _ k => XS.iload X100.here hx rfl (hb hby at_191) (by rw [hA96]; rfl) k) ?_
      show own_Ends p e below F (T100.setTop (mkF m 193 A96 [(.int r17), (.int (4 : Int32)), (.ref a95)]))
      obtain ⟨cl101, Ar101, q101, S101, M101, H101, G101⟩ := id V100
      have hin101 : ¬ ((4 : Int32) < 0 ∨ cl101.slots.size ≤ ((4 : Int32) : Int32).toNatClampNeg) := inb_of S101 ⟨by decide, by decide⟩
      obtain ⟨T101, h101, X101, e101, W101, st101⟩ := stC X100 hx hZ e100 Ar101 (j := (4 : Int32)) hin101 (g := (mkF m 193 A96 [(.int r17), (.int (4 : Int32)), (.ref a95)])) rfl rfl (hb hby at_193)
      rw [own_narC rr17] at W101
      have V101 := Arv.set Ar101 q101 S101 M101 H101 G101 (own_fitC rr17) W101 4 rfl (Nat.le_of_ble_eq_true rfl)
      have V101 : Arv Z h101 a95 k95 .char (5 : Int32) [(.int r9), (.int r11), (.int r13), (.int r15), (.int r17)] (.int (0 : Int32)) := V101
      refine own_step st101 ?_
      have N101 := Fr.snoc X101 N100 ge_a95
      have Z101 : n0 ≤ h101.size := by rw [W101.size]; exact Z100
      have SZ101 : h0.size ≤ h101.size := by rw [W101.size]; exact SZ100
      have hk := (W101.size.symm ▸ hk : _ ≤ h101.size)
      have hr101 := CHr.wr W101 (own_SL.go (own_SL.go (own_SL.go (own_SL.go sf_a95 hr97) hr98) hr99) hr100).2 hC100.1
      have hC101 := hC100.trans hr101
      show own_Ends p e below F (T101.setTop (mkF m 194 A96 []))
      refine own_step (fun _ k => XS.iload X101.here hx rfl (hb hby at_194) (by rw [hA96]; rfl) k) ?_
      show own_Ends p e below F (T101.setTop (mkF m 196 A96 [(.int (5 : Int32))]))
      refine own_step (fun _ k => XS.iconst X101.here hx rfl (hb hby at_196) k) ?_
      show own_Ends p e below F (T101.setTop (mkF m 197 A96 [(.int (5 : Int32)), (.int (5 : Int32))]))
      refine own_step (fun _ k => XS.icmpYes X101.here hx rfl (pc0 := 197) (pc' := 206) rfl (hb hby at_197) rfl (flt (by decide : ¬ ((5 : Int32) < (5 : Int32)))).2.2.2 (by decide) (by decide) k) ?_
      show own_Ends p e below F (T101.setTop (mkF m 206 A96 []))
      refine own_step (fun _ k => XS.iload X101.here hx rfl (hb hby at_206) (by rw [hA96]; rfl) k) ?_
      show own_Ends p e below F (T101.setTop (mkF m 208 A96 [(.int (5 : Int32))]))
      refine own_step (fun _ k => XS.bipush X101.here hx rfl (hb hby at_208) k) ?_
      show own_Ends p e below F (T101.setTop (mkF m 210 A96 [(.int (6 : Int32)), (.int (5 : Int32))]))
      refine own_step (fun _ k => XS.icmpYes X101.here hx rfl (pc0 := 210) (pc' := 220) rfl (hb hby at_210) rfl (flt (by decide : ¬ ((6 : Int32) < (5 : Int32)))).2.2.2 (by decide) (by decide) k) ?_
      show own_Ends p e below F (T101.setTop (mkF m 220 A96 []))
      refine own_step (fun _ k => XS.iload X101.here hx rfl (hb hby at_220) (by rw [hA96]; rfl) k) ?_
      show own_Ends p e below F (T101.setTop (mkF m 222 A96 [(.int (5 : Int32))]))
      refine own_step (fun _ k => XS.bipush X101.here hx rfl (hb hby at_222) k) ?_
      show own_Ends p e below F (T101.setTop (mkF m 224 A96 [(.int (7 : Int32)), (.int (5 : Int32))]))
      refine own_step (fun _ k => XS.icmpYes X101.here hx rfl (pc0 := 224) (pc' := 234) rfl (hb hby at_224) rfl (flt (by decide : ¬ ((7 : Int32) < (5 : Int32)))).2.2.2 (by decide) (by decide) k) ?_
      show own_Ends p e below F (T101.setTop (mkF m 234 A96 []))
      refine own_step (fun _ k => XS.iload X101.here hx rfl (hb hby at_234) (by rw [hA96]; rfl) k) ?_
      show own_Ends p e below F (T101.setTop (mkF m 236 A96 [(.int (5 : Int32))]))
      refine own_step (fun _ k => XS.bipush X101.here hx rfl (hb hby at_236) k) ?_
      show own_Ends p e below F (T101.setTop (mkF m 238 A96 [(.int (8 : Int32)), (.int (5 : Int32))]))
      refine own_step (fun _ k => XS.icmpYes X101.here hx rfl (pc0 := 238) (pc' := 248) rfl (hb hby at_238) rfl (flt (by decide : ¬ ((8 : Int32) < (5 : Int32)))).2.2.2 (by decide) (by decide) k) ?_
      show own_Ends p e below F (T101.setTop (mkF m 248 A96 []))
      refine own_step (fun _ k => XS.iload X101.here hx rfl (hb hby at_248) (by rw [hA96]; rfl) k) ?_
      show own_Ends p e below F (T101.setTop (mkF m 250 A96 [(.int (5 : Int32))]))
      refine own_step (fun _ k => XS.bipush X101.here hx rfl (hb hby at_250) k) ?_
      show own_Ends p e below F (T101.setTop (mkF m 252 A96 [(.int (9 : Int32)), (.int (5 : Int32))]))
      refine own_step (fun _ k => XS.icmpYes X101.here hx rfl (pc0 := 252) (pc' := 262) rfl (hb hby at_252) rfl (flt (by decide : ¬ ((9 : Int32) < (5 : Int32)))).2.2.2 (by decide) (by decide) k) ?_
      show own_Ends p e below F (T101.setTop (mkF m 262 A96 []))
      obtain ⟨T102, h102, X102, e102, E102, A102, D102, -, st102⟩ := newO X101 hx hZ hown (own_g hw 7 rfl) (own_g hw 8 rfl) (own_g hw 9 rfl) e101 (g := (mkF m 262 A96 [])) rfl (hb hby at_262) (by decide) (by decide)
      obtain ⟨a102, g102⟩ : ∃ z, z = h101.size := ⟨_, rfl⟩
      rw [← g102] at A102 D102 st102
      have ge_a102 : n0 ≤ a102 := Nat.le_trans Z101 (Nat.le_of_eq g102.symm)
      have sz_a102 : h0.size ≤ a102 := Nat.le_trans SZ101 (Nat.le_of_eq g102.symm)
      have ne_a95_a102 : a95 ≠ a102 := Nat.ne_of_lt (by rw [g102]; exact V101.lt)
      have Z102 : n0 ≤ h102.size := Nat.le_trans Z101 E102.1
      have SZ102 : h0.size ≤ h102.size := Nat.le_trans SZ101 E102.1
      have hk := Nat.le_trans hk E102.1
      have hr102 := CHr.ext E102 hC101.1
      have hC102 := hC101.trans hr102
      have F102_coder : Fld Z h102 a102 "java/lang/String" "coder" "B" (.int (0 : Int32)) := D102 (Or.inr (own_g hw 33 rfl)) (ty := .byte) (by decide)
      have F102_value : Fld Z h102 a102 "java/lang/String" "value" "[B" .null := D102 (Or.inr (own_g hw 35 rfl)) (ty := (.array .byte)) (by decide)
      have sf_a102 : own_SL Z own_EL s.vm h102 a102 := own_SL.born hC101.1 E102 g102 A102.lt
      refine own_step st102 ?_
      show own_Ends p e below F (T102.setTop (mkF m 265 A96 [(.ref a102)]))
      refine own_step (fun _ k => XS.dup X102.here hx rfl (hb hby at_265) rfl rfl k) ?_
      show own_Ends p e below F (T102.setTop (mkF m 266 A96 [(.ref a102), (.ref a102)]))
      refine own_step (fun _ k => XS.aload X102.here hx rfl (hb hby at_266) (by rw [hA96]; rfl) rfl k) ?_
      show own_Ends p e below F (T102.setTop (mkF m 268 A96 [(.ref a95), (.ref a102), (.ref a102)]))
      obtain ⟨_, _, ⟨T103, L103, k103, n103⟩, -, X103, ⟨Lc103, hQ103, l103, y103, z103⟩, st103⟩ := X102.specialBack hx (y := (⟨"java/lang/String", "<init>", "([C)V"⟩ : MethodName)) rfl hown (mvT hZ (own_g hw 10 rfl)) (mvT hZ (own_g hw 11 rfl)) (mvT hZ (own_g hw 12 rfl)) (by decide) (StrChars.Road.backV (W := 1) hZ (fun d hd => hw d ((by decide +kernel : ∀ d ∈ StrChars.Road.words, d ∈ tables_1) d hd)) (kI := 4) (own_g hw 8 rfl) (cs := ([r9, r11, r13, r15, r17] : List Int32)) (bs := ([r9, r11, r13, r15, r17] : List Int32).map (fun c => c.toInt8.toInt32)) (n := 5) ge_a102 Z102 A102 F102_value F102_coder (V101.ext E102) (Sta.ext E102 (Sta.wr W101 (Sta.wr W100 (Sta.wr W99 (Sta.wr W98 (Sta.wr W97 (Sta.ext E95 S0_27))))))) hz rfl rfl (by decide) (by decide) (own_cS rr9 (own_cS rr11 (own_cS rr13 (own_cS rr15 (own_cS rr17 own_c0))))) rfl (by decide) (by decide)) (g := (mkF m 268 A96 [(.ref a95), (.ref a102), (.ref a102)])) rfl (by rw [hml]; show A96.size = _; rw [hA96]; rfl) (Steps.refl _) (a := a102) (argsL := [(.ref a95)]) (rest := [(.ref a102)]) (lenOf pd__28_5bC_29V rfl) rfl (by show 2 * 0 + _ ≤ _; exact Nat.le_of_eq rfl) (hb hby at_268) (fun _ _ => ⟨rfl, e102, (by decide : 12 + 1 ≤ _), (by decide : 89 + 5 ≤ _)⟩)
      dsimp only [Pt.U, Pt.locs, Pt.cells, Pt.slots] at X103 l103 y103 z103 st103 hQ103
      subst l103 y103 z103
      obtain ⟨rfl, Nq103, Kq103, fe103, fc103, tt103, kt103, -, -, -, fv103, fa103⟩ := hQ103
      have N103 := Fr.app N101 Nq103
      have Z103 : n0 ≤ T103.heap.size := Nat.le_trans Z102 Kq103.1
      have SZ103 : h0.size ≤ T103.heap.size := Nat.le_trans SZ102 Kq103.1
      have S0_103 := own_Sta_keep (Sta.ext E102 (Sta.wr W101 (Sta.wr W100 (Sta.wr W99 (Sta.wr W98 (Sta.wr W97 (Sta.ext E95 S0_27))))))) Kq103 (allS (own_ns_exa A102) all0)
      have str103 : own_Str Z T103.heap T103.heap.size a102 ([r9, r11, r13, r15, r17] : List Int32) := own_Str.mk fe103 fc103 fv103 fa103 rfl rfl (own_cS rr9 (own_cS rr11 (own_cS rr13 (own_cS rr15 (own_cS rr17 own_c0)))))
      have hr103 := CHr.keep Kq103 (sfS sf_a102.2 sf0) hC102.1
      have hC103 := hC102.trans hr103
      have hk := Nat.le_trans hk Kq103.1
      refine own_trans st103 ?_
      show own_Ends p e below F (T103.setTop (mkF m 271 A96 [(.ref a102)]))
      obtain ⟨A104, hA104⟩ : ∃ z : Array Slot, z = #[.val (.long p1), .second, .val (.int p2), .val (.int p3), .val (.int p4), .val (.int z2), .val (.int (5 : Int32)), .val (.int r9), .val (.int r11), .val (.int r13), .val (.int r15), .val (.int r17), .val (.int r19), .val (.int r21), .val (.int r23), .val (.int r25), .val (.int r27), .val (.ref a95), .val (.ref a102), .unset, .unset, .unset] := ⟨_, rfl⟩
      refine own_step (fun _ k => XS.astore X103.here hx rfl (hb hby at_271) rfl rfl (l' := A104) (by rw [hA96, hA104]; exact rfl) k) ?_
      show own_Ends p e below F (T103.setTop (mkF m 273 A104 []))
      refine own_step (fun _ k => XS.iload X103.here hx rfl (hb hby at_273) (by rw [hA104]; rfl) k) ?_
      show own_Ends p e below F (T103.setTop (mkF m 275 A104 [(.int (5 : Int32))]))
      refine own_step (fun _ k => XS.iconst X103.here hx rfl (hb hby at_275) k) ?_
      show own_Ends p e below F (T103.setTop (mkF m 276 A104 [(.int (2 : Int32)), (.int (5 : Int32))]))
      refine own_step (fun _ k => XS.icmpYes X103.here hx rfl (pc0 := 276) (pc' := 297) rfl (hb hby at_276) rfl (feq (by decide : ¬ ((5 : Int32) = (2 : Int32)))).2 (by decide) (by decide) k) ?_
      show own_Ends p e below F (T103.setTop (mkF m 297 A104 []))
      refine own_step (fun _ k => XS.iconst X103.here hx rfl (hb hby at_297) k) ?_
      show own_Ends p e below F (T103.setTop (mkF m 298 A104 [(.int (0 : Int32))]))
      obtain ⟨A105, hA105⟩ : ∃ z : Array Slot, z = #[.val (.long p1), .second, .val (.int p2), .val (.int p3), .val (.int p4), .val (.int z2), .val (.int (5 : Int32)), .val (.int r9), .val (.int r11), .val (.int r13), .val (.int r15), .val (.int r17), .val (.int r19), .val (.int r21), .val (.int r23), .val (.int r25), .val (.int r27), .val (.ref a95), .val (.ref a102), .val (.int (0 : Int32)), .unset, .unset] := ⟨_, rfl⟩
      refine own_step (fun _ k => XS.istore X103.here hx rfl (hb hby at_298) rfl (l' := A105) (by rw [hA104, hA105]; exact rfl) k) ?_
      show own_Ends p e below F (T103.setTop (mkF m 300 A105 []))
      refine own_step (fun _ k => XS.iload X103.here hx rfl (hb hby at_300) (by rw [hA105]; rfl) k) ?_
      show own_Ends p e below F (T103.setTop (mkF m 302 A105 [(.int (5 : Int32))]))
      refine own_step (fun _ k => XS.bipush X103.here hx rfl (hb hby at_302) k) ?_
      show own_Ends p e below F (T103.setTop (mkF m 304 A105 [(.int (9 : Int32)), (.int (5 : Int32))]))
      refine own_step (fun _ k => XS.icmpYes X103.here hx rfl (pc0 := 304) (pc' := 374) rfl (hb hby at_304) rfl (feq (by decide : ¬ ((5 : Int32) = (9 : Int32)))).2 (by decide) (by decide) k) ?_
      show own_Ends p e below F (T103.setTop (mkF m 374 A105 []))
      refine own_step (fun _ k => XS.iconst X103.here hx rfl (hb hby at_374) k) ?_
      show own_Ends p e below F (T103.setTop (mkF m 375 A105 [(.int (0 : Int32))]))
      obtain ⟨A106, hA106⟩ : ∃ z : Array Slot, z = #[.val (.long p1), .second, .val (.int p2), .val (.int p3), .val (.int p4), .val (.int z2), .val (.int (5 : Int32)), .val (.int r9), .val (.int r11), .val (.int r13), .val (.int r15), .val (.int r17), .val (.int r19), .val (.int r21), .val (.int r23), .val (.int r25), .val (.int r27), .val (.ref a95), .val (.ref a102), .val (.int (0 : Int32)), .val (.int (0 : Int32)), .unset] := ⟨_, rfl⟩
      refine own_step (fun _ k => XS.istore X103.here hx rfl (hb hby at_375) rfl (l' := A106) (by rw [hA105, hA106]; exact rfl) k) ?_
      show own_Ends p e below F (T103.setTop (mkF m 377 A106 []))
      refine own_step (fun _ k => XS.iload X103.here hx rfl (hb hby at_377) (by rw [hA106]; rfl) k) ?_
      show own_Ends p e below F (T103.setTop (mkF m 379 A106 [(.int (0 : Int32))]))
      refine own_step (fun _ k => XS.ifNo X103.here hx rfl (hb hby at_379) rfl ((if0 _ _).trans (teq (by decide : (0 : Int32) = (0 : Int32))).2) k) ?_
      show own_Ends p e below F (T103.setTop (mkF m 382 A106 []))
      refine own_step (fun _ k => XS.iload X103.here hx rfl (hb hby at_382) (by rw [hA106]; rfl) k) ?_
      show own_Ends p e below F (T103.setTop (mkF m 384 A106 [(.int (0 : Int32))]))
      refine own_step (fun _ k => XS.ifYes X103.here hx rfl (pc0 := 384) (pc' := 391) rfl (hb hby at_384) rfl ((if0 _ _).trans (teq (by decide : (0 : Int32) = (0 : Int32))).1) (by decide) (by decide) k) ?_
      show own_Ends p e below F (T103.setTop (mkF m 391 A106 []))
      refine own_step (fun _ k => XS.iconst X103.here hx rfl (hb hby at_391) k) ?_
      show own_Ends p e below F (T103.setTop (mkF m 392 A106 [(.int (0 : Int32))]))
      obtain ⟨A107, hA107⟩ : ∃ z : Array Slot, z = #[.val (.long p1), .second, .val (.int p2), .val (.int p3), .val (.int p4), .val (.int z2), .val (.int (5 : Int32)), .val (.int r9), .val (.int r11), .val (.int r13), .val (.int r15), .val (.int r17), .val (.int r19), .val (.int r21), .val (.int r23), .val (.int r25), .val (.int r27), .val (.ref a95), .val (.ref a102), .val (.int (0 : Int32)), .val (.int (0 : Int32)), .val (.int (0 : Int32))] := ⟨_, rfl⟩
      refine own_step (fun _ k => XS.istore X103.here hx rfl (hb hby at_392) rfl (l' := A107) (by rw [hA106, hA107]; exact rfl) k) ?_
      show own_Ends p e below F (T103.setTop (mkF m 394 A107 []))
      refine own_step (fun _ k => XS.aload X103.here hx rfl (hb hby at_394) (by rw [hA107]; rfl) rfl k) ?_
      show own_Ends p e below F (T103.setTop (mkF m 396 A107 [(.ref a102)]))
      obtain ⟨_, _, ⟨T108, L108, k108, n108⟩, -, X108, hS108, gr108, ⟨Lc108, hQ108, l108, y108, z108, hr108⟩, st108⟩ := callSS X103 hx (y := (⟨"com/example/facetwork/facetwork/cli/Logging", "isVerbose", "(Ljava/lang/String;)Z"⟩ : MethodName)) hown (mvT hZ (own_g hw 36 rfl)) (mvT hZ (own_g hw 37 rfl)) (mvT hZ (own_g hw 38 rfl)) (mvT hZ (own_g hw 39 rfl)) (by decide) (backOfSH (W := 0) (rm8 l Z a0 hw [] a102 ([r9, r11, r13, r15, r17] : List Int32) T103.heap.size zc T103.heap n0 Z103 S0_103 hz (own_Str.top str103) (Nat.le_of_ble_eq_true rfl)) hZ (own_g hw 39 rfl) (own_g hw 38 rfl) (by decide) (by decide) (own_EW hw) hC103.1) (g := (mkF m 396 A107 [(.ref a102)])) rfl (by rw [hml]; show A107.size = _; rw [hA107]; rfl) (argsL := [(.ref a102)]) (rest := []) (lenOf pd__28Ljava_2flang_2fString_3b_29Z rfl) rfl (by show 2 * 0 + _ ≤ _; exact Nat.le_of_eq rfl) (hb hby at_396) (fun _ _ => ⟨rfl, rfl, (by decide : 13 + 4 ≤ _), (by decide : 94 + 52 ≤ _)⟩)
      dsimp only [Pt.U, Pt.locs, Pt.cells, Pt.slots] at X108 l108 y108 z108 st108 hQ108 hS108 gr108 hr108
      subst l108 y108 z108
      obtain ⟨rfl, Nq108, Kq108⟩ := hQ108
      have N108 := Fr.app N103 Nq108
      have Z108 : n0 ≤ T108.heap.size := Nat.le_trans Z103 Kq108.1
      have SZ108 : h0.size ≤ T108.heap.size := Nat.le_trans SZ103 Kq108.1
      have S0_108 := own_Sta_keep S0_103 Kq108 all0
      have hC108 := hC103.trans hr108
      have hZ := own_warm hZ hS108
      have hown := own_find hown hS108
      have hS := foldS hS (by exact hk) hS108 gr108
      have hk := Nat.le_refl T108.heap.size
      refine own_trans st108 ?_
      show own_Ends p e below F (T108.setTop (mkF m 399 A107 [(.int (own_ver ([r9, r11, r13, r15, r17] : List Int32)))]))
      refine own_step (fun _ k => XS.iload X108.here hx rfl (hb hby at_399) (by rw [hA107]; rfl) k) ?_
      show own_Ends p e below F (T108.setTop (mkF m 401 A107 [(.int (0 : Int32)), (.int (own_ver ([r9, r11, r13, r15, r17] : List Int32)))]))
      refine own_step (fun _ k => XS.icmpNo X108.here hx rfl (hb hby at_401) rfl (teq (own_v0 (Nat.ne_of_beq_eq_false rfl) (Nat.ne_of_beq_eq_false rfl) : (own_ver ([r9, r11, r13, r15, r17] : List Int32)) = (0 : Int32))).2 k) ?_
      show own_Ends p e below F (T108.setTop (mkF m 404 A107 []))
      refine own_step (fun _ k => XS.iconst X108.here hx rfl (hb hby at_404) k) ?_
      show own_Ends p e below F (T108.setTop (mkF m 405 A107 [(.int (1 : Int32))]))
      refine own_step (fun _ k => XS.goto X108.here hx rfl (pc0 := 405) (pc' := 409) rfl (hb hby at_405) (by decide) (by decide) k) ?_
      show own_Ends p e below F (T108.setTop (mkF m 409 A107 [(.int (1 : Int32))]))
      rw [hF]
      exact own_retH X108 hS (by exact hk) hh rfl hZ (own_EW hw) hC108 (v := (some (.int (nar .boolean (1 : Int32))))) (fun h => by rw [Bd.returns] at h; cases h) Bd.notSynchronized (fun fs hr => retN X108 hx (t := .boolean) Bd.returns (by simp) (hb hby at_409) hr) (by decide) (by decide) (by exact ⟨rfl, N108⟩)
    · show own_Ends p e below F (T27.setTop (mkF m 129 A28 []))
      refine own_step (fun _ k => XS.iload X27.here hx rfl (hb hby at_129) (by rw [hA28]; rfl) k) ?_
      show own_Ends p e below F (T27.setTop (mkF m 131 A28 [(.int (6 : Int32))]))
      obtain ⟨T109, h109, k109, X109, e109, E109, A109, st109⟩ := newP X27 hx hZ (own_g hw 6 rfl) rfl (g := (mkF m 131 A28 [(.int (6 : Int32))])) rfl (hb hby at_131) rfl (by decide) (cap := 6) (by decide) (by decide) (by decide) (by decide)
      obtain ⟨a109, g109⟩ : ∃ z, z = T27.heap.size := ⟨_, rfl⟩
      rw [← g109] at A109 st109
      have ge_a109 : n0 ≤ a109 := Nat.le_trans Z27 (Nat.le_of_eq g109.symm)
      have sz_a109 : h0.size ≤ a109 := Nat.le_trans SZ27 (Nat.le_of_eq g109.symm)
      have Z109 : n0 ≤ h109.size := Nat.le_trans Z27 E109.1
      have SZ109 : h0.size ≤ h109.size := Nat.le_trans SZ27 E109.1
      have hk := Nat.le_trans hk E109.1
      have hr109 := CHr.ext E109 hC27.1
      have hC109 := hC27.trans hr109
      have V109 : Arv Z h109 a109 k109 .char (6 : Int32) [(.int (0 : Int32)), (.int (0 : Int32)), (.int (0 : Int32)), (.int (0 : Int32)), (.int (0 : Int32)), (.int (0 : Int32))] (.int (0 : Int32)) := Arv.pad (Arv.new A109 (by decide)) (pad_rep [] _ 6)
      have sf_a109 : own_SL Z own_EL s.vm h109 a109 := own_SL.born hC27.1 E109 g109 V109.lt
      refine own_step st109 ?_
      show own_Ends p e below F (T109.setTop (mkF m 133 A28 [(.ref a109)]))
      obtain ⟨A110, hA110⟩ : ∃ z : Array Slot, z = #[.val (.long p1), .second, .val (.int p2), .val (.int p3), .val (.int p4), .val (.int z2), .val (.int (6 : Int32)), .val (.int r9), .val (.int r11), .val (.int r13), .val (.int r15), .val (.int r17), .val (.int r19), .val (.int r21), .val (.int r23), .val (.int r25), .val (.int r27), .val (.ref a109), .unset, .unset, .unset, .unset] := ⟨_, rfl⟩
      refine own_step (fun _ k => XS.astore X109.here hx rfl (hb hby at_133) rfl rfl (l' := A110) (by rw [hA28, hA110]; exact rfl) k) ?_
      show own_Ends p e below F (T109.setTop (mkF m 135 A110 []))
      refine own_step (fun _ k => XS.iload X109.here hx rfl (hb hby at_135) (by rw [hA110]; rfl) k) ?_
      show own_Ends p e below F (T109.setTop (mkF m 137 A110 [(.int (6 : Int32))]))
      refine own_step (fun _ k => XS.ifNo X109.here hx rfl (hb hby at_137) rfl ((if0 _ _).trans (tlt (by decide : (0 : Int32) < (6 : Int32))).2.2.2) k) ?_
      show own_Ends p e below F (T109.setTop (mkF m 140 A110 []))
      refine own_step (fun _ k => XS.aload X109.here hx rfl (hb hby at_140) (by rw [hA110]; rfl) rfl k) ?_
      show own_Ends p e below F (T109.setTop (mkF m 142 A110 [(.ref a109)]))
      refine own_step (fun _ k => XS.iconst X109.here hx rfl (hb hby at_142) k) ?_
      show own_Ends p e below F (T109.setTop (mkF m 143 A110 [(.int (0 : Int32)), (.ref a109)]))
      refine own_step (fun _ k => XS.iload X109.here hx rfl (hb hby at_143) (by rw [hA110]; rfl) k) ?_
      show own_Ends p e below F (T109.setTop (mkF m 145 A110 [(.int r9), (.int (0 : Int32)), (.ref a109)]))
      obtain ⟨cl111, Ar111, q111, S111, M111, H111, G111⟩ := id V109
      have hin111 : ¬ ((0 : Int32) < 0 ∨ cl111.slots.size ≤ ((0 : Int32) : Int32).toNatClampNeg) := inb_of S111 ⟨by decide, by decide⟩
      obtain ⟨T111, h111, X111, e111, W111, st111⟩ := stC X109 hx hZ e109 Ar111 (j := (0 : Int32)) hin111 (g := (mkF m 145 A110 [(.int r9), (.int (0 : Int32)), (.ref a109)])) rfl rfl (hb hby at_145)
      rw [own_narC rr9] at W111
      have V111 := Arv.set Ar111 q111 S111 M111 H111 G111 (own_fitC rr9) W111 0 rfl (Nat.le_of_ble_eq_true rfl)
      have V111 : Arv Z h111 a109 k109 .char (6 : Int32) [(.int r9), (.int (0 : Int32)), (.int (0 : Int32)), (.int (0 : Int32)), (.int (0 : Int32)), (.int (0 : Int32))] (.int (0 : Int32)) := V111
      refine own_step st111 ?_
      have N111 := Fr.snoc X111 N27 ge_a109
      have Z111 : n0 ≤ h111.size := by rw [W111.size]; exact Z109
      have SZ111 : h0.size ≤ h111.size := by rw [W111.size]; exact SZ109
      have hk := (W111.size.symm ▸ hk : _ ≤ h111.size)
      have hr111 := CHr.wr W111 sf_a109.2 hC109.1
      have hC111 := hC109.trans hr111
      show own_Ends p e below F (T111.setTop (mkF m 146 A110 []))
      refine own_step (fun _ k => XS.iload X111.here hx rfl (hb hby at_146) (by rw [hA110]; rfl) k) ?_
      show own_Ends p e below F (T111.setTop (mkF m 148 A110 [(.int (6 : Int32))]))
      refine own_step (fun _ k => XS.iconst X111.here hx rfl (hb hby at_148) k) ?_
      show own_Ends p e below F (T111.setTop (mkF m 149 A110 [(.int (1 : Int32)), (.int (6 : Int32))]))
      refine own_step (fun _ k => XS.icmpNo X111.here hx rfl (hb hby at_149) rfl (tlt (by decide : (1 : Int32) < (6 : Int32))).2.2.2 k) ?_
      show own_Ends p e below F (T111.setTop (mkF m 152 A110 []))
      refine own_step (fun _ k => XS.aload X111.here hx rfl (hb hby at_152) (by rw [hA110]; rfl) rfl k) ?_
      show own_Ends p e below F (T111.setTop (mkF m 154 A110 [(.ref a109)]))
      refine own_step (fun _ k => XS.iconst X111.here hx rfl (hb hby at_154) k) ?_
      show own_Ends p e below F (T111.setTop (mkF m 155 A110 [(.int (1 : Int32)), (.ref a109)]))
      refine own_step (fun _ k => XS.iload X111.here hx rfl (hb hby at_155) (by rw [hA110]; rfl) k) ?_
      show own_Ends p e below F (T111.setTop (mkF m 157 A110 [(.int r11), (.int (1 : Int32)), (.ref a109)]))
      obtain ⟨cl112, Ar112, q112, S112, M112, H112, G112⟩ := id V111
      have hin112 : ¬ ((1 : Int32) < 0 ∨ cl112.slots.size ≤ ((1 : Int32) : Int32).toNatClampNeg) := inb_of S112 ⟨by decide, by decide⟩
      obtain ⟨T112, h112, X112, e112, W112, st112⟩ := stC X111 hx hZ e111 Ar112 (j := (1 : Int32)) hin112 (g := (mkF m 157 A110 [(.int r11), (.int (1 : Int32)), (.ref a109)])) rfl rfl (hb hby at_157)
      rw [own_narC rr11] at W112
      have V112 := Arv.set Ar112 q112 S112 M112 H112 G112 (own_fitC rr11) W112 1 rfl (Nat.le_of_ble_eq_true rfl)
      have V112 : Arv Z h112 a109 k109 .char (6 : Int32) [(.int r9), (.int r11), (.int (0 : Int32)), (.int (0 : Int32)), (.int (0 : Int32)), (.int (0 : Int32))] (.int (0 : Int32)) := V112
      refine own_step st112 ?_
      have N112 := Fr.snoc X112 N111 ge_a109
      have Z112 : n0 ≤ h112.size := by rw [W112.size]; exact Z111
      have SZ112 : h0.size ≤ h112.size := by rw [W112.size]; exact SZ111
      have hk := (W112.size.symm ▸ hk : _ ≤ h112.size)
      have hr112 := CHr.wr W112 (own_SL.go sf_a109 hr111).2 hC111.1
      have hC112 := hC111.trans hr112
      show own_Ends p e below F (T112.setTop (mkF m 158 A110 []))
      refine own_step (fun _ k => XS.iload X112.here hx rfl (hb hby at_158) (by rw [hA110]; rfl) k) ?_
      show own_Ends p e below F (T112.setTop (mkF m 160 A110 [(.int (6 : Int32))]))
      refine own_step (fun _ k => XS.iconst X112.here hx rfl (hb hby at_160) k) ?_
      show own_Ends p e below F (T112.setTop (mkF m 161 A110 [(.int (2 : Int32)), (.int (6 : Int32))]))
      refine own_step (fun _ k => XS.icmpNo X112.here hx rfl (hb hby at_161) rfl (tlt (by decide : (2 : Int32) < (6 : Int32))).2.2.2 k) ?_
      show own_Ends p e below F (T112.setTop (mkF m 164 A110 []))
      refine own_step (fun _ k => XS.aload X112.here hx rfl (hb hby at_164) (by rw [hA110]; rfl) rfl k) ?_
      show own_Ends p e below F (T112.setTop (mkF m 166 A110 [(.ref a109)]))
      refine own_step (fun _ k => XS.iconst X112.here hx rfl (hb hby at_166) k) ?_
      show own_Ends p e below F (T112.setTop (mkF m 167 A110 [(.int (2 : Int32)), (.ref a109)]))
      refine own_step (fun _ k => XS.iload X112.here hx rfl (hb hby at_167) (by rw [hA110]; rfl) k) ?_
      show own_Ends p e below F (T112.setTop (mkF m 169 A110 [(.int r13), (.int (2 : Int32)), (.ref a109)]))
      obtain ⟨cl113, Ar113, q113, S113, M113, H113, G113⟩ := id V112
      have hin113 : ¬ ((2 : Int32) < 0 ∨ cl113.slots.size ≤ ((2 : Int32) : Int32).toNatClampNeg) := inb_of S113 ⟨by decide, by decide⟩
      obtain ⟨T113, h113, X113, e113, W113, st113⟩ := stC X112 hx hZ e112 Ar113 (j := (2 : Int32)) hin113 (g := (mkF m 169 A110 [(.int r13), (.int (2 : Int32)), (.ref a109)])) rfl rfl (hb hby at_169)
      rw [own_narC rr13] at W113
      have V113 := Arv.set Ar113 q113 S113 M113 H113 G113 (own_fitC rr13) W113 2 rfl (Nat.le_of_ble_eq_true rfl)
      have V113 : Arv Z h113 a109 k109 .char (6 : Int32) [(.int r9), (.int r11), (.int r13), (.int (0 : Int32)), (.int (0 : Int32)), (.int (0 : Int32))] (.int (0 : Int32)) := V113
      refine own_step st113 ?_
      have N113 := Fr.snoc X113 N112 ge_a109
      have Z113 : n0 ≤ h113.size := by rw [W113.size]; exact Z112
      have SZ113 : h0.size ≤ h113.size := by rw [W113.size]; exact SZ112
      have hk := (W113.size.symm ▸ hk : _ ≤ h113.size)
      have hr113 := CHr.wr W113 (own_SL.go (own_SL.go sf_a109 hr111) hr112).2 hC112.1
      have hC113 := hC112.trans hr113
      show own_Ends p e below F (T113.setTop (mkF m 170 A110 []))
      refine own_step (fun _ k => XS.iload X113.here hx rfl (hb hby at_170) (by rw [hA110]; rfl) k) ?_
      show own_Ends p e below F (T113.setTop (mkF m 172 A110 [(.int (6 : Int32))]))
      refine own_step (fun _ k => XS.iconst X113.here hx rfl (hb hby at_172) k) ?_
      show own_Ends p e below F (T113.setTop (mkF m 173 A110 [(.int (3 : Int32)), (.int (6 : Int32))]))
      refine own_step (fun _ k => XS.icmpNo X113.here hx rfl (hb hby at_173) rfl (tlt (by decide : (3 : Int32) < (6 : Int32))).2.2.2 k) ?_
      show own_Ends p e below F (T113.setTop (mkF m 176 A110 []))
      refine own_step (fun _ k => XS.aload X113.here hx rfl (hb hby at_176) (by rw [hA110]; rfl) rfl k) ?_
      show own_Ends p e below F (T113.setTop (mkF m 178 A110 [(.ref a109)]))
      refine own_step (fun _ k => XS.iconst X113.here hx rfl (hb hby at_178) k) ?_
      show own_Ends p e below F (T113.setTop (mkF m 179 A110 [(.int (3 : Int32)), (.ref a109)]))
      refine own_step (fun _ k => XS.iload X113.here hx rfl (hb hby at_179) (by rw [hA110]; rfl) k) ?_
      show own_Ends p e below F (T113.setTop (mkF m 181 A110 [(.int r15), (.int (3 : Int32)), (.ref a109)]))
      obtain ⟨cl114, Ar114, q114, S114, M114, H114, G114⟩ := id V113
      have hin114 : ¬ ((3 : Int32) < 0 ∨ cl114.slots.size ≤ ((3 : Int32) : Int32).toNatClampNeg) := inb_of S114 ⟨by decide, by decide⟩
      obtain ⟨T114, h114, X114, e114, W114, st114⟩ := stC X113 hx hZ e113 Ar114 (j := (3 : Int32)) hin114 (g := (mkF m 181 A110 [(.int r15), (.int (3 : Int32)), (.ref a109)])) rfl rfl (hb hby at_181)
      rw [own_narC rr15] at W114
      have V114 := Arv.set Ar114 q114 S114 M114 H114 G114 (own_fitC rr15) W114 3 rfl (Nat.le_of_ble_eq_true rfl)
      have V114 : Arv Z h114 a109 k109 .char (6 : Int32) [(.int r9), (.int r11), (.int r13), (.int r15), (.int (0 : Int32)), (.int (0 : Int32))] (.int (0 : Int32)) := V114
      refine own_step st114 ?_
      have N114 := Fr.snoc X114 N113 ge_a109
      have Z114 : n0 ≤ h114.size := by rw [W114.size]; exact Z113
      have SZ114 : h0.size ≤ h114.size := by rw [W114.size]; exact SZ113
      have hk := (W114.size.symm ▸ hk : _ ≤ h114.size)
      have hr114 := CHr.wr W114 (own_SL.go (own_SL.go (own_SL.go sf_a109 hr111) hr112) hr113).2 hC113.1
      have hC114 := hC113.trans hr114
      show own_Ends p e below F (T114.setTop (mkF m 182 A110 []))
      refine own_step (fun _ k => XS.iload X114.here hx rfl (hb hby at_182) (by rw [hA110]; rfl) k) ?_
      show own_Ends p e below F (T114.setTop (mkF m 184 A110 [(.int (6 : Int32))]))
      refine own_step (fun _ k => XS.iconst X114.here hx rfl (hb hby at_184) k) ?_
      show own_Ends p e below F (T114.setTop (mkF m 185 A110 [(.int (4 : Int32)), (.int (6 : Int32))]))
      refine own_step (fun _ k => XS.icmpNo X114.here hx rfl (hb hby at_185) rfl (tlt (by decide : (4 : Int32) < (6 : Int32))).2.2.2 k) ?_
      show own_Ends p e below F (T114.setTop (mkF m 188 A110 []))
      refine own_step (fun _ k => XS.aload X114.here hx rfl (hb hby at_188) (by rw [hA110]; rfl) rfl k) ?_
      show own_Ends p e below F (T114.setTop (mkF m 190 A110 [(.ref a109)]))
      refine own_step (fun _ k => XS.iconst X114.here hx rfl (hb hby at_190) k) ?_
      show own_Ends p e below F (T114.setTop (mkF m 191 A110 [(.int (4 : Int32)), (.ref a109)]))
      refine own_step (fun _ k => XS.iload X114.here hx rfl (hb hby at_191) (by rw [hA110]; rfl) k) ?_
      show own_Ends p e below F (T114.setTop (mkF m 193 A110 [(.int r17), (.int (4 : Int32)), (.ref a109)]))
      obtain ⟨cl115, Ar115, q115, S115, M115, H115, G115⟩ := id V114
      have hin115 : ¬ ((4 : Int32) < 0 ∨ cl115.slots.size ≤ ((4 : Int32) : Int32).toNatClampNeg) := inb_of S115 ⟨by decide, by decide⟩
      obtain ⟨T115, h115, X115, e115, W115, st115⟩ := stC X114 hx hZ e114 Ar115 (j := (4 : Int32)) hin115 (g := (mkF m 193 A110 [(.int r17), (.int (4 : Int32)), (.ref a109)])) rfl rfl (hb hby at_193)
      rw [own_narC rr17] at W115
      have V115 := Arv.set Ar115 q115 S115 M115 H115 G115 (own_fitC rr17) W115 4 rfl (Nat.le_of_ble_eq_true rfl)
      have V115 : Arv Z h115 a109 k109 .char (6 : Int32) [(.int r9), (.int r11), (.int r13), (.int r15), (.int r17), (.int (0 : Int32))] (.int (0 : Int32)) := V115
      refine own_step st115 ?_
      have N115 := Fr.snoc X115 N114 ge_a109
      have Z115 : n0 ≤ h115.size := by rw [W115.size]; exact Z114
      have SZ115 : h0.size ≤ h115.size := by rw [W115.size]; exact SZ114
      have hk := (W115.size.symm ▸ hk : _ ≤ h115.size)
      have hr115 := CHr.wr W115 (own_SL.go (own_SL.go (own_SL.go (own_SL.go sf_a109 hr111) hr112) hr113) hr114).2 hC114.1
      have hC115 := hC114.trans hr115
      show own_Ends p e below F (T115.setTop (mkF m 194 A110 []))
      refine own_step (fun _ k => XS.iload X115.here hx rfl (hb hby at_194) (by rw [hA110]; rfl) k) ?_
      show own_Ends p e below F (T115.setTop (mkF m 196 A110 [(.int (6 : Int32))]))
      refine own_step (fun _ k => XS.iconst X115.here hx rfl (hb hby at_196) k) ?_
      show own_Ends p e below F (T115.setTop (mkF m 197 A110 [(.int (5 : Int32)), (.int (6 : Int32))]))
      refine own_step (fun _ k => XS.icmpNo X115.here hx rfl (hb hby at_197) rfl (tlt (by decide : (5 : Int32) < (6 : Int32))).2.2.2 k) ?_
      show own_Ends p e below F (T115.setTop (mkF m 200 A110 []))
      refine own_step (fun _ k => XS.aload X115.here hx rfl (hb hby at_200) (by rw [hA110]; rfl) rfl k) ?_
      show own_Ends p e below F (T115.setTop (mkF m 202 A110 [(.ref a109)]))
      refine own_step (fun _ k => XS.iconst X115.here hx rfl (hb hby at_202) k) ?_
      show own_Ends p e below F (T115.setTop (mkF m 203 A110 [(.int (5 : Int32)), (.ref a109)]))
      refine own_step (fun _ k => XS.iload X115.here hx rfl (hb hby at_203) (by rw [hA110]; rfl) k) ?_
      show own_Ends p e below F (T115.setTop (mkF m 205 A110 [(.int r19), (.int (5 : Int32)), (.ref a109)]))
      obtain ⟨cl116, Ar116, q116, S116, M116, H116, G116⟩ := id V115
      have hin116 : ¬ ((5 : Int32) < 0 ∨ cl116.slots.size ≤ ((5 : Int32) : Int32).toNatClampNeg) := inb_of S116 ⟨by decide, by decide⟩
      obtain ⟨T116, h116, X116, e116, W116, st116⟩ := stC X115 hx hZ e115 Ar116 (j := (5 : Int32)) hin116 (g := (mkF m 205 A110 [(.int r19), (.int (5 : Int32)), (.ref a109)])) rfl rfl (hb hby at_205)
      rw [own_narC rr19] at W116
      have V116 := Arv.set Ar116 q116 S116 M116 H116 G116 (own_fitC rr19) W116 5 rfl (Nat.le_of_ble_eq_true rfl)
      have V116 : Arv Z h116 a109 k109 .char (6 : Int32) [(.int r9), (.int r11), (.int r13), (.int r15), (.int r17), (.int r19)] (.int (0 : Int32)) := V116
      refine own_step st116 ?_
      have N116 := Fr.snoc X116 N115 ge_a109
      have Z116 : n0 ≤ h116.size := by rw [W116.size]; exact Z115
      have SZ116 : h0.size ≤ h116.size := by rw [W116.size]; exact SZ115
      have hk := (W116.size.symm ▸ hk : _ ≤ h116.size)
      have hr116 := CHr.wr W116 (own_SL.go (own_SL.go (own_SL.go (own_SL.go (own_SL.go sf_a109 hr111) hr112) hr113) hr114) hr115).2 hC115.1
      have hC116 := hC115.trans hr116
      show own_Ends p e below F (T116.setTop (mkF m 206 A110 []))
      refine own_step (fun _ k => XS.iload X116.here hx rfl (hb hby at_206) (by rw [hA110]; rfl) k) ?_
      show own_Ends p e below F (T116.setTop (mkF m 208 A110 [(.int (6 : Int32))]))
      refine own_step (fun _ k => XS.bipush X116.here hx rfl (hb hby at_208) k) ?_
      show own_Ends p e below F (T116.setTop (mkF m 210 A110 [(.int (6 : Int32)), (.int (6 : Int32))]))
      refine own_step (fun _ k => XS.icmpYes X116.here hx rfl (pc0 := 210) (pc' := 220) rfl (hb hby at_210) rfl (flt (by decide : ¬ ((6 : Int32) < (6 : Int32)))).2.2.2 (by decide) (by decide) k) ?_
      show own_Ends p e below F (T116.setTop (mkF m 220 A110 []))
      refine own_step (fun _ k => XS.iload X116.here hx rfl (hb hby at_220) (by rw [hA110]; rfl) k) ?_
      show own_Ends p e below F (T116.setTop (mkF m 222 A110 [(.int (6 : Int32))]))
      refine own_step (fun _ k => XS.bipush X116.here hx rfl (hb hby at_222) k) ?_
      show own_Ends p e below F (T116.setTop (mkF m 224 A110 [(.int (7 : Int32)), (.int (6 : Int32))]))
      refine own_step (fun _ k => XS.icmpYes X116.here hx rfl (pc0 := 224) (pc' := 234) rfl (hb hby at_224) rfl (flt (by decide : ¬ ((7 : Int32) < (6 : Int32)))).2.2.2 (by decide) (by decide) k) ?_
      show own_Ends p e below F (T116.setTop (mkF m 234 A110 []))
      refine own_step (fun _ k => XS.iload X116.here hx rfl (hb hby at_234) (by rw [hA110]; rfl) k) ?_
      show own_Ends p e below F (T116.setTop (mkF m 236 A110 [(.int (6 : Int32))]))
      refine own_step (fun _ k => XS.bipush X116.here hx rfl (hb hby at_236) k) ?_
      show own_Ends p e below F (T116.setTop (mkF m 238 A110 [(.int (8 : Int32)), (.int (6 : Int32))]))
      refine own_step (fun _ k => XS.icmpYes X116.here hx rfl (pc0 := 238) (pc' := 248) rfl (hb hby at_238) rfl (flt (by decide : ¬ ((8 : Int32) < (6 : Int32)))).2.2.2 (by decide) (by decide) k) ?_
      show own_Ends p e below F (T116.setTop (mkF m 248 A110 []))
      refine own_step (fun _ k => XS.iload X116.here hx rfl (hb hby at_248) (by rw [hA110]; rfl) k) ?_
      show own_Ends p e below F (T116.setTop (mkF m 250 A110 [(.int (6 : Int32))]))
      refine own_step (fun _ k => XS.bipush X116.here hx rfl (hb hby at_250) k) ?_
      show own_Ends p e below F (T116.setTop (mkF m 252 A110 [(.int (9 : Int32)), (.int (6 : Int32))]))
      refine own_step (fun _ k => XS.icmpYes X116.here hx rfl (pc0 := 252) (pc' := 262) rfl (hb hby at_252) rfl (flt (by decide : ¬ ((9 : Int32) < (6 : Int32)))).2.2.2 (by decide) (by decide) k) ?_
      show own_Ends p e below F (T116.setTop (mkF m 262 A110 []))
      obtain ⟨T117, h117, X117, e117, E117, A117, D117, -, st117⟩ := newO X116 hx hZ hown (own_g hw 7 rfl) (own_g hw 8 rfl) (own_g hw 9 rfl) e116 (g := (mkF m 262 A110 [])) rfl (hb hby at_262) (by decide) (by decide)
      obtain ⟨a117, g117⟩ : ∃ z, z = h116.size := ⟨_, rfl⟩
      rw [← g117] at A117 D117 st117
      have ge_a117 : n0 ≤ a117 := Nat.le_trans Z116 (Nat.le_of_eq g117.symm)
      have sz_a117 : h0.size ≤ a117 := Nat.le_trans SZ116 (Nat.le_of_eq g117.symm)
      have ne_a109_a117 : a109 ≠ a117 := Nat.ne_of_lt (by rw [g117]; exact V116.lt)
      have Z117 : n0 ≤ h117.size := Nat.le_trans Z116 E117.1
      have SZ117 : h0.size ≤ h117.size := Nat.le_trans SZ116 E117.1
      have hk := Nat.le_trans hk E117.1
      have hr117 := CHr.ext E117 hC116.1
      have hC117 := hC116.trans hr117
      have F117_coder : Fld Z h117 a117 "java/lang/String" "coder" "B" (.int (0 : Int32)) := D117 (Or.inr (own_g hw 33 rfl)) (ty := .byte) (by decide)
      have F117_value : Fld Z h117 a117 "java/lang/String" "value" "[B" .null := D117 (Or.inr (own_g hw 35 rfl)) (ty := (.array .byte)) (by decide)
      have sf_a117 : own_SL Z own_EL s.vm h117 a117 := own_SL.born hC116.1 E117 g117 A117.lt
      refine own_step st117 ?_
      show own_Ends p e below F (T117.setTop (mkF m 265 A110 [(.ref a117)]))
      refine own_step (fun _ k => XS.dup X117.here hx rfl (hb hby at_265) rfl rfl k) ?_
      show own_Ends p e below F (T117.setTop (mkF m 266 A110 [(.ref a117), (.ref a117)]))
      refine own_step (fun _ k => XS.aload X117.here hx rfl (hb hby at_266) (by rw [hA110]; rfl) rfl k) ?_
      show own_Ends p e below F (T117.setTop (mkF m 268 A110 [(.ref a109), (.ref a117), (.ref a117)]))
      obtain ⟨_, _, ⟨T118, L118, k118, n118⟩, -, X118, ⟨Lc118, hQ118, l118, y118, z118⟩, st118⟩ := X117.specialBack hx (y := (⟨"java/lang/String", "<init>", "([C)V"⟩ : MethodName)) rfl hown (mvT hZ (own_g hw 10 rfl)) (mvT hZ (own_g hw 11 rfl)) (mvT hZ (own_g hw 12 rfl)) (by decide) (StrChars.Road.backV (W := 1) hZ (fun d hd => hw d ((by decide +kernel : ∀ d ∈ StrChars.Road.words, d ∈ tables_1) d hd)) (kI := 4) (own_g hw 8 rfl) (cs := ([r9, r11, r13, r15, r17, r19] : List Int32)) (bs := ([r9, r11, r13, r15, r17, r19] : List Int32).map (fun c => c.toInt8.toInt32)) (n := 6) ge_a117 Z117 A117 F117_value F117_coder (V116.ext E117) (Sta.ext E117 (Sta.wr W116 (Sta.wr W115 (Sta.wr W114 (Sta.wr W113 (Sta.wr W112 (Sta.wr W111 (Sta.ext E109 S0_27)))))))) hz rfl rfl (by decide) (by decide) (own_cS rr9 (own_cS rr11 (own_cS rr13 (own_cS rr15 (own_cS rr17 (own_cS rr19 own_c0)))))) rfl (by decide) (by decide)) (g := (mkF m 268 A110 [(.ref a109), (.ref a117), (.ref a117)])) rfl (by rw [hml]; show A110.size = _; rw [hA110]; rfl) (Steps.refl _) (a := a117) (argsL := [(.ref a109)]) (rest := [(.ref a117)]) (lenOf pd__28_5bC_29V rfl) rfl (by show 2 * 0 + _ ≤ _; exact Nat.le_of_eq rfl) (hb hby at_268) (fun _ _ => ⟨rfl, e117, (by decide : 12 + 1 ≤ _), (by decide : 90 + 6 ≤ _)⟩)
      dsimp only [Pt.U, Pt.locs, Pt.cells, Pt.slots] at X118 l118 y118 z118 st118 hQ118
      subst l118 y118 z118
      obtain ⟨rfl, Nq118, Kq118, fe118, fc118, tt118, kt118, -, -, -, fv118, fa118⟩ := hQ118
      have N118 := Fr.app N116 Nq118
      have Z118 : n0 ≤ T118.heap.size := Nat.le_trans Z117 Kq118.1
      have SZ118 : h0.size ≤ T118.heap.size := Nat.le_trans SZ117 Kq118.1
      have S0_118 := own_Sta_keep (Sta.ext E117 (Sta.wr W116 (Sta.wr W115 (Sta.wr W114 (Sta.wr W113 (Sta.wr W112 (Sta.wr W111 (Sta.ext E109 S0_27)))))))) Kq118 (allS (own_ns_exa A117) all0)
      have str118 : own_Str Z T118.heap T118.heap.size a117 ([r9, r11, r13, r15, r17, r19] : List Int32) := own_Str.mk fe118 fc118 fv118 fa118 rfl rfl (own_cS rr9 (own_cS rr11 (own_cS rr13 (own_cS rr15 (own_cS rr17 (own_cS rr19 own_c0))))))
      have hr118 := CHr.keep Kq118 (sfS sf_a117.2 sf0) hC117.1
      have hC118 := hC117.trans hr118
      have hk := Nat.le_trans hk Kq118.1
      refine own_trans st118 ?_
      show own_Ends p e below F (T118.setTop (mkF m 271 A110 [(.ref a117)]))
      obtain ⟨A119, hA119⟩ : ∃ z : Array Slot, z = #[.val (.long p1), .second, .val (.int p2), .val (.int p3), .val (.int p4), .val (.int z2), .val (.int (6 : Int32)), .val (.int r9), .val (.int r11), .val (.int r13), .val (.int r15), .val (.int r17), .val (.int r19), .val (.int r21), .val (.int r23), .val (.int r25), .val (.int r27), .val (.ref a109), .val (.ref a117), .unset, .unset, .unset] := ⟨_, rfl⟩
      refine own_step (fun _ k => XS.astore X118.here hx rfl (hb hby at_271) rfl rfl (l' := A119) (by rw [hA110, hA119]; exact rfl) k) ?_
      show own_Ends p e below F (T118.setTop (mkF m 273 A119 []))
      refine own_step (fun _ k => XS.iload X118.here hx rfl (hb hby at_273) (by rw [hA119]; rfl) k) ?_
      show own_Ends p e below F (T118.setTop (mkF m 275 A119 [(.int (6 : Int32))]))
      refine own_step (fun _ k => XS.iconst X118.here hx rfl (hb hby at_275) k) ?_
      show own_Ends p e below F (T118.setTop (mkF m 276 A119 [(.int (2 : Int32)), (.int (6 : Int32))]))
      refine own_step (fun _ k => XS.icmpYes X118.here hx rfl (pc0 := 276) (pc' := 297) rfl (hb hby at_276) rfl (feq (by decide : ¬ ((6 : Int32) = (2 : Int32)))).2 (by decide) (by decide) k) ?_
      show own_Ends p e below F (T118.setTop (mkF m 297 A119 []))
      refine own_step (fun _ k => XS.iconst X118.here hx rfl (hb hby at_297) k) ?_
      show own_Ends p e below F (T118.setTop (mkF m 298 A119 [(.int (0 : Int32))]))
      obtain ⟨A120, hA120⟩ : ∃ z : Array Slot, z = #[.val (.long p1), .second, .val (.int p2), .val (.int p3), .val (.int p4), .val (.int z2), .val (.int (6 : Int32)), .val (.int r9), .val (.int r11), .val (.int r13), .val (.int r15), .val (.int r17), .val (.int r19), .val (.int r21), .val (.int r23), .val (.int r25), .val (.int r27), .val (.ref a109), .val (.ref a117), .val (.int (0 : Int32)), .unset, .unset] := ⟨_, rfl⟩
      refine own_step (fun _ k => XS.istore X118.here hx rfl (hb hby at_298) rfl (l' := A120) (by rw [hA119, hA120]; exact rfl) k) ?_
      show own_Ends p e below F (T118.setTop (mkF m 300 A120 []))
      refine own_step (fun _ k => XS.iload X118.here hx rfl (hb hby at_300) (by rw [hA120]; rfl) k) ?_
      show own_Ends p e below F (T118.setTop (mkF m 302 A120 [(.int (6 : Int32))]))
      refine own_step (fun _ k => XS.bipush X118.here hx rfl (hb hby at_302) k) ?_
      show own_Ends p e below F (T118.setTop (mkF m 304 A120 [(.int (9 : Int32)), (.int (6 : Int32))]))
      refine own_step (fun _ k => XS.icmpYes X118.here hx rfl (pc0 := 304) (pc' := 374) rfl (hb hby at_304) rfl (feq (by decide : ¬ ((6 : Int32) = (9 : Int32)))).2 (by decide) (by decide) k) ?_
      show own_Ends p e below F (T118.setTop (mkF m 374 A120 []))
      refine own_step (fun _ k => XS.iconst X118.here hx rfl (hb hby at_374) k) ?_
      show own_Ends p e below F (T118.setTop (mkF m 375 A120 [(.int (0 : Int32))]))
      obtain ⟨A121, hA121⟩ : ∃ z : Array Slot, z = #[.val (.long p1), .second, .val (.int p2), .val (.int p3), .val (.int p4), .val (.int z2), .val (.int (6 : Int32)), .val (.int r9), .val (.int r11), .val (.int r13), .val (.int r15), .val (.int r17), .val (.int r19), .val (.int r21), .val (.int r23), .val (.int r25), .val (.int r27), .val (.ref a109), .val (.ref a117), .val (.int (0 : Int32)), .val (.int (0 : Int32)), .unset] := ⟨_, rfl⟩
      refine own_step (fun _ k => XS.istore X118.here hx rfl (hb hby at_375) rfl (l' := A121) (by rw [hA120, hA121]; exact rfl) k) ?_
      show own_Ends p e below F (T118.setTop (mkF m 377 A121 []))
      refine own_step (fun _ k => XS.iload X118.here hx rfl (hb hby at_377) (by rw [hA121]; rfl) k) ?_
      show own_Ends p e below F (T118.setTop (mkF m 379 A121 [(.int (0 : Int32))]))
      refine own_step (fun _ k => XS.ifNo X118.here hx rfl (hb hby at_379) rfl ((if0 _ _).trans (teq (by decide : (0 : Int32) = (0 : Int32))).2) k) ?_
      show own_Ends p e below F (T118.setTop (mkF m 382 A121 []))
      refine own_step (fun _ k => XS.iload X118.here hx rfl (hb hby at_382) (by rw [hA121]; rfl) k) ?_
      show own_Ends p e below F (T118.setTop (mkF m 384 A121 [(.int (0 : Int32))]))
      refine own_step (fun _ k => XS.ifYes X118.here hx rfl (pc0 := 384) (pc' := 391) rfl (hb hby at_384) rfl ((if0 _ _).trans (teq (by decide : (0 : Int32) = (0 : Int32))).1) (by decide) (by decide) k) ?_
      show own_Ends p e below F (T118.setTop (mkF m 391 A121 []))
      refine own_step (fun _ k => XS.iconst X118.here hx rfl (hb hby at_391) k) ?_
      show own_Ends p e below F (T118.setTop (mkF m 392 A121 [(.int (0 : Int32))]))
      obtain ⟨A122, hA122⟩ : ∃ z : Array Slot, z = #[.val (.long p1), .second, .val (.int p2), .val (.int p3), .val (.int p4), .val (.int z2), .val (.int (6 : Int32)), .val (.int r9), .val (.int r11), .val (.int r13), .val (.int r15), .val (.int r17), .val (.int r19), .val (.int r21), .val (.int r23), .val (.int r25), .val (.int r27), .val (.ref a109), .val (.ref a117), .val (.int (0 : Int32)), .val (.int (0 : Int32)), .val (.int (0 : Int32))] := ⟨_, rfl⟩
      refine own_step (fun _ k => XS.istore X118.here hx rfl (hb hby at_392) rfl (l' := A122) (by rw [hA121, hA122]; exact rfl) k) ?_
      show own_Ends p e below F (T118.setTop (mkF m 394 A122 []))
      refine own_step (fun _ k => XS.aload X118.here hx rfl (hb hby at_394) (by rw [hA122]; rfl) rfl k) ?_
      show own_Ends p e below F (T118.setTop (mkF m 396 A122 [(.ref a117)]))
      obtain ⟨_, _, ⟨T123, L123, k123, n123⟩, -, X123, hS123, gr123, ⟨Lc123, hQ123, l123, y123, z123, hr123⟩, st123⟩ := callSS X118 hx (y := (⟨"com/example/facetwork/facetwork/cli/Logging", "isVerbose", "(Ljava/lang/String;)Z"⟩ : MethodName)) hown (mvT hZ (own_g hw 36 rfl)) (mvT hZ (own_g hw 37 rfl)) (mvT hZ (own_g hw 38 rfl)) (mvT hZ (own_g hw 39 rfl)) (by decide) (backOfSH (W := 0) (rm8 l Z a0 hw [] a117 ([r9, r11, r13, r15, r17, r19] : List Int32) T118.heap.size zc T118.heap n0 Z118 S0_118 hz (own_Str.top str118) (Nat.le_of_ble_eq_true rfl)) hZ (own_g hw 39 rfl) (own_g hw 38 rfl) (by decide) (by decide) (own_EW hw) hC118.1) (g := (mkF m 396 A122 [(.ref a117)])) rfl (by rw [hml]; show A122.size = _; rw [hA122]; rfl) (argsL := [(.ref a117)]) (rest := []) (lenOf pd__28Ljava_2flang_2fString_3b_29Z rfl) rfl (by show 2 * 0 + _ ≤ _; exact Nat.le_of_eq rfl) (hb hby at_396) (fun _ _ => ⟨rfl, rfl, (by decide : 13 + 4 ≤ _), (by decide : 96 + 52 ≤ _)⟩)
      dsimp only [Pt.U, Pt.locs, Pt.cells, Pt.slots] at X123 l123 y123 z123 st123 hQ123 hS123 gr123 hr123
      subst l123 y123 z123
      obtain ⟨rfl, Nq123, Kq123⟩ := hQ123
      have N123 := Fr.app N118 Nq123
      have Z123 : n0 ≤ T123.heap.size := Nat.le_trans Z118 Kq123.1
      have SZ123 : h0.size ≤ T123.heap.size := Nat.le_trans SZ118 Kq123.1
      have S0_123 := own_Sta_keep S0_118 Kq123 all0
      have hC123 := hC118.trans hr123
      have hZ := own_warm hZ hS123
      have hown := own_find hown hS123
      have hS := foldS hS (by exact hk) hS123 gr123
      have hk := Nat.le_refl T123.heap.size
      refine own_trans st123 ?_
      show own_Ends p e below F (T123.setTop (mkF m 399 A122 [(.int (own_ver ([r9, r11, r13, r15, r17, r19] : List Int32)))]))
      refine own_step (fun _ k => XS.iload X123.here hx rfl (hb hby at_399) (by rw [hA122]; rfl) k) ?_
      show own_Ends p e below F (T123.setTop (mkF m 401 A122 [(.int (0 : Int32)), (.int (own_ver ([r9, r11, r13, r15, r17, r19] : List Int32)))]))
      refine own_step (fun _ k => XS.icmpNo X123.here hx rfl (hb hby at_401) rfl (teq (own_v0 (Nat.ne_of_beq_eq_false rfl) (Nat.ne_of_beq_eq_false rfl) : (own_ver ([r9, r11, r13, r15, r17, r19] : List Int32)) = (0 : Int32))).2 k) ?_
      show own_Ends p e below F (T123.setTop (mkF m 404 A122 []))
      refine own_step (fun _ k => XS.iconst X123.here hx rfl (hb hby at_404) k) ?_
      show own_Ends p e below F (T123.setTop (mkF m 405 A122 [(.int (1 : Int32))]))
      refine own_step (fun _ k => XS.goto X123.here hx rfl (pc0 := 405) (pc' := 409) rfl (hb hby at_405) (by decide) (by decide) k) ?_
      show own_Ends p e below F (T123.setTop (mkF m 409 A122 [(.int (1 : Int32))]))
      rw [hF]
      exact own_retH X123 hS (by exact hk) hh rfl hZ (own_EW hw) hC123 (v := (some (.int (nar .boolean (1 : Int32))))) (fun h => by rw [Bd.returns] at h; cases h) Bd.notSynchronized (fun fs hr => retN X123 hx (t := .boolean) Bd.returns (by simp) (hb hby at_409) hr) (by decide) (by decide) (by exact ⟨rfl, N123⟩)
    · show own_Ends p e below F (T27.setTop (mkF m 129 A28 []))
      refine own_step (fun _ k => XS.iload X27.here hx rfl (hb hby at_129) (by rw [hA28]; rfl) k) ?_
      show own_Ends p e below F (T27.setTop (mkF m 131 A28 [(.int (7 : Int32))]))
      obtain ⟨T124, h124, k124, X124, e124, E124, A124, st124⟩ := newP X27 hx hZ (own_g hw 6 rfl) rfl (g := (mkF m 131 A28 [(.int (7 : Int32))])) rfl (hb hby at_131) rfl (by decide) (cap := 7) (by decide) (by decide) (by decide) (by decide)
      obtain ⟨a124, g124⟩ : ∃ z, z = T27.heap.size := ⟨_, rfl⟩
      rw [← g124] at A124 st124
      have ge_a124 : n0 ≤ a124 := Nat.le_trans Z27 (Nat.le_of_eq g124.symm)
      have sz_a124 : h0.size ≤ a124 := Nat.le_trans SZ27 (Nat.le_of_eq g124.symm)
      have Z124 : n0 ≤ h124.size := Nat.le_trans Z27 E124.1
      have SZ124 : h0.size ≤ h124.size := Nat.le_trans SZ27 E124.1
      have hk := Nat.le_trans hk E124.1
      have hr124 := CHr.ext E124 hC27.1
      have hC124 := hC27.trans hr124
      have V124 : Arv Z h124 a124 k124 .char (7 : Int32) [(.int (0 : Int32)), (.int (0 : Int32)), (.int (0 : Int32)), (.int (0 : Int32)), (.int (0 : Int32)), (.int (0 : Int32)), (.int (0 : Int32))] (.int (0 : Int32)) := Arv.pad (Arv.new A124 (by decide)) (pad_rep [] _ 7)
      have sf_a124 : own_SL Z own_EL s.vm h124 a124 := own_SL.born hC27.1 E124 g124 V124.lt
      refine own_step st124 ?_
      show own_Ends p e below F (T124.setTop (mkF m 133 A28 [(.ref a124)]))
      obtain ⟨A125, hA125⟩ : ∃ z : Array Slot, z = #[.val (.long p1), .second, .val (.int p2), .val (.int p3), .val (.int p4), .val (.int z2), .val (.int (7 : Int32)), .val (.int r9), .val (.int r11), .val (.int r13), .val (.int r15), .val (.int r17), .val (.int r19), .val (.int r21), .val (.int r23), .val (.int r25), .val (.int r27), .val (.ref a124), .unset, .unset, .unset, .unset] := ⟨_, rfl⟩
      refine own_step (fun _ k => XS.astore X124.here hx rfl (hb hby at_133) rfl rfl (l' := A125) (by rw [hA28, hA125]; exact rfl) k) ?_
      show own_Ends p e below F (T124.setTop (mkF m 135 A125 []))
      refine own_step (fun _ k => XS.iload X124.here hx rfl (hb hby at_135) (by rw [hA125]; rfl) k) ?_
      show own_Ends p e below F (T124.setTop (mkF m 137 A125 [(.int (7 : Int32))]))
      refine own_step (fun _ k => XS.ifNo X124.here hx rfl (hb hby at_137) rfl ((if0 _ _).trans (tlt (by decide : (0 : Int32) < (7 : Int32))).2.2.2) k) ?_
      show own_Ends p e below F (T124.setTop (mkF m 140 A125 []))
      refine own_step (fun _ k => XS.aload X124.here hx rfl (hb hby at_140) (by rw [hA125]; rfl) rfl k) ?_
      show own_Ends p e below F (T124.setTop (mkF m 142 A125 [(.ref a124)]))
      refine own_step (fun _ k => XS.iconst X124.here hx rfl (hb hby at_142) k) ?_
      show own_Ends p e below F (T124.setTop (mkF m 143 A125 [(.int (0 : Int32)), (.ref a124)]))
      refine own_step (fun _ k => XS.iload X124.here hx rfl (hb hby at_143) (by rw [hA125]; rfl) k) ?_
      show own_Ends p e below F (T124.setTop (mkF m 145 A125 [(.int r9), (.int (0 : Int32)), (.ref a124)]))
      obtain ⟨cl126, Ar126, q126, S126, M126, H126, G126⟩ := id V124
      have hin126 : ¬ ((0 : Int32) < 0 ∨ cl126.slots.size ≤ ((0 : Int32) : Int32).toNatClampNeg) := inb_of S126 ⟨by decide, by decide⟩
      obtain ⟨T126, h126, X126, e126, W126, st126⟩ := stC X124 hx hZ e124 Ar126 (j := (0 : Int32)) hin126 (g := (mkF m 145 A125 [(.int r9), (.int (0 : Int32)), (.ref a124)])) rfl rfl (hb hby at_145)
      rw [own_narC rr9] at W126
      have V126 := Arv.set Ar126 q126 S126 M126 H126 G126 (own_fitC rr9) W126 0 rfl (Nat.le_of_ble_eq_true rfl)
      have V126 : Arv Z h126 a124 k124 .char (7 : Int32) [(.int r9), (.int (0 : Int32)), (.int (0 : Int32)), (.int (0 : Int32)), (.int (0 : Int32)), (.int (0 : Int32)), (.int (0 : Int32))] (.int (0 : Int32)) := V126
      refine own_step st126 ?_
      have N126 := Fr.snoc X126 N27 ge_a124
      have Z126 : n0 ≤ h126.size := by rw [W126.size]; exact Z124
      have SZ126 : h0.size ≤ h126.size := by rw [W126.size]; exact SZ124
      have hk := (W126.size.symm ▸ hk : _ ≤ h126.size)
      have hr126 := CHr.wr W126 sf_a124.2 hC124.1
      have hC126 := hC124.trans hr126
      show own_Ends p e below F (T126.setTop (mkF m 146 A125 []))
      refine own_step (fun _ k => XS.iload X126.here hx rfl (hb hby at_146) (by rw [hA125]; rfl) k) ?_
      show own_Ends p e below F (T126.setTop (mkF m 148 A125 [(.int (7 : Int32))]))
      refine own_step (fun _ k => XS.iconst X126.here hx rfl (hb hby at_148) k) ?_
      show own_Ends p e below F (T126.setTop (mkF m 149 A125 [(.int (1 : Int32)), (.int (7 : Int32))]))
      refine own_step (fun _ k => XS.icmpNo X126.here hx rfl (hb hby at_149) rfl (tlt (by decide : (1 : Int32) < (7 : Int32))).2.2.2 k) ?_
      show own_Ends p e below F (T126.setTop (mkF m 152 A125 []))
      refine own_step (fun _ k => XS.aload X126.here hx rfl (hb hby at_152) (by rw [hA125]; rfl) rfl k) ?_
      show own_Ends p e below F (T126.setTop (mkF m 154 A125 [(.ref a124)]))
      refine own_step (fun _ k => XS.iconst X126.here hx rfl (hb hby at_154) k) ?_
      show own_Ends p e below F (T126.setTop (mkF m 155 A125 [(.int (1 : Int32)), (.ref a124)]))
      refine own_step (fun _ k => XS.iload X126.here hx rfl (hb hby at_155) (by rw [hA125]; rfl) k) ?_
      show own_Ends p e below F (T126.setTop (mkF m 157 A125 [(.int r11), (.int (1 : Int32)), (.ref a124)]))
      obtain ⟨cl127, Ar127, q127, S127, M127, H127, G127⟩ := id V126
      have hin127 : ¬ ((1 : Int32) < 0 ∨ cl127.slots.size ≤ ((1 : Int32) : Int32).toNatClampNeg) := inb_of S127 ⟨by decide, by decide⟩
      obtain ⟨T127, h127, X127, e127, W127, st127⟩ := stC X126 hx hZ e126 Ar127 (j := (1 : Int32)) hin127 (g := (mkF m 157 A125 [(.int r11), (.int (1 : Int32)), (.ref a124)])) rfl rfl (hb hby at_157)
      rw [own_narC rr11] at W127
      have V127 := Arv.set Ar127 q127 S127 M127 H127 G127 (own_fitC rr11) W127 1 rfl (Nat.le_of_ble_eq_true rfl)
      have V127 : Arv Z h127 a124 k124 .char (7 : Int32) [(.int r9), (.int r11), (.int (0 : Int32)), (.int (0 : Int32)), (.int (0 : Int32)), (.int (0 : Int32)), (.int (0 : Int32))] (.int (0 : Int32)) := V127
      refine own_step st127 ?_
      have N127 := Fr.snoc X127 N126 ge_a124
      have Z127 : n0 ≤ h127.size := by rw [W127.size]; exact Z126
      have SZ127 : h0.size ≤ h127.size := by rw [W127.size]; exact SZ126
      have hk := (W127.size.symm ▸ hk : _ ≤ h127.size)
      have hr127 := CHr.wr W127 (own_SL.go sf_a124 hr126).2 hC126.1
      have hC127 := hC126.trans hr127
      show own_Ends p e below F (T127.setTop (mkF m 158 A125 []))
      refine own_step (fun _ k => XS.iload X127.here hx rfl (hb hby at_158) (by rw [hA125]; rfl) k) ?_
      show own_Ends p e below F (T127.setTop (mkF m 160 A125 [(.int (7 : Int32))]))
      refine own_step (fun _ k => XS.iconst X127.here hx rfl (hb hby at_160) k) ?_
      show own_Ends p e below F (T127.setTop (mkF m 161 A125 [(.int (2 : Int32)), (.int (7 : Int32))]))
      refine own_step (fun _ k => XS.icmpNo X127.here hx rfl (hb hby at_161) rfl (tlt (by decide : (2 : Int32) < (7 : Int32))).2.2.2 k) ?_
      show own_Ends p e below F (T127.setTop (mkF m 164 A125 []))
      refine own_step (fun _ k => XS.aload X127.here hx rfl (hb hby at_164) (by rw [hA125]; rfl) rfl k) ?_
      show own_Ends p e below F (T127.setTop (mkF m 166 A125 [(.ref a124)]))
      refine own_step (fun _ k => XS.iconst X127.here hx rfl (hb hby at_166) k) ?_
      show own_Ends p e below F (T127.setTop (mkF m 167 A125 [(.int (2 : Int32)), (.ref a124)]))
      refine own_step (fun _ k => XS.iload X127.here hx rfl (hb hby at_167) (by rw [hA125]; rfl) k) ?_
      show own_Ends p e below F (T127.setTop (mkF m 169 A125 [(.int r13), (.int (2 : Int32)), (.ref a124)]))
      obtain ⟨cl128, Ar128, q128, S128, M128, H128, G128⟩ := id V127
      have hin128 : ¬ ((2 : Int32) < 0 ∨ cl128.slots.size ≤ ((2 : Int32) : Int32).toNatClampNeg) := inb_of S128 ⟨by decide, by decide⟩
      obtain ⟨T128, h128, X128, e128, W128, st128⟩ := stC X127 hx hZ e127 Ar128 (j := (2 : Int32)) hin128 (g := (mkF m 169 A125 [(.int r13), (.int (2 : Int32)), (.ref a124)])) rfl rfl (hb hby at_169)
      rw [own_narC rr13] at W128
      have V128 := Arv.set Ar128 q128 S128 M128 H128 G128 (own_fitC rr13) W128 2 rfl (Nat.le_of_ble_eq_true rfl)
      have V128 : Arv Z h128 a124 k124 .char (7 : Int32) [(.int r9), (.int r11), (.int r13), (.int (0 : Int32)), (.int (0 : Int32)), (.int (0 : Int32)), (.int (0 : Int32))] (.int (0 : Int32)) := V128
      refine own_step st128 ?_
      have N128 := Fr.snoc X128 N127 ge_a124
      have Z128 : n0 ≤ h128.size := by rw [W128.size]; exact Z127
      have SZ128 : h0.size ≤ h128.size := by rw [W128.size]; exact SZ127
      have hk := (W128.size.symm ▸ hk : _ ≤ h128.size)
      have hr128 := CHr.wr W128 (own_SL.go (own_SL.go sf_a124 hr126) hr127).2 hC127.1
      have hC128 := hC127.trans hr128
      show own_Ends p e below F (T128.setTop (mkF m 170 A125 []))
      refine own_step (fun _ k => XS.iload X128.here hx rfl (hb hby at_170) (by rw [hA125]; rfl) k) ?_
      show own_Ends p e below F (T128.setTop (mkF m 172 A125 [(.int (7 : Int32))]))
      refine own_step (fun _ k => XS.iconst X128.here hx rfl (hb hby at_172) k) ?_
      show own_Ends p e below F (T128.setTop (mkF m 173 A125 [(.int (3 : Int32)), (.int (7 : Int32))]))
      refine own_step (fun _ k => XS.icmpNo X128.here hx rfl (hb hby at_173) rfl (tlt (by decide : (3 : Int32) < (7 : Int32))).2.2.2 k) ?_
      show own_Ends p e below F (T128.setTop (mkF m 176 A125 []))
      refine own_step (fun _ k => XS.aload X128.here hx rfl (hb hby at_176) (by rw [hA125]; rfl) rfl k) ?_
      show own_Ends p e below F (T128.setTop (mkF m 178 A125 [(.ref a124)]))
      refine own_step (fun _ k => XS.iconst X128.here hx rfl (hb hby at_178) k) ?_
      show own_Ends p e below F (T128.setTop (mkF m 179 A125 [(.int (3 : Int32)), (.ref a124)]))
      refine own_step (fun _ k => XS.iload X128.here hx rfl (hb hby at_179) (by rw [hA125]; rfl) k) ?_
      show own_Ends p e below F (T128.setTop (mkF m 181 A125 [(.int r15), (.int (3 : Int32)), (.ref a124)]))
      obtain ⟨cl129, Ar129, q129, S129, M129, H129, G129⟩ := id V128
      have hin129 : ¬ ((3 : Int32) < 0 ∨ cl129.slots.size ≤ ((3 : Int32) : Int32).toNatClampNeg) := inb_of S129 ⟨by decide, by decide⟩
      obtain ⟨T129, h129, X129, e129, W129, st129⟩ := stC X128 hx hZ e128 Ar129 (j := (3 : Int32)) hin129 (g := (mkF m 181 A125 [(.int r15), (.int (3 : Int32)), (.ref a124)])) rfl rfl (hb hby at_181)
      rw [own_narC rr15] at W129
      have V129 := Arv.set Ar129 q129 S129 M129 H129 G129 (own_fitC rr15) W129 3 rfl (Nat.le_of_ble_eq_true rfl)
      have V129 : Arv Z h129 a124 k124 .char (7 : Int32) [(.int r9), (.int r11), (.int r13), (.int r15), (.int (0 : Int32)), (.int (0 : Int32)), (.int (0 : Int32))] (.int (0 : Int32)) := V129
      refine own_step st129 ?_
      have N129 := Fr.snoc X129 N128 ge_a124
      have Z129 : n0 ≤ h129.size := by rw [W129.size]; exact Z128
      have SZ129 : h0.size ≤ h129.size := by rw [W129.size]; exact SZ128
      have hk := (W129.size.symm ▸ hk : _ ≤ h129.size)
      have hr129 := CHr.wr W129 (own_SL.go (own_SL.go (own_SL.go sf_a124 hr126) hr127) hr128).2 hC128.1
      have hC129 := hC128.trans hr129
      show own_Ends p e below F (T129.setTop (mkF m 182 A125 []))
      refine own_step (fun _ k => XS.iload X129.here hx rfl (hb hby at_182) (by rw [hA125]; rfl) k) ?_
      show own_Ends p e below F (T129.setTop (mkF m 184 A125 [(.int (7 : Int32))]))
      refine own_step (fun _ k => XS.iconst X129.here hx rfl (hb hby at_184) k) ?_
      show own_Ends p e below F (T129.setTop (mkF m 185 A125 [(.int (4 : Int32)), (.int (7 : Int32))]))
      refine own_step (fun _ k => XS.icmpNo X129.here hx rfl (hb hby at_185) rfl (tlt (by decide : (4 : Int32) < (7 : Int32))).2.2.2 k) ?_
      show own_Ends p e below F (T129.setTop (mkF m 188 A125 []))
      refine own_step (fun _ k => XS.aload X129.here hx rfl (hb hby at_188) (by rw [hA125]; rfl) rfl k) ?_
      show own_Ends p e below F (T129.setTop (mkF m 190 A125 [(.ref a124)]))
      refine own_step (fun _ k => XS.iconst X129.here hx rfl (hb hby at_190) k) ?_
      show own_Ends p e below F (T129.setTop (mkF m 191 A125 [(.int (4 : Int32)), (.ref a124)]))
      refine own_step (fun _ k => XS.iload X129.here hx rfl (hb hby at_191) (by rw [hA125]; rfl) k) ?_
      show own_Ends p e below F (T129.setTop (mkF m 193 A125 [(.int r17), (.int (4 : Int32)), (.ref a124)]))
      obtain ⟨cl130, Ar130, q130, S130, M130, H130, G130⟩ := id V129
      have hin130 : ¬ ((4 : Int32) < 0 ∨ cl130.slots.size ≤ ((4 : Int32) : Int32).toNatClampNeg) := inb_of S130 ⟨by decide, by decide⟩
      obtain ⟨T130, h130, X130, e130, W130, st130⟩ := stC X129 hx hZ e129 Ar130 (j := (4 : Int32)) hin130 (g := (mkF m 193 A125 [(.int r17), (.int (4 : Int32)), (.ref a124)])) rfl rfl (hb hby at_193)
      rw [own_narC rr17] at W130
      have V130 := Arv.set Ar130 q130 S130 M130 H130 G130 (own_fitC rr17) W130 4 rfl (Nat.le_of_ble_eq_true rfl)
      have V130 : Arv Z h130 a124 k124 .char (7 : Int32) [(.int r9), (.int r11), (.int r13), (.int r15), (.int r17), (.int (0 : Int32)), (.int (0 : Int32))] (.int (0 : Int32)) := V130
      refine own_step st130 ?_
      have N130 := Fr.snoc X130 N129 ge_a124
      have Z130 : n0 ≤ h130.size := by rw [W130.size]; exact Z129
      have SZ130 : h0.size ≤ h130.size := by rw [W130.size]; exact SZ129
      have hk := (W130.size.symm ▸ hk : _ ≤ h130.size)
      have hr130 := CHr.wr W130 (own_SL.go (own_SL.go (own_SL.go (own_SL.go sf_a124 hr126) hr127) hr128) hr129).2 hC129.1
      have hC130 := hC129.trans hr130
      show own_Ends p e below F (T130.setTop (mkF m 194 A125 []))
      refine own_step (fun _ k => XS.iload X130.here hx rfl (hb hby at_194) (by rw [hA125]; rfl) k) ?_
      show own_Ends p e below F (T130.setTop (mkF m 196 A125 [(.int (7 : Int32))]))
      refine own_step (fun _ k => XS.iconst X130.here hx rfl (hb hby at_196) k) ?_
      show own_Ends p e below F (T130.setTop (mkF m 197 A125 [(.int (5 : Int32)), (.int (7 : Int32))]))
      refine own_step (fun _ k => XS.icmpNo X130.here hx rfl (hb hby at_197) rfl (tlt (by decide : (5 : Int32) < (7 : Int32))).2.2.2 k) ?_
      show own_Ends p e below F (T130.setTop (mkF m 200 A125 []))
      refine own_step (fun _ k => XS.aload X130.here hx rfl (hb hby at_200) (by rw [hA125]; rfl) rfl k) ?_
      show own_Ends p e below F (T130.setTop (mkF m 202 A125 [(.ref a124)]))
      refine own_step (fun _ k => XS.iconst X130.here hx rfl (hb hby at_202) k) ?_
      show own_Ends p e below F (T130.setTop (mkF m 203 A125 [(.int (5 : Int32)), (.ref a124)]))
      refine own_step (fun _ k => XS.iload X130.here hx rfl (hb hby at_203) (by rw [hA125]; rfl) k) ?_
      show own_Ends p e below F (T130.setTop (mkF m 205 A125 [(.int r19), (.int (5 : Int32)), (.ref a124)]))
      obtain ⟨cl131, Ar131, q131, S131, M131, H131, G131⟩ := id V130
      have hin131 : ¬ ((5 : Int32) < 0 ∨ cl131.slots.size ≤ ((5 : Int32) : Int32).toNatClampNeg) := inb_of S131 ⟨by decide, by decide⟩
      obtain ⟨T131, h131, X131, e131, W131, st131⟩ := stC X130 hx hZ e130 Ar131 (j := (5 : Int32)) hin131 (g := (mkF m 205 A125 [(.int r19), (.int (5 : Int32)), (.ref a124)])) rfl rfl (hb hby at_205)
      rw [own_narC rr19] at W131
      have V131 := Arv.set Ar131 q131 S131 M131 H131 G131 (own_fitC rr19) W131 5 rfl (Nat.le_of_ble_eq_true rfl)
      have V131 : Arv Z h131 a124 k124 .char (7 : Int32) [(.int r9), (.int r11), (.int r13), (.int r15), (.int r17), (.int r19), (.int (0 : Int32))] (.int (0 : Int32)) := V131
      refine own_step st131 ?_
      have N131 := Fr.snoc X131 N130 ge_a124
      have Z131 : n0 ≤ h131.size := by rw [W131.size]; exact Z130
      have SZ131 : h0.size ≤ h131.size := by rw [W131.size]; exact SZ130
      have hk := (W131.size.symm ▸ hk : _ ≤ h131.size)
      have hr131 := CHr.wr W131 (own_SL.go (own_SL.go (own_SL.go (own_SL.go (own_SL.go sf_a124 hr126) hr127) hr128) hr129) hr130).2 hC130.1
      have hC131 := hC130.trans hr131
      show own_Ends p e below F (T131.setTop (mkF m 206 A125 []))
      refine own_step (fun _ k => XS.iload X131.here hx rfl (hb hby at_206) (by rw [hA125]; rfl) k) ?_
      show own_Ends p e below F (T131.setTop (mkF m 208 A125 [(.int (7 : Int32))]))
      refine own_step (fun _ k => XS.bipush X131.here hx rfl (hb hby at_208) k) ?_
      show own_Ends p e below F (T131.setTop (mkF m 210 A125 [(.int (6 : Int32)), (.int (7 : Int32))]))
      refine own_step (fun _ k => XS.icmpNo X131.here hx rfl (hb hby at_210) rfl (tlt (by decide : (6 : Int32) < (7 : Int32))).2.2.2 k) ?_
      show own_Ends p e below F (T131.setTop (mkF m 213 A125 []))
      refine own_step (fun _ k => XS.aload X131.here hx rfl (hb hby at_213) (by rw [hA125]; rfl) rfl k) ?_
      show own_Ends p e below F (T131.setTop (mkF m 215 A125 [(.ref a124)]))
      refine own_step (fun _ k => XS.bipush X131.here hx rfl (hb hby at_215) k) ?_
      show own_Ends p e below F (T131.setTop (mkF m 217 A125 [(.int (6 : Int32)), (.ref a124)]))
      refine own_step (fun _ k => XS.iload X131.here hx rfl (hb hby at_217) (by rw [hA125]; rfl) k) ?_
      show own_Ends p e below F (T131.setTop (mkF m 219 A125 [(.int r21), (.int (6 : Int32)), (.ref a124)]))
      obtain ⟨cl132, Ar132, q132, S132, M132, H132, G132⟩ := id V131
      have hin132 : ¬ ((6 : Int32) < 0 ∨ cl132.slots.size ≤ ((6 : Int32) : Int32).toNatClampNeg) := inb_of S132 ⟨by decide, by decide⟩
      obtain ⟨T132, h132, X132, e132, W132, st132⟩ := stC X131 hx hZ e131 Ar132 (j := (6 : Int32)) hin132 (g := (mkF m 219 A125 [(.int r21), (.int (6 : Int32)), (.ref a124)])) rfl rfl (hb hby at_219)
      rw [own_narC rr21] at W132
      have V132 := Arv.set Ar132 q132 S132 M132 H132 G132 (own_fitC rr21) W132 6 rfl (Nat.le_of_ble_eq_true rfl)
      have V132 : Arv Z h132 a124 k124 .char (7 : Int32) [(.int r9), (.int r11), (.int r13), (.int r15), (.int r17), (.int r19), (.int r21)] (.int (0 : Int32)) := V132
      refine own_step st132 ?_
      have N132 := Fr.snoc X132 N131 ge_a124
      have Z132 : n0 ≤ h132.size := by rw [W132.size]; exact Z131
      have SZ132 : h0.size ≤ h132.size := by rw [W132.size]; exact SZ131
      have hk := (W132.size.symm ▸ hk : _ ≤ h132.size)
      have hr132 := CHr.wr W132 (own_SL.go (own_SL.go (own_SL.go (own_SL.go (own_SL.go (own_SL.go sf_a124 hr126) hr127) hr128) hr129) hr130) hr131).2 hC131.1
      have hC132 := hC131.trans hr132
      show own_Ends p e below F (T132.setTop (mkF m 220 A125 []))
      refine own_step (fun _ k => XS.iload X132.here hx rfl (hb hby at_220) (by rw [hA125]; rfl) k) ?_
      show own_Ends p e below F (T132.setTop (mkF m 222 A125 [(.int (7 : Int32))]))
      refine own_step (fun _ k => XS.bipush X132.here hx rfl (hb hby at_222) k) ?_
      show own_Ends p e below F (T132.setTop (mkF m 224 A125 [(.int (7 : Int32)), (.int (7 : Int32))]))
      refine own_step (fun _ k => XS.icmpYes X132.here hx rfl (pc0 := 224) (pc' := 234) rfl (hb hby at_224) rfl (flt (by decide : ¬ ((7 : Int32) < (7 : Int32)))).2.2.2 (by decide) (by decide) k) ?_
      show own_Ends p e below F (T132.setTop (mkF m 234 A125 []))
      refine own_step (fun _ k => XS.iload X132.here hx rfl (hb hby at_234) (by rw [hA125]; rfl) k) ?_
      show own_Ends p e below F (T132.setTop (mkF m 236 A125 [(.int (7 : Int32))]))
      refine own_step (fun _ k => XS.bipush X132.here hx rfl (hb hby at_236) k) ?_
      show own_Ends p e below F (T132.setTop (mkF m 238 A125 [(.int (8 : Int32)), (.int (7 : Int32))]))
      refine own_step (fun _ k => XS.icmpYes X132.here hx rfl (pc0 := 238) (pc' := 248) rfl (hb hby at_238) rfl (flt (by decide : ¬ ((8 : Int32) < (7 : Int32)))).2.2.2 (by decide) (by decide) k) ?_
      show own_Ends p e below F (T132.setTop (mkF m 248 A125 []))
      refine own_step (fun _ k => XS.iload X132.here hx rfl (hb hby at_248) (by rw [hA125]; rfl) k) ?_
      show own_Ends p e below F (T132.setTop (mkF m 250 A125 [(.int (7 : Int32))]))
      refine own_step (fun _ k => XS.bipush X132.here hx rfl (hb hby at_250) k) ?_
      show own_Ends p e below F (T132.setTop (mkF m 252 A125 [(.int (9 : Int32)), (.int (7 : Int32))]))
      refine own_step (fun _ k => XS.icmpYes X132.here hx rfl (pc0 := 252) (pc' := 262) rfl (hb hby at_252) rfl (flt (by decide : ¬ ((9 : Int32) < (7 : Int32)))).2.2.2 (by decide) (by decide) k) ?_
      show own_Ends p e below F (T132.setTop (mkF m 262 A125 []))
      obtain ⟨T133, h133, X133, e133, E133, A133, D133, -, st133⟩ := newO X132 hx hZ hown (own_g hw 7 rfl) (own_g hw 8 rfl) (own_g hw 9 rfl) e132 (g := (mkF m 262 A125 [])) rfl (hb hby at_262) (by decide) (by decide)
      obtain ⟨a133, g133⟩ : ∃ z, z = h132.size := ⟨_, rfl⟩
      rw [← g133] at A133 D133 st133
      have ge_a133 : n0 ≤ a133 := Nat.le_trans Z132 (Nat.le_of_eq g133.symm)
      have sz_a133 : h0.size ≤ a133 := Nat.le_trans SZ132 (Nat.le_of_eq g133.symm)
      have ne_a124_a133 : a124 ≠ a133 := Nat.ne_of_lt (by rw [g133]; exact V132.lt)
      have Z133 : n0 ≤ h133.size := Nat.le_trans Z132 E133.1
      have SZ133 : h0.size ≤ h133.size := Nat.le_trans SZ132 E133.1
      have hk := Nat.le_trans hk E133.1
      have hr133 := CHr.ext E133 hC132.1
      have hC133 := hC132.trans hr133
      have F133_coder : Fld Z h133 a133 "java/lang/String" "coder" "B" (.int (0 : Int32)) := D133 (Or.inr (own_g hw 33 rfl)) (ty := .byte) (by decide)
      have F133_value : Fld Z h133 a133 "java/lang/String" "value" "[B" .null := D133 (Or.inr (own_g hw 35 rfl)) (ty := (.array .byte)) (by decide)
      have sf_a133 : own_SL Z own_EL s.vm h133 a133 := own_SL.born hC132.1 E133 g133 A133.lt
      refine own_step st133 ?_
      show own_Ends p e below F (T133.setTop (mkF m 265 A125 [(.ref a133)]))
      refine own_step (fun _ k => XS.dup X133.here hx rfl (hb hby at_265) rfl rfl k) ?_
      show own_Ends p e below F (T133.setTop (mkF m 266 A125 [(.ref a133), (.ref a133)]))
      refine own_step (fun _ k => XS.aload X133.here hx rfl (hb hby at_266) (by rw [hA125]; rfl) rfl k) ?_
      show own_Ends p e below F (T133.setTop (mkF m 268 A125 [(.ref a124), (.ref a133), (.ref a133)]))
      obtain ⟨_, _, ⟨T134, L134, k134, n134⟩, -, X134, ⟨Lc134, hQ134, l134, y134, z134⟩, st134⟩ := X133.specialBack hx (y := (⟨"java/lang/String", "<init>", "([C)V"⟩ : MethodName)) rfl hown (mvT hZ (own_g hw 10 rfl)) (mvT hZ (own_g hw 11 rfl)) (mvT hZ (own_g hw 12 rfl)) (by decide) (StrChars.Road.backV (W := 1) hZ (fun d hd => hw d ((by decide +kernel : ∀ d ∈ StrChars.Road.words, d ∈ tables_1) d hd)) (kI := 4) (own_g hw 8 rfl) (cs := ([r9, r11, r13, r15, r17, r19, r21] : List Int32)) (bs := ([r9, r11, r13, r15, r17, r19, r21] : List Int32).map (fun c => c.toInt8.toInt32)) (n := 7) ge_a133 Z133 A133 F133_value F133_coder (V132.ext E133) (Sta.ext E133 (Sta.wr W132 (Sta.wr W131 (Sta.wr W130 (Sta.wr W129 (Sta.wr W128 (Sta.wr W127 (Sta.wr W126 (Sta.ext E124 S0_27))))))))) hz rfl rfl (by decide) (by decide) (own_cS rr9 (own_cS rr11 (own_cS rr13 (own_cS rr15 (own_cS rr17 (own_cS rr19 (own_cS rr21 own_c0))))))) rfl (by decide) (by decide)) (g := (mkF m 268 A125 [(.ref a124), (.ref a133), (.ref a133)])) rfl (by rw [hml]; show A125.size = _; rw [hA125]; rfl) (Steps.refl _) (a := a133) (argsL := [(.ref a124)]) (rest := [(.ref a133)]) (lenOf pd__28_5bC_29V rfl) rfl (by show 2 * 0 + _ ≤ _; exact Nat.le_of_eq rfl) (hb hby at_268) (fun _ _ => ⟨rfl, e133, (by decide : 12 + 1 ≤ _), (by decide : 91 + 7 ≤ _)⟩)
      dsimp only [Pt.U, Pt.locs, Pt.cells, Pt.slots] at X134 l134 y134 z134 st134 hQ134
      subst l134 y134 z134
      obtain ⟨rfl, Nq134, Kq134, fe134, fc134, tt134, kt134, -, -, -, fv134, fa134⟩ := hQ134
      have N134 := Fr.app N132 Nq134
      have Z134 : n0 ≤ T134.heap.size := Nat.le_trans Z133 Kq134.1
      have SZ134 : h0.size ≤ T134.heap.size := Nat.le_trans SZ133 Kq134.1
      have S0_134 := own_Sta_keep (Sta.ext E133 (Sta.wr W132 (Sta.wr W131 (Sta.wr W130 (Sta.wr W129 (Sta.wr W128 (Sta.wr W127 (Sta.wr W126 (Sta.ext E124 S0_27))))))))) Kq134 (allS (own_ns_exa A133) all0)
      have str134 : own_Str Z T134.heap T134.heap.size a133 ([r9, r11, r13, r15, r17, r19, r21] : List Int32) := own_Str.mk fe134 fc134 fv134 fa134 rfl rfl (own_cS rr9 (own_cS rr11 (own_cS rr13 (own_cS rr15 (own_cS rr17 (own_cS rr19 (own_cS rr21 own_c0)))))))
      have hr134 := CHr.keep Kq134 (sfS sf_a133.2 sf0) hC133.1
      have hC134 := hC133.trans hr134
      have hk := Nat.le_trans hk Kq134.1
      refine own_trans st134 ?_
      show own_Ends p e below F (T134.setTop (mkF m 271 A125 [(.ref a133)]))
      obtain ⟨A135, hA135⟩ : ∃ z : Array Slot, z = #[.val (.long p1), .second, .val (.int p2), .val (.int p3), .val (.int p4), .val (.int z2), .val (.int (7 : Int32)), .val (.int r9), .val (.int r11), .val (.int r13), .val (.int r15), .val (.int r17), .val (.int r19), .val (.int r21), .val (.int r23), .val (.int r25), .val (.int r27), .val (.ref a124), .val (.ref a133), .unset, .unset, .unset] := ⟨_, rfl⟩
      refine own_step (fun _ k => XS.astore X134.here hx rfl (hb hby at_271) rfl rfl (l' := A135) (by rw [hA125, hA135]; exact rfl) k) ?_
      show own_Ends p e below F (T134.setTop (mkF m 273 A135 []))
      refine own_step (fun _ k => XS.iload X134.here hx rfl (hb hby at_273) (by rw [hA135]; rfl) k) ?_
      show own_Ends p e below F (T134.setTop (mkF m 275 A135 [(.int (7 : Int32))]))
      refine own_step (fun _ k => XS.iconst X134.here hx rfl (hb hby at_275) k) ?_
      show own_Ends p e below F (T134.setTop (mkF m 276 A135 [(.int (2 : Int32)), (.int (7 : Int32))]))
      refine own_step (fun _ k => XS.icmpYes X134.here hx rfl (pc0 := 276) (pc' := 297) rfl (hb hby at_276) rfl (feq (by decide : ¬ ((7 : Int32) = (2 : Int32)))).2 (by decide) (by decide) k) ?_
      show own_Ends p e below F (T134.setTop (mkF m 297 A135 []))
      refine own_step (fun _ k => XS.iconst X134.here hx rfl (hb hby at_297) k) ?_
      show own_Ends p e below F (T134.setTop (mkF m 298 A135 [(.int (0 : Int32))]))
      obtain ⟨A136, hA136⟩ : ∃ z : Array Slot, z = #[.val (.long p1), .second, .val (.int p2), .val (.int p3), .val (.int p4), .val (.int z2), .val (.int (7 : Int32)), .val (.int r9), .val (.int r11), .val (.int r13), .val (.int r15), .val (.int r17), .val (.int r19), .val (.int r21), .val (.int r23), .val (.int r25), .val (.int r27), .val (.ref a124), .val (.ref a133), .val (.int (0 : Int32)), .unset, .unset] := ⟨_, rfl⟩
      refine own_step (fun _ k => XS.istore X134.here hx rfl (hb hby at_298) rfl (l' := A136) (by rw [hA135, hA136]; exact rfl) k) ?_
      show own_Ends p e below F (T134.setTop (mkF m 300 A136 []))
      refine own_step (fun _ k => XS.iload X134.here hx rfl (hb hby at_300) (by rw [hA136]; rfl) k) ?_
      show own_Ends p e below F (T134.setTop (mkF m 302 A136 [(.int (7 : Int32))]))
      refine own_step (fun _ k => XS.bipush X134.here hx rfl (hb hby at_302) k) ?_
      show own_Ends p e below F (T134.setTop (mkF m 304 A136 [(.int (9 : Int32)), (.int (7 : Int32))]))
      refine own_step (fun _ k => XS.icmpYes X134.here hx rfl (pc0 := 304) (pc' := 374) rfl (hb hby at_304) rfl (feq (by decide : ¬ ((7 : Int32) = (9 : Int32)))).2 (by decide) (by decide) k) ?_
      show own_Ends p e below F (T134.setTop (mkF m 374 A136 []))
      refine own_step (fun _ k => XS.iconst X134.here hx rfl (hb hby at_374) k) ?_
      show own_Ends p e below F (T134.setTop (mkF m 375 A136 [(.int (0 : Int32))]))
      obtain ⟨A137, hA137⟩ : ∃ z : Array Slot, z = #[.val (.long p1), .second, .val (.int p2), .val (.int p3), .val (.int p4), .val (.int z2), .val (.int (7 : Int32)), .val (.int r9), .val (.int r11), .val (.int r13), .val (.int r15), .val (.int r17), .val (.int r19), .val (.int r21), .val (.int r23), .val (.int r25), .val (.int r27), .val (.ref a124), .val (.ref a133), .val (.int (0 : Int32)), .val (.int (0 : Int32)), .unset] := ⟨_, rfl⟩
      refine own_step (fun _ k => XS.istore X134.here hx rfl (hb hby at_375) rfl (l' := A137) (by rw [hA136, hA137]; exact rfl) k) ?_
      show own_Ends p e below F (T134.setTop (mkF m 377 A137 []))
      refine own_step (fun _ k => XS.iload X134.here hx rfl (hb hby at_377) (by rw [hA137]; rfl) k) ?_
      show own_Ends p e below F (T134.setTop (mkF m 379 A137 [(.int (0 : Int32))]))
      refine own_step (fun _ k => XS.ifNo X134.here hx rfl (hb hby at_379) rfl ((if0 _ _).trans (teq (by decide : (0 : Int32) = (0 : Int32))).2) k) ?_
      show own_Ends p e below F (T134.setTop (mkF m 382 A137 []))
      refine own_step (fun _ k => XS.iload X134.here hx rfl (hb hby at_382) (by rw [hA137]; rfl) k) ?_
      show own_Ends p e below F (T134.setTop (mkF m 384 A137 [(.int (0 : Int32))]))
      refine own_step (fun _ k => XS.ifYes X134.here hx rfl (pc0 := 384) (pc' := 391) rfl (hb hby at_384) rfl ((if0 _ _).trans (teq (by decide : (0 : Int32) = (0 : Int32))).1) (by decide) (by decide) k) ?_
      show own_Ends p e below F (T134.setTop (mkF m 391 A137 []))
      refine own_step (fun _ k => XS.iconst X134.here hx rfl (hb hby at_391) k) ?_
      show own_Ends p e below F (T134.setTop (mkF m 392 A137 [(.int (0 : Int32))]))
      obtain ⟨A138, hA138⟩ : ∃ z : Array Slot, z = #[.val (.long p1), .second, .val (.int p2), .val (.int p3), .val (.int p4), .val (.int z2), .val (.int (7 : Int32)), .val (.int r9), .val (.int r11), .val (.int r13), .val (.int r15), .val (.int r17), .val (.int r19), .val (.int r21), .val (.int r23), .val (.int r25), .val (.int r27), .val (.ref a124), .val (.ref a133), .val (.int (0 : Int32)), .val (.int (0 : Int32)), .val (.int (0 : Int32))] := ⟨_, rfl⟩
      refine own_step (fun _ k => XS.istore X134.here hx rfl (hb hby at_392) rfl (l' := A138) (by rw [hA137, hA138]; exact rfl) k) ?_
      show own_Ends p e below F (T134.setTop (mkF m 394 A138 []))
      refine own_step (fun _ k => XS.aload X134.here hx rfl (hb hby at_394) (by rw [hA138]; rfl) rfl k) ?_
      show own_Ends p e below F (T134.setTop (mkF m 396 A138 [(.ref a133)]))
      obtain ⟨_, _, ⟨T139, L139, k139, n139⟩, -, X139, hS139, gr139, ⟨Lc139, hQ139, l139, y139, z139, hr139⟩, st139⟩ := callSS X134 hx (y := (⟨"com/example/facetwork/facetwork/cli/Logging", "isVerbose", "(Ljava/lang/String;)Z"⟩ : MethodName)) hown (mvT hZ (own_g hw 36 rfl)) (mvT hZ (own_g hw 37 rfl)) (mvT hZ (own_g hw 38 rfl)) (mvT hZ (own_g hw 39 rfl)) (by decide) (backOfSH (W := 0) (rm8 l Z a0 hw [] a133 ([r9, r11, r13, r15, r17, r19, r21] : List Int32) T134.heap.size zc T134.heap n0 Z134 S0_134 hz (own_Str.top str134) (Nat.le_of_ble_eq_true rfl)) hZ (own_g hw 39 rfl) (own_g hw 38 rfl) (by decide) (by decide) (own_EW hw) hC134.1) (g := (mkF m 396 A138 [(.ref a133)])) rfl (by rw [hml]; show A138.size = _; rw [hA138]; rfl) (argsL := [(.ref a133)]) (rest := []) (lenOf pd__28Ljava_2flang_2fString_3b_29Z rfl) rfl (by show 2 * 0 + _ ≤ _; exact Nat.le_of_eq rfl) (hb hby at_396) (fun _ _ => ⟨rfl, rfl, (by decide : 13 + 4 ≤ _), (by decide : 98 + 52 ≤ _)⟩)
      dsimp only [Pt.U, Pt.locs, Pt.cells, Pt.slots] at X139 l139 y139 z139 st139 hQ139 hS139 gr139 hr139
      subst l139 y139 z139
      obtain ⟨rfl, Nq139, Kq139⟩ := hQ139
      have N139 := Fr.app N134 Nq139
      have Z139 : n0 ≤ T139.heap.size := Nat.le_trans Z134 Kq139.1
      have SZ139 : h0.size ≤ T139.heap.size := Nat.le_trans SZ134 Kq139.1
      have S0_139 := own_Sta_keep S0_134 Kq139 all0
      have hC139 := hC134.trans hr139
      have hZ := own_warm hZ hS139
      have hown := own_find hown hS139
      have hS := foldS hS (by exact hk) hS139 gr139
      have hk := Nat.le_refl T139.heap.size
      refine own_trans st139 ?_
      show own_Ends p e below F (T139.setTop (mkF m 399 A138 [(.int (own_ver ([r9, r11, r13, r15, r17, r19, r21] : List Int32)))]))
      refine own_step (fun _ k => XS.iload X139.here hx rfl (hb hby at_399) (by rw [hA138]; rfl) k) ?_
      show own_Ends p e below F (T139.setTop (mkF m 401 A138 [(.int (0 : Int32)), (.int (own_ver ([r9, r11, r13, r15, r17, r19, r21] : List Int32)))]))
      refine own_step (fun _ k => XS.icmpNo X139.here hx rfl (hb hby at_401) rfl (teq (own_v0 (Nat.ne_of_beq_eq_false rfl) (Nat.ne_of_beq_eq_false rfl) : (own_ver ([r9, r11, r13, r15, r17, r19, r21] : List Int32)) = (0 : Int32))).2 k) ?_
      show own_Ends p e below F (T139.setTop (mkF m 404 A138 []))
      refine own_step (fun _ k => XS.iconst X139.here hx rfl (hb hby at_404) k) ?_
      show own_Ends p e below F (T139.setTop (mkF m 405 A138 [(.int (1 : Int32))]))
      refine own_step (fun _ k => XS.goto X139.here hx rfl (pc0 := 405) (pc' := 409) rfl (hb hby at_405) (by decide) (by decide) k) ?_
      show own_Ends p e below F (T139.setTop (mkF m 409 A138 [(.int (1 : Int32))]))
      rw [hF]
      exact own_retH X139 hS (by exact hk) hh rfl hZ (own_EW hw) hC139 (v := (some (.int (nar .boolean (1 : Int32))))) (fun h => by rw [Bd.returns] at h; cases h) Bd.notSynchronized (fun fs hr => retN X139 hx (t := .boolean) Bd.returns (by simp) (hb hby at_409) hr) (by decide) (by decide) (by exact ⟨rfl, N139⟩)
    · show own_Ends p e below F (T27.setTop (mkF m 129 A28 []))
      refine own_step (fun _ k => XS.iload X27.here hx rfl (hb hby at_129) (by rw [hA28]; rfl) k) ?_
      show own_Ends p e below F (T27.setTop (mkF m 131 A28 [(.int (8 : Int32))]))
      obtain ⟨T140, h140, k140, X140, e140, E140, A140, st140⟩ := newP X27 hx hZ (own_g hw 6 rfl) rfl (g := (mkF m 131 A28 [(.int (8 : Int32))])) rfl (hb hby at_131) rfl (by decide) (cap := 8) (by decide) (by decide) (by decide) (by decide)
      obtain ⟨a140, g140⟩ : ∃ z, z = T27.heap.size := ⟨_, rfl⟩
      rw [← g140] at A140 st140
      have ge_a140 : n0 ≤ a140 := Nat.le_trans Z27 (Nat.le_of_eq g140.symm)
      have sz_a140 : h0.size ≤ a140 := Nat.le_trans SZ27 (Nat.le_of_eq g140.symm)
      have Z140 : n0 ≤ h140.size := Nat.le_trans Z27 E140.1
      have SZ140 : h0.size ≤ h140.size := Nat.le_trans SZ27 E140.1
      have hk := Nat.le_trans hk E140.1
      have hr140 := CHr.ext E140 hC27.1
      have hC140 := hC27.trans hr140
      have V140 : Arv Z h140 a140 k140 .char (8 : Int32) [(.int (0 : Int32)), (.int (0 : Int32)), (.int (0 : Int32)), (.int (0 : Int32)), (.int (0 : Int32)), (.int (0 : Int32)), (.int (0 : Int32)), (.int (0 : Int32))] (.int (0 : Int32)) := Arv.pad (Arv.new A140 (by decide)) (pad_rep [] _ 8)
      have sf_a140 : own_SL Z own_EL s.vm h140 a140 := own_SL.born hC27.1 E140 g140 V140.lt
      refine own_step st140 ?_
      show own_Ends p e below F (T140.setTop (mkF m 133 A28 [(.ref a140)]))
      obtain ⟨A141, hA141⟩ : ∃ z : Array Slot, z = #[.val (.long p1), .second, .val (.int p2), .val (.int p3), .val (.int p4), .val (.int z2), .val (.int (8 : Int32)), .val (.int r9), .val (.int r11), .val (.int r13), .val (.int r15), .val (.int r17), .val (.int r19), .val (.int r21), .val (.int r23), .val (.int r25), .val (.int r27), .val (.ref a140), .unset, .unset, .unset, .unset] := ⟨_, rfl⟩
      refine own_step (fun _ k => XS.astore X140.here hx rfl (hb hby at_133) rfl rfl (l' := A141) (by rw [hA28, hA141]; exact rfl) k) ?_
      show own_Ends p e below F (T140.setTop (mkF m 135 A141 []))
      refine own_step (fun _ k => XS.iload X140.here hx rfl (hb hby at_135) (by rw [hA141]; rfl) k) ?_
      show own_Ends p e below F (T140.setTop (mkF m 137 A141 [(.int (8 : Int32))]))
      refine own_step (fun _ k => XS.ifNo X140.here hx rfl (hb hby at_137) rfl ((if0 _ _).trans (tlt (by decide : (0 : Int32) < (8 : Int32))).2.2.2) k) ?_
      show own_Ends p e below F (T140.setTop (mkF m 140 A141 []))
      refine own_step (fun _ k => XS.aload X140.here hx rfl (hb hby at_140) (by rw [hA141]; rfl) rfl k) ?_
      show own_Ends p e below F (T140.setTop (mkF m 142 A141 [(.ref a140)]))
      refine own_step (fun _ k => XS.iconst X140.here hx rfl (hb hby at_142) k) ?_
      show own_Ends p e below F (T140.setTop (mkF m 143 A141 [(.int (0 : Int32)), (.ref a140)]))
      refine own_step (fun _ k => XS.iload X140.here hx rfl (hb hby at_143) (by rw [hA141]; rfl) k) ?_
      show own_Ends p e below F (T140.setTop (mkF m 145 A141 [(.int r9), (.int (0 : Int32)), (.ref a140)]))
      obtain ⟨cl142, Ar142, q142, S142, M142, H142, G142⟩ := id V140
      have hin142 : ¬ ((0 : Int32) < 0 ∨ cl142.slots.size ≤ ((0 : Int32) : Int32).toNatClampNeg) := inb_of S142 ⟨by decide, by decide⟩
      obtain ⟨T142, h142, X142, e142, W142, st142⟩ := stC X140 hx hZ e140 Ar142 (j := (0 : Int32)) hin142 (g := (mkF m 145 A141 [(.int r9), (.int (0 : Int32)), (.ref a140)])) rfl rfl (hb hby at_145)
      rw [own_narC rr9] at W142
      have V142 := Arv.set Ar142 q142 S142 M142 H142 G142 (own_fitC rr9) W142 0 rfl (Nat.le_of_ble_eq_true rfl)
      have V142 : Arv Z h142 a140 k140 .char (8 : Int32) [(.int r9), (.int (0 : Int32)), (.int (0 : Int32)), (.int (0 : Int32)), (.int (0 : Int32)), (.int (0 : Int32)), (.int (0 : Int32)), (.int (0 : Int32))] (.int (0 : Int32)) := V142
      refine own_step st142 ?_
      have N142 := Fr.snoc X142 N27 ge_a140
      have Z142 : n0 ≤ h142.size := by rw [W142.size]; exact Z140
      have SZ142 : h0.size ≤ h142.size := by rw [W142.size]; exact SZ140
      have hk := (W142.size.symm ▸ hk : _ ≤ h142.size)
      have hr142 := CHr.wr W142 sf_a140.2 hC140.1
      have hC142 := hC140.trans hr142
      show own_Ends p e below F (T142.setTop (mkF m 146 A141 []))
      refine own_step (fun _ k => XS.iload X142.here hx rfl (hb hby at_146) (by rw [hA141]; rfl) k) ?_
      show own_Ends p e below F (T142.setTop (mkF m 148 A141 [(.int (8 : Int32))]))
      refine own_step (fun _ k => XS.iconst X142.here hx rfl (hb hby at_148) k) ?_
      show own_Ends p e below F (T142.setTop (mkF m 149 A141 [(.int (1 : Int32)), (.int (8 : Int32))]))
      refine own_step (fun _ k => XS.icmpNo X142.here hx rfl (hb hby at_149) rfl (tlt (by decide : (1 : Int32) < (8 : Int32))).2.2.2 k) ?_
      show own_Ends p e below F (T142.setTop (mkF m 152 A141 []))
      refine own_step (fun _ k => XS.aload X142.here hx rfl (hb hby at_152) (by rw [hA141]; rfl) rfl k) ?_
      show own_Ends p e below F (T142.setTop (mkF m 154 A141 [(.ref a140)]))
      refine own_step (fun _ k => XS.iconst X142.here hx rfl (hb hby at_154) k) ?_
      show own_Ends p e below F (T142.setTop (mkF m 155 A141 [(.int (1 : Int32)), (.ref a140)]))
      refine own_step (fun _ k => XS.iload X142.here hx rfl (hb hby at_155) (by rw [hA141]; rfl) k) ?_
      show own_Ends p e below F (T142.setTop (mkF m 157 A141 [(.int r11), (.int (1 : Int32)), (.ref a140)]))
      obtain ⟨cl143, Ar143, q143, S143, M143, H143, G143⟩ := id V142
      have hin143 : ¬ ((1 : Int32) < 0 ∨ cl143.slots.size ≤ ((1 : Int32) : Int32).toNatClampNeg) := inb_of S143 ⟨by decide, by decide⟩
      obtain ⟨T143, h143, X143, e143, W143, st143⟩ := stC X142 hx hZ e142 Ar143 (j := (1 : Int32)) hin143 (g := (mkF m 157 A141 [(.int r11), (.int (1 : Int32)), (.ref a140)])) rfl rfl (hb hby at_157)
      rw [own_narC rr11] at W143
      have V143 := Arv.set Ar143 q143 S143 M143 H143 G143 (own_fitC rr11) W143 1 rfl (Nat.le_of_ble_eq_true rfl)
      have V143 : Arv Z h143 a140 k140 .char (8 : Int32) [(.int r9), (.int r11), (.int (0 : Int32)), (.int (0 : Int32)), (.int (0 : Int32)), (.int (0 : Int32)), (.int (0 : Int32)), (.int (0 : Int32))] (.int (0 : Int32)) := V143
      refine own_step st143 ?_
      have N143 := Fr.snoc X143 N142 ge_a140
      have Z143 : n0 ≤ h143.size := by rw [W143.size]; exact Z142
      have SZ143 : h0.size ≤ h143.size := by rw [W143.size]; exact SZ142
      have hk := (W143.size.symm ▸ hk : _ ≤ h143.size)
      have hr143 := CHr.wr W143 (own_SL.go sf_a140 hr142).2 hC142.1
      have hC143 := hC142.trans hr143
      show own_Ends p e below F (T143.setTop (mkF m 158 A141 []))
      refine own_step (fun _ k => XS.iload X143.here hx rfl (hb hby at_158) (by rw [hA141]; rfl) k) ?_
      show own_Ends p e below F (T143.setTop (mkF m 160 A141 [(.int (8 : Int32))]))
      refine own_step (fun _ k => XS.iconst X143.here hx rfl (hb hby at_160) k) ?_
      show own_Ends p e below F (T143.setTop (mkF m 161 A141 [(.int (2 : Int32)), (.int (8 : Int32))]))
      refine own_step (fun _ k => XS.icmpNo X143.here hx rfl (hb hby at_161) rfl (tlt (by decide : (2 : Int32) < (8 : Int32))).2.2.2 k) ?_
      show own_Ends p e below F (T143.setTop (mkF m 164 A141 []))
      refine own_step (fun _ k => XS.aload X143.here hx rfl (hb hby at_164) (by rw [hA141]; rfl) rfl k) ?_
      show own_Ends p e below F (T143.setTop (mkF m 166 A141 [(.ref a140)]))
      refine own_step (fun _ k => XS.iconst X143.here hx rfl (hb hby at_166) k) ?_
      show own_Ends p e below F (T143.setTop (mkF m 167 A141 [(.int (2 : Int32)), (.ref a140)]))
      refine own_step (fun _ k => XS.iload X143.here hx rfl (hb hby at_167) (by rw [hA141]; rfl) k) ?_
      show own_Ends p e below F (T143.setTop (mkF m 169 A141 [(.int r13), (.int (2 : Int32)), (.ref a140)]))
      obtain ⟨cl144, Ar144, q144, S144, M144, H144, G144⟩ := id V143
      have hin144 : ¬ ((2 : Int32) < 0 ∨ cl144.slots.size ≤ ((2 : Int32) : Int32).toNatClampNeg) := inb_of S144 ⟨by decide, by decide⟩
      obtain ⟨T144, h144, X144, e144, W144, st144⟩ := stC X143 hx hZ e143 Ar144 (j := (2 : Int32)) hin144 (g := (mkF m 169 A141 [(.int r13), (.int (2 : Int32)), (.ref a140)])) rfl rfl (hb hby at_169)
      rw [own_narC rr13] at W144
      have V144 := Arv.set Ar144 q144 S144 M144 H144 G144 (own_fitC rr13) W144 2 rfl (Nat.le_of_ble_eq_true rfl)
      have V144 : Arv Z h144 a140 k140 .char (8 : Int32) [(.int r9), (.int r11), (.int r13), (.int (0 : Int32)), (.int (0 : Int32)), (.int (0 : Int32)), (.int (0 : Int32)), (.int (0 : Int32))] (.int (0 : Int32)) := V144
      refine own_step st144 ?_
      have N144 := Fr.snoc X144 N143 ge_a140
      have Z144 : n0 ≤ h144.size := by rw [W144.size]; exact Z143
      have SZ144 : h0.size ≤ h144.size := by rw [W144.size]; exact SZ143
      have hk := (W144.size.symm ▸ hk : _ ≤ h144.size)
      have hr144 := CHr.wr W144 (own_SL.go (own_SL.go sf_a140 hr142) hr143).2 hC143.1
      have hC144 := hC143.trans hr144
      show own_Ends p e below F (T144.setTop (mkF m 170 A141 []))
      refine own_step (fun _ k => XS.iload X144.here hx rfl (hb hby at_170) (by rw [hA141]; rfl) k) ?_
      show own_Ends p e below F (T144.setTop (mkF m 172 A141 [(.int (8 : Int32))]))
      refine own_step (fun _ k => XS.iconst X144.here hx rfl (hb hby at_172) k) ?_
      show own_Ends p e below F (T144.setTop (mkF m 173 A141 [(.int (3 : Int32)), (.int (8 : Int32))]))
      refine own_step (fun _ k => XS.icmpNo X144.here hx rfl (hb hby at_173) rfl (tlt (by decide : (3 : Int32) < (8 : Int32))).2.2.2 k) ?_
      show own_Ends p e below F (T144.setTop (mkF m 176 A141 []))
      refine own_step (fun _ k => XS.aload X144.here hx rfl (hb hby at_176) (by rw [hA141]; rfl) rfl k) ?_
      show own_Ends p e below F (T144.setTop (mkF m 178 A141 [(.ref a140)]))
      refine own_step (fun _ k => XS.iconst X144.here hx rfl (hb hby at_178) k) ?_
      show own_Ends p e below F (T144.setTop (mkF m 179 A141 [(.int (3 : Int32)), (.ref a140)]))
      refine own_step (fun _ k => XS.iload X144.here hx rfl (hb hby at_179) (by rw [hA141]; rfl) k) ?_
      show own_Ends p e below F (T144.setTop (mkF m 181 A141 [(.int r15), (.int (3 : Int32)), (.ref a140)]))
      obtain ⟨cl145, Ar145, q145, S145, M145, H145, G145⟩ := id V144
      have hin145 : ¬ ((3 : Int32) < 0 ∨ cl145.slots.size ≤ ((3 : Int32) : Int32).toNatClampNeg) := inb_of S145 ⟨by decide, by decide⟩
      obtain ⟨T145, h145, X145, e145, W145, st145⟩ := stC X144 hx hZ e144 Ar145 (j := (3 : Int32)) hin145 (g := (mkF m 181 A141 [(.int r15), (.int (3 : Int32)), (.ref a140)])) rfl rfl (hb hby at_181)
      rw [own_narC rr15] at W145
      have V145 := Arv.set Ar145 q145 S145 M145 H145 G145 (own_fitC rr15) W145 3 rfl (Nat.le_of_ble_eq_true rfl)
      have V145 : Arv Z h145 a140 k140 .char (8 : Int32) [(.int r9), (.int r11), (.int r13), (.int r15), (.int (0 : Int32)), (.int (0 : Int32)), (.int (0 : Int32)), (.int (0 : Int32))] (.int (0 : Int32)) := V145
      refine own_step st145 ?_
      have N145 := Fr.snoc X145 N144 ge_a140
      have Z145 : n0 ≤ h145.size := by rw [W145.size]; exact Z144
      have SZ145 : h0.size ≤ h145.size := by rw [W145.size]; exact SZ144
      have hk := (W145.size.symm ▸ hk : _ ≤ h145.size)
      have hr145 := CHr.wr W145 (own_SL.go (own_SL.go (own_SL.go sf_a140 hr142) hr143) hr144).2 hC144.1
      have hC145 := hC144.trans hr145
      show own_Ends p e below F (T145.setTop (mkF m 182 A141 []))
      refine own_step (fun _ k => XS.iload X145.here hx rfl (hb hby at_182) (by rw [hA141]; rfl) k) ?_
      show own_Ends p e below F (T145.setTop (mkF m 184 A141 [(.int (8 : Int32))]))
      refine own_step (fun _ k => XS.iconst X145.here hx rfl (hb hby at_184) k) ?_
      show own_Ends p e below F (T145.setTop (mkF m 185 A141 [(.int (4 : Int32)), (.int (8 : Int32))]))
      refine own_step (fun _ k => XS.icmpNo X145.here hx rfl (hb hby at_185) rfl (tlt (by decide : (4 : Int32) < (8 : Int32))).2.2.2 k) ?_
      show own_Ends p e below F (T145.setTop (mkF m 188 A141 []))
      refine own_step (fun _ k => XS.aload X145.here hx rfl (hb hby at_188) (by rw [hA141]; rfl) rfl k) ?_
      show own_Ends p e below F (T145.setTop (mkF m 190 A141 [(.ref a140)]))
      refine own_step (fun _ k => XS.iconst X145.here hx rfl (hb hby at_190) k) ?_
      show own_Ends p e below F (T145.setTop (mkF m 191 A141 [(.int (4 : Int32)), (.ref a140)]))
      refine own_step (fun _ k => XS.iload X145.here hx rfl (hb hby at_191) (by rw [hA141]; rfl) k) ?_
      show own_Ends p e below F (T145.setTop (mkF m 193 A141 [(.int r17), (.int (4 : Int32)), (.ref a140)]))
      obtain ⟨cl146, Ar146, q146, S146, M146, H146, G146⟩ := id V145
      have hin146 : ¬ ((4 : Int32) < 0 ∨ cl146.slots.size ≤ ((4 : Int32) : Int32).toNatClampNeg) := inb_of S146 ⟨by decide, by decide⟩
      obtain ⟨T146, h146, X146, e146, W146, st146⟩ := stC X145 hx hZ e145 Ar146 (j := (4 : Int32)) hin146 (g := (mkF m 193 A141 [(.int r17), (.int (4 : Int32)), (.ref a140)])) rfl rfl (hb hby at_193)
      rw [own_narC rr17] at W146
      have V146 := Arv.set Ar146 q146 S146 M146 H146 G146 (own_fitC rr17) W146 4 rfl (Nat.le_of_ble_eq_true rfl)
      have V146 : Arv Z h146 a140 k140 .char (8 : Int32) [(.int r9), (.int r11), (.int r13), (.int r15), (.int r17), (.int (0 : Int32)), (.int (0 : Int32)), (.int (0 : Int32))] (.int (0 : Int32)) := V146
      refine own_step st146 ?_
      have N146 := Fr.snoc X146 N145 ge_a140
      have Z146 : n0 ≤ h146.size := by rw [W146.size]; exact Z145
      have SZ146 : h0.size ≤ h146.size := by rw [W146.size]; exact SZ145
      have hk := (W146.size.symm ▸ hk : _ ≤ h146.size)
      have hr146 := CHr.wr W146 (own_SL.go (own_SL.go (own_SL.go (own_SL.go sf_a140 hr142) hr143) hr144) hr145).2 hC145.1
      have hC146 := hC145.trans hr146
      show own_Ends p e below F (T146.setTop (mkF m 194 A141 []))
      refine own_step (fun _ k => XS.iload X146.here hx rfl (hb hby at_194) (by rw [hA141]; rfl) k) ?_
      show own_Ends p e below F (T146.setTop (mkF m 196 A141 [(.int (8 : Int32))]))
      refine own_step (fun _ k => XS.iconst X146.here hx rfl (hb hby at_196) k) ?_
      show own_Ends p e below F (T146.setTop (mkF m 197 A141 [(.int (5 : Int32)), (.int (8 : Int32))]))
      refine own_step (fun _ k => XS.icmpNo X146.here hx rfl (hb hby at_197) rfl (tlt (by decide : (5 : Int32) < (8 : Int32))).2.2.2 k) ?_
      show own_Ends p e below F (T146.setTop (mkF m 200 A141 []))
      refine own_step (fun _ k => XS.aload X146.here hx rfl (hb hby at_200) (by rw [hA141]; rfl) rfl k) ?_
      show own_Ends p e below F (T146.setTop (mkF m 202 A141 [(.ref a140)]))
      refine own_step (fun _ k => XS.iconst X146.here hx rfl (hb hby at_202) k) ?_
      show own_Ends p e below F (T146.setTop (mkF m 203 A141 [(.int (5 : Int32)), (.ref a140)]))
      refine own_step (fun _ k => XS.iload X146.here hx rfl (hb hby at_203) (by rw [hA141]; rfl) k) ?_
      show own_Ends p e below F (T146.setTop (mkF m 205 A141 [(.int r19), (.int (5 : Int32)), (.ref a140)]))
      obtain ⟨cl147, Ar147, q147, S147, M147, H147, G147⟩ := id V146
      have hin147 : ¬ ((5 : Int32) < 0 ∨ cl147.slots.size ≤ ((5 : Int32) : Int32).toNatClampNeg) := inb_of S147 ⟨by decide, by decide⟩
      obtain ⟨T147, h147, X147, e147, W147, st147⟩ := stC X146 hx hZ e146 Ar147 (j := (5 : Int32)) hin147 (g := (mkF m 205 A141 [(.int r19), (.int (5 : Int32)), (.ref a140)])) rfl rfl (hb hby at_205)
      rw [own_narC rr19] at W147
      have V147 := Arv.set Ar147 q147 S147 M147 H147 G147 (own_fitC rr19) W147 5 rfl (Nat.le_of_ble_eq_true rfl)
      have V147 : Arv Z h147 a140 k140 .char (8 : Int32) [(.int r9), (.int r11), (.int r13), (.int r15), (.int r17), (.int r19), (.int (0 : Int32)), (.int (0 : Int32))] (.int (0 : Int32)) := V147
      refine own_step st147 ?_
      have N147 := Fr.snoc X147 N146 ge_a140
      have Z147 : n0 ≤ h147.size := by rw [W147.size]; exact Z146
      have SZ147 : h0.size ≤ h147.size := by rw [W147.size]; exact SZ146
      have hk := (W147.size.symm ▸ hk : _ ≤ h147.size)
      have hr147 := CHr.wr W147 (own_SL.go (own_SL.go (own_SL.go (own_SL.go (own_SL.go sf_a140 hr142) hr143) hr144) hr145) hr146).2 hC146.1
      have hC147 := hC146.trans hr147
      show own_Ends p e below F (T147.setTop (mkF m 206 A141 []))
      refine own_step (fun _ k => XS.iload X147.here hx rfl (hb hby at_206) (by rw [hA141]; rfl) k) ?_
      show own_Ends p e below F (T147.setTop (mkF m 208 A141 [(.int (8 : Int32))]))
      refine own_step (fun _ k => XS.bipush X147.here hx rfl (hb hby at_208) k) ?_
      show own_Ends p e below F (T147.setTop (mkF m 210 A141 [(.int (6 : Int32)), (.int (8 : Int32))]))
      refine own_step (fun _ k => XS.icmpNo X147.here hx rfl (hb hby at_210) rfl (tlt (by decide : (6 : Int32) < (8 : Int32))).2.2.2 k) ?_
      show own_Ends p e below F (T147.setTop (mkF m 213 A141 []))
      refine own_step (fun _ k => XS.aload X147.here hx rfl (hb hby at_213) (by rw [hA141]; rfl) rfl k) ?_
      show own_Ends p e below F (T147.setTop (mkF m 215 A141 [(.ref a140)]))
      refine own_step (fun _ k => XS.bipush X147.here hx rfl (hb hby at_215) k) ?_
      show own_Ends p e below F (T147.setTop (mkF m 217 A141 [(.int (6 : Int32)), (.ref a140)]))
      refine own_step (fun _ k => XS.iload X147.here hx rfl (hb hby at_217) (by rw [hA141]; rfl) k) ?_
      show own_Ends p e below F (T147.setTop (mkF m 219 A141 [(.int r21), (.int (6 : Int32)), (.ref a140)]))
      obtain ⟨cl148, Ar148, q148, S148, M148, H148, G148⟩ := id V147
      have hin148 : ¬ ((6 : Int32) < 0 ∨ cl148.slots.size ≤ ((6 : Int32) : Int32).toNatClampNeg) := inb_of S148 ⟨by decide, by decide⟩
      obtain ⟨T148, h148, X148, e148, W148, st148⟩ := stC X147 hx hZ e147 Ar148 (j := (6 : Int32)) hin148 (g := (mkF m 219 A141 [(.int r21), (.int (6 : Int32)), (.ref a140)])) rfl rfl (hb hby at_219)
      rw [own_narC rr21] at W148
      have V148 := Arv.set Ar148 q148 S148 M148 H148 G148 (own_fitC rr21) W148 6 rfl (Nat.le_of_ble_eq_true rfl)
      have V148 : Arv Z h148 a140 k140 .char (8 : Int32) [(.int r9), (.int r11), (.int r13), (.int r15), (.int r17), (.int r19), (.int r21), (.int (0 : Int32))] (.int (0 : Int32)) := V148
      refine own_step st148 ?_
      have N148 := Fr.snoc X148 N147 ge_a140
      have Z148 : n0 ≤ h148.size := by rw [W148.size]; exact Z147
      have SZ148 : h0.size ≤ h148.size := by rw [W148.size]; exact SZ147
      have hk := (W148.size.symm ▸ hk : _ ≤ h148.size)
      have hr148 := CHr.wr W148 (own_SL.go (own_SL.go (own_SL.go (own_SL.go (own_SL.go (own_SL.go sf_a140 hr142) hr143) hr144) hr145) hr146) hr147).2 hC147.1
      have hC148 := hC147.trans hr148
      show own_Ends p e below F (T148.setTop (mkF m 220 A141 []))
      refine own_step (fun _ k => XS.iload X148.here hx rfl (hb hby at_220) (by rw [hA141]; rfl) k) ?_
      show own_Ends p e below F (T148.setTop (mkF m 222 A141 [(.int (8 : Int32))]))
      refine own_step (fun _ k => XS.bipush X148.here hx rfl (hb hby at_222) k) ?_
      show own_Ends p e below F (T148.setTop (mkF m 224 A141 [(.int (7 : Int32)), (.int (8 : Int32))]))
      refine own_step (fun _ k => XS.icmpNo X148.here hx rfl (hb hby at_224) rfl (tlt (by decide : (7 : Int32) < (8 : Int32))).2.2.2 k) ?_
      show own_Ends p e below F (T148.setTop (mkF m 227 A141 []))
      refine own_step (fun _ k => XS.aload X148.here hx rfl (hb hby at_227) (by rw [hA141]; rfl) rfl k) ?_
      show own_Ends p e below F (T148.setTop (mkF m 229 A141 [(.ref a140)]))
      refine own_step (fun _ k => XS.bipush X148.here hx rfl (hb hby at_229) k) ?_
      show own_Ends p e below F (T148.setTop (mkF m 231 A141 [(.int (7 : Int32)), (.ref a140)]))
      refine own_step (fun _ k => XS.iload X148.here hx rfl (hb hby at_231) (by rw [hA141]; rfl) k) ?_
      show own_Ends p e below F (T148.setTop (mkF m 233 A141 [(.int r23), (.int (7 : Int32)), (.ref a140)]))
      obtain ⟨cl149, Ar149, q149, S149, M149, H149, G149⟩ := id V148
      have hin149 : ¬ ((7 : Int32) < 0 ∨ cl149.slots.size ≤ ((7 : Int32) : Int32).toNatClampNeg) := inb_of S149 ⟨by decide, by decide⟩
      obtain ⟨T149, h149, X149, e149, W149, st149⟩ := stC X148 hx hZ e148 Ar149 (j := (7 : Int32)) hin149 (g := (mkF m 233 A141 [(.int r23), (.int (7 : Int32)), (.ref a140)])) rfl rfl (hb hby at_233)
      rw [own_narC rr23] at W149
      have V149 := Arv.set Ar149 q149 S149 M149 H149 G149 (own_fitC rr23) W149 7 rfl (Nat.le_of_ble_eq_true rfl)
      have V149 : Arv Z h149 a140 k140 .char (8 : Int32) [(.int r9), (.int r11), (.int r13), (.int r15), (.int r17), (.int r19), (.int r21), (.int r23)] (.int (0 : Int32)) := V149
      refine own_step st149 ?_
      have N149 := Fr.snoc X149 N148 ge_a140
      have Z149 : n0 ≤ h149.size := by rw [W149.size]; exact Z148
      have SZ149 : h0.size ≤ h149.size := by rw [W149.size]; exact SZ148
      have hk := (W149.size.symm ▸ hk : _ ≤ h149.size)
      have hr149 := CHr.wr W149 (own_SL.go (own_SL.go (own_SL.go (own_SL.go (own_SL.go (own_SL.go (own_SL.go sf_a140 hr142) hr143) hr144) hr145) hr146) hr147) hr148).2 hC148.1
      have hC149 := hC148.trans hr149
      show own_Ends p e below F (T149.setTop (mkF m 234 A141 []))
      refine own_step (fun _ k => XS.iload X149.here hx rfl (hb hby at_234) (by rw [hA141]; rfl) k) ?_
      show own_Ends p e below F (T149.setTop (mkF m 236 A141 [(.int (8 : Int32))]))
      refine own_step (fun _ k => XS.bipush X149.here hx rfl (hb hby at_236) k) ?_
      show own_Ends p e below F (T149.setTop (mkF m 238 A141 [(.int (8 : Int32)), (.int (8 : Int32))]))
      refine own_step (fun _ k => XS.icmpYes X149.here hx rfl (pc0 := 238) (pc' := 248) rfl (hb hby at_238) rfl (flt (by decide : ¬ ((8 : Int32) < (8 : Int32)))).2.2.2 (by decide) (by decide) k) ?_
      show own_Ends p e below F (T149.setTop (mkF m 248 A141 []))
      refine own_step (fun _ k => XS.iload X149.here hx rfl (hb hby at_248) (by rw [hA141]; rfl) k) ?_
      show own_Ends p e below F (T149.setTop (mkF m 250 A141 [(.int (8 : Int32))]))
      refine own_step (fun _ k => XS.bipush X149.here hx rfl (hb hby at_250) k) ?_
      show own_Ends p e below F (T149.setTop (mkF m 252 A141 [(.int (9 : Int32)), (.int (8 : Int32))]))
      refine own_step (fun _ k => XS.icmpYes X149.here hx rfl (pc0 := 252) (pc' := 262) rfl (hb hby at_252) rfl (flt (by decide : ¬ ((9 : Int32) < (8 : Int32)))).2.2.2 (by decide) (by decide) k) ?_
      show own_Ends p e below F (T149.setTop (mkF m 262 A141 []))
      obtain ⟨T150, h150, X150, e150, E150, A150, D150, -, st150⟩ := newO X149 hx hZ hown (own_g hw 7 rfl) (own_g hw 8 rfl) (own_g hw 9 rfl) e149 (g := (mkF m 262 A141 [])) rfl (hb hby at_262) (by decide) (by decide)
      obtain ⟨a150, g150⟩ : ∃ z, z = h149.size := ⟨_, rfl⟩
      rw [← g150] at A150 D150 st150
      have ge_a150 : n0 ≤ a150 := Nat.le_trans Z149 (Nat.le_of_eq g150.symm)
      have sz_a150 : h0.size ≤ a150 := Nat.le_trans SZ149 (Nat.le_of_eq g150.symm)
      have ne_a140_a150 : a140 ≠ a150 := Nat.ne_of_lt (by rw [g150]; exact V149.lt)
      have Z150 : n0 ≤ h150.size := Nat.le_trans Z149 E150.1
      have SZ150 : h0.size ≤ h150.size := Nat.le_trans SZ149 E150.1
      have hk := Nat.le_trans hk E150.1
      have hr150 := CHr.ext E150 hC149.1
      have hC150 := hC149.trans hr150
      have F150_coder : Fld Z h150 a150 "java/lang/String" "coder" "B" (.int (0 : Int32)) := D150 (Or.inr (own_g hw 33 rfl)) (ty := .byte) (by decide)
      have F150_value : Fld Z h150 a150 "java/lang/String" "value" "[B" .null := D150 (Or.inr (own_g hw 35 rfl)) (ty := (.array .byte)) (by decide)
      have sf_a150 : own_SL Z own_EL s.vm h150 a150 := own_SL.born hC149.1 E150 g150 A150.lt
      refine own_step st150 ?_
      show own_Ends p e below F (T150.setTop (mkF m 265 A141 [(.ref a150)]))
      refine own_step (fun _ k => XS.dup X150.here hx rfl (hb hby at_265) rfl rfl k) ?_
      show own_Ends p e below F (T150.setTop (mkF m 266 A141 [(.ref a150), (.ref a150)]))
      refine own_step (fun _ k => XS.aload X150.here hx rfl (hb hby at_266) (by rw [hA141]; rfl) rfl k) ?_
      show own_Ends p e below F (T150.setTop (mkF m 268 A141 [(.ref a140), (.ref a150), (.ref a150)]))
      obtain ⟨_, _, ⟨T151, L151, k151, n151⟩, -, X151, ⟨Lc151, hQ151, l151, y151, z151⟩, st151⟩ := X150.specialBack hx (y := (⟨"java/lang/String", "<init>", "([C)V"⟩ : MethodName)) rfl hown (mvT hZ (own_g hw 10 rfl)) (mvT hZ (own_g hw 11 rfl)) (mvT hZ (own_g hw 12 rfl)) (by decide) (StrChars.Road.backV (W := 1) hZ (fun d hd => hw d ((by decide +kernel : ∀ d ∈ StrChars.Road.words, d ∈ tables_1) d hd)) (kI := 4) (own_g hw 8 rfl) (cs := ([r9, r11, r13, r15, r17, r19, r21, r23] : List Int32)) (bs := ([r9, r11, r13, r15, r17, r19, r21, r23] : List Int32).map (fun c => c.toInt8.toInt32)) (n := 8) ge_a150 Z150 A150 F150_value F150_coder (V149.ext E150) (Sta.ext E150 (Sta.wr W149 (Sta.wr W148 (Sta.wr W147 (Sta.wr W146 (Sta.wr W145 (Sta.wr W144 (Sta.wr W143 (Sta.wr W142 (Sta.ext E140 S0_27)))))))))) hz rfl rfl (by decide) (by decide) (own_cS rr9 (own_cS rr11 (own_cS rr13 (own_cS rr15 (own_cS rr17 (own_cS rr19 (own_cS rr21 (own_cS rr23 own_c0)))))))) rfl (by decide) (by decide)) (g := (mkF m 268 A141 [(.ref a140), (.ref a150), (.ref a150)])) rfl (by rw [hml]; show A141.size = _; rw [hA141]; rfl) (Steps.refl _) (a := a150) (argsL := [(.ref a140)]) (rest := [(.ref a150)]) (lenOf pd__28_5bC_29V rfl) rfl (by show 2 * 0 + _ ≤ _; exact Nat.le_of_eq rfl) (hb hby at_268) (fun _ _ => ⟨rfl, e150, (by decide : 12 + 1 ≤ _), (by decide : 92 + 8 ≤ _)⟩)
      dsimp only [Pt.U, Pt.locs, Pt.cells, Pt.slots] at X151 l151 y151 z151 st151 hQ151
      subst l151 y151 z151
      obtain ⟨rfl, Nq151, Kq151, fe151, fc151, tt151, kt151, -, -, -, fv151, fa151⟩ := hQ151
      have N151 := Fr.app N149 Nq151
      have Z151 : n0 ≤ T151.heap.size := Nat.le_trans Z150 Kq151.1
      have SZ151 : h0.size ≤ T151.heap.size := Nat.le_trans SZ150 Kq151.1
      have S0_151 := own_Sta_keep (Sta.ext E150 (Sta.wr W149 (Sta.wr W148 (Sta.wr W147 (Sta.wr W146 (Sta.wr W145 (Sta.wr W144 (Sta.wr W143 (Sta.wr W142 (Sta.ext E140 S0_27)))))))))) Kq151 (allS (own_ns_exa A150) all0)
      have str151 : own_Str Z T151.heap T151.heap.size a150 ([r9, r11, r13, r15, r17, r19, r21, r23] : List Int32) := own_Str.mk fe151 fc151 fv151 fa151 rfl rfl (own_cS rr9 (own_cS rr11 (own_cS rr13 (own_cS rr15 (own_cS rr17 (own_cS rr19 (own_cS rr21 (own_cS rr23 own_c0))))))))
      have hr151 := CHr.keep Kq151 (sfS sf_a150.2 sf0) hC150.1
      have hC151 := hC150.trans hr151
      have hk := Nat.le_trans hk Kq151.1
      refine own_trans st151 ?_
      show own_Ends p e below F (T151.setTop (mkF m 271 A141 [(.ref a150)]))
      obtain ⟨A152, hA152⟩ : ∃ z : Array Slot, z = #[.val (.long p1), .second, .val (.int p2), .val (.int p3), .val (.int p4), .val (.int z2), .val (.int (8 : Int32)), .val (.int r9), .val (.int r11), .val (.int r13), .val (.int r15), .val (.int r17), .val (.int r19), .val (.int r21), .val (.int r23), .val (.int r25), .val (.int r27), .val (.ref a140), .val (.ref a150), .unset, .unset, .unset] := ⟨_, rfl⟩
      refine own_step (fun _ k => XS.astore X151.here hx rfl (hb hby at_271) rfl rfl (l' := A152) (by rw [hA141, hA152]; exact rfl) k) ?_
      show own_Ends p e below F (T151.setTop (mkF m 273 A152 []))
      refine own_step (fun _ k => XS.iload X151.here hx rfl (hb hby at_273) (by rw [hA152]; rfl) k) ?_
      show own_Ends p e below F (T151.setTop (mkF m 275 A152 [(.int (8 : Int32))]))
      refine own_step (fun _ k => XS.iconst X151.here hx rfl (hb hby at_275) k) ?_
      show own_Ends p e below F (T151.setTop (mkF m 276 A152 [(.int (2 : Int32)), (.int (8 : Int32))]))
      refine own_step (fun _ k => XS.icmpYes X151.here hx rfl (pc0 := 276) (pc' := 297) rfl (hb hby at_276) rfl (feq (by decide : ¬ ((8 : Int32) = (2 : Int32)))).2 (by decide) (by decide) k) ?_
      show own_Ends p e below F (T151.setTop (mkF m 297 A152 []))
      refine own_step (fun _ k => XS.iconst X151.here hx rfl (hb hby at_297) k) ?_
      show own_Ends p e below F (T151.setTop (mkF m 298 A152 [(.int (0 : Int32))]))
      obtain ⟨A153, hA153⟩ : ∃ z : Array Slot, z = #[.val (.long p1), .second, .val (.int p2), .val (.int p3), .val (.int p4), .val (.int z2), .val (.int (8 : Int32)), .val (.int r9), .val (.int r11), .val (.int r13), .val (.int r15), .val (.int r17), .val (.int r19), .val (.int r21), .val (.int r23), .val (.int r25), .val (.int r27), .val (.ref a140), .val (.ref a150), .val (.int (0 : Int32)), .unset, .unset] := ⟨_, rfl⟩
      refine own_step (fun _ k => XS.istore X151.here hx rfl (hb hby at_298) rfl (l' := A153) (by rw [hA152, hA153]; exact rfl) k) ?_
      show own_Ends p e below F (T151.setTop (mkF m 300 A153 []))
      refine own_step (fun _ k => XS.iload X151.here hx rfl (hb hby at_300) (by rw [hA153]; rfl) k) ?_
      show own_Ends p e below F (T151.setTop (mkF m 302 A153 [(.int (8 : Int32))]))
      refine own_step (fun _ k => XS.bipush X151.here hx rfl (hb hby at_302) k) ?_
      show own_Ends p e below F (T151.setTop (mkF m 304 A153 [(.int (9 : Int32)), (.int (8 : Int32))]))
      refine own_step (fun _ k => XS.icmpYes X151.here hx rfl (pc0 := 304) (pc' := 374) rfl (hb hby at_304) rfl (feq (by decide : ¬ ((8 : Int32) = (9 : Int32)))).2 (by decide) (by decide) k) ?_
      show own_Ends p e below F (T151.setTop (mkF m 374 A153 []))
      refine own_step (fun _ k => XS.iconst X151.here hx rfl (hb hby at_374) k) ?_
      show own_Ends p e below F (T151.setTop (mkF m 375 A153 [(.int (0 : Int32))]))
      obtain ⟨A154, hA154⟩ : ∃ z : Array Slot, z = #[.val (.long p1), .second, .val (.int p2), .val (.int p3), .val (.int p4), .val (.int z2), .val (.int (8 : Int32)), .val (.int r9), .val (.int r11), .val (.int r13), .val (.int r15), .val (.int r17), .val (.int r19), .val (.int r21), .val (.int r23), .val (.int r25), .val (.int r27), .val (.ref a140), .val (.ref a150), .val (.int (0 : Int32)), .val (.int (0 : Int32)), .unset] := ⟨_, rfl⟩
      refine own_step (fun _ k => XS.istore X151.here hx rfl (hb hby at_375) rfl (l' := A154) (by rw [hA153, hA154]; exact rfl) k) ?_
      show own_Ends p e below F (T151.setTop (mkF m 377 A154 []))
      refine own_step (fun _ k => XS.iload X151.here hx rfl (hb hby at_377) (by rw [hA154]; rfl) k) ?_
      show own_Ends p e below F (T151.setTop (mkF m 379 A154 [(.int (0 : Int32))]))
      refine own_step (fun _ k => XS.ifNo X151.here hx rfl (hb hby at_379) rfl ((if0 _ _).trans (teq (by decide : (0 : Int32) = (0 : Int32))).2) k) ?_
      show own_Ends p e below F (T151.setTop (mkF m 382 A154 []))
      refine own_step (fun _ k => XS.iload X151.here hx rfl (hb hby at_382) (by rw [hA154]; rfl) k) ?_
      show own_Ends p e below F (T151.setTop (mkF m 384 A154 [(.int (0 : Int32))]))
      refine own_step (fun _ k => XS.ifYes X151.here hx rfl (pc0 := 384) (pc' := 391) rfl (hb hby at_384) rfl ((if0 _ _).trans (teq (by decide : (0 : Int32) = (0 : Int32))).1) (by decide) (by decide) k) ?_
      show own_Ends p e below F (T151.setTop (mkF m 391 A154 []))
      refine own_step (fun _ k => XS.iconst X151.here hx rfl (hb hby at_391) k) ?_
      show own_Ends p e below F (T151.setTop (mkF m 392 A154 [(.int (0 : Int32))]))
      obtain ⟨A155, hA155⟩ : ∃ z : Array Slot, z = #[.val (.long p1), .second, .val (.int p2), .val (.int p3), .val (.int p4), .val (.int z2), .val (.int (8 : Int32)), .val (.int r9), .val (.int r11), .val (.int r13), .val (.int r15), .val (.int r17), .val (.int r19), .val (.int r21), .val (.int r23), .val (.int r25), .val (.int r27), .val (.ref a140), .val (.ref a150), .val (.int (0 : Int32)), .val (.int (0 : Int32)), .val (.int (0 : Int32))] := ⟨_, rfl⟩
      refine own_step (fun _ k => XS.istore X151.here hx rfl (hb hby at_392) rfl (l' := A155) (by rw [hA154, hA155]; exact rfl) k) ?_
      show own_Ends p e below F (T151.setTop (mkF m 394 A155 []))
      refine own_step (fun _ k => XS.aload X151.here hx rfl (hb hby at_394) (by rw [hA155]; rfl) rfl k) ?_
      show own_Ends p e below F (T151.setTop (mkF m 396 A155 [(.ref a150)]))
      obtain ⟨_, _, ⟨T156, L156, k156, n156⟩, -, X156, hS156, gr156, ⟨Lc156, hQ156, l156, y156, z156, hr156⟩, st156⟩ := callSS X151 hx (y := (⟨"com/example/facetwork/facetwork/cli/Logging", "isVerbose", "(Ljava/lang/String;)Z"⟩ : MethodName)) hown (mvT hZ (own_g hw 36 rfl)) (mvT hZ (own_g hw 37 rfl)) (mvT hZ (own_g hw 38 rfl)) (mvT hZ (own_g hw 39 rfl)) (by decide) (backOfSH (W := 0) (rm8 l Z a0 hw [] a150 ([r9, r11, r13, r15, r17, r19, r21, r23] : List Int32) T151.heap.size zc T151.heap n0 Z151 S0_151 hz (own_Str.top str151) (Nat.le_of_ble_eq_true rfl)) hZ (own_g hw 39 rfl) (own_g hw 38 rfl) (by decide) (by decide) (own_EW hw) hC151.1) (g := (mkF m 396 A155 [(.ref a150)])) rfl (by rw [hml]; show A155.size = _; rw [hA155]; rfl) (argsL := [(.ref a150)]) (rest := []) (lenOf pd__28Ljava_2flang_2fString_3b_29Z rfl) rfl (by show 2 * 0 + _ ≤ _; exact Nat.le_of_eq rfl) (hb hby at_396) (fun _ _ => ⟨rfl, rfl, (by decide : 13 + 4 ≤ _), (by decide : 100 + 52 ≤ _)⟩)
      dsimp only [Pt.U, Pt.locs, Pt.cells, Pt.slots] at X156 l156 y156 z156 st156 hQ156 hS156 gr156 hr156
      subst l156 y156 z156
      obtain ⟨rfl, Nq156, Kq156⟩ := hQ156
      have N156 := Fr.app N151 Nq156
      have Z156 : n0 ≤ T156.heap.size := Nat.le_trans Z151 Kq156.1
      have SZ156 : h0.size ≤ T156.heap.size := Nat.le_trans SZ151 Kq156.1
      have S0_156 := own_Sta_keep S0_151 Kq156 all0
      have hC156 := hC151.trans hr156
      have hZ := own_warm hZ hS156
      have hown := own_find hown hS156
      have hS := foldS hS (by exact hk) hS156 gr156
      have hk := Nat.le_refl T156.heap.size
      refine own_trans st156 ?_
      show own_Ends p e below F (T156.setTop (mkF m 399 A155 [(.int (own_ver ([r9, r11, r13, r15, r17, r19, r21, r23] : List Int32)))]))
      refine own_step (fun _ k => XS.iload X156.here hx rfl (hb hby at_399) (by rw [hA155]; rfl) k) ?_
      show own_Ends p e below F (T156.setTop (mkF m 401 A155 [(.int (0 : Int32)), (.int (own_ver ([r9, r11, r13, r15, r17, r19, r21, r23] : List Int32)))]))
      refine own_step (fun _ k => XS.icmpNo X156.here hx rfl (hb hby at_401) rfl (teq (own_v0 (Nat.ne_of_beq_eq_false rfl) (Nat.ne_of_beq_eq_false rfl) : (own_ver ([r9, r11, r13, r15, r17, r19, r21, r23] : List Int32)) = (0 : Int32))).2 k) ?_
      show own_Ends p e below F (T156.setTop (mkF m 404 A155 []))
      refine own_step (fun _ k => XS.iconst X156.here hx rfl (hb hby at_404) k) ?_
      show own_Ends p e below F (T156.setTop (mkF m 405 A155 [(.int (1 : Int32))]))
      refine own_step (fun _ k => XS.goto X156.here hx rfl (pc0 := 405) (pc' := 409) rfl (hb hby at_405) (by decide) (by decide) k) ?_
      show own_Ends p e below F (T156.setTop (mkF m 409 A155 [(.int (1 : Int32))]))
      rw [hF]
      exact own_retH X156 hS (by exact hk) hh rfl hZ (own_EW hw) hC156 (v := (some (.int (nar .boolean (1 : Int32))))) (fun h => by rw [Bd.returns] at h; cases h) Bd.notSynchronized (fun fs hr => retN X156 hx (t := .boolean) Bd.returns (by simp) (hb hby at_409) hr) (by decide) (by decide) (by exact ⟨rfl, N156⟩)
    · show own_Ends p e below F (T27.setTop (mkF m 129 A28 []))
      refine own_step (fun _ k => XS.iload X27.here hx rfl (hb hby at_129) (by rw [hA28]; rfl) k) ?_
      show own_Ends p e below F (T27.setTop (mkF m 131 A28 [(.int (9 : Int32))]))
      obtain ⟨T157, h157, k157, X157, e157, E157, A157, st157⟩ := newP X27 hx hZ (own_g hw 6 rfl) rfl (g := (mkF m 131 A28 [(.int (9 : Int32))])) rfl (hb hby at_131) rfl (by decide) (cap := 9) (by decide) (by decide) (by decide) (by decide)
      obtain ⟨a157, g157⟩ : ∃ z, z = T27.heap.size := ⟨_, rfl⟩
      rw [← g157] at A157 st157
      have ge_a157 : n0 ≤ a157 := Nat.le_trans Z27 (Nat.le_of_eq g157.symm)
      have sz_a157 : h0.size ≤ a157 := Nat.le_trans SZ27 (Nat.le_of_eq g157.symm)
      have Z157 : n0 ≤ h157.size := Nat.le_trans Z27 E157.1
      have SZ157 : h0.size ≤ h157.size := Nat.le_trans SZ27 E157.1
      have hk := Nat.le_trans hk E157.1
      have hr157 := CHr.ext E157 hC27.1
      have hC157 := hC27.trans hr157
      have V157 : Arv Z h157 a157 k157 .char (9 : Int32) [(.int (0 : Int32)), (.int (0 : Int32)), (.int (0 : Int32)), (.int (0 : Int32)), (.int (0 : Int32)), (.int (0 : Int32)), (.int (0 : Int32)), (.int (0 : Int32)), (.int (0 : Int32))] (.int (0 : Int32)) := Arv.pad (Arv.new A157 (by decide)) (pad_rep [] _ 9)
      have sf_a157 : own_SL Z own_EL s.vm h157 a157 := own_SL.born hC27.1 E157 g157 V157.lt
      refine own_step st157 ?_
      show own_Ends p e below F (T157.setTop (mkF m 133 A28 [(.ref a157)]))
      obtain ⟨A158, hA158⟩ : ∃ z : Array Slot, z = #[.val (.long p1), .second, .val (.int p2), .val (.int p3), .val (.int p4), .val (.int z2), .val (.int (9 : Int32)), .val (.int r9), .val (.int r11), .val (.int r13), .val (.int r15), .val (.int r17), .val (.int r19), .val (.int r21), .val (.int r23), .val (.int r25), .val (.int r27), .val (.ref a157), .unset, .unset, .unset, .unset] := ⟨_, rfl⟩
      refine own_step (fun _ k => XS.astore X157.here hx rfl (hb hby at_133) rfl rfl (l' := A158) (by rw [hA28, hA158]; exact rfl) k) ?_
      show own_Ends p e below F (T157.setTop (mkF m 135 A158 []))
      refine own_step (fun _ k => XS.iload X157.here hx rfl (hb hby at_135) (by rw [hA158]; rfl) k) ?_
      show own_Ends p e below F (T157.setTop (mkF m 137 A158 [(.int (9 : Int32))]))
      refine own_step (fun _ k => XS.ifNo X157.here hx rfl (hb hby at_137) rfl ((if0 _ _).trans (tlt (by decide : (0 : Int32) < (9 : Int32))).2.2.2) k) ?_
      show own_Ends p e below F (T157.setTop (mkF m 140 A158 []))
      refine own_step (fun _ k => XS.aload X157.here hx rfl (hb hby at_140) (by rw [hA158]; rfl) rfl k) ?_
      show own_Ends p e below F (T157.setTop (mkF m 142 A158 [(.ref a157)]))
      refine own_step (fun _ k => XS.iconst X157.here hx rfl (hb hby at_142) k) ?_
      show own_Ends p e below F (T157.setTop (mkF m 143 A158 [(.int (0 : Int32)), (.ref a157)]))
      refine own_step (fun _ k => XS.iload X157.here hx rfl (hb hby at_143) (by rw [hA158]; rfl) k) ?_
      show own_Ends p e below F (T157.setTop (mkF m 145 A158 [(.int r9), (.int (0 : Int32)), (.ref a157)]))
      obtain ⟨cl159, Ar159, q159, S159, M159, H159, G159⟩ := id V157
      have hin159 : ¬ ((0 : Int32) < 0 ∨ cl159.slots.size ≤ ((0 : Int32) : Int32).toNatClampNeg) := inb_of S159 ⟨by decide, by decide⟩
      obtain ⟨T159, h159, X159, e159, W159, st159⟩ := stC X157 hx hZ e157 Ar159 (j := (0 : Int32)) hin159 (g := (mkF m 145 A158 [(.int r9), (.int (0 : Int32)), (.ref a157)])) rfl rfl (hb hby at_145)
      rw [own_narC rr9] at W159
      have V159 := Arv.set Ar159 q159 S159 M159 H159 G159 (own_fitC rr9) W159 0 rfl (Nat.le_of_ble_eq_true rfl)
      have V159 : Arv Z h159 a157 k157 .char (9 : Int32) [(.int r9), (.int (0 : Int32)), (.int (0 : Int32)), (.int (0 : Int32)), (.int (0 : Int32)), (.int (0 : Int32)), (.int (0 : Int32)), (.int (0 : Int32)), (.int (0 : Int32))] (.int (0 : Int32)) := V159
      refine own_step st159 ?_
      have N159 := Fr.snoc X159 N27 ge_a157
      have Z159 : n0 ≤ h159.size := by rw [W159.size]; exact Z157
      have SZ159 : h0.size ≤ h159.size := by rw [W159.size]; exact SZ157
      have hk := (W159.size.symm ▸ hk : _ ≤ h159.size)
      have hr159 := CHr.wr W159 sf_a157.2 hC157.1
      have hC159 := hC157.trans hr159
      show own_Ends p e below F (T159.setTop (mkF m 146 A158 []))
      refine own_step (fun _ k => XS.iload X159.here hx rfl (hb hby at_146) (by rw [hA158]; rfl) k) ?_
      show own_Ends p e below F (T159.setTop (mkF m 148 A158 [(.int (9 : Int32))]))
      refine own_step (fun _ k => XS.iconst X159.here hx rfl (hb hby at_148) k) ?_
      show own_Ends p e below F (T159.setTop (mkF m 149 A158 [(.int (1 : Int32)), (.int (9 : Int32))]))
      refine own_step (fun _ k => XS.icmpNo X159.here hx rfl (hb hby at_149) rfl (tlt (by decide : (1 : Int32) < (9 : Int32))).2.2.2 k) ?_
      show own_Ends p e below F (T159.setTop (mkF m 152 A158 []))
      refine own_step (fun _ k => XS.aload X159.here hx rfl (hb hby at_152) (by rw [hA158]; rfl) rfl k) ?_
      show own_Ends p e below F (T159.setTop (mkF m 154 A158 [(.ref a157)]))
      refine own_step (fun _ k => XS.iconst X159.here hx rfl (hb hby at_154) k) ?_
      show own_Ends p e below F (T159.setTop (mkF m 155 A158 [(.int (1 : Int32)), (.ref a157)]))
      refine own_step (fun _ k => XS.iload X159.here hx rfl (hb hby at_155) (by rw [hA158]; rfl) k) ?_
      show own_Ends p e below F (T159.setTop (mkF m 157 A158 [(.int r11), (.int (1 : Int32)), (.ref a157)]))
      obtain ⟨cl160, Ar160, q160, S160, M160, H160, G160⟩ := id V159
      have hin160 : ¬ ((1 : Int32) < 0 ∨ cl160.slots.size ≤ ((1 : Int32) : Int32).toNatClampNeg) := inb_of S160 ⟨by decide, by decide⟩
      obtain ⟨T160, h160, X160, e160, W160, st160⟩ := stC X159 hx hZ e159 Ar160 (j := (1 : Int32)) hin160 (g := (mkF m 157 A158 [(.int r11), (.int (1 : Int32)), (.ref a157)])) rfl rfl (hb hby at_157)
      rw [own_narC rr11] at W160
      have V160 := Arv.set Ar160 q160 S160 M160 H160 G160 (own_fitC rr11) W160 1 rfl (Nat.le_of_ble_eq_true rfl)
      have V160 : Arv Z h160 a157 k157 .char (9 : Int32) [(.int r9), (.int r11), (.int (0 : Int32)), (.int (0 : Int32)), (.int (0 : Int32)), (.int (0 : Int32)), (.int (0 : Int32)), (.int (0 : Int32)), (.int (0 : Int32))] (.int (0 : Int32)) := V160
      refine own_step st160 ?_
      have N160 := Fr.snoc X160 N159 ge_a157
      have Z160 : n0 ≤ h160.size := by rw [W160.size]; exact Z159
      have SZ160 : h0.size ≤ h160.size := by rw [W160.size]; exact SZ159
      have hk := (W160.size.symm ▸ hk : _ ≤ h160.size)
      have hr160 := CHr.wr W160 (own_SL.go sf_a157 hr159).2 hC159.1
      have hC160 := hC159.trans hr160
      show own_Ends p e below F (T160.setTop (mkF m 158 A158 []))
      refine own_step (fun _ k => XS.iload X160.here hx rfl (hb hby at_158) (by rw [hA158]; rfl) k) ?_
      show own_Ends p e below F (T160.setTop (mkF m 160 A158 [(.int (9 : Int32))]))
      refine own_step (fun _ k => XS.iconst X160.here hx rfl (hb hby at_160) k) ?_
      show own_Ends p e below F (T160.setTop (mkF m 161 A158 [(.int (2 : Int32)), (.int (9 : Int32))]))
      refine own_step (fun _ k => XS.icmpNo X160.here hx rfl (hb hby at_161) rfl (tlt (by decide : (2 : Int32) < (9 : Int32))).2.2.2 k) ?_
      show own_Ends p e below F (T160.setTop (mkF m 164 A158 []))
      refine own_step (fun _ k => XS.aload X160.here hx rfl (hb hby at_164) (by rw [hA158]; rfl) rfl k) ?_
      show own_Ends p e below F (T160.setTop (mkF m 166 A158 [(.ref a157)]))
      refine own_step (fun _ k => XS.iconst X160.here hx rfl (hb hby at_166) k) ?_
      show own_Ends p e below F (T160.setTop (mkF m 167 A158 [(.int (2 : Int32)), (.ref a157)]))
      refine own_step (fun _ k => XS.iload X160.here hx rfl (hb hby at_167) (by rw [hA158]; rfl) k) ?_
      show own_Ends p e below F (T160.setTop (mkF m 169 A158 [(.int r13), (.int (2 : Int32)), (.ref a157)]))
      obtain ⟨cl161, Ar161, q161, S161, M161, H161, G161⟩ := id V160
      have hin161 : ¬ ((2 : Int32) < 0 ∨ cl161.slots.size ≤ ((2 : Int32) : Int32).toNatClampNeg) := inb_of S161 ⟨by decide, by decide⟩
      obtain ⟨T161, h161, X161, e161, W161, st161⟩ := stC X160 hx hZ e160 Ar161 (j := (2 : Int32)) hin161 (g := (mkF m 169 A158 [(.int r13), (.int (2 : Int32)), (.ref a157)])) rfl rfl (hb hby at_169)
      rw [own_narC rr13] at W161
      have V161 := Arv.set Ar161 q161 S161 M161 H161 G161 (own_fitC rr13) W161 2 rfl (Nat.le_of_ble_eq_true rfl)
      have V161 : Arv Z h161 a157 k157 .char (9 : Int32) [(.int r9), (.int r11), (.int r13), (.int (0 : Int32)), (.int (0 : Int32)), (.int (0 : Int32)), (.int (0 : Int32)), (.int (0 : Int32)), (.int (0 : Int32))] (.int (0 : Int32)) := V161
      refine own_step st161 ?_
      have N161 := Fr.snoc X161 N160 ge_a157
      have Z161 : n0 ≤ h161.size := by rw [W161.size]; exact Z160
      have SZ161 : h0.size ≤ h161.size := by rw [W161.size]; exact SZ160
      have hk := (W161.size.symm ▸ hk : _ ≤ h161.size)
      have hr161 := CHr.wr W161 (own_SL.go (own_SL.go sf_a157 hr159) hr160).2 hC160.1
      have hC161 := hC160.trans hr161
      show own_Ends p e below F (T161.setTop (mkF m 170 A158 []))
      refine own_step (fun _ k => XS.iload X161.here hx rfl (hb hby at_170) (by rw [hA158]; rfl) k) ?_
      show own_Ends p e below F (T161.setTop (mkF m 172 A158 [(.int (9 : Int32))]))
      refine own_step (fun _ k => XS.iconst X161.here hx rfl (hb hby at_172) k) ?_
      show own_Ends p e below F (T161.setTop (mkF m 173 A158 [(.int (3 : Int32)), (.int (9 : Int32))]))
      refine own_step (fun _ k => XS.icmpNo X161.here hx rfl (hb hby at_173) rfl (tlt (by decide : (3 : Int32) < (9 : Int32))).2.2.2 k) ?_
      show own_Ends p e below F (T161.setTop (mkF m 176 A158 []))
      refine own_step (fun _ k => XS.aload X161.here hx rfl (hb hby at_176) (by rw [hA158]; rfl) rfl k) ?_
      show own_Ends p e below F (T161.setTop (mkF m 178 A158 [(.ref a157)]))
      refine own_step (fun _ k => XS.iconst X161.here hx rfl (hb hby at_178) k) ?_
      show own_Ends p e below F (T161.setTop (mkF m 179 A158 [(.int (3 : Int32)), (.ref a157)]))
      refine own_step (fun _ k => XS.iload X161.here hx rfl (hb hby at_179) (by rw [hA158]; rfl) k) ?_
      show own_Ends p e below F (T161.setTop (mkF m 181 A158 [(.int r15), (.int (3 : Int32)), (.ref a157)]))
      obtain ⟨cl162, Ar162, q162, S162, M162, H162, G162⟩ := id V161
      have hin162 : ¬ ((3 : Int32) < 0 ∨ cl162.slots.size ≤ ((3 : Int32) : Int32).toNatClampNeg) := inb_of S162 ⟨by decide, by decide⟩
      obtain ⟨T162, h162, X162, e162, W162, st162⟩ := stC X161 hx hZ e161 Ar162 (j := (3 : Int32)) hin162 (g := (mkF m 181 A158 [(.int r15), (.int (3 : Int32)), (.ref a157)])) rfl rfl (hb hby at_181)
      rw [own_narC rr15] at W162
      have V162 := Arv.set Ar162 q162 S162 M162 H162 G162 (own_fitC rr15) W162 3 rfl (Nat.le_of_ble_eq_true rfl)
      have V162 : Arv Z h162 a157 k157 .char (9 : Int32) [(.int r9), (.int r11), (.int r13), (.int r15), (.int (0 : Int32)), (.int (0 : Int32)), (.int (0 : Int32)), (.int (0 : Int32)), (.int (0 : Int32))] (.int (0 : Int32)) := V162
      refine own_step st162 ?_
      have N162 := Fr.snoc X162 N161 ge_a157
      have Z162 : n0 ≤ h162.size := by rw [W162.size]; exact Z161
      have SZ162 : h0.size ≤ h162.size := by rw [W162.size]; exact SZ161
      have hk := (W162.size.symm ▸ hk : _ ≤ h162.size)
      have hr162 := CHr.wr W162 (own_SL.go (own_SL.go (own_SL.go sf_a157 hr159) hr160) hr161).2 hC161.1
      have hC162 := hC161.trans hr162
      show own_Ends p e below F (T162.setTop (mkF m 182 A158 []))
      refine own_step (fun _ k => XS.iload X162.here hx rfl (hb hby at_182) (by rw [hA158]; rfl) k) ?_
      show own_Ends p e below F (T162.setTop (mkF m 184 A158 [(.int (9 : Int32))]))
      refine own_step (fun _ k => XS.iconst X162.here hx rfl (hb hby at_184) k) ?_
      show own_Ends p e below F (T162.setTop (mkF m 185 A158 [(.int (4 : Int32)), (.int (9 : Int32))]))
      refine own_step (fun _ k => XS.icmpNo X162.here hx rfl (hb hby at_185) rfl (tlt (by decide : (4 : Int32) < (9 : Int32))).2.2.2 k) ?_
      show own_Ends p e below F (T162.setTop (mkF m 188 A158 []))
      refine own_step (fun _ k => XS.aload X162.here hx rfl (hb hby at_188) (by rw [hA158]; rfl) rfl k) ?_
      show own_Ends p e below F (T162.setTop (mkF m 190 A158 [(.ref a157)]))
      refine own_step (fun _ k => XS.iconst X162.here hx rfl (hb hby at_190) k) ?_
      show own_Ends p e below F (T162.setTop (mkF m 191 A158 [(.int (4 : Int32)), (.ref a157)]))
      refine own_step (fun _ k => XS.iload X162.here hx rfl (hb hby at_191) (by rw [hA158]; rfl) k) ?_
      show own_Ends p e below F (T162.setTop (mkF m 193 A158 [(.int r17), (.int (4 : Int32)), (.ref a157)]))
      obtain ⟨cl163, Ar163, q163, S163, M163, H163, G163⟩ := id V162
      have hin163 : ¬ ((4 : Int32) < 0 ∨ cl163.slots.size ≤ ((4 : Int32) : Int32).toNatClampNeg) := inb_of S163 ⟨by decide, by decide⟩
      obtain ⟨T163, h163, X163, e163, W163, st163⟩ := stC X162 hx hZ e162 Ar163 (j := (4 : Int32)) hin163 (g := (mkF m 193 A158 [(.int r17), (.int (4 : Int32)), (.ref a157)])) rfl rfl (hb hby at_193)
      rw [own_narC rr17] at W163
      have V163 := Arv.set Ar163 q163 S163 M163 H163 G163 (own_fitC rr17) W163 4 rfl (Nat.le_of_ble_eq_true rfl)
      have V163 : Arv Z h163 a157 k157 .char (9 : Int32) [(.int r9), (.int r11), (.int r13), (.int r15), (.int r17), (.int (0 : Int32)), (.int (0 : Int32)), (.int (0 : Int32)), (.int (0 : Int32))] (.int (0 : Int32)) := V163
      refine own_step st163 ?_
      have N163 := Fr.snoc X163 N162 ge_a157
      have Z163 : n0 ≤ h163.size := by rw [W163.size]; exact Z162
      have SZ163 : h0.size ≤ h163.size := by rw [W163.size]; exact SZ162
      have hk := (W163.size.symm ▸ hk : _ ≤ h163.size)
      have hr163 := CHr.wr W163 (own_SL.go (own_SL.go (own_SL.go (own_SL.go sf_a157 hr159) hr160) hr161) hr162).2 hC162.1
      have hC163 := hC162.trans hr163
      show own_Ends p e below F (T163.setTop (mkF m 194 A158 []))
      refine own_step (fun _ k => XS.iload X163.here hx rfl (hb hby at_194) (by rw [hA158]; rfl) k) ?_
      show own_Ends p e below F (T163.setTop (mkF m 196 A158 [(.int (9 : Int32))]))
      refine own_step (fun _ k => XS.iconst X163.here hx rfl (hb hby at_196) k) ?_
      show own_Ends p e below F (T163.setTop (mkF m 197 A158 [(.int (5 : Int32)), (.int (9 : Int32))]))
      refine own_step (fun _ k => XS.icmpNo X163.here hx rfl (hb hby at_197) rfl (tlt (by decide : (5 : Int32) < (9 : Int32))).2.2.2 k) ?_
      show own_Ends p e below F (T163.setTop (mkF m 200 A158 []))
      refine own_step (fun _ k => XS.aload X163.here hx rfl (hb hby at_200) (by rw [hA158]; rfl) rfl k) ?_
      show own_Ends p e below F (T163.setTop (mkF m 202 A158 [(.ref a157)]))
      refine own_step (fun _ k => XS.iconst X163.here hx rfl (hb hby at_202) k) ?_
      show own_Ends p e below F (T163.setTop (mkF m 203 A158 [(.int (5 : Int32)), (.ref a157)]))
      refine own_step (fun _ k => XS.iload X163.here hx rfl (hb hby at_203) (by rw [hA158]; rfl) k) ?_
      show own_Ends p e below F (T163.setTop (mkF m 205 A158 [(.int r19), (.int (5 : Int32)), (.ref a157)]))
      obtain ⟨cl164, Ar164, q164, S164, M164, H164, G164⟩ := id V163
      have hin164 : ¬ ((5 : Int32) < 0 ∨ cl164.slots.size ≤ ((5 : Int32) : Int32).toNatClampNeg) := inb_of S164 ⟨by decide, by decide⟩
      obtain ⟨T164, h164, X164, e164, W164, st164⟩ := stC X163 hx hZ e163 Ar164 (j := (5 : Int32)) hin164 (g := (mkF m 205 A158 [(.int r19), (.int (5 : Int32)), (.ref a157)])) rfl rfl (hb hby at_205)
      rw [own_narC rr19] at W164
      have V164 := Arv.set Ar164 q164 S164 M164 H164 G164 (own_fitC rr19) W164 5 rfl (Nat.le_of_ble_eq_true rfl)
      have V164 : Arv Z h164 a157 k157 .char (9 : Int32) [(.int r9), (.int r11), (.int r13), (.int r15), (.int r17), (.int r19), (.int (0 : Int32)), (.int (0 : Int32)), (.int (0 : Int32))] (.int (0 : Int32)) := V164
      refine own_step st164 ?_
      have N164 := Fr.snoc X164 N163 ge_a157
      have Z164 : n0 ≤ h164.size := by rw [W164.size]; exact Z163
      have SZ164 : h0.size ≤ h164.size := by rw [W164.size]; exact SZ163
      have hk := (W164.size.symm ▸ hk : _ ≤ h164.size)
      have hr164 := CHr.wr W164 (own_SL.go (own_SL.go (own_SL.go (own_SL.go (own_SL.go sf_a157 hr159) hr160) hr161) hr162) hr163).2 hC163.1
      have hC164 := hC163.trans hr164
      show own_Ends p e below F (T164.setTop (mkF m 206 A158 []))
      refine own_step (fun _ k => XS.iload X164.here hx rfl (hb hby at_206) (by rw [hA158]; rfl) k) ?_
      show own_Ends p e below F (T164.setTop (mkF m 208 A158 [(.int (9 : Int32))]))
      refine own_step (fun _ k => XS.bipush X164.here hx rfl (hb hby at_208) k) ?_
      show own_Ends p e below F (T164.setTop (mkF m 210 A158 [(.int (6 : Int32)), (.int (9 : Int32))]))
      refine own_step (fun _ k => XS.icmpNo X164.here hx rfl (hb hby at_210) rfl (tlt (by decide : (6 : Int32) < (9 : Int32))).2.2.2 k) ?_
      show own_Ends p e below F (T164.setTop (mkF m 213 A158 []))
      refine own_step (fun _ k => XS.aload X164.here hx rfl (hb hby at_213) (by rw [hA158]; rfl) rfl k) ?_
      show own_Ends p e below F (T164.setTop (mkF m 215 A158 [(.ref a157)]))
      refine own_step (fun _ k => XS.bipush X164.here hx rfl (hb hby at_215) k) ?_
      show own_Ends p e below F (T164.setTop (mkF m 217 A158 [(.int (6 : Int32)), (.ref a157)]))
      refine own_step (fun _ k => XS.iload X164.here hx rfl (hb hby at_217) (by rw [hA158]; rfl) k) ?_
      show own_Ends p e below F (T164.setTop (mkF m 219 A158 [(.int r21), (.int (6 : Int32)), (.ref a157)]))
      obtain ⟨cl165, Ar165, q165, S165, M165, H165, G165⟩ := id V164
      have hin165 : ¬ ((6 : Int32) < 0 ∨ cl165.slots.size ≤ ((6 : Int32) : Int32).toNatClampNeg) := inb_of S165 ⟨by decide, by decide⟩
      obtain ⟨T165, h165, X165, e165, W165, st165⟩ := stC X164 hx hZ e164 Ar165 (j := (6 : Int32)) hin165 (g := (mkF m 219 A158 [(.int r21), (.int (6 : Int32)), (.ref a157)])) rfl rfl (hb hby at_219)
      rw [own_narC rr21] at W165
      have V165 := Arv.set Ar165 q165 S165 M165 H165 G165 (own_fitC rr21) W165 6 rfl (Nat.le_of_ble_eq_true rfl)
      have V165 : Arv Z h165 a157 k157 .char (9 : Int32) [(.int r9), (.int r11), (.int r13), (.int r15), (.int r17), (.int r19), (.int r21), (.int (0 : Int32)), (.int (0 : Int32))] (.int (0 : Int32)) := V165
      refine own_step st165 ?_
      have N165 := Fr.snoc X165 N164 ge_a157
      have Z165 : n0 ≤ h165.size := by rw [W165.size]; exact Z164
      have SZ165 : h0.size ≤ h165.size := by rw [W165.size]; exact SZ164
      have hk := (W165.size.symm ▸ hk : _ ≤ h165.size)
      have hr165 := CHr.wr W165 (own_SL.go (own_SL.go (own_SL.go (own_SL.go (own_SL.go (own_SL.go sf_a157 hr159) hr160) hr161) hr162) hr163) hr164).2 hC164.1
      have hC165 := hC164.trans hr165
      show own_Ends p e below F (T165.setTop (mkF m 220 A158 []))
      refine own_step (fun _ k => XS.iload X165.here hx rfl (hb hby at_220) (by rw [hA158]; rfl) k) ?_
      show own_Ends p e below F (T165.setTop (mkF m 222 A158 [(.int (9 : Int32))]))
      refine own_step (fun _ k => XS.bipush X165.here hx rfl (hb hby at_222) k) ?_
      show own_Ends p e below F (T165.setTop (mkF m 224 A158 [(.int (7 : Int32)), (.int (9 : Int32))]))
      refine own_step (fun _ k => XS.icmpNo X165.here hx rfl (hb hby at_224) rfl (tlt (by decide : (7 : Int32) < (9 : Int32))).2.2.2 k) ?_
      show own_Ends p e below F (T165.setTop (mkF m 227 A158 []))
      refine own_step (fun _ k => XS.aload X165.here hx rfl (hb hby at_227) (by rw [hA158]; rfl) rfl k) ?_
      show own_Ends p e below F (T165.setTop (mkF m 229 A158 [(.ref a157)]))
      refine own_step (fun _ k => XS.bipush X165.here hx rfl (hb hby at_229) k) ?_
      show own_Ends p e below F (T165.setTop (mkF m 231 A158 [(.int (7 : Int32)), (.ref a157)]))
      refine own_step (fun _ k => XS.iload X165.here hx rfl (hb hby at_231) (by rw [hA158]; rfl) k) ?_
      show own_Ends p e below F (T165.setTop (mkF m 233 A158 [(.int r23), (.int (7 : Int32)), (.ref a157)]))
      obtain ⟨cl166, Ar166, q166, S166, M166, H166, G166⟩ := id V165
      have hin166 : ¬ ((7 : Int32) < 0 ∨ cl166.slots.size ≤ ((7 : Int32) : Int32).toNatClampNeg) := inb_of S166 ⟨by decide, by decide⟩
      obtain ⟨T166, h166, X166, e166, W166, st166⟩ := stC X165 hx hZ e165 Ar166 (j := (7 : Int32)) hin166 (g := (mkF m 233 A158 [(.int r23), (.int (7 : Int32)), (.ref a157)])) rfl rfl (hb hby at_233)
      rw [own_narC rr23] at W166
      have V166 := Arv.set Ar166 q166 S166 M166 H166 G166 (own_fitC rr23) W166 7 rfl (Nat.le_of_ble_eq_true rfl)
      have V166 : Arv Z h166 a157 k157 .char (9 : Int32) [(.int r9), (.int r11), (.int r13), (.int r15), (.int r17), (.int r19), (.int r21), (.int r23), (.int (0 : Int32))] (.int (0 : Int32)) := V166
      refine own_step st166 ?_
      have N166 := Fr.snoc X166 N165 ge_a157
      have Z166 : n0 ≤ h166.size := by rw [W166.size]; exact Z165
      have SZ166 : h0.size ≤ h166.size := by rw [W166.size]; exact SZ165
      have hk := (W166.size.symm ▸ hk : _ ≤ h166.size)
      have hr166 := CHr.wr W166 (own_SL.go (own_SL.go (own_SL.go (own_SL.go (own_SL.go (own_SL.go (own_SL.go sf_a157 hr159) hr160) hr161) hr162) hr163) hr164) hr165).2 hC165.1
      have hC166 := hC165.trans hr166
      show own_Ends p e below F (T166.setTop (mkF m 234 A158 []))
      refine own_step (fun _ k => XS.iload X166.here hx rfl (hb hby at_234) (by rw [hA158]; rfl) k) ?_
      show own_Ends p e below F (T166.setTop (mkF m 236 A158 [(.int (9 : Int32))]))
      refine own_step (fun _ k => XS.bipush X166.here hx rfl (hb hby at_236) k) ?_
      show own_Ends p e below F (T166.setTop (mkF m 238 A158 [(.int (8 : Int32)), (.int (9 : Int32))]))
      refine own_step (fun _ k => XS.icmpNo X166.here hx rfl (hb hby at_238) rfl (tlt (by decide : (8 : Int32) < (9 : Int32))).2.2.2 k) ?_
      show own_Ends p e below F (T166.setTop (mkF m 241 A158 []))
      refine own_step (fun _ k => XS.aload X166.here hx rfl (hb hby at_241) (by rw [hA158]; rfl) rfl k) ?_
      show own_Ends p e below F (T166.setTop (mkF m 243 A158 [(.ref a157)]))
      refine own_step (fun _ k => XS.bipush X166.here hx rfl (hb hby at_243) k) ?_
      show own_Ends p e below F (T166.setTop (mkF m 245 A158 [(.int (8 : Int32)), (.ref a157)]))
      refine own_step (fun _ k => XS.iload X166.here hx rfl (hb hby at_245) (by rw [hA158]; rfl) k) ?_
      show own_Ends p e below F (T166.setTop (mkF m 247 A158 [(.int r25), (.int (8 : Int32)), (.ref a157)]))
      obtain ⟨cl167, Ar167, q167, S167, M167, H167, G167⟩ := id V166
      have hin167 : ¬ ((8 : Int32) < 0 ∨ cl167.slots.size ≤ ((8 : Int32) : Int32).toNatClampNeg) := inb_of S167 ⟨by decide, by decide⟩
      obtain ⟨T167, h167, X167, e167, W167, st167⟩ := stC X166 hx hZ e166 Ar167 (j := (8 : Int32)) hin167 (g := (mkF m 247 A158 [(.int r25), (.int (8 : Int32)), (.ref a157)])) rfl rfl (hb hby at_247)
      rw [own_narC rr25] at W167
      have V167 := Arv.set Ar167 q167 S167 M167 H167 G167 (own_fitC rr25) W167 8 rfl (Nat.le_of_ble_eq_true rfl)
      have V167 : Arv Z h167 a157 k157 .char (9 : Int32) [(.int r9), (.int r11), (.int r13), (.int r15), (.int r17), (.int r19), (.int r21), (.int r23), (.int r25)] (.int (0 : Int32)) := V167
      refine own_step st167 ?_
      have N167 := Fr.snoc X167 N166 ge_a157
      have Z167 : n0 ≤ h167.size := by rw [W167.size]; exact Z166
      have SZ167 : h0.size ≤ h167.size := by rw [W167.size]; exact SZ166
      have hk := (W167.size.symm ▸ hk : _ ≤ h167.size)
      have hr167 := CHr.wr W167 (own_SL.go (own_SL.go (own_SL.go (own_SL.go (own_SL.go (own_SL.go (own_SL.go (own_SL.go sf_a157 hr159) hr160) hr161) hr162) hr163) hr164) hr165) hr166).2 hC166.1
      have hC167 := hC166.trans hr167
      show own_Ends p e below F (T167.setTop (mkF m 248 A158 []))
      refine own_step (fun _ k => XS.iload X167.here hx rfl (hb hby at_248) (by rw [hA158]; rfl) k) ?_
      show own_Ends p e below F (T167.setTop (mkF m 250 A158 [(.int (9 : Int32))]))
      refine own_step (fun _ k => XS.bipush X167.here hx rfl (hb hby at_250) k) ?_
      show own_Ends p e below F (T167.setTop (mkF m 252 A158 [(.int (9 : Int32)), (.int (9 : Int32))]))
      refine own_step (fun _ k => XS.icmpYes X167.here hx rfl (pc0 := 252) (pc' := 262) rfl (hb hby at_252) rfl (flt (by decide : ¬ ((9 : Int32) < (9 : Int32)))).2.2.2 (by decide) (by decide) k) ?_
      show own_Ends p e below F (T167.setTop (mkF m 262 A158 []))
      obtain ⟨T168, h168, X168, e168, E168, A168, D168, -, st168⟩ := newO X167 hx hZ hown (own_g hw 7 rfl) (own_g hw 8 rfl) (own_g hw 9 rfl) e167 (g := (mkF m 262 A158 [])) rfl (hb hby at_262) (by decide) (by decide)
      obtain ⟨a168, g168⟩ : ∃ z, z = h167.size := ⟨_, rfl⟩
      rw [← g168] at A168 D168 st168
      have ge_a168 : n0 ≤ a168 := Nat.le_trans Z167 (Nat.le_of_eq g168.symm)
      have sz_a168 : h0.size ≤ a168 := Nat.le_trans SZ167 (Nat.le_of_eq g168.symm)
      have ne_a157_a168 : a157 ≠ a168 := Nat.ne_of_lt (by rw [g168]; exact V167.lt)
      have Z168 : n0 ≤ h168.size := Nat.le_trans Z167 E168.1
      have SZ168 : h0.size ≤ h168.size := Nat.le_trans SZ167 E168.1
      have hk := Nat.le_trans hk E168.1
      have hr168 := CHr.ext E168 hC167.1
      have hC168 := hC167.trans hr168
      have F168_coder : Fld Z h168 a168 "java/lang/String" "coder" "B" (.int (0 : Int32)) := D168 (Or.inr (own_g hw 33 rfl)) (ty := .byte) (by decide)
      have F168_value : Fld Z h168 a168 "java/lang/String" "value" "[B" .null := D168 (Or.inr (own_g hw 35 rfl)) (ty := (.array .byte)) (by decide)
      have sf_a168 : own_SL Z own_EL s.vm h168 a168 := own_SL.born hC167.1 E168 g168 A168.lt
      refine own_step st168 ?_
      show own_Ends p e below F (T168.setTop (mkF m 265 A158 [(.ref a168)]))
      refine own_step (fun _ k => XS.dup X168.here hx rfl (hb hby at_265) rfl rfl k) ?_
      show own_Ends p e below F (T168.setTop (mkF m 266 A158 [(.ref a168), (.ref a168)]))
      refine own_step (fun _ k => XS.aload X168.here hx rfl (hb hby at_266) (by rw [hA158]; rfl) rfl k) ?_
      show own_Ends p e below F (T168.setTop (mkF m 268 A158 [(.ref a157), (.ref a168), (.ref a168)]))
      obtain ⟨_, _, ⟨T169, L169, k169, n169⟩, -, X169, ⟨Lc169, hQ169, l169, y169, z169⟩, st169⟩ := X168.specialBack hx (y := (⟨"java/lang/String", "<init>", "([C)V"⟩ : MethodName)) rfl hown (mvT hZ (own_g hw 10 rfl)) (mvT hZ (own_g hw 11 rfl)) (mvT hZ (own_g hw 12 rfl)) (by decide) (StrChars.Road.backV (W := 1) hZ (fun d hd => hw d ((by decide +kernel : ∀ d ∈ StrChars.Road.words, d ∈ tables_1) d hd)) (kI := 4) (own_g hw 8 rfl) (cs := ([r9, r11, r13, r15, r17, r19, r21, r23, r25] : List Int32)) (bs := ([r9, r11, r13, r15, r17, r19, r21, r23, r25] : List Int32).map (fun c => c.toInt8.toInt32)) (n := 9) ge_a168 Z168 A168 F168_value F168_coder (V167.ext E168) (Sta.ext E168 (Sta.wr W167 (Sta.wr W166 (Sta.wr W165 (Sta.wr W164 (Sta.wr W163 (Sta.wr W162 (Sta.wr W161 (Sta.wr W160 (Sta.wr W159 (Sta.ext E157 S0_27))))))))))) hz rfl rfl (by decide) (by decide) (own_cS rr9 (own_cS rr11 (own_cS rr13 (own_cS rr15 (own_cS rr17 (own_cS rr19 (own_cS rr21 (own_cS rr23 (own_cS rr25 own_c0))))))))) rfl (by decide) (by decide)) (g := (mkF m 268 A158 [(.ref a157), (.ref a168), (.ref a168)])) rfl (by rw [hml]; show A158.size = _; rw [hA158]; rfl) (Steps.refl _) (a := a168) (argsL := [(.ref a157)]) (rest := [(.ref a168)]) (lenOf pd__28_5bC_29V rfl) rfl (by show 2 * 0 + _ ≤ _; exact Nat.le_of_eq rfl) (hb hby at_268) (fun _ _ => ⟨rfl, e168, (by decide : 12 + 1 ≤ _), (by decide : 93 + 9 ≤ _)⟩)
      dsimp only [Pt.U, Pt.locs, Pt.cells, Pt.slots] at X169 l169 y169 z169 st169 hQ169
      subst l169 y169 z169
      obtain ⟨rfl, Nq169, Kq169, fe169, fc169, tt169, kt169, -, -, -, fv169, fa169⟩ := hQ169
      have N169 := Fr.app N167 Nq169
      have Z169 : n0 ≤ T169.heap.size := Nat.le_trans Z168 Kq169.1
      have SZ169 : h0.size ≤ T169.heap.size := Nat.le_trans SZ168 Kq169.1
      have S0_169 := own_Sta_keep (Sta.ext E168 (Sta.wr W167 (Sta.wr W166 (Sta.wr W165 (Sta.wr W164 (Sta.wr W163 (Sta.wr W162 (Sta.wr W161 (Sta.wr W160 (Sta.wr W159 (Sta.ext E157 S0_27))))))))))) Kq169 (allS (own_ns_exa A168) all0)
      have str169 : own_Str Z T169.heap T169.heap.size a168 ([r9, r11, r13, r15, r17, r19, r21, r23, r25] : List Int32) := own_Str.mk fe169 fc169 fv169 fa169 rfl rfl (own_cS rr9 (own_cS rr11 (own_cS rr13 (own_cS rr15 (own_cS rr17 (own_cS rr19 (own_cS rr21 (own_cS rr23 (own_cS rr25 own_c0)))))))))
      have hr169 := CHr.keep Kq169 (sfS sf_a168.2 sf0) hC168.1
      have hC169 := hC168.trans hr169
      have hk := Nat.le_trans hk Kq169.1
      refine own_trans st169 ?_
      show own_Ends p e below F (T169.setTop (mkF m 271 A158 [(.ref a168)]))
      obtain ⟨A170, hA170⟩ : ∃ z : Array Slot, z = #[.val (.long p1), .second, .val (.int p2), .val (.int p3), .val (.int p4), .val (.int z2), .val (.int (9 : Int32)), .val (.int r9), .val (.int r11), .val (.int r13), .val (.int r15), .val (.int r17), .val (.int r19), .val (.int r21), .val (.int r23), .val (.int r25), .val (.int r27), .val (.ref a157), .val (.ref a168), .unset, .unset, .unset] := ⟨_, rfl⟩
      refine own_step (fun _ k => XS.astore X169.here hx rfl (hb hby at_271) rfl rfl (l' := A170) (by rw [hA158, hA170]; exact rfl) k) ?_
      show own_Ends p e below F (T169.setTop (mkF m 273 A170 []))
      refine own_step (fun _ k => XS.iload X169.here hx rfl (hb hby at_273) (by rw [hA170]; rfl) k) ?_
      show own_Ends p e below F (T169.setTop (mkF m 275 A170 [(.int (9 : Int32))]))
      refine own_step (fun _ k => XS.iconst X169.here hx rfl (hb hby at_275) k) ?_
      show own_Ends p e below F (T169.setTop (mkF m 276 A170 [(.int (2 : Int32)), (.int (9 : Int32))]))
      refine own_step (fun _ k => XS.icmpYes X169.here hx rfl (pc0 := 276) (pc' := 297) rfl (hb hby at_276) rfl (feq (by decide : ¬ ((9 : Int32) = (2 : Int32)))).2 (by decide) (by decide) k) ?_
      show own_Ends p e below F (T169.setTop (mkF m 297 A170 []))
      refine own_step (fun _ k => XS.iconst X169.here hx rfl (hb hby at_297) k) ?_
      show own_Ends p e below F (T169.setTop (mkF m 298 A170 [(.int (0 : Int32))]))
      obtain ⟨A171, hA171⟩ : ∃ z : Array Slot, z = #[.val (.long p1), .second, .val (.int p2), .val (.int p3), .val (.int p4), .val (.int z2), .val (.int (9 : Int32)), .val (.int r9), .val (.int r11), .val (.int r13), .val (.int r15), .val (.int r17), .val (.int r19), .val (.int r21), .val (.int r23), .val (.int r25), .val (.int r27), .val (.ref a157), .val (.ref a168), .val (.int (0 : Int32)), .unset, .unset] := ⟨_, rfl⟩
      refine own_step (fun _ k => XS.istore X169.here hx rfl (hb hby at_298) rfl (l' := A171) (by rw [hA170, hA171]; exact rfl) k) ?_
      show own_Ends p e below F (T169.setTop (mkF m 300 A171 []))
      refine own_step (fun _ k => XS.iload X169.here hx rfl (hb hby at_300) (by rw [hA171]; rfl) k) ?_
      show own_Ends p e below F (T169.setTop (mkF m 302 A171 [(.int (9 : Int32))]))
      refine own_step (fun _ k => XS.bipush X169.here hx rfl (hb hby at_302) k) ?_
      show own_Ends p e below F (T169.setTop (mkF m 304 A171 [(.int (9 : Int32)), (.int (9 : Int32))]))
      refine own_step (fun _ k => XS.icmpNo X169.here hx rfl (hb hby at_304) rfl (teq (by decide : (9 : Int32) = (9 : Int32))).2 k) ?_
      show own_Ends p e below F (T169.setTop (mkF m 307 A171 []))
      refine own_step (fun _ k => XS.iload X169.here hx rfl (hb hby at_307) (by rw [hA171]; rfl) k) ?_
      show own_Ends p e below F (T169.setTop (mkF m 309 A171 [(.int r9)]))
      refine own_step (fun _ k => XS.bipush X169.here hx rfl (hb hby at_309) k) ?_
      show own_Ends p e below F (T169.setTop (mkF m 311 A171 [(.int (45 : Int32)), (.int r9)]))
      have J311_173 : ∀ (z172 : Int32) (hz172 : z172 = (if r9 = (45 : Int32) then (if r11 = (45 : Int32) then (if r13 = (118 : Int32) then (if r15 = (101 : Int32) then (if r17 = (114 : Int32) then (if r19 = (98 : Int32) then (if r21 = (111 : Int32) then (if r23 = (115 : Int32) then (if r25 = (101 : Int32) then (1 : Int32) else (0 : Int32)) else (0 : Int32)) else (0 : Int32)) else (0 : Int32)) else (0 : Int32)) else (0 : Int32)) else (0 : Int32)) else (0 : Int32)) else (0 : Int32))), own_Ends p e below F (T169.setTop (mkF m 375 #[.val (.long p1), .second, .val (.int p2), .val (.int p3), .val (.int p4), .val (.int z2), .val (.int (9 : Int32)), .val (.int r9), .val (.int r11), .val (.int r13), .val (.int r15), .val (.int r17), .val (.int r19), .val (.int r21), .val (.int r23), .val (.int r25), .val (.int r27), .val (.ref a157), .val (.ref a168), .val (.int (0 : Int32)), .unset, .unset] [(.int z172)])) := by
        intro z172 hz172
        obtain ⟨A175, hA175⟩ : ∃ z : Array Slot, z = #[.val (.long p1), .second, .val (.int p2), .val (.int p3), .val (.int p4), .val (.int z2), .val (.int (9 : Int32)), .val (.int r9), .val (.int r11), .val (.int r13), .val (.int r15), .val (.int r17), .val (.int r19), .val (.int r21), .val (.int r23), .val (.int r25), .val (.int r27), .val (.ref a157), .val (.ref a168), .val (.int (0 : Int32)), .unset, .unset] := ⟨_, rfl⟩
        rw [← hA175]
        show own_Ends p e below F (T169.setTop (mkF m 375 A175 [(.int z172)]))
        obtain ⟨A176, hA176⟩ : ∃ z : Array Slot, z = #[.val (.long p1), .second, .val (.int p2), .val (.int p3), .val (.int p4), .val (.int z2), .val (.int (9 : Int32)), .val (.int r9), .val (.int r11), .val (.int r13), .val (.int r15), .val (.int r17), .val (.int r19), .val (.int r21), .val (.int r23), .val (.int r25), .val (.int r27), .val (.ref a157), .val (.ref a168), .val (.int (0 : Int32)), .val (.int z172), .unset] := ⟨_, rfl⟩
        refine own_step (fun _ k => XS.istore X169.here hx rfl (hb hby at_375) rfl (l' := A176) (by rw [hA175, hA176]; exact rfl) k) ?_
        show own_Ends p e below F (T169.setTop (mkF m 377 A176 []))
        refine own_step (fun _ k => XS.iload X169.here hx rfl (hb hby at_377) (by rw [hA176]; rfl) k) ?_
        show own_Ends p e below F (T169.setTop (mkF m 379 A176 [(.int (0 : Int32))]))
        refine own_step (fun _ k => XS.ifNo X169.here hx rfl (hb hby at_379) rfl ((if0 _ _).trans (teq (by decide : (0 : Int32) = (0 : Int32))).2) k) ?_
        show own_Ends p e below F (T169.setTop (mkF m 382 A176 []))
        refine own_step (fun _ k => XS.iload X169.here hx rfl (hb hby at_382) (by rw [hA176]; rfl) k) ?_
        show own_Ends p e below F (T169.setTop (mkF m 384 A176 [(.int z172)]))
        have J384_178 : ∀ (z177 : Int32) (hz177 : z177 = (if z172 = (0 : Int32) then (0 : Int32) else (1 : Int32))), own_Ends p e below F (T169.setTop (mkF m 392 #[.val (.long p1), .second, .val (.int p2), .val (.int p3), .val (.int p4), .val (.int z2), .val (.int (9 : Int32)), .val (.int r9), .val (.int r11), .val (.int r13), .val (.int r15), .val (.int r17), .val (.int r19), .val (.int r21), .val (.int r23), .val (.int r25), .val (.int r27), .val (.ref a157), .val (.ref a168), .val (.int (0 : Int32)), .val (.int z172), .unset] [(.int z177)])) := by
          intro z177 hz177
          obtain ⟨A180, hA180⟩ : ∃ z : Array Slot, z = #[.val (.long p1), .second, .val (.int p2), .val (.int p3), .val (.int p4), .val (.int z2), .val (.int (9 : Int32)), .val (.int r9), .val (.int r11), .val (.int r13), .val (.int r15), .val (.int r17), .val (.int r19), .val (.int r21), .val (.int r23), .val (.int r25), .val (.int r27), .val (.ref a157), .val (.ref a168), .val (.int (0 : Int32)), .val (.int z172), .unset] := ⟨_, rfl⟩
          rw [← hA180]
          show own_Ends p e below F (T169.setTop (mkF m 392 A180 [(.int z177)]))
          obtain ⟨A181, hA181⟩ : ∃ z : Array Slot, z = #[.val (.long p1), .second, .val (.int p2), .val (.int p3), .val (.int p4), .val (.int z2), .val (.int (9 : Int32)), .val (.int r9), .val (.int r11), .val (.int r13), .val (.int r15), .val (.int r17), .val (.int r19), .val (.int r21), .val (.int r23), .val (.int r25), .val (.int r27), .val (.ref a157), .val (.ref a168), .val (.int (0 : Int32)), .val (.int z172), .val (.int z177)] := ⟨_, rfl⟩
          refine own_step (fun _ k => XS.istore X169.here hx rfl (hb hby at_392) rfl (l' := A181) (by rw [hA180, hA181]; exact rfl) k) ?_
          show own_Ends p e below F (T169.setTop (mkF m 394 A181 []))
          refine own_step (fun _ k => XS.aload X169.here hx rfl (hb hby at_394) (by rw [hA181]; rfl) rfl k) ?_
          show own_Ends p e below F (T169.setTop (mkF m 396 A181 [(.ref a168)]))
          obtain ⟨_, _, ⟨T182, L182, k182, n182⟩, -, X182, hS182, gr182, ⟨Lc182, hQ182, l182, y182, z182, hr182⟩, st182⟩ := callSS X169 hx (y := (⟨"com/example/facetwork/facetwork/cli/Logging", "isVerbose", "(Ljava/lang/String;)Z"⟩ : MethodName)) hown (mvT hZ (own_g hw 36 rfl)) (mvT hZ (own_g hw 37 rfl)) (mvT hZ (own_g hw 38 rfl)) (mvT hZ (own_g hw 39 rfl)) (by decide) (backOfSH (W := 0) (rm8 l Z a0 hw [] a168 ([r9, r11, r13, r15, r17, r19, r21, r23, r25] : List Int32) T169.heap.size zc T169.heap n0 Z169 S0_169 hz (own_Str.top str169) (Nat.le_of_ble_eq_true rfl)) hZ (own_g hw 39 rfl) (own_g hw 38 rfl) (by decide) (by decide) (own_EW hw) hC169.1) (g := (mkF m 396 A181 [(.ref a168)])) rfl (by rw [hml]; show A181.size = _; rw [hA181]; rfl) (argsL := [(.ref a168)]) (rest := []) (lenOf pd__28Ljava_2flang_2fString_3b_29Z rfl) rfl (by show 2 * 0 + _ ≤ _; exact Nat.le_of_eq rfl) (hb hby at_396) (fun _ _ => ⟨rfl, rfl, (by decide : 13 + 4 ≤ _), (by decide : 102 + 52 ≤ _)⟩)
          dsimp only [Pt.U, Pt.locs, Pt.cells, Pt.slots] at X182 l182 y182 z182 st182 hQ182 hS182 gr182 hr182
          subst l182 y182 z182
          obtain ⟨rfl, Nq182, Kq182⟩ := hQ182
          have N182 := Fr.app N169 Nq182
          have Z182 : n0 ≤ T182.heap.size := Nat.le_trans Z169 Kq182.1
          have SZ182 : h0.size ≤ T182.heap.size := Nat.le_trans SZ169 Kq182.1
          have S0_182 := own_Sta_keep S0_169 Kq182 all0
          have hC182 := hC169.trans hr182
          have hZ := own_warm hZ hS182
          have hown := own_find hown hS182
          have hS := foldS hS (by exact hk) hS182 gr182
          have hk := Nat.le_refl T182.heap.size
          refine own_trans st182 ?_
          show own_Ends p e below F (T182.setTop (mkF m 399 A181 [(.int (own_ver ([r9, r11, r13, r15, r17, r19, r21, r23, r25] : List Int32)))]))
          refine own_step (fun _ k => XS.iload X182.here hx rfl (hb hby at_399) (by rw [hA181]; rfl) k) ?_
          show own_Ends p e below F (T182.setTop (mkF m 401 A181 [(.int z177), (.int (own_ver ([r9, r11, r13, r15, r17, r19, r21, r23, r25] : List Int32)))]))
          refine own_step (fun _ k => XS.icmpNo X182.here hx rfl (hb hby at_401) rfl (teq (own_v9 hz172 hz177 : (own_ver ([r9, r11, r13, r15, r17, r19, r21, r23, r25] : List Int32)) = z177)).2 k) ?_
          show own_Ends p e below F (T182.setTop (mkF m 404 A181 []))
          refine own_step (fun _ k => XS.iconst X182.here hx rfl (hb hby at_404) k) ?_
          show own_Ends p e below F (T182.setTop (mkF m 405 A181 [(.int (1 : Int32))]))
          refine own_step (fun _ k => XS.goto X182.here hx rfl (pc0 := 405) (pc' := 409) rfl (hb hby at_405) (by decide) (by decide) k) ?_
          show own_Ends p e below F (T182.setTop (mkF m 409 A181 [(.int (1 : Int32))]))
          rw [hF]
          exact own_retH X182 hS (by exact hk) hh rfl hZ (own_EW hw) hC182 (v := (some (.int (nar .boolean (1 : Int32))))) (fun h => by rw [Bd.returns] at h; cases h) Bd.notSynchronized (fun fs hr => retN X182 hx (t := .boolean) Bd.returns (by simp) (hb hby at_409) hr) (by decide) (by decide) (by exact ⟨rfl, N182⟩)
        by_cases c384_183 : z172 = (0 : Int32)
        · refine own_step (fun _ k => XS.ifYes X169.here hx rfl (pc0 := 384) (pc' := 391) rfl (hb hby at_384) rfl ((if0 _ _).trans (teq c384_183).1) (by decide) (by decide) k) ?_
          show own_Ends p e below F (T169.setTop (mkF m 391 A176 []))
          refine own_step (fun _ k => XS.iconst X169.here hx rfl (hb hby at_391) k) ?_
          show own_Ends p e below F (T169.setTop (mkF m 392 A176 [(.int (0 : Int32))]))
          rw [hA176]
          exact J384_178 _ (by simp only [if_true, if_false, c384_183])
        · refine own_step (fun _ k => XS.ifNo X169.here hx rfl (hb hby at_384) rfl ((if0 _ _).trans (feq c384_183).1) k) ?_
          show own_Ends p e below F (T169.setTop (mkF m 387 A176 []))
          refine own_step (fun _ k => XS.iconst X169.here hx rfl (hb hby at_387) k) ?_
          show own_Ends p e below F (T169.setTop (mkF m 388 A176 [(.int (1 : Int32))]))
          refine own_step (fun _ k => XS.goto X169.here hx rfl (pc0 := 388) (pc' := 392) rfl (hb hby at_388) (by decide) (by decide) k) ?_
          show own_Ends p e below F (T169.setTop (mkF m 392 A176 [(.int (1 : Int32))]))
          rw [hA176]
          exact J384_178 _ (by simp only [if_true, if_false, c384_183])
      by_cases c311_184 : r9 = (45 : Int32)
      · refine own_step (fun _ k => XS.icmpNo X169.here hx rfl (hb hby at_311) rfl (teq c311_184).2 k) ?_
        show own_Ends p e below F (T169.setTop (mkF m 314 A171 []))
        refine own_step (fun _ k => XS.iload X169.here hx rfl (hb hby at_314) (by rw [hA171]; rfl) k) ?_
        show own_Ends p e below F (T169.setTop (mkF m 316 A171 [(.int r11)]))
        refine own_step (fun _ k => XS.bipush X169.here hx rfl (hb hby at_316) k) ?_
        show own_Ends p e below F (T169.setTop (mkF m 318 A171 [(.int (45 : Int32)), (.int r11)]))
        by_cases c318_185 : r11 = (45 : Int32)
        · refine own_step (fun _ k => XS.icmpNo X169.here hx rfl (hb hby at_318) rfl (teq c318_185).2 k) ?_
          show own_Ends p e below F (T169.setTop (mkF m 321 A171 []))
          refine own_step (fun _ k => XS.iload X169.here hx rfl (hb hby at_321) (by rw [hA171]; rfl) k) ?_
          show own_Ends p e below F (T169.setTop (mkF m 323 A171 [(.int r13)]))
          refine own_step (fun _ k => XS.bipush X169.here hx rfl (hb hby at_323) k) ?_
          show own_Ends p e below F (T169.setTop (mkF m 325 A171 [(.int (118 : Int32)), (.int r13)]))
          by_cases c325_186 : r13 = (118 : Int32)
          · refine own_step (fun _ k => XS.icmpNo X169.here hx rfl (hb hby at_325) rfl (teq c325_186).2 k) ?_
            show own_Ends p e below F (T169.setTop (mkF m 328 A171 []))
            refine own_step (fun _ k => XS.iload X169.here hx rfl (hb hby at_328) (by rw [hA171]; rfl) k) ?_
            show own_Ends p e below F (T169.setTop (mkF m 330 A171 [(.int r15)]))
            refine own_step (fun _ k => XS.bipush X169.here hx rfl (hb hby at_330) k) ?_
            show own_Ends p e below F (T169.setTop (mkF m 332 A171 [(.int (101 : Int32)), (.int r15)]))
            by_cases c332_187 : r15 = (101 : Int32)
            · refine own_step (fun _ k => XS.icmpNo X169.here hx rfl (hb hby at_332) rfl (teq c332_187).2 k) ?_
              show own_Ends p e below F (T169.setTop (mkF m 335 A171 []))
              refine own_step (fun _ k => XS.iload X169.here hx rfl (hb hby at_335) (by rw [hA171]; rfl) k) ?_
              show own_Ends p e below F (T169.setTop (mkF m 337 A171 [(.int r17)]))
              refine own_step (fun _ k => XS.bipush X169.here hx rfl (hb hby at_337) k) ?_
              show own_Ends p e below F (T169.setTop (mkF m 339 A171 [(.int (114 : Int32)), (.int r17)]))
              by_cases c339_188 : r17 = (114 : Int32)
              · refine own_step (fun _ k => XS.icmpNo X169.here hx rfl (hb hby at_339) rfl (teq c339_188).2 k) ?_
                show own_Ends p e below F (T169.setTop (mkF m 342 A171 []))
                refine own_step (fun _ k => XS.iload X169.here hx rfl (hb hby at_342) (by rw [hA171]; rfl) k) ?_
                show own_Ends p e below F (T169.setTop (mkF m 344 A171 [(.int r19)]))
                refine own_step (fun _ k => XS.bipush X169.here hx rfl (hb hby at_344) k) ?_
                show own_Ends p e below F (T169.setTop (mkF m 346 A171 [(.int (98 : Int32)), (.int r19)]))
                by_cases c346_189 : r19 = (98 : Int32)
                · refine own_step (fun _ k => XS.icmpNo X169.here hx rfl (hb hby at_346) rfl (teq c346_189).2 k) ?_
                  show own_Ends p e below F (T169.setTop (mkF m 349 A171 []))
                  refine own_step (fun _ k => XS.iload X169.here hx rfl (hb hby at_349) (by rw [hA171]; rfl) k) ?_
                  show own_Ends p e below F (T169.setTop (mkF m 351 A171 [(.int r21)]))
                  refine own_step (fun _ k => XS.bipush X169.here hx rfl (hb hby at_351) k) ?_
                  show own_Ends p e below F (T169.setTop (mkF m 353 A171 [(.int (111 : Int32)), (.int r21)]))
                  by_cases c353_190 : r21 = (111 : Int32)
                  · refine own_step (fun _ k => XS.icmpNo X169.here hx rfl (hb hby at_353) rfl (teq c353_190).2 k) ?_
                    show own_Ends p e below F (T169.setTop (mkF m 356 A171 []))
                    refine own_step (fun _ k => XS.iload X169.here hx rfl (hb hby at_356) (by rw [hA171]; rfl) k) ?_
                    show own_Ends p e below F (T169.setTop (mkF m 358 A171 [(.int r23)]))
                    refine own_step (fun _ k => XS.bipush X169.here hx rfl (hb hby at_358) k) ?_
                    show own_Ends p e below F (T169.setTop (mkF m 360 A171 [(.int (115 : Int32)), (.int r23)]))
                    by_cases c360_191 : r23 = (115 : Int32)
                    · refine own_step (fun _ k => XS.icmpNo X169.here hx rfl (hb hby at_360) rfl (teq c360_191).2 k) ?_
                      show own_Ends p e below F (T169.setTop (mkF m 363 A171 []))
                      refine own_step (fun _ k => XS.iload X169.here hx rfl (hb hby at_363) (by rw [hA171]; rfl) k) ?_
                      show own_Ends p e below F (T169.setTop (mkF m 365 A171 [(.int r25)]))
                      refine own_step (fun _ k => XS.bipush X169.here hx rfl (hb hby at_365) k) ?_
                      show own_Ends p e below F (T169.setTop (mkF m 367 A171 [(.int (101 : Int32)), (.int r25)]))
                      by_cases c367_192 : r25 = (101 : Int32)
                      · refine own_step (fun _ k => XS.icmpNo X169.here hx rfl (hb hby at_367) rfl (teq c367_192).2 k) ?_
                        show own_Ends p e below F (T169.setTop (mkF m 370 A171 []))
                        refine own_step (fun _ k => XS.iconst X169.here hx rfl (hb hby at_370) k) ?_
                        show own_Ends p e below F (T169.setTop (mkF m 371 A171 [(.int (1 : Int32))]))
                        refine own_step (fun _ k => XS.goto X169.here hx rfl (pc0 := 371) (pc' := 375) rfl (hb hby at_371) (by decide) (by decide) k) ?_
                        show own_Ends p e below F (T169.setTop (mkF m 375 A171 [(.int (1 : Int32))]))
                        rw [hA171]
                        exact J311_173 _ (by first | (simp only [if_true, if_false, c311_184, c318_185, c325_186, c332_187, c339_188, c346_189, c353_190, c360_191, c367_192]; done) | ((first | rw [if_pos c311_184] | rw [if_neg c311_184] | skip); (first | rw [if_pos c318_185] | rw [if_neg c318_185] | skip); (first | rw [if_pos c325_186] | rw [if_neg c325_186] | skip); (first | rw [if_pos c332_187] | rw [if_neg c332_187] | skip); (first | rw [if_pos c339_188] | rw [if_neg c339_188] | skip); (first | rw [if_pos c346_189] | rw [if_neg c346_189] | skip); (first | rw [if_pos c353_190] | rw [if_neg c353_190] | skip); (first | rw [if_pos c360_191] | rw [if_neg c360_191] | skip); (first | rw [if_pos c367_192] | rw [if_neg c367_192] | skip)))
                      · refine own_step (fun _ k => XS.icmpYes X169.here hx rfl (pc0 := 367) (pc' := 374) rfl (hb hby at_367) rfl (feq c367_192).2 (by decide) (by decide) k) ?_
                        show own_Ends p e below F (T169.setTop (mkF m 374 A171 []))
                        refine own_step (fun _ k => XS.iconst X169.here hx rfl (hb hby at_374) k) ?_
                        show own_Ends p e below F (T169.setTop (mkF m 375 A171 [(.int (0 : Int32))]))
                        rw [hA171]
                        exact J311_173 _ (by first | (simp only [if_true, if_false, c311_184, c318_185, c325_186, c332_187, c339_188, c346_189, c353_190, c360_191, c367_192]; done) | ((first | rw [if_pos c311_184] | rw [if_neg c311_184] | skip); (first | rw [if_pos c318_185] | rw [if_neg c318_185] | skip); (first | rw [if_pos c325_186] | rw [if_neg c325_186] | skip); (first | rw [if_pos c332_187] | rw [if_neg c332_187] | skip); (first | rw [if_pos c339_188] | rw [if_neg c339_188] | skip); (first | rw [if_pos c346_189] | rw [if_neg c346_189] | skip); (first | rw [if_pos c353_190] | rw [if_neg c353_190] | skip); (first | rw [if_pos c360_191] | rw [if_neg c360_191] | skip); (first | rw [if_pos c367_192] | rw [if_neg c367_192] | skip)))
                    · refine own_step (fun _ k => XS.icmpYes X169.here hx rfl (pc0 := 360) (pc' := 374) rfl (hb hby at_360) rfl (feq c360_191).2 (by decide) (by decide) k) ?_
                      show own_Ends p e below F (T169.setTop (mkF m 374 A171 []))
                      refine own_step (fun _ k => XS.iconst X169.here hx rfl (hb hby at_374) k) ?_
                      show own_Ends p e below F (T169.setTop (mkF m 375 A171 [(.int (0 : Int32))]))
                      rw [hA171]
                      exact J311_173 _ (by first | (simp only [if_true, if_false, c311_184, c318_185, c325_186, c332_187, c339_188, c346_189, c353_190, c360_191]; done) | ((first | rw [if_pos c311_184] | rw [if_neg c311_184] | skip); (first | rw [if_pos c318_185] | rw [if_neg c318_185] | skip); (first | rw [if_pos c325_186] | rw [if_neg c325_186] | skip); (first | rw [if_pos c332_187] | rw [if_neg c332_187] | skip); (first | rw [if_pos c339_188] | rw [if_neg c339_188] | skip); (first | rw [if_pos c346_189] | rw [if_neg c346_189] | skip); (first | rw [if_pos c353_190] | rw [if_neg c353_190] | skip); (first | rw [if_pos c360_191] | rw [if_neg c360_191] | skip)))
                  · refine own_step (fun _ k => XS.icmpYes X169.here hx rfl (pc0 := 353) (pc' := 374) rfl (hb hby at_353) rfl (feq c353_190).2 (by decide) (by decide) k) ?_
                    show own_Ends p e below F (T169.setTop (mkF m 374 A171 []))
                    refine own_step (fun _ k => XS.iconst X169.here hx rfl (hb hby at_374) k) ?_
                    show own_Ends p e below F (T169.setTop (mkF m 375 A171 [(.int (0 : Int32))]))
                    rw [hA171]
                    exact J311_173 _ (by first | (simp only [if_true, if_false, c311_184, c318_185, c325_186, c332_187, c339_188, c346_189, c353_190]; done) | ((first | rw [if_pos c311_184] | rw [if_neg c311_184] | skip); (first | rw [if_pos c318_185] | rw [if_neg c318_185] | skip); (first | rw [if_pos c325_186] | rw [if_neg c325_186] | skip); (first | rw [if_pos c332_187] | rw [if_neg c332_187] | skip); (first | rw [if_pos c339_188] | rw [if_neg c339_188] | skip); (first | rw [if_pos c346_189] | rw [if_neg c346_189] | skip); (first | rw [if_pos c353_190] | rw [if_neg c353_190] | skip)))
                · refine own_step (fun _ k => XS.icmpYes X169.here hx rfl (pc0 := 346) (pc' := 374) rfl (hb hby at_346) rfl (feq c346_189).2 (by decide) (by decide) k) ?_
                  show own_Ends p e below F (T169.setTop (mkF m 374 A171 []))
                  refine own_step (fun _ k => XS.iconst X169.here hx rfl (hb hby at_374) k) ?_
                  show own_Ends p e below F (T169.setTop (mkF m 375 A171 [(.int (0 : Int32))]))
                  rw [hA171]
                  exact J311_173 _ (by first | (simp only [if_true, if_false, c311_184, c318_185, c325_186, c332_187, c339_188, c346_189]; done) | ((first | rw [if_pos c311_184] | rw [if_neg c311_184] | skip); (first | rw [if_pos c318_185] | rw [if_neg c318_185] | skip); (first | rw [if_pos c325_186] | rw [if_neg c325_186] | skip); (first | rw [if_pos c332_187] | rw [if_neg c332_187] | skip); (first | rw [if_pos c339_188] | rw [if_neg c339_188] | skip); (first | rw [if_pos c346_189] | rw [if_neg c346_189] | skip)))
              · refine own_step (fun _ k => XS.icmpYes X169.here hx rfl (pc0 := 339) (pc' := 374) rfl (hb hby at_339) rfl (feq c339_188).2 (by decide) (by decide) k) ?_
                show own_Ends p e below F (T169.setTop (mkF m 374 A171 []))
                refine own_step (fun _ k => XS.iconst X169.here hx rfl (hb hby at_374) k) ?_
                show own_Ends p e below F (T169.setTop (mkF m 375 A171 [(.int (0 : Int32))]))
                rw [hA171]
                exact J311_173 _ (by first | (simp only [if_true, if_false, c311_184, c318_185, c325_186, c332_187, c339_188]; done) | ((first | rw [if_pos c311_184] | rw [if_neg c311_184] | skip); (first | rw [if_pos c318_185] | rw [if_neg c318_185] | skip); (first | rw [if_pos c325_186] | rw [if_neg c325_186] | skip); (first | rw [if_pos c332_187] | rw [if_neg c332_187] | skip); (first | rw [if_pos c339_188] | rw [if_neg c339_188] | skip)))
            · refine own_step (fun _ k => XS.icmpYes X169.here hx rfl (pc0 := 332) (pc' := 374) rfl (hb hby at_332) rfl (feq c332_187).2 (by decide) (by decide) k) ?_
              show own_Ends p e below F (T169.setTop (mkF m 374 A171 []))
              refine own_step (fun _ k => XS.iconst X169.here hx rfl (hb hby at_374) k) ?_
              show own_Ends p e below F (T169.setTop (mkF m 375 A171 [(.int (0 : Int32))]))
              rw [hA171]
              exact J311_173 _ (by first | (simp only [if_true, if_false, c311_184, c318_185, c325_186, c332_187]; done) | ((first | rw [if_pos c311_184] | rw [if_neg c311_184] | skip); (first | rw [if_pos c318_185] | rw [if_neg c318_185] | skip); (first | rw [if_pos c325_186] | rw [if_neg c325_186] | skip); (first | rw [if_pos c332_187] | rw [if_neg c332_187] | skip)))
          · refine own_step (fun _ k => XS.icmpYes X169.here hx rfl (pc0 := 325) (pc' := 374) rfl (hb hby at_325) rfl (feq c325_186).2 (by decide) (by decide) k) ?_
            show own_Ends p e below F (T169.setTop (mkF m 374 A171 []))
            refine own_step (fun _ k => XS.iconst X169.here hx rfl (hb hby at_374) k) ?_
            show own_Ends p e below F (T169.setTop (mkF m 375 A171 [(.int (0 : Int32))]))
            rw [hA171]
            exact J311_173 _ (by first | (simp only [if_true, if_false, c311_184, c318_185, c325_186]; done) | ((first | rw [if_pos c311_184] | rw [if_neg c311_184] | skip); (first | rw [if_pos c318_185] | rw [if_neg c318_185] | skip); (first | rw [if_pos c325_186] | rw [if_neg c325_186] | skip)))
        · refine own_step (fun _ k => XS.icmpYes X169.here hx rfl (pc0 := 318) (pc' := 374) rfl (hb hby at_318) rfl (feq c318_185).2 (by decide) (by decide) k) ?_
          show own_Ends p e below F (T169.setTop (mkF m 374 A171 []))
          refine own_step (fun _ k => XS.iconst X169.here hx rfl (hb hby at_374) k) ?_
          show own_Ends p e below F (T169.setTop (mkF m 375 A171 [(.int (0 : Int32))]))
          rw [hA171]
          exact J311_173 _ (by first | (simp only [if_true, if_false, c311_184, c318_185]; done) | ((first | rw [if_pos c311_184] | rw [if_neg c311_184] | skip); (first | rw [if_pos c318_185] | rw [if_neg c318_185] | skip)))
      · refine own_step (fun _ k => XS.icmpYes X169.here hx rfl (pc0 := 311) (pc' := 374) rfl (hb hby at_311) rfl (feq c311_184).2 (by decide) (by decide) k) ?_
        show own_Ends p e below F (T169.setTop (mkF m 374 A171 []))
        refine own_step (fun _ k => XS.iconst X169.here hx rfl (hb hby at_374) k) ?_
        show own_Ends p e below F (T169.setTop (mkF m 375 A171 [(.int (0 : Int32))]))
        rw [hA171]
        exact J311_173 _ (by simp only [if_true, if_false, c311_184])
    · show own_Ends p e below F (T27.setTop (mkF m 129 A28 []))
      refine own_step (fun _ k => XS.iload X27.here hx rfl (hb hby at_129) (by rw [hA28]; rfl) k) ?_
      show own_Ends p e below F (T27.setTop (mkF m 131 A28 [(.int (10 : Int32))]))
      obtain ⟨T193, h193, k193, X193, e193, E193, A193, st193⟩ := newP X27 hx hZ (own_g hw 6 rfl) rfl (g := (mkF m 131 A28 [(.int (10 : Int32))])) rfl (hb hby at_131) rfl (by decide) (cap := 10) (by decide) (by decide) (by decide) (by decide)
      obtain ⟨a193, g193⟩ : ∃ z, z = T27.heap.size := ⟨_, rfl⟩
      rw [← g193] at A193 st193
      have ge_a193 : n0 ≤ a193 := Nat.le_trans Z27 (Nat.le_of_eq g193.symm)
      have sz_a193 : h0.size ≤ a193 := Nat.le_trans SZ27 (Nat.le_of_eq g193.symm)
      have Z193 : n0 ≤ h193.size := Nat.le_trans Z27 E193.1
      have SZ193 : h0.size ≤ h193.size := Nat.le_trans SZ27 E193.1
      have hk := Nat.le_trans hk E193.1
      have hr193 := CHr.ext E193 hC27.1
      have hC193 := hC27.trans hr193
      have V193 : Arv Z h193 a193 k193 .char (10 : Int32) [(.int (0 : Int32)), (.int (0 : Int32)), (.int (0 : Int32)), (.int (0 : Int32)), (.int (0 : Int32)), (.int (0 : Int32)), (.int (0 : Int32)), (.int (0 : Int32)), (.int (0 : Int32)), (.int (0 : Int32))] (.int (0 : Int32)) := Arv.pad (Arv.new A193 (by decide)) (pad_rep [] _ 10)
      have sf_a193 : own_SL Z own_EL s.vm h193 a193 := own_SL.born hC27.1 E193 g193 V193.lt
      refine own_step st193 ?_
      show own_Ends p e below F (T193.setTop (mkF m 133 A28 [(.ref a193)]))
      obtain ⟨A194, hA194⟩ : ∃ z : Array Slot, z = #[.val (.long p1), .second, .val (.int p2), .val (.int p3), .val (.int p4), .val (.int z2), .val (.int (10 : Int32)), .val (.int r9), .val (.int r11), .val (.int r13), .val (.int r15), .val (.int r17), .val (.int r19), .val (.int r21), .val (.int r23), .val (.int r25), .val (.int r27), .val (.ref a193), .unset, .unset, .unset, .unset] := ⟨_, rfl⟩
      refine own_step (fun _ k => XS.astore X193.here hx rfl (hb hby at_133) rfl rfl (l' := A194) (by rw [hA28, hA194]; exact rfl) k) ?_
      show own_Ends p e below F (T193.setTop (mkF m 135 A194 []))
      refine own_step (fun _ k => XS.iload X193.here hx rfl (hb hby at_135) (by rw [hA194]; rfl) k) ?_
      show own_Ends p e below F (T193.setTop (mkF m 137 A194 [(.int (10 : Int32))]))
      refine own_step (fun _ k => XS.ifNo X193.here hx rfl (hb hby at_137) rfl ((if0 _ _).trans (tlt (by decide : (0 : Int32) < (10 : Int32))).2.2.2) k) ?_
      show own_Ends p e below F (T193.setTop (mkF m 140 A194 []))
      refine own_step (fun _ k => XS.aload X193.here hx rfl (hb hby at_140) (by rw [hA194]; rfl) rfl k) ?_
      show own_Ends p e below F (T193.setTop (mkF m 142 A194 [(.ref a193)]))
      refine own_step (fun _ k => XS.iconst X193.here hx rfl (hb hby at_142) k) ?_
      show own_Ends p e below F (T193.setTop (mkF m 143 A194 [(.int (0 : Int32)), (.ref a193)]))
      refine own_step (fun _ k => XS.iload X193.here hx rfl (hb hby at_143) (by rw [hA194]; rfl) k) ?_
      show own_Ends p e below F (T193.setTop (mkF m 145 A194 [(.int r9), (.int (0 : Int32)), (.ref a193)]))
      obtain ⟨cl195, Ar195, q195, S195, M195, H195, G195⟩ := id V193
      have hin195 : ¬ ((0 : Int32) < 0 ∨ cl195.slots.size ≤ ((0 : Int32) : Int32).toNatClampNeg) := inb_of S195 ⟨by decide, by decide⟩
      obtain ⟨T195, h195, X195, e195, W195, st195⟩ := stC X193 hx hZ e193 Ar195 (j := (0 : Int32)) hin195 (g := (mkF m 145 A194 [(.int r9), (.int (0 : Int32)), (.ref a193)])) rfl rfl (hb hby at_145)
      rw [own_narC rr9] at W195
      have V195 := Arv.set Ar195 q195 S195 M195 H195 G195 (own_fitC rr9) W195 0 rfl (Nat.le_of_ble_eq_true rfl)
      have V195 : Arv Z h195 a193 k193 .char (10 : Int32) [(.int r9), (.int (0 : Int32)), (.int (0 : Int32)), (.int (0 : Int32)), (.int (0 : Int32)), (.int (0 : Int32)), (.int (0 : Int32)), (.int (0 : Int32)), (.int (0 : Int32)), (.int (0 : Int32))] (.int (0 : Int32)) := V195
      refine own_step st195 ?_
      have N195 := Fr.snoc X195 N27 ge_a193
      have Z195 : n0 ≤ h195.size := by rw [W195.size]; exact Z193
      have SZ195 : h0.size ≤ h195.size := by rw [W195.size]; exact SZ193
      have hk := (W195.size.symm ▸ hk : _ ≤ h195.size)
      have hr195 := CHr.wr W195 sf_a193.2 hC193.1
      have hC195 := hC193.trans hr195
      show own_Ends p e below F (T195.setTop (mkF m 146 A194 []))
      refine own_step (fun _ k => XS.iload X195.here hx rfl (hb hby at_146) (by rw [hA194]; rfl) k) ?_
      show own_Ends p e below F (T195.setTop (mkF m 148 A194 [(.int (10 : Int32))]))
      refine own_step (fun _ k => XS.iconst X195.here hx rfl (hb hby at_148) k) ?_
      show own_Ends p e below F (T195.setTop (mkF m 149 A194 [(.int (1 : Int32)), (.int (10 : Int32))]))
      refine own_step (fun _ k => XS.icmpNo X195.here hx rfl (hb hby at_149) rfl (tlt (by decide : (1 : Int32) < (10 : Int32))).2.2.2 k) ?_
      show own_Ends p e below F (T195.setTop (mkF m 152 A194 []))
      refine own_step (fun _ k => XS.aload X195.here hx rfl (hb hby at_152) (by rw [hA194]; rfl) rfl k) ?_
      show own_Ends p e below F (T195.setTop (mkF m 154 A194 [(.ref a193)]))
      refine own_step (fun _ k => XS.iconst X195.here hx rfl (hb hby at_154) k) ?_
      show own_Ends p e below F (T195.setTop (mkF m 155 A194 [(.int (1 : Int32)), (.ref a193)]))
      refine own_step (fun _ k => XS.iload X195.here hx rfl (hb hby at_155) (by rw [hA194]; rfl) k) ?_
      show own_Ends p e below F (T195.setTop (mkF m 157 A194 [(.int r11), (.int (1 : Int32)), (.ref a193)]))
      obtain ⟨cl196, Ar196, q196, S196, M196, H196, G196⟩ := id V195
      have hin196 : ¬ ((1 : Int32) < 0 ∨ cl196.slots.size ≤ ((1 : Int32) : Int32).toNatClampNeg) := inb_of S196 ⟨by decide, by decide⟩
      obtain ⟨T196, h196, X196, e196, W196, st196⟩ := stC X195 hx hZ e195 Ar196 (j := (1 : Int32)) hin196 (g := (mkF m 157 A194 [(.int r11), (.int (1 : Int32)), (.ref a193)])) rfl rfl (hb hby at_157)
      rw [own_narC rr11] at W196
      have V196 := Arv.set Ar196 q196 S196 M196 H196 G196 (own_fitC rr11) W196 1 rfl (Nat.le_of_ble_eq_true rfl)
      have V196 : Arv Z h196 a193 k193 .char (10 : Int32) [(.int r9), (.int r11), (.int (0 : Int32)), (.int (0 : Int32)), (.int (0 : Int32)), (.int (0 : Int32)), (.int (0 : Int32)), (.int (0 : Int32)), (.int (0 : Int32)), (.int (0 : Int32))] (.int (0 : Int32)) := V196
      refine own_step st196 ?_
      have N196 := Fr.snoc X196 N195 ge_a193
      have Z196 : n0 ≤ h196.size := by rw [W196.size]; exact Z195
      have SZ196 : h0.size ≤ h196.size := by rw [W196.size]; exact SZ195
      have hk := (W196.size.symm ▸ hk : _ ≤ h196.size)
      have hr196 := CHr.wr W196 (own_SL.go sf_a193 hr195).2 hC195.1
      have hC196 := hC195.trans hr196
      show own_Ends p e below F (T196.setTop (mkF m 158 A194 []))
      refine own_step (fun _ k => XS.iload X196.here hx rfl (hb hby at_158) (by rw [hA194]; rfl) k) ?_
      show own_Ends p e below F (T196.setTop (mkF m 160 A194 [(.int (10 : Int32))]))
      refine own_step (fun _ k => XS.iconst X196.here hx rfl (hb hby at_160) k) ?_
      show own_Ends p e below F (T196.setTop (mkF m 161 A194 [(.int (2 : Int32)), (.int (10 : Int32))]))
      refine own_step (fun _ k => XS.icmpNo X196.here hx rfl (hb hby at_161) rfl (tlt (by decide : (2 : Int32) < (10 : Int32))).2.2.2 k) ?_
      show own_Ends p e below F (T196.setTop (mkF m 164 A194 []))
      refine own_step (fun _ k => XS.aload X196.here hx rfl (hb hby at_164) (by rw [hA194]; rfl) rfl k) ?_
      show own_Ends p e below F (T196.setTop (mkF m 166 A194 [(.ref a193)]))
      refine own_step (fun _ k => XS.iconst X196.here hx rfl (hb hby at_166) k) ?_
      show own_Ends p e below F (T196.setTop (mkF m 167 A194 [(.int (2 : Int32)), (.ref a193)]))
      refine own_step (fun _ k => XS.iload X196.here hx rfl (hb hby at_167) (by rw [hA194]; rfl) k) ?_
      show own_Ends p e below F (T196.setTop (mkF m 169 A194 [(.int r13), (.int (2 : Int32)), (.ref a193)]))
      obtain ⟨cl197, Ar197, q197, S197, M197, H197, G197⟩ := id V196
      have hin197 : ¬ ((2 : Int32) < 0 ∨ cl197.slots.size ≤ ((2 : Int32) : Int32).toNatClampNeg) := inb_of S197 ⟨by decide, by decide⟩
      obtain ⟨T197, h197, X197, e197, W197, st197⟩ := stC X196 hx hZ e196 Ar197 (j := (2 : Int32)) hin197 (g := (mkF m 169 A194 [(.int r13), (.int (2 : Int32)), (.ref a193)])) rfl rfl (hb hby at_169)
      rw [own_narC rr13] at W197
      have V197 := Arv.set Ar197 q197 S197 M197 H197 G197 (own_fitC rr13) W197 2 rfl (Nat.le_of_ble_eq_true rfl)
      have V197 : Arv Z h197 a193 k193 .char (10 : Int32) [(.int r9), (.int r11), (.int r13), (.int (0 : Int32)), (.int (0 : Int32)), (.int (0 : Int32)), (.int (0 : Int32)), (.int (0 : Int32)), (.int (0 : Int32)), (.int (0 : Int32))] (.int (0 : Int32)) := V197
      refine own_step st197 ?_
      have N197 := Fr.snoc X197 N196 ge_a193
      have Z197 : n0 ≤ h197.size := by rw [W197.size]; exact Z196
      have SZ197 : h0.size ≤ h197.size := by rw [W197.size]; exact SZ196
      have hk := (W197.size.symm ▸ hk : _ ≤ h197.size)
      have hr197 := CHr.wr W197 (own_SL.go (own_SL.go sf_a193 hr195) hr196).2 hC196.1
      have hC197 := hC196.trans hr197
      show own_Ends p e below F (T197.setTop (mkF m 170 A194 []))
      refine own_step (fun _ k => XS.iload X197.here hx rfl (hb hby at_170) (by rw [hA194]; rfl) k) ?_
      show own_Ends p e below F (T197.setTop (mkF m 172 A194 [(.int (10 : Int32))]))
      refine own_step (fun _ k => XS.iconst X197.here hx rfl (hb hby at_172) k) ?_
      show own_Ends p e below F (T197.setTop (mkF m 173 A194 [(.int (3 : Int32)), (.int (10 : Int32))]))
      refine own_step (fun _ k => XS.icmpNo X197.here hx rfl (hb hby at_173) rfl (tlt (by decide : (3 : Int32) < (10 : Int32))).2.2.2 k) ?_
      show own_Ends p e below F (T197.setTop (mkF m 176 A194 []))
      refine own_step (fun _ k => XS.aload X197.here hx rfl (hb hby at_176) (by rw [hA194]; rfl) rfl k) ?_
      show own_Ends p e below F (T197.setTop (mkF m 178 A194 [(.ref a193)]))
      refine own_step (fun _ k => XS.iconst X197.here hx rfl (hb hby at_178) k) ?_
      show own_Ends p e below F (T197.setTop (mkF m 179 A194 [(.int (3 : Int32)), (.ref a193)]))
      refine own_step (fun _ k => XS.iload X197.here hx rfl (hb hby at_179) (by rw [hA194]; rfl) k) ?_
      show own_Ends p e below F (T197.setTop (mkF m 181 A194 [(.int r15), (.int (3 : Int32)), (.ref a193)]))
      obtain ⟨cl198, Ar198, q198, S198, M198, H198, G198⟩ := id V197
      have hin198 : ¬ ((3 : Int32) < 0 ∨ cl198.slots.size ≤ ((3 : Int32) : Int32).toNatClampNeg) := inb_of S198 ⟨by decide, by decide⟩
      obtain ⟨T198, h198, X198, e198, W198, st198⟩ := stC X197 hx hZ e197 Ar198 (j := (3 : Int32)) hin198 (g := (mkF m 181 A194 [(.int r15), (.int (3 : Int32)), (.ref a193)])) rfl rfl (hb hby at_181)
      rw [own_narC rr15] at W198
      have V198 := Arv.set Ar198 q198 S198 M198 H198 G198 (own_fitC rr15) W198 3 rfl (Nat.le_of_ble_eq_true rfl)
      have V198 : Arv Z h198 a193 k193 .char (10 : Int32) [(.int r9), (.int r11), (.int r13), (.int r15), (.int (0 : Int32)), (.int (0 : Int32)), (.int (0 : Int32)), (.int (0 : Int32)), (.int (0 : Int32)), (.int (0 : Int32))] (.int (0 : Int32)) := V198
      refine own_step st198 ?_
      have N198 := Fr.snoc X198 N197 ge_a193
      have Z198 : n0 ≤ h198.size := by rw [W198.size]; exact Z197
      have SZ198 : h0.size ≤ h198.size := by rw [W198.size]; exact SZ197
      have hk := (W198.size.symm ▸ hk : _ ≤ h198.size)
      have hr198 := CHr.wr W198 (own_SL.go (own_SL.go (own_SL.go sf_a193 hr195) hr196) hr197).2 hC197.1
      have hC198 := hC197.trans hr198
      show own_Ends p e below F (T198.setTop (mkF m 182 A194 []))
      refine own_step (fun _ k => XS.iload X198.here hx rfl (hb hby at_182) (by rw [hA194]; rfl) k) ?_
      show own_Ends p e below F (T198.setTop (mkF m 184 A194 [(.int (10 : Int32))]))
      refine own_step (fun _ k => XS.iconst X198.here hx rfl (hb hby at_184) k) ?_
      show own_Ends p e below F (T198.setTop (mkF m 185 A194 [(.int (4 : Int32)), (.int (10 : Int32))]))
      refine own_step (fun _ k => XS.icmpNo X198.here hx rfl (hb hby at_185) rfl (tlt (by decide : (4 : Int32) < (10 : Int32))).2.2.2 k) ?_
      show own_Ends p e below F (T198.setTop (mkF m 188 A194 []))
      refine own_step (fun _ k => XS.aload X198.here hx rfl (hb hby at_188) (by rw [hA194]; rfl) rfl k) ?_
      show own_Ends p e below F (T198.setTop (mkF m 190 A194 [(.ref a193)]))
      refine own_step (fun _ k => XS.iconst X198.here hx rfl (hb hby at_190) k) ?_
      show own_Ends p e below F (T198.setTop (mkF m 191 A194 [(.int (4 : Int32)), (.ref a193)]))
      refine own_step (fun _ k => XS.iload X198.here hx rfl (hb hby at_191) (by rw [hA194]; rfl) k) ?_
      show own_Ends p e below F (T198.setTop (mkF m 193 A194 [(.int r17), (.int (4 : Int32)), (.ref a193)]))
      obtain ⟨cl199, Ar199, q199, S199, M199, H199, G199⟩ := id V198
      have hin199 : ¬ ((4 : Int32) < 0 ∨ cl199.slots.size ≤ ((4 : Int32) : Int32).toNatClampNeg) := inb_of S199 ⟨by decide, by decide⟩
      obtain ⟨T199, h199, X199, e199, W199, st199⟩ := stC X198 hx hZ e198 Ar199 (j := (4 : Int32)) hin199 (g := (mkF m 193 A194 [(.int r17), (.int (4 : Int32)), (.ref a193)])) rfl rfl (hb hby at_193)
      rw [own_narC rr17] at W199
      have V199 := Arv.set Ar199 q199 S199 M199 H199 G199 (own_fitC rr17) W199 4 rfl (Nat.le_of_ble_eq_true rfl)
      have V199 : Arv Z h199 a193 k193 .char (10 : Int32) [(.int r9), (.int r11), (.int r13), (.int r15), (.int r17), (.int (0 : Int32)), (.int (0 : Int32)), (.int (0 : Int32)), (.int (0 : Int32)), (.int (0 : Int32))] (.int (0 : Int32)) := V199
      refine own_step st199 ?_
      have N199 := Fr.snoc X199 N198 ge_a193
      have Z199 : n0 ≤ h199.size := by rw [W199.size]; exact Z198
      have SZ199 : h0.size ≤ h199.size := by rw [W199.size]; exact SZ198
      have hk := (W199.size.symm ▸ hk : _ ≤ h199.size)
      have hr199 := CHr.wr W199 (own_SL.go (own_SL.go (own_SL.go (own_SL.go sf_a193 hr195) hr196) hr197) hr198).2 hC198.1
      have hC199 := hC198.trans hr199
      show own_Ends p e below F (T199.setTop (mkF m 194 A194 []))
      refine own_step (fun _ k => XS.iload X199.here hx rfl (hb hby at_194) (by rw [hA194]; rfl) k) ?_
      show own_Ends p e below F (T199.setTop (mkF m 196 A194 [(.int (10 : Int32))]))
      refine own_step (fun _ k => XS.iconst X199.here hx rfl (hb hby at_196) k) ?_
      show own_Ends p e below F (T199.setTop (mkF m 197 A194 [(.int (5 : Int32)), (.int (10 : Int32))]))
      refine own_step (fun _ k => XS.icmpNo X199.here hx rfl (hb hby at_197) rfl (tlt (by decide : (5 : Int32) < (10 : Int32))).2.2.2 k) ?_
      show own_Ends p e below F (T199.setTop (mkF m 200 A194 []))
      refine own_step (fun _ k => XS.aload X199.here hx rfl (hb hby at_200) (by rw [hA194]; rfl) rfl k) ?_
      show own_Ends p e below F (T199.setTop (mkF m 202 A194 [(.ref a193)]))
      refine own_step (fun _ k => XS.iconst X199.here hx rfl (hb hby at_202) k) ?_
      show own_Ends p e below F (T199.setTop (mkF m 203 A194 [(.int (5 : Int32)), (.ref a193)]))
      refine own_step (fun _ k => XS.iload X199.here hx rfl (hb hby at_203) (by rw [hA194]; rfl) k) ?_
      show own_Ends p e below F (T199.setTop (mkF m 205 A194 [(.int r19), (.int (5 : Int32)), (.ref a193)]))
      obtain ⟨cl200, Ar200, q200, S200, M200, H200, G200⟩ := id V199
      have hin200 : ¬ ((5 : Int32) < 0 ∨ cl200.slots.size ≤ ((5 : Int32) : Int32).toNatClampNeg) := inb_of S200 ⟨by decide, by decide⟩
      obtain ⟨T200, h200, X200, e200, W200, st200⟩ := stC X199 hx hZ e199 Ar200 (j := (5 : Int32)) hin200 (g := (mkF m 205 A194 [(.int r19), (.int (5 : Int32)), (.ref a193)])) rfl rfl (hb hby at_205)
      rw [own_narC rr19] at W200
      have V200 := Arv.set Ar200 q200 S200 M200 H200 G200 (own_fitC rr19) W200 5 rfl (Nat.le_of_ble_eq_true rfl)
      have V200 : Arv Z h200 a193 k193 .char (10 : Int32) [(.int r9), (.int r11), (.int r13), (.int r15), (.int r17), (.int r19), (.int (0 : Int32)), (.int (0 : Int32)), (.int (0 : Int32)), (.int (0 : Int32))] (.int (0 : Int32)) := V200
      refine own_step st200 ?_
      have N200 := Fr.snoc X200 N199 ge_a193
      have Z200 : n0 ≤ h200.size := by rw [W200.size]; exact Z199
      have SZ200 : h0.size ≤ h200.size := by rw [W200.size]; exact SZ199
      have hk := (W200.size.symm ▸ hk : _ ≤ h200.size)
      have hr200 := CHr.wr W200 (own_SL.go (own_SL.go (own_SL.go (own_SL.go (own_SL.go sf_a193 hr195) hr196) hr197) hr198) hr199).2 hC199.1
      have hC200 := hC199.trans hr200
      show own_Ends p e below F (T200.setTop (mkF m 206 A194 []))
      refine own_step (fun _ k => XS.iload X200.here hx rfl (hb hby at_206) (by rw [hA194]; rfl) k) ?_
      show own_Ends p e below F (T200.setTop (mkF m 208 A194 [(.int (10 : Int32))]))
      refine own_step (fun _ k => XS.bipush X200.here hx rfl (hb hby at_208) k) ?_
      show own_Ends p e below F (T200.setTop (mkF m 210 A194 [(.int (6 : Int32)), (.int (10 : Int32))]))
      refine own_step (fun _ k => XS.icmpNo X200.here hx rfl (hb hby at_210) rfl (tlt (by decide : (6 : Int32) < (10 : Int32))).2.2.2 k) ?_
      show own_Ends p e below F (T200.setTop (mkF m 213 A194 []))
      refine own_step (fun _ k => XS.aload X200.here hx rfl (hb hby at_213) (by rw [hA194]; rfl) rfl k) ?_
      show own_Ends p e below F (T200.setTop (mkF m 215 A194 [(.ref a193)]))
      refine own_step (fun _ k => XS.bipush X200.here hx rfl (hb hby at_215) k) ?_
      show own_Ends p e below F (T200.setTop (mkF m 217 A194 [(.int (6 : Int32)), (.ref a193)]))
      refine own_step (fun _ k => XS.iload X200.here hx rfl (hb hby at_217) (by rw [hA194]; rfl) k) ?_
      show own_Ends p e below F (T200.setTop (mkF m 219 A194 [(.int r21), (.int (6 : Int32)), (.ref a193)]))
      obtain ⟨cl201, Ar201, q201, S201, M201, H201, G201⟩ := id V200
      have hin201 : ¬ ((6 : Int32) < 0 ∨ cl201.slots.size ≤ ((6 : Int32) : Int32).toNatClampNeg) := inb_of S201 ⟨by decide, by decide⟩
      obtain ⟨T201, h201, X201, e201, W201, st201⟩ := stC X200 hx hZ e200 Ar201 (j := (6 : Int32)) hin201 (g := (mkF m 219 A194 [(.int r21), (.int (6 : Int32)), (.ref a193)])) rfl rfl (hb hby at_219)
      rw [own_narC rr21] at W201
      have V201 := Arv.set Ar201 q201 S201 M201 H201 G201 (own_fitC rr21) W201 6 rfl (Nat.le_of_ble_eq_true rfl)
      have V201 : Arv Z h201 a193 k193 .char (10 : Int32) [(.int r9), (.int r11), (.int r13), (.int r15), (.int r17), (.int r19), (.int r21), (.int (0 : Int32)), (.int (0 : Int32)), (.int (0 : Int32))] (.int (0 : Int32)) := V201
      refine own_step st201 ?_
      have N201 := Fr.snoc X201 N200 ge_a193
      have Z201 : n0 ≤ h201.size := by rw [W201.size]; exact Z200
      have SZ201 : h0.size ≤ h201.size := by rw [W201.size]; exact SZ200
      have hk := (W201.size.symm ▸ hk : _ ≤ h201.size)
      have hr201 := CHr.wr W201 (own_SL.go (own_SL.go (own_SL.go (own_SL.go (own_SL.go (own_SL.go sf_a193 hr195) hr196) hr197) hr198) hr199) hr200).2 hC200.1
      have hC201 := hC200.trans hr201
      show own_Ends p e below F (T201.setTop (mkF m 220 A194 []))
      refine own_step (fun _ k => XS.iload X201.here hx rfl (hb hby at_220) (by rw [hA194]; rfl) k) ?_
      show own_Ends p e below F (T201.setTop (mkF m 222 A194 [(.int (10 : Int32))]))
      refine own_step (fun _ k => XS.bipush X201.here hx rfl (hb hby at_222) k) ?_
      show own_Ends p e below F (T201.setTop (mkF m 224 A194 [(.int (7 : Int32)), (.int (10 : Int32))]))
      refine own_step (fun _ k => XS.icmpNo X201.here hx rfl (hb hby at_224) rfl (tlt (by decide : (7 : Int32) < (10 : Int32))).2.2.2 k) ?_
      show own_Ends p e below F (T201.setTop (mkF m 227 A194 []))
      refine own_step (fun _ k => XS.aload X201.here hx rfl (hb hby at_227) (by rw [hA194]; rfl) rfl k) ?_
      show own_Ends p e below F (T201.setTop (mkF m 229 A194 [(.ref a193)]))
      refine own_step (fun _ k => XS.bipush X201.here hx rfl (hb hby at_229) k) ?_
      show own_Ends p e below F (T201.setTop (mkF m 231 A194 [(.int (7 : Int32)), (.ref a193)]))
      refine own_step (fun _ k => XS.iload X201.here hx rfl (hb hby at_231) (by rw [hA194]; rfl) k) ?_
      show own_Ends p e below F (T201.setTop (mkF m 233 A194 [(.int r23), (.int (7 : Int32)), (.ref a193)]))
      obtain ⟨cl202, Ar202, q202, S202, M202, H202, G202⟩ := id V201
      have hin202 : ¬ ((7 : Int32) < 0 ∨ cl202.slots.size ≤ ((7 : Int32) : Int32).toNatClampNeg) := inb_of S202 ⟨by decide, by decide⟩
      obtain ⟨T202, h202, X202, e202, W202, st202⟩ := stC X201 hx hZ e201 Ar202 (j := (7 : Int32)) hin202 (g := (mkF m 233 A194 [(.int r23), (.int (7 : Int32)), (.ref a193)])) rfl rfl (hb hby at_233)
      rw [own_narC rr23] at W202
      have V202 := Arv.set Ar202 q202 S202 M202 H202 G202 (own_fitC rr23) W202 7 rfl (Nat.le_of_ble_eq_true rfl)
      have V202 : Arv Z h202 a193 k193 .char (10 : Int32) [(.int r9), (.int r11), (.int r13), (.int r15), (.int r17), (.int r19), (.int r21), (.int r23), (.int (0 : Int32)), (.int (0 : Int32))] (.int (0 : Int32)) := V202
      refine own_step st202 ?_
      have N202 := Fr.snoc X202 N201 ge_a193
      have Z202 : n0 ≤ h202.size := by rw [W202.size]; exact Z201
      have SZ202 : h0.size ≤ h202.size := by rw [W202.size]; exact SZ201
      have hk := (W202.size.symm ▸ hk : _ ≤ h202.size)
      have hr202 := CHr.wr W202 (own_SL.go (own_SL.go (own_SL.go (own_SL.go (own_SL.go (own_SL.go (own_SL.go sf_a193 hr195) hr196) hr197) hr198) hr199) hr200) hr201).2 hC201.1
      have hC202 := hC201.trans hr202
      show own_Ends p e below F (T202.setTop (mkF m 234 A194 []))
      refine own_step (fun _ k => XS.iload X202.here hx rfl (hb hby at_234) (by rw [hA194]; rfl) k) ?_
      show own_Ends p e below F (T202.setTop (mkF m 236 A194 [(.int (10 : Int32))]))
      refine own_step (fun _ k => XS.bipush X202.here hx rfl (hb hby at_236) k) ?_
      show own_Ends p e below F (T202.setTop (mkF m 238 A194 [(.int (8 : Int32)), (.int (10 : Int32))]))
      refine own_step (fun _ k => XS.icmpNo X202.here hx rfl (hb hby at_238) rfl (tlt (by decide : (8 : Int32) < (10 : Int32))).2.2.2 k) ?_
      show own_Ends p e below F (T202.setTop (mkF m 241 A194 []))
      refine own_step (fun _ k => XS.aload X202.here hx rfl (hb hby at_241) (by rw [hA194]; rfl) rfl k) ?_
      show own_Ends p e below F (T202.setTop (mkF m 243 A194 [(.ref a193)]))
      refine own_step (fun _ k => XS.bipush X202.here hx rfl (hb hby at_243) k) ?_
      show own_Ends p e below F (T202.setTop (mkF m 245 A194 [(.int (8 : Int32)), (.ref a193)]))
      refine own_step (fun _ k => XS.iload X202.here hx rfl (hb hby at_245) (by rw [hA194]; rfl) k) ?_
      show own_Ends p e below F (T202.setTop (mkF m 247 A194 [(.int r25), (.int (8 : Int32)), (.ref a193)]))
      obtain ⟨cl203, Ar203, q203, S203, M203, H203, G203⟩ := id V202
      have hin203 : ¬ ((8 : Int32) < 0 ∨ cl203.slots.size ≤ ((8 : Int32) : Int32).toNatClampNeg) := inb_of S203 ⟨by decide, by decide⟩
      obtain ⟨T203, h203, X203, e203, W203, st203⟩ := stC X202 hx hZ e202 Ar203 (j := (8 : Int32)) hin203 (g := (mkF m 247 A194 [(.int r25), (.int (8 : Int32)), (.ref a193)])) rfl rfl (hb hby at_247)
      rw [own_narC rr25] at W203
      have V203 := Arv.set Ar203 q203 S203 M203 H203 G203 (own_fitC rr25) W203 8 rfl (Nat.le_of_ble_eq_true rfl)
      have V203 : Arv Z h203 a193 k193 .char (10 : Int32) [(.int r9), (.int r11), (.int r13), (.int r15), (.int r17), (.int r19), (.int r21), (.int r23), (.int r25), (.int (0 : Int32))] (.int (0 : Int32)) := V203
      refine own_step st203 ?_
      have N203 := Fr.snoc X203 N202 ge_a193
      have Z203 : n0 ≤ h203.size := by rw [W203.size]; exact Z202
      have SZ203 : h0.size ≤ h203.size := by rw [W203.size]; exact SZ202
      have hk := (W203.size.symm ▸ hk : _ ≤ h203.size)
      have hr203 := CHr.wr W203 (own_SL.go (own_SL.go (own_SL.go (own_SL.go (own_SL.go (own_SL.go (own_SL.go (own_SL.go sf_a193 hr195) hr196) hr197) hr198) hr199) hr200) hr201) hr202).2 hC202.1
      have hC203 := hC202.trans hr203
      show own_Ends p e below F (T203.setTop (mkF m 248 A194 []))
      refine own_step (fun _ k => XS.iload X203.here hx rfl (hb hby at_248) (by rw [hA194]; rfl) k) ?_
      show own_Ends p e below F (T203.setTop (mkF m 250 A194 [(.int (10 : Int32))]))
      refine own_step (fun _ k => XS.bipush X203.here hx rfl (hb hby at_250) k) ?_
      show own_Ends p e below F (T203.setTop (mkF m 252 A194 [(.int (9 : Int32)), (.int (10 : Int32))]))
      refine own_step (fun _ k => XS.icmpNo X203.here hx rfl (hb hby at_252) rfl (tlt (by decide : (9 : Int32) < (10 : Int32))).2.2.2 k) ?_
      show own_Ends p e below F (T203.setTop (mkF m 255 A194 []))
      refine own_step (fun _ k => XS.aload X203.here hx rfl (hb hby at_255) (by rw [hA194]; rfl) rfl k) ?_
      show own_Ends p e below F (T203.setTop (mkF m 257 A194 [(.ref a193)]))
      refine own_step (fun _ k => XS.bipush X203.here hx rfl (hb hby at_257) k) ?_
      show own_Ends p e below F (T203.setTop (mkF m 259 A194 [(.int (9 : Int32)), (.ref a193)]))
      refine own_step (fun _ k => XS.iload X203.here hx rfl (hb hby at_259) (by rw [hA194]; rfl) k) ?_
      show own_Ends p e below F (T203.setTop (mkF m 261 A194 [(.int r27), (.int (9 : Int32)), (.ref a193)]))
      obtain ⟨cl204, Ar204, q204, S204, M204, H204, G204⟩ := id V203
      have hin204 : ¬ ((9 : Int32) < 0 ∨ cl204.slots.size ≤ ((9 : Int32) : Int32).toNatClampNeg) := inb_of S204 ⟨by decide, by decide⟩
      obtain ⟨T204, h204, X204, e204, W204, st204⟩ := stC X203 hx hZ e203 Ar204 (j := (9 : Int32)) hin204 (g := (mkF m 261 A194 [(.int r27), (.int (9 : Int32)), (.ref a193)])) rfl rfl (hb hby at_261)
      rw [own_narC rr27] at W204
      have V204 := Arv.set Ar204 q204 S204 M204 H204 G204 (own_fitC rr27) W204 9 rfl (Nat.le_of_ble_eq_true rfl)
      have V204 : Arv Z h204 a193 k193 .char (10 : Int32) [(.int r9), (.int r11), (.int r13), (.int r15), (.int r17), (.int r19), (.int r21), (.int r23), (.int r25), (.int r27)] (.int (0 : Int32)) := V204
      refine own_step st204 ?_
      have N204 := Fr.snoc X204 N203 ge_a193
      have Z204 : n0 ≤ h204.size := by rw [W204.size]; exact Z203
      have SZ204 : h0.size ≤ h204.size := by rw [W204.size]; exact SZ203
      have hk := (W204.size.symm ▸ hk : _ ≤ h204.size)
      have hr204 := CHr.wr W204 (own_SL.go (own_SL.go (own_SL.go (own_SL.go (own_SL.go (own_SL.go (own_SL.go (own_SL.go (own_SL.go sf_a193 hr195) hr196) hr197) hr198) hr199) hr200) hr201) hr202) hr203).2 hC203.1
      have hC204 := hC203.trans hr204
      show own_Ends p e below F (T204.setTop (mkF m 262 A194 []))
      obtain ⟨T205, h205, X205, e205, E205, A205, D205, -, st205⟩ := newO X204 hx hZ hown (own_g hw 7 rfl) (own_g hw 8 rfl) (own_g hw 9 rfl) e204 (g := (mkF m 262 A194 [])) rfl (hb hby at_262) (by decide) (by decide)
      obtain ⟨a205, g205⟩ : ∃ z, z = h204.size := ⟨_, rfl⟩
      rw [← g205] at A205 D205 st205
      have ge_a205 : n0 ≤ a205 := Nat.le_trans Z204 (Nat.le_of_eq g205.symm)
      have sz_a205 : h0.size ≤ a205 := Nat.le_trans SZ204 (Nat.le_of_eq g205.symm)
      have ne_a193_a205 : a193 ≠ a205 := Nat.ne_of_lt (by rw [g205]; exact V204.lt)
      have Z205 : n0 ≤ h205.size := Nat.le_trans Z204 E205.1
      have SZ205 : h0.size ≤ h205.size := Nat.le_trans SZ204 E205.1
      have hk := Nat.le_trans hk E205.1
      have hr205 := CHr.ext E205 hC204.1
      have hC205 := hC204.trans hr205
      have F205_coder : Fld Z h205 a205 "java/lang/String" "coder" "B" (.int (0 : Int32)) := D205 (Or.inr (own_g hw 33 rfl)) (ty := .byte) (by decide)
      have F205_value : Fld Z h205 a205 "java/lang/String" "value" "[B" .null := D205 (Or.inr (own_g hw 35 rfl)) (ty := (.array .byte)) (by decide)
      have sf_a205 : own_SL Z own_EL s.vm h205 a205 := own_SL.born hC204.1 E205 g205 A205.lt
      refine own_step st205 ?_
      show own_Ends p e below F (T205.setTop (mkF m 265 A194 [(.ref a205)]))
      refine own_step (fun _ k => XS.dup X205.here hx rfl (hb hby at_265) rfl rfl k) ?_
      show own_Ends p e below F (T205.setTop (mkF m 266 A194 [(.ref a205), (.ref a205)]))
      refine own_step (fun _ k => XS.aload X205.here hx rfl (hb hby at_266) (by rw [hA194]; rfl) rfl k) ?_
      show own_Ends p e below F (T205.setTop (mkF m 268 A194 [(.ref a193), (.ref a205), (.ref a205)]))
      obtain ⟨_, _, ⟨T206, L206, k206, n206⟩, -, X206, ⟨Lc206, hQ206, l206, y206, z206⟩, st206⟩ := X205.specialBack hx (y := (⟨"java/lang/String", "<init>", "([C)V"⟩ : MethodName)) rfl hown (mvT hZ (own_g hw 10 rfl)) (mvT hZ (own_g hw 11 rfl)) (mvT hZ (own_g hw 12 rfl)) (by decide) (StrChars.Road.backV (W := 1) hZ (fun d hd => hw d ((by decide +kernel : ∀ d ∈ StrChars.Road.words, d ∈ tables_1) d hd)) (kI := 4) (own_g hw 8 rfl) (cs := ([r9, r11, r13, r15, r17, r19, r21, r23, r25, r27] : List Int32)) (bs := ([r9, r11, r13, r15, r17, r19, r21, r23, r25, r27] : List Int32).map (fun c => c.toInt8.toInt32)) (n := 10) ge_a205 Z205 A205 F205_value F205_coder (V204.ext E205) (Sta.ext E205 (Sta.wr W204 (Sta.wr W203 (Sta.wr W202 (Sta.wr W201 (Sta.wr W200 (Sta.wr W199 (Sta.wr W198 (Sta.wr W197 (Sta.wr W196 (Sta.wr W195 (Sta.ext E193 S0_27)))))))))))) hz rfl rfl (by decide) (by decide) (own_cS rr9 (own_cS rr11 (own_cS rr13 (own_cS rr15 (own_cS rr17 (own_cS rr19 (own_cS rr21 (own_cS rr23 (own_cS rr25 (own_cS rr27 own_c0)))))))))) rfl (by decide) (by decide)) (g := (mkF m 268 A194 [(.ref a193), (.ref a205), (.ref a205)])) rfl (by rw [hml]; show A194.size = _; rw [hA194]; rfl) (Steps.refl _) (a := a205) (argsL := [(.ref a193)]) (rest := [(.ref a205)]) (lenOf pd__28_5bC_29V rfl) rfl (by show 2 * 0 + _ ≤ _; exact Nat.le_of_eq rfl) (hb hby at_268) (fun _ _ => ⟨rfl, e205, (by decide : 12 + 1 ≤ _), (by decide : 94 + 10 ≤ _)⟩)
      dsimp only [Pt.U, Pt.locs, Pt.cells, Pt.slots] at X206 l206 y206 z206 st206 hQ206
      subst l206 y206 z206
      obtain ⟨rfl, Nq206, Kq206, fe206, fc206, tt206, kt206, -, -, -, fv206, fa206⟩ := hQ206
      have N206 := Fr.app N204 Nq206
      have Z206 : n0 ≤ T206.heap.size := Nat.le_trans Z205 Kq206.1
      have SZ206 : h0.size ≤ T206.heap.size := Nat.le_trans SZ205 Kq206.1
      have S0_206 := own_Sta_keep (Sta.ext E205 (Sta.wr W204 (Sta.wr W203 (Sta.wr W202 (Sta.wr W201 (Sta.wr W200 (Sta.wr W199 (Sta.wr W198 (Sta.wr W197 (Sta.wr W196 (Sta.wr W195 (Sta.ext E193 S0_27)))))))))))) Kq206 (allS (own_ns_exa A205) all0)
      have str206 : own_Str Z T206.heap T206.heap.size a205 ([r9, r11, r13, r15, r17, r19, r21, r23, r25, r27] : List Int32) := own_Str.mk fe206 fc206 fv206 fa206 rfl rfl (own_cS rr9 (own_cS rr11 (own_cS rr13 (own_cS rr15 (own_cS rr17 (own_cS rr19 (own_cS rr21 (own_cS rr23 (own_cS rr25 (own_cS rr27 own_c0))))))))))
      have hr206 := CHr.keep Kq206 (sfS sf_a205.2 sf0) hC205.1
      have hC206 := hC205.trans hr206
      have hk := Nat.le_trans hk Kq206.1
      refine own_trans st206 ?_
      show own_Ends p e below F (T206.setTop (mkF m 271 A194 [(.ref a205)]))
      obtain ⟨A207, hA207⟩ : ∃ z : Array Slot, z = #[.val (.long p1), .second, .val (.int p2), .val (.int p3), .val (.int p4), .val (.int z2), .val (.int (10 : Int32)), .val (.int r9), .val (.int r11), .val (.int r13), .val (.int r15), .val (.int r17), .val (.int r19), .val (.int r21), .val (.int r23), .val (.int r25), .val (.int r27), .val (.ref a193), .val (.ref a205), .unset, .unset, .unset] := ⟨_, rfl⟩
      refine own_step (fun _ k => XS.astore X206.here hx rfl (hb hby at_271) rfl rfl (l' := A207) (by rw [hA194, hA207]; exact rfl) k) ?_
      show own_Ends p e below F (T206.setTop (mkF m 273 A207 []))
      refine own_step (fun _ k => XS.iload X206.here hx rfl (hb hby at_273) (by rw [hA207]; rfl) k) ?_
      show own_Ends p e below F (T206.setTop (mkF m 275 A207 [(.int (10 : Int32))]))
      refine own_step (fun _ k => XS.iconst X206.here hx rfl (hb hby at_275) k) ?_
      show own_Ends p e below F (T206.setTop (mkF m 276 A207 [(.int (2 : Int32)), (.int (10 : Int32))]))
      refine own_step (fun _ k => XS.icmpYes X206.here hx rfl (pc0 := 276) (pc' := 297) rfl (hb hby at_276) rfl (feq (by decide : ¬ ((10 : Int32) = (2 : Int32)))).2 (by decide) (by decide) k) ?_
      show own_Ends p e below F (T206.setTop (mkF m 297 A207 []))
      refine own_step (fun _ k => XS.iconst X206.here hx rfl (hb hby at_297) k) ?_
      show own_Ends p e below F (T206.setTop (mkF m 298 A207 [(.int (0 : Int32))]))
      obtain ⟨A208, hA208⟩ : ∃ z : Array Slot, z = #[.val (.long p1), .second, .val (.int p2), .val (.int p3), .val (.int p4), .val (.int z2), .val (.int (10 : Int32)), .val (.int r9), .val (.int r11), .val (.int r13), .val (.int r15), .val (.int r17), .val (.int r19), .val (.int r21), .val (.int r23), .val (.int r25), .val (.int r27), .val (.ref a193), .val (.ref a205), .val (.int (0 : Int32)), .unset, .unset] := ⟨_, rfl⟩
      refine own_step (fun _ k => XS.istore X206.here hx rfl (hb hby at_298) rfl (l' := A208) (by rw [hA207, hA208]; exact rfl) k) ?_
      show own_Ends p e below F (T206.setTop (mkF m 300 A208 []))
      refine own_step (fun _ k => XS.iload X206.here hx rfl (hb hby at_300) (by rw [hA208]; rfl) k) ?_
      show own_Ends p e below F (T206.setTop (mkF m 302 A208 [(.int (10 : Int32))]))
      refine own_step (fun _ k => XS.bipush X206.here hx rfl (hb hby at_302) k) ?_
      show own_Ends p e below F (T206.setTop (mkF m 304 A208 [(.int (9 : Int32)), (.int (10 : Int32))]))
      refine own_step (fun _ k => XS.icmpYes X206.here hx rfl (pc0 := 304) (pc' := 374) rfl (hb hby at_304) rfl (feq (by decide : ¬ ((10 : Int32) = (9 : Int32)))).2 (by decide) (by decide) k) ?_
      show own_Ends p e below F (T206.setTop (mkF m 374 A208 []))
      refine own_step (fun _ k => XS.iconst X206.here hx rfl (hb hby at_374) k) ?_
      show own_Ends p e below F (T206.setTop (mkF m 375 A208 [(.int (0 : Int32))]))
      obtain ⟨A209, hA209⟩ : ∃ z : Array Slot, z = #[.val (.long p1), .second, .val (.int p2), .val (.int p3), .val (.int p4), .val (.int z2), .val (.int (10 : Int32)), .val (.int r9), .val (.int r11), .val (.int r13), .val (.int r15), .val (.int r17), .val (.int r19), .val (.int r21), .val (.int r23), .val (.int r25), .val (.int r27), .val (.ref a193), .val (.ref a205), .val (.int (0 : Int32)), .val (.int (0 : Int32)), .unset] := ⟨_, rfl⟩
      refine own_step (fun _ k => XS.istore X206.here hx rfl (hb hby at_375) rfl (l' := A209) (by rw [hA208, hA209]; exact rfl) k) ?_
      show own_Ends p e below F (T206.setTop (mkF m 377 A209 []))
      refine own_step (fun _ k => XS.iload X206.here hx rfl (hb hby at_377) (by rw [hA209]; rfl) k) ?_
      show own_Ends p e below F (T206.setTop (mkF m 379 A209 [(.int (0 : Int32))]))
      refine own_step (fun _ k => XS.ifNo X206.here hx rfl (hb hby at_379) rfl ((if0 _ _).trans (teq (by decide : (0 : Int32) = (0 : Int32))).2) k) ?_
      show own_Ends p e below F (T206.setTop (mkF m 382 A209 []))
      refine own_step (fun _ k => XS.iload X206.here hx rfl (hb hby at_382) (by rw [hA209]; rfl) k) ?_
      show own_Ends p e below F (T206.setTop (mkF m 384 A209 [(.int (0 : Int32))]))
      refine own_step (fun _ k => XS.ifYes X206.here hx rfl (pc0 := 384) (pc' := 391) rfl (hb hby at_384) rfl ((if0 _ _).trans (teq (by decide : (0 : Int32) = (0 : Int32))).1) (by decide) (by decide) k) ?_
      show own_Ends p e below F (T206.setTop (mkF m 391 A209 []))
      refine own_step (fun _ k => XS.iconst X206.here hx rfl (hb hby at_391) k) ?_
      show own_Ends p e below F (T206.setTop (mkF m 392 A209 [(.int (0 : Int32))]))
      obtain ⟨A210, hA210⟩ : ∃ z : Array Slot, z = #[.val (.long p1), .second, .val (.int p2), .val (.int p3), .val (.int p4), .val (.int z2), .val (.int (10 : Int32)), .val (.int r9), .val (.int r11), .val (.int r13), .val (.int r15), .val (.int r17), .val (.int r19), .val (.int r21), .val (.int r23), .val (.int r25), .val (.int r27), .val (.ref a193), .val (.ref a205), .val (.int (0 : Int32)), .val (.int (0 : Int32)), .val (.int (0 : Int32))] := ⟨_, rfl⟩
      refine own_step (fun _ k => XS.istore X206.here hx rfl (hb hby at_392) rfl (l' := A210) (by rw [hA209, hA210]; exact rfl) k) ?_
      show own_Ends p e below F (T206.setTop (mkF m 394 A210 []))
      refine own_step (fun _ k => XS.aload X206.here hx rfl (hb hby at_394) (by rw [hA210]; rfl) rfl k) ?_
      show own_Ends p e below F (T206.setTop (mkF m 396 A210 [(.ref a205)]))
      obtain ⟨_, _, ⟨T211, L211, k211, n211⟩, -, X211, hS211, gr211, ⟨Lc211, hQ211, l211, y211, z211, hr211⟩, st211⟩ := callSS X206 hx (y := (⟨"com/example/facetwork/facetwork/cli/Logging", "isVerbose", "(Ljava/lang/String;)Z"⟩ : MethodName)) hown (mvT hZ (own_g hw 36 rfl)) (mvT hZ (own_g hw 37 rfl)) (mvT hZ (own_g hw 38 rfl)) (mvT hZ (own_g hw 39 rfl)) (by decide) (backOfSH (W := 0) (rm8 l Z a0 hw [] a205 ([r9, r11, r13, r15, r17, r19, r21, r23, r25, r27] : List Int32) T206.heap.size zc T206.heap n0 Z206 S0_206 hz (own_Str.top str206) (Nat.le_of_ble_eq_true rfl)) hZ (own_g hw 39 rfl) (own_g hw 38 rfl) (by decide) (by decide) (own_EW hw) hC206.1) (g := (mkF m 396 A210 [(.ref a205)])) rfl (by rw [hml]; show A210.size = _; rw [hA210]; rfl) (argsL := [(.ref a205)]) (rest := []) (lenOf pd__28Ljava_2flang_2fString_3b_29Z rfl) rfl (by show 2 * 0 + _ ≤ _; exact Nat.le_of_eq rfl) (hb hby at_396) (fun _ _ => ⟨rfl, rfl, (by decide : 13 + 4 ≤ _), (by decide : 104 + 52 ≤ _)⟩)
      dsimp only [Pt.U, Pt.locs, Pt.cells, Pt.slots] at X211 l211 y211 z211 st211 hQ211 hS211 gr211 hr211
      subst l211 y211 z211
      obtain ⟨rfl, Nq211, Kq211⟩ := hQ211
      have N211 := Fr.app N206 Nq211
      have Z211 : n0 ≤ T211.heap.size := Nat.le_trans Z206 Kq211.1
      have SZ211 : h0.size ≤ T211.heap.size := Nat.le_trans SZ206 Kq211.1
      have S0_211 := own_Sta_keep S0_206 Kq211 all0
      have hC211 := hC206.trans hr211
      have hZ := own_warm hZ hS211
      have hown := own_find hown hS211
      have hS := foldS hS (by exact hk) hS211 gr211
      have hk := Nat.le_refl T211.heap.size
      refine own_trans st211 ?_
      show own_Ends p e below F (T211.setTop (mkF m 399 A210 [(.int (own_ver ([r9, r11, r13, r15, r17, r19, r21, r23, r25, r27] : List Int32)))]))
      refine own_step (fun _ k => XS.iload X211.here hx rfl (hb hby at_399) (by rw [hA210]; rfl) k) ?_
      show own_Ends p e below F (T211.setTop (mkF m 401 A210 [(.int (0 : Int32)), (.int (own_ver ([r9, r11, r13, r15, r17, r19, r21, r23, r25, r27] : List Int32)))]))
      refine own_step (fun _ k => XS.icmpNo X211.here hx rfl (hb hby at_401) rfl (teq (own_v0 (Nat.ne_of_beq_eq_false rfl) (Nat.ne_of_beq_eq_false rfl) : (own_ver ([r9, r11, r13, r15, r17, r19, r21, r23, r25, r27] : List Int32)) = (0 : Int32))).2 k) ?_
      show own_Ends p e below F (T211.setTop (mkF m 404 A210 []))
      refine own_step (fun _ k => XS.iconst X211.here hx rfl (hb hby at_404) k) ?_
      show own_Ends p e below F (T211.setTop (mkF m 405 A210 [(.int (1 : Int32))]))
      refine own_step (fun _ k => XS.goto X211.here hx rfl (pc0 := 405) (pc' := 409) rfl (hb hby at_405) (by decide) (by decide) k) ?_
      show own_Ends p e below F (T211.setTop (mkF m 409 A210 [(.int (1 : Int32))]))
      rw [hF]
      exact own_retH X211 hS (by exact hk) hh rfl hZ (own_EW hw) hC211 (v := (some (.int (nar .boolean (1 : Int32))))) (fun h => by rw [Bd.returns] at h; cases h) Bd.notSynchronized (fun fs hr => retN X211 hx (t := .boolean) Bd.returns (by simp) (hb hby at_409) hr) (by decide) (by decide) (by exact ⟨rfl, N211⟩)
  by_cases c4_212 : (p4 &&& (1 : Int32)) = (0 : Int32)
  · refine own_step (fun _ k => XS.ifYes X0.here hx rfl (pc0 := 4) (pc' := 11) rfl (hb hby at_4) rfl ((if0 _ _).trans (teq c4_212).1) (by decide) (by decide) k) ?_
    show own_Ends p e below F (s₁.setTop (mkF m 11 A1 []))
    refine own_step (fun _ k => XS.iconst X0.here hx rfl (hb hby at_11) k) ?_
    show own_Ends p e below F (s₁.setTop (mkF m 12 A1 [(.int (0 : Int32))]))
    rw [hA1]
    exact J4_3 _ (by simp only [if_true, if_false, c4_212])
  · refine own_step (fun _ k => XS.ifNo X0.here hx rfl (hb hby at_4) rfl ((if0 _ _).trans (feq c4_212).1) k) ?_
    show own_Ends p e below F (s₁.setTop (mkF m 7 A1 []))
    refine own_step (fun _ k => XS.iconst X0.here hx rfl (hb hby at_7) k) ?_
    show own_Ends p e below F (s₁.setTop (mkF m 8 A1 [(.int (1 : Int32))]))
    refine own_step (fun _ k => XS.goto X0.here hx rfl (pc0 := 8) (pc' := 12) rfl (hb hby at_8) (by decide) (by decide) k) ?_
    show own_Ends p e below F (s₁.setTop (mkF m 12 A1 [(.int (1 : Int32))]))
    rw [hA1]
    exact J4_3 _ (by simp only [if_true, if_false, c4_212])

theorem own_scstart {Z : State} {args : Array Value} (h1 : (Jvm.Cond.initializedFor "java/lang/String" "COMPACT_STRINGS" "Z").before args Z = true) (h2 : (Jvm.Cond.isInt (Jvm.Term.static "java/lang/String" "COMPACT_STRINGS" "Z")).before args Z = true) (h3 : (Jvm.Cond.not (Jvm.Cond.eq (Jvm.Term.static "java/lang/String" "COMPACT_STRINGS" "Z") (Jvm.Term.int (0 : Int32)))).before args Z = true) : ∃ z : Int32, Sta Z Z.heap "java/lang/String" "COMPACT_STRINGS" "Z" (.int z) ∧ ¬ z = 0 := by
  obtain ⟨z, e⟩ := is_v (Cond.before_iff.mp h2)
  refine ⟨z, Sta.start e (Or.inl h1), ?_⟩
  have q := not_v (Cond.before_iff.mp h3)
  have q2 : (Jvm.Cond.eq (Jvm.Term.static "java/lang/String" "COMPACT_STRINGS" "Z") (Jvm.Term.int (0 : Int32))).value args Z none Z [] = some (decide (z = 0)) := by simp only [Cond.value, e]; first | done | rfl
  exact gotF q2 q

set_option maxRecDepth 65536 in
set_option maxHeartbeats 40000000 in
theorem comes_1 {Post : Tables → Env → Array Value → State → Outcome → State → Prop} (hpost : ∀ tb e args s v u, (limb_1_1.after args s (.returned v) u = true ∧ limb_1_2.after args s (.returned v) u = true ∧ True) → ReturnedEndW s (.returned v) u (Jvm.fieldLocs frame_1_writes args s ++ Jvm.arrayLocs frame_1_arrays args s ++ Jvm.staticLocs frame_1_statics s) 40 3392 → Post tb e args s (.returned v) u) :
    ArmFor flags0 classFile x code maxLocals ret World_1 tables_1 room_1 Calls_1 rest_1 Pre_1 Post := by
  intro l hfl _ _ p e ha hc hk s m args below hf hA hF happ hP
  obtain ⟨hcalls, hrest, hpre⟩ := hP
  obtain ⟨-, -, -, hnamed, -, -, -, hat⟩ := (Spec.applies_iff hf).mp happ
  obtain ⟨hg, hn⟩ := and_e (Cond.before_iff.mp (show (Jvm.Cond.and given_1 narrow_1).before args s = true from hpre))
  obtain ⟨g0, r0⟩ := and_e hg
  obtain ⟨g1, r1⟩ := and_e r0
  obtain ⟨g2, r2⟩ := and_e r1
  obtain ⟨g3, r3⟩ := and_e r2
  have g4 := r3
  obtain ⟨w0, w1, w2, w3, rfl⟩ : ∃ w0 w1 w2 w3 : Value, args = #[w0, w1, w2, w3] := by
    have hs : args.size = 4 := by simpa [Cond.value, given_1] using g0
    obtain ⟨L⟩ := args
    match L, hs with
    | [w0, w1, w2, w3], _ => exact ⟨w0, w1, w2, w3, rfl⟩
  have hw := fun d (hd : d ∈ tables_1) => atoms_spec (ws := Jvm.Cond.code x code maxLocals ret :: tables_1) hat d (List.mem_cons_of_mem _ hd)
  have hfit : Fit s := fun {y c} hc i hi => by
    obtain ⟨ha, rfl⟩ := Array.getElem?_eq_some_iff.mp hc
    have q := List.all_eq_true.mp ((Array.all_eq_true_iff_forall_mem.mp hF) _ (Array.getElem_mem ha)) i (List.mem_range.mpr hi)
    simpa [Array.getElem?_eq_getElem hi] using q
  obtain ⟨i0, ei0⟩ := isL_v g1
  obtain rfl : w0 = (.long i0) := Option.some.inj ei0
  obtain ⟨i1, ei1⟩ := is_v g2
  obtain rfl : w1 = (.int i1) := Option.some.inj ei1
  obtain ⟨i2, ei2⟩ := is_v g3
  obtain rfl : w2 = (.int i2) := Option.some.inj ei2
  obtain ⟨i3, ei3⟩ := is_v g4
  obtain rfl : w3 = (.int i3) := Option.some.inj ei3
  obtain ⟨hst, -⟩ := atoms_of (own := restOwn_1) jdkStatics_1 (by rw [← rest_1_c_eq]; exact hrest)
  obtain ⟨zc, SC, hz⟩ := own_scstart (hst _ (List.mem_of_getElem? (i := 0) rfl)) (hst _ (List.mem_of_getElem? (i := 1) rfl)) (hst _ (List.mem_of_getElem? (i := 2) rfl))
  have hCH : CHv s own_EL s.vm s.heap := CHv.start (own_EW hw) (fun p hp => hcalls.1 p hp) (hst _ (List.mem_of_getElem? (i := 2) rfl)) (own_g hw 25 rfl) (own_g hw 8 rfl)
  obtain ⟨n, o, h1, h2, h3, _, L, rfl, ⟨rfl, N⟩, -, hq⟩ := rm0 l s _ hw tables_1 i0 i1 i2 i3 zc s.heap s.heap.size (Nat.le_refl _) SC hz p e ha hc hk s m _ below hf ((Spec.applies_iff_loose hf).mp happ).1 ⟨rfl, State.Warmed39.refl s, rfl, hCH⟩ trivial
  refine ⟨n, _, h1, h2, h3, hpost _ _ _ _ _ _ ⟨Cond.after_iff.mpr rfl, Cond.after_iff.mpr (eq_i res_at (Term.int_eval (1)) rfl), trivial⟩ ⟨hq.1, hq.2.1, hq.2.2.1, (hq.2.2.2.sift fun y hy => Or.inr (N y hy)).mono (by decide) (by decide)⟩⟩
theorem main_1_1 : Claimed_1_1 := comes_1 fun _ _ _ _ _ _ h hF => ⟨h.1, hF⟩
theorem main_1_2 : Claimed_1_2 := comes_1 fun _ _ _ _ _ _ h hF => ⟨h.2.1, hF⟩

end Jvm.Pilot.@@N@@
namespace Jvm.Pilot.@@N@@
open Jvm Jvm.ClassFile Sem Op Lib Jvm.Free Jvm.Stand Jvm.Pilot.@@N@@.Jvm.D
/-! MADE BY PROGRAM (witnessworld.py) out of the Statement's table words and the real class files: 20 classes; the members and pool entries that the words name. The judged class is class 1, her method 2. -/
namespace start1
open Jvm.ClassFile
def u (s : String) : CpInfo := .utf8 (stringToUtf16 s)
/-- a pool by its gaps: so many unusable entries, then the entry; so many at the end -/
def gap : Nat → List CpInfo → List CpInfo
  | 0, r => r
  | n + 1, r => .unusable :: gap n r
def poolList (es : List (Nat × CpInfo)) (last : Nat) : List CpInfo := es.foldr (fun e r => gap e.1 (e.2 :: r)) (gap last [])
def pool (es : List (Nat × CpInfo)) (last : Nat) : Array CpInfo := ⟨poolList es last⟩
def fileOf (pool : Array CpInfo) (this : Nat) (attrs : Array Attribute := #[]) (ms : Array MethodInfo := #[]) (fl : Nat := 33) (sup : Nat := 0) (ifs : Array Nat := #[]) (fds : Array FieldInfo := #[]) : ClassFile where
  minorVersion := 0
  majorVersion := 65
  constantPool := pool
  accessFlags := fl
  thisClass := this
  superClass := sup
  interfaces := ifs
  fields := fds
  methods := ms
  attributes := attrs
def plain (name : String) (sup : Option ClassId) : Class where
  name := name
  kind := .ordinary
  loader := none
  accessFlags := 33
  super := sup
  interfaces := #[]
  cf := none
  fields := #[]
  methods := #[]
  instanceTypes := #[]
  staticTypes := #[]
  resolved := #[]
  callSites := []
  init := .initialized
  statics := none
  mirror := none

def pool0 : Array CpInfo := pool [(5, u "<init>"), (0, u "()V"), (1, .class_ 10), (1, u "java/lang/Object")] 113

def k0c0 : Code := { maxStack := 0, maxLocals := 1, code := object_method_1_code, exceptionTable := #[], attributes := #[] }
def k0m0 : Method := { name := "<init>", desc := "()V", sig := { parameters := [], returnType := none }, accessFlags := 1, code := some k0c0 }
/-- java/lang/Object -/
def k0 : Class := { plain "java/lang/Object" none with
  accessFlags := 33
  interfaces := #[]
  cf := some (fileOf pool0 8 #[] #[{ accessFlags := 1, nameIndex := 5, descriptorIndex := 6, attributes := #[] }] 33 0 #[] #[])
  fields := #[]
  methods := #[k0m0]
  instanceTypes := #[]
  staticTypes := #[]
  resolved := Array.replicate 124 none
  statics := none }

def pool1 : Array CpInfo := pool [(2, .class_ 4), (1, u "java/lang/Object"), (0, u "<init>"), (0, u "()V"), (0, .long 255), (1, .integer 2147483647), (0, .methodref 11 12), (0, .class_ 13), (0, .nameAndType 14 15), (0, u "com/example/facetwork/facetwork/cli/LoggingIsVerbosePinLaw"), (0, u "pick"), (0, u "(JZ)C"), (0, .class_ 17), (0, u "java/lang/String"), (0, .methodref 16 19), (0, .nameAndType 5 20), (0, u "([C)V"), (0, .methodref 22 23), (0, .class_ 24), (0, .nameAndType 25 26), (0, u "com/example/facetwork/facetwork/cli/Logging"), (0, u "isVerbose"), (0, u "(Ljava/lang/String;)Z"), (3, u "law"), (0, u "(JIII)Z")] 4

def k1m0 : Method := { name := "<init>", desc := "()V", sig := { parameters := [], returnType := none }, accessFlags := 2, code := none }
def k1c1 : Code := { maxStack := 4, maxLocals := 5, code := method_2_code, exceptionTable := #[], attributes := #[] }
def k1m1 : Method := { name := "pick", desc := "(JZ)C", sig := { parameters := [.long, .boolean], returnType := some .char }, accessFlags := 10, code := some k1c1 }
def k1c2 : Code := { maxStack := 3, maxLocals := 22, code := code, exceptionTable := #[], attributes := #[] }
def k1m2 : Method := { name := "law", desc := "(JIII)Z", sig := { parameters := [.long, .int, .int, .int], returnType := some .boolean }, accessFlags := 9, code := some k1c2 }
/-- com/example/facetwork/facetwork/cli/LoggingIsVerbosePinLaw -/
def k1 : Class := { plain "com/example/facetwork/facetwork/cli/LoggingIsVerbosePinLaw" (some 0) with
  accessFlags := 49
  interfaces := #[]
  cf := some (fileOf pool1 11 #[] #[{ accessFlags := 2, nameIndex := 5, descriptorIndex := 6, attributes := #[] }, { accessFlags := 10, nameIndex := 14, descriptorIndex := 15, attributes := #[] }, { accessFlags := 9, nameIndex := 30, descriptorIndex := 31, attributes := #[] }] 49 2 #[] #[])
  fields := #[]
  methods := #[k1m0, k1m1, k1m2]
  instanceTypes := #[]
  staticTypes := #[]
  resolved := Array.replicate 36 none
  statics := none }

def pool2 : Array CpInfo := pool [(1, .class_ 2), (0, u "java/io/Serializable"), (0, .class_ 4), (0, u "java/lang/Object")] 2

/-- java/io/Serializable -/
def k2 : Class := { plain "java/io/Serializable" (some 0) with
  accessFlags := 1537
  interfaces := #[]
  cf := some (fileOf pool2 1 #[] #[] 1537 3 #[] #[])
  fields := #[]
  methods := #[]
  instanceTypes := #[]
  staticTypes := #[]
  resolved := Array.replicate 7 none
  statics := none }

def pool3 : Array CpInfo := pool [(1, .class_ 2), (0, u "java/lang/Comparable"), (0, .class_ 4), (0, u "java/lang/Object")] 7

/-- java/lang/Comparable -/
def k3 : Class := { plain "java/lang/Comparable" (some 0) with
  accessFlags := 1537
  interfaces := #[]
  cf := some (fileOf pool3 1 #[] #[] 1537 3 #[] #[])
  fields := #[]
  methods := #[]
  instanceTypes := #[]
  staticTypes := #[]
  resolved := Array.replicate 12 none
  statics := none }

def pool4 : Array CpInfo := pool [(2, .class_ 4), (1, u "java/lang/CharSequence"), (42, .class_ 48), (0, u "java/lang/CharSequence$1CodePointIterator"), (10, .class_ 60), (0, u "java/lang/CharSequence$1CharIterator"), (5, .class_ 67), (0, u "java/lang/Object")] 63

/-- java/lang/CharSequence -/
def k4 : Class := { plain "java/lang/CharSequence" (some 0) with
  accessFlags := 1537
  interfaces := #[]
  cf := some (fileOf pool4 2 #[.nestMembers #[47, 59]] #[] 1537 66 #[] #[])
  fields := #[]
  methods := #[]
  instanceTypes := #[]
  staticTypes := #[]
  resolved := Array.replicate 131 none
  statics := none }

def pool5 : Array CpInfo := pool [(1, .class_ 2), (0, u "java/lang/constant/Constable"), (0, .class_ 4), (0, u "java/lang/Object")] 6

/-- java/lang/constant/Constable -/
def k5 : Class := { plain "java/lang/constant/Constable" (some 0) with
  accessFlags := 1537
  interfaces := #[]
  cf := some (fileOf pool5 1 #[] #[] 1537 3 #[] #[])
  fields := #[]
  methods := #[]
  instanceTypes := #[]
  staticTypes := #[]
  resolved := Array.replicate 11 none
  statics := none }

def pool6 : Array CpInfo := pool [(1, .class_ 2), (0, u "java/lang/constant/ConstantDesc"), (0, .class_ 4), (0, u "java/lang/Object")] 32

/-- java/lang/constant/ConstantDesc -/
def k6 : Class := { plain "java/lang/constant/ConstantDesc" (some 0) with
  accessFlags := 1537
  interfaces := #[]
  cf := some (fileOf pool6 1 #[] #[] 1537 3 #[] #[])
  fields := #[]
  methods := #[]
  instanceTypes := #[]
  staticTypes := #[]
  resolved := Array.replicate 37 none
  statics := none }

def pool7 : Array CpInfo := pool [(1, .methodref 2 3), (0, .class_ 4), (0, .nameAndType 5 6), (0, u "java/lang/Object"), (0, u "<init>"), (0, u "()V"), (0, .string 8), (0, u ""), (0, .fieldref 10 11), (0, .class_ 12), (0, .nameAndType 13 14), (0, u "java/lang/String"), (0, u "value"), (0, u "[B"), (0, .fieldref 10 16), (0, .nameAndType 17 18), (0, u "coder"), (0, u "B"), (2, u "hash"), (0, u "I"), (2, u "hashIsZero"), (0, u "Z"), (0, .methodref 10 28), (0, .nameAndType 5 29), (0, u "([CIILjava/lang/Void;)V"), (8, .fieldref 10 39), (0, .nameAndType 40 26), (0, u "COMPACT_STRINGS"), (1, .class_ 44), (1, u "java/lang/StringUTF16"), (0, u "compress"), (1, .methodref 42 48), (0, .nameAndType 49 50), (0, u "coderFromArrayLen"), (0, u "([BI)B"), (56, .class_ 109), (1, u "java/lang/StringLatin1"), (67, .methodref 42 178), (0, .nameAndType 45 179), (0, u "([CII)[B"), (361, .methodref 107 542), (0, .nameAndType 543 544), (0, u "equals"), (0, u "([B[B)Z"), (28, u "(Ljava/lang/Object;)Z"), (1, .class_ 576), (0, u "java/lang/CharSequence"), (22, u "CASE_INSENSITIVE_ORDER"), (0, u "Ljava/util/Comparator;"), (409, u "([C)V"), (90, u "serialPersistentFields"), (0, u "[Ljava/io/ObjectStreamField;"), (0, .class_ 1104), (0, u "java/lang/String$CaseInsensitiveComparator"), (1, .class_ 1107), (0, u "java/io/Serializable"), (0, .class_ 1109), (0, u "java/lang/Comparable"), (0, .class_ 1111), (0, u "java/lang/constant/Constable"), (0, .class_ 1113), (0, u "java/lang/constant/ConstantDesc"), (2, u "serialVersionUID"), (0, u "J"), (3, u "REPL"), (0, u "C"), (2, u "LATIN1"), (1, u "UTF16")] 323

def k7m0 : Method := { name := "<init>", desc := "()V", sig := { parameters := [], returnType := none }, accessFlags := 1, code := none }
def k7c1 : Code := { maxStack := 5, maxLocals := 2, code := jdk_42_method_3_code, exceptionTable := #[], attributes := #[] }
def k7m1 : Method := { name := "<init>", desc := "([C)V", sig := { parameters := [(.array .char)], returnType := none }, accessFlags := 1, code := some k7c1 }
def k7c2 : Code := { maxStack := 2, maxLocals := 3, code := jdk_42_method_66_code, exceptionTable := #[], attributes := #[] }
def k7m2 : Method := { name := "equals", desc := "(Ljava/lang/Object;)Z", sig := { parameters := [(.object "java/lang/Object")], returnType := some .boolean }, accessFlags := 1, code := some k7c2 }
def k7c3 : Code := { maxStack := 4, maxLocals := 6, code := jdk_42_method_149_code, exceptionTable := #[], attributes := #[] }
def k7m3 : Method := { name := "<init>", desc := "([CIILjava/lang/Void;)V", sig := { parameters := [(.array .char), .int, .int, (.object "java/lang/Void")], returnType := none }, accessFlags := 2, code := some k7c3 }
/-- java/lang/String -/
def k7 : Class := { plain "java/lang/String" (some 0) with
  accessFlags := 49
  interfaces := #[2, 3, 4, 5, 6]
  cf := some (fileOf pool7 10 #[.nestMembers #[1103]] #[{ accessFlags := 1, nameIndex := 5, descriptorIndex := 6, attributes := #[] }, { accessFlags := 1, nameIndex := 5, descriptorIndex := 1010, attributes := #[] }, { accessFlags := 1, nameIndex := 543, descriptorIndex := 573, attributes := #[] }, { accessFlags := 2, nameIndex := 5, descriptorIndex := 29, attributes := #[] }] 49 2 #[1106, 1108, 575, 1110, 1112] #[{ accessFlags := 18, nameIndex := 13, descriptorIndex := 14, attributes := #[] }, { accessFlags := 18, nameIndex := 17, descriptorIndex := 18, attributes := #[] }, { accessFlags := 2, nameIndex := 21, descriptorIndex := 22, attributes := #[] }, { accessFlags := 2, nameIndex := 25, descriptorIndex := 26, attributes := #[] }, { accessFlags := 26, nameIndex := 1116, descriptorIndex := 1117, attributes := #[] }, { accessFlags := 24, nameIndex := 40, descriptorIndex := 26, attributes := #[] }, { accessFlags := 26, nameIndex := 1101, descriptorIndex := 1102, attributes := #[] }, { accessFlags := 26, nameIndex := 1121, descriptorIndex := 1122, attributes := #[] }, { accessFlags := 25, nameIndex := 599, descriptorIndex := 600, attributes := #[] }, { accessFlags := 24, nameIndex := 1125, descriptorIndex := 18, attributes := #[] }, { accessFlags := 24, nameIndex := 1127, descriptorIndex := 18, attributes := #[] }])
  fields := #[{ name := "value", type := (.array .byte), accessFlags := 18, slot := 0, constantValue := 0 }, { name := "coder", type := .byte, accessFlags := 18, slot := 1, constantValue := 0 }, { name := "hash", type := .int, accessFlags := 2, slot := 2, constantValue := 0 }, { name := "hashIsZero", type := .boolean, accessFlags := 2, slot := 3, constantValue := 0 }, { name := "serialVersionUID", type := .long, accessFlags := 26, slot := 0, constantValue := 0 }, { name := "COMPACT_STRINGS", type := .boolean, accessFlags := 24, slot := 1, constantValue := 0 }, { name := "serialPersistentFields", type := (.array (.object "java/io/ObjectStreamField")), accessFlags := 26, slot := 2, constantValue := 0 }, { name := "REPL", type := .char, accessFlags := 26, slot := 3, constantValue := 0 }, { name := "CASE_INSENSITIVE_ORDER", type := (.object "java/util/Comparator"), accessFlags := 25, slot := 4, constantValue := 0 }, { name := "LATIN1", type := .byte, accessFlags := 24, slot := 5, constantValue := 0 }, { name := "UTF16", type := .byte, accessFlags := 24, slot := 6, constantValue := 0 }]
  methods := #[k7m0, k7m1, k7m2, k7m3]
  instanceTypes := #[(.array .byte), .byte, .int, .boolean]
  staticTypes := #[.long, .boolean, (.array (.object "java/io/ObjectStreamField")), .char, (.object "java/util/Comparator"), .byte, .byte]
  resolved := Array.replicate 1451 none
  statics := some 0 }

def pool8 : Array CpInfo := pool [(6, .class_ 8), (1, u "java/lang/Object"), (0, u "<init>"), (0, u "()V"), (1, .class_ 14), (1, u "java/lang/StringUTF16"), (31, u "$assertionsDisabled"), (0, u "Z"), (13, u "HI_BYTE_SHIFT"), (0, u "I"), (2, u "LO_BYTE_SHIFT"), (49, .methodref 12 116), (0, .nameAndType 117 118), (0, u "compress"), (0, u "([CI[BII)I"), (3, u "([CII)[B"), (138, u "coderFromArrayLen"), (0, u "([BI)B"), (106, .class_ 371), (1, u "java/lang/StringUTF16$LinesSpliterator"), (58, u "MAX_LENGTH"), (196, .class_ 628), (0, u "java/lang/StringUTF16$CodePointsSpliterator"), (0, .class_ 630), (0, u "java/lang/StringUTF16$CharsSpliterator")] 4

def k8m0 : Method := { name := "<init>", desc := "()V", sig := { parameters := [], returnType := none }, accessFlags := 0, code := none }
def k8c1 : Code := { maxStack := 2, maxLocals := 2, code := jdk_52_method_15_code, exceptionTable := #[], attributes := #[] }
def k8m1 : Method := { name := "coderFromArrayLen", desc := "([BI)B", sig := { parameters := [(.array .byte), .int], returnType := some .byte }, accessFlags := 8, code := some k8c1 }
def k8c2 : Code := { maxStack := 5, maxLocals := 6, code := jdk_52_method_16_code, exceptionTable := #[], attributes := #[] }
def k8m2 : Method := { name := "compress", desc := "([CII)[B", sig := { parameters := [(.array .char), .int, .int], returnType := some (.array .byte) }, accessFlags := 9, code := some k8c2 }
def k8c3 : Code := { maxStack := 3, maxLocals := 7, code := jdk_52_method_21_code, exceptionTable := #[], attributes := #[] }
def k8m3 : Method := { name := "compress", desc := "([CI[BII)I", sig := { parameters := [(.array .char), .int, (.array .byte), .int, .int], returnType := some .int }, accessFlags := 9, code := some k8c3 }
/-- java/lang/StringUTF16 -/
def k8 : Class := { plain "java/lang/StringUTF16" (some 0) with
  accessFlags := 48
  interfaces := #[]
  cf := some (fileOf pool8 12 #[.nestMembers #[627, 629, 369]] #[{ accessFlags := 0, nameIndex := 9, descriptorIndex := 10, attributes := #[] }, { accessFlags := 8, nameIndex := 261, descriptorIndex := 262, attributes := #[] }, { accessFlags := 9, nameIndex := 117, descriptorIndex := 122, attributes := #[] }, { accessFlags := 9, nameIndex := 117, descriptorIndex := 118, attributes := #[] }] 48 6 #[] #[{ accessFlags := 26, nameIndex := 61, descriptorIndex := 62, attributes := #[] }, { accessFlags := 26, nameIndex := 65, descriptorIndex := 62, attributes := #[] }, { accessFlags := 24, nameIndex := 430, descriptorIndex := 62, attributes := #[] }, { accessFlags := 4120, nameIndex := 46, descriptorIndex := 47, attributes := #[] }])
  fields := #[{ name := "HI_BYTE_SHIFT", type := .int, accessFlags := 26, slot := 0, constantValue := 0 }, { name := "LO_BYTE_SHIFT", type := .int, accessFlags := 26, slot := 1, constantValue := 0 }, { name := "MAX_LENGTH", type := .int, accessFlags := 24, slot := 2, constantValue := 0 }, { name := "$assertionsDisabled", type := .boolean, accessFlags := 4120, slot := 3, constantValue := 0 }]
  methods := #[k8m0, k8m1, k8m2, k8m3]
  instanceTypes := #[]
  staticTypes := #[.int, .int, .int, .boolean]
  resolved := Array.replicate 635 none
  statics := none }

def pool9 : Array CpInfo := pool [(2, .class_ 4), (1, u "java/lang/Object"), (0, u "<init>"), (0, u "()V"), (0, .class_ 8), (0, u "com/example/facetwork/facetwork/cli/Logging"), (0, .string 10), (0, u "--verbose"), (0, .methodref 12 13), (0, .class_ 14), (0, .nameAndType 15 16), (0, u "java/lang/String"), (0, u "equals"), (0, u "(Ljava/lang/Object;)Z"), (0, .string 18), (0, u "-v"), (12, u "isVerbose"), (0, u "(Ljava/lang/String;)Z"), (10, u "VERBOSE"), (0, u "Ljava/lang/String;"), (1, u "VERBOSE_SHORT"), (0, u "LEVEL")] 9

def k9m0 : Method := { name := "<init>", desc := "()V", sig := { parameters := [], returnType := none }, accessFlags := 2, code := none }
def k9c1 : Code := { maxStack := 2, maxLocals := 1, code := prog_5_method_2_code, exceptionTable := #[], attributes := #[] }
def k9m1 : Method := { name := "isVerbose", desc := "(Ljava/lang/String;)Z", sig := { parameters := [(.object "java/lang/String")], returnType := some .boolean }, accessFlags := 8, code := some k9c1 }
/-- com/example/facetwork/facetwork/cli/Logging -/
def k9 : Class := { plain "com/example/facetwork/facetwork/cli/Logging" (some 0) with
  accessFlags := 48
  interfaces := #[]
  cf := some (fileOf pool9 7 #[] #[{ accessFlags := 2, nameIndex := 5, descriptorIndex := 6, attributes := #[] }, { accessFlags := 8, nameIndex := 31, descriptorIndex := 32, attributes := #[] }] 48 2 #[] #[{ accessFlags := 24, nameIndex := 43, descriptorIndex := 44, attributes := #[] }, { accessFlags := 24, nameIndex := 46, descriptorIndex := 44, attributes := #[] }, { accessFlags := 26, nameIndex := 47, descriptorIndex := 44, attributes := #[] }])
  fields := #[{ name := "VERBOSE", type := (.object "java/lang/String"), accessFlags := 24, slot := 0, constantValue := 0 }, { name := "VERBOSE_SHORT", type := (.object "java/lang/String"), accessFlags := 24, slot := 1, constantValue := 0 }, { name := "LEVEL", type := (.object "java/lang/String"), accessFlags := 26, slot := 2, constantValue := 0 }]
  methods := #[k9m0, k9m1]
  instanceTypes := #[]
  staticTypes := #[(.object "java/lang/String"), (.object "java/lang/String"), (.object "java/lang/String")]
  resolved := Array.replicate 57 none
  statics := none }

def pool10 : Array CpInfo := pool [(4, .class_ 6), (1, u "java/lang/Object"), (0, u "<init>"), (0, u "()V"), (5, .class_ 16), (1, u "java/lang/StringLatin1"), (104, u "$assertionsDisabled"), (0, u "Z"), (98, .class_ 223), (1, u "java/lang/StringLatin1$LinesSpliterator"), (57, u "equals"), (0, u "([B[B)Z"), (107, .class_ 391), (0, u "java/lang/StringLatin1$CharsSpliterator")] 3

def k10m0 : Method := { name := "<init>", desc := "()V", sig := { parameters := [], returnType := none }, accessFlags := 0, code := none }
def k10c1 : Code := { maxStack := 3, maxLocals := 3, code := jdk_43_method_13_code, exceptionTable := #[], attributes := #[] }
def k10m1 : Method := { name := "equals", desc := "([B[B)Z", sig := { parameters := [(.array .byte), (.array .byte)], returnType := some .boolean }, accessFlags := 9, code := some k10c1 }
/-- java/lang/StringLatin1 -/
def k10 : Class := { plain "java/lang/StringLatin1" (some 0) with
  accessFlags := 48
  interfaces := #[]
  cf := some (fileOf pool10 14 #[.nestMembers #[390, 221]] #[{ accessFlags := 0, nameIndex := 7, descriptorIndex := 8, attributes := #[] }, { accessFlags := 9, nameIndex := 281, descriptorIndex := 282, attributes := #[] }] 48 4 #[] #[{ accessFlags := 4120, nameIndex := 121, descriptorIndex := 122, attributes := #[] }])
  fields := #[{ name := "$assertionsDisabled", type := .boolean, accessFlags := 4120, slot := 0, constantValue := 0 }]
  methods := #[k10m0, k10m1]
  instanceTypes := #[]
  staticTypes := #[.boolean]
  resolved := Array.replicate 395 none
  statics := none }

def pool11 : Array CpInfo := pool [(2, .class_ 4), (1, u "java/lang/Object"), (0, u "<init>"), (0, u "()V"), (17, .class_ 26), (1, u "jdk/internal/util/Preconditions"), (28, .class_ 56), (0, u "jdk/internal/util/Preconditions$4"), (57, .class_ 115), (0, u "jdk/internal/util/Preconditions$1"), (7, u "SIOOBE_FORMATTER"), (0, u "Ljava/util/function/BiFunction;"), (0, .class_ 126), (0, u "jdk/internal/util/Preconditions$2"), (3, u "AIOOBE_FORMATTER"), (0, .class_ 132), (0, u "jdk/internal/util/Preconditions$3"), (3, u "IOOBE_FORMATTER")] 57

def k11m0 : Method := { name := "<init>", desc := "()V", sig := { parameters := [], returnType := none }, accessFlags := 1, code := none }
/-- jdk/internal/util/Preconditions -/
def k11 : Class := { plain "jdk/internal/util/Preconditions" (some 0) with
  accessFlags := 33
  interfaces := #[]
  cf := some (fileOf pool11 24 #[.nestMembers #[55, 131, 125, 114]] #[{ accessFlags := 1, nameIndex := 5, descriptorIndex := 6, attributes := #[] }] 33 2 #[] #[{ accessFlags := 25, nameIndex := 123, descriptorIndex := 124, attributes := #[] }, { accessFlags := 25, nameIndex := 130, descriptorIndex := 124, attributes := #[] }, { accessFlags := 25, nameIndex := 136, descriptorIndex := 124, attributes := #[] }])
  fields := #[{ name := "SIOOBE_FORMATTER", type := (.object "java/util/function/BiFunction"), accessFlags := 25, slot := 0, constantValue := 0 }, { name := "AIOOBE_FORMATTER", type := (.object "java/util/function/BiFunction"), accessFlags := 25, slot := 1, constantValue := 0 }, { name := "IOOBE_FORMATTER", type := (.object "java/util/function/BiFunction"), accessFlags := 25, slot := 2, constantValue := 0 }]
  methods := #[k11m0]
  instanceTypes := #[]
  staticTypes := #[(.object "java/util/function/BiFunction"), (.object "java/util/function/BiFunction"), (.object "java/util/function/BiFunction")]
  resolved := Array.replicate 194 none
  statics := some 1 }

def pool12 : Array CpInfo := pool [(9, u "<init>"), (6, .class_ 18), (1, u "java/lang/Object"), (0, u "()V"), (1, .class_ 23), (1, u "jdk/internal/util/ArraysSupport"), (0, u "LOG2_ARRAY_LONG_INDEX_SCALE"), (0, u "I"), (2, u "U"), (0, u "Ljdk/internal/misc/Unsafe;"), (8, u "BIG_ENDIAN"), (0, u "Z"), (8, u "LOG2_BYTE_BIT_SIZE"), (4, u "LOG2_ARRAY_INT_INDEX_SCALE"), (54, u "JLA"), (0, u "Ljdk/internal/access/JavaLangAccess;"), (11, u "LOG2_ARRAY_BOOLEAN_INDEX_SCALE"), (9, u "LOG2_ARRAY_BYTE_INDEX_SCALE"), (5, u "LOG2_ARRAY_CHAR_INDEX_SCALE"), (5, u "LOG2_ARRAY_SHORT_INDEX_SCALE"), (18, u "LOG2_ARRAY_FLOAT_INDEX_SCALE"), (24, u "LOG2_ARRAY_DOUBLE_INDEX_SCALE"), (89, u "T_BOOLEAN"), (2, u "T_CHAR"), (1, u "T_FLOAT"), (1, u "T_DOUBLE"), (1, u "T_BYTE"), (1, u "T_SHORT"), (1, u "T_INT"), (1, u "T_LONG"), (1, u "SOFT_MAX_ARRAY_LENGTH")] 83

def k12m0 : Method := { name := "<init>", desc := "()V", sig := { parameters := [], returnType := none }, accessFlags := 2, code := none }
/-- jdk/internal/util/ArraysSupport -/
def k12 : Class := { plain "jdk/internal/util/ArraysSupport" (some 0) with
  accessFlags := 33
  interfaces := #[]
  cf := some (fileOf pool12 21 #[] #[{ accessFlags := 2, nameIndex := 9, descriptorIndex := 19, attributes := #[] }] 33 16 #[] #[{ accessFlags := 24, nameIndex := 28, descriptorIndex := 29, attributes := #[] }, { accessFlags := 26, nameIndex := 38, descriptorIndex := 39, attributes := #[] }, { accessFlags := 25, nameIndex := 121, descriptorIndex := 25, attributes := #[] }, { accessFlags := 25, nameIndex := 131, descriptorIndex := 25, attributes := #[] }, { accessFlags := 25, nameIndex := 137, descriptorIndex := 25, attributes := #[] }, { accessFlags := 25, nameIndex := 143, descriptorIndex := 25, attributes := #[] }, { accessFlags := 25, nameIndex := 53, descriptorIndex := 25, attributes := #[] }, { accessFlags := 25, nameIndex := 24, descriptorIndex := 25, attributes := #[] }, { accessFlags := 25, nameIndex := 162, descriptorIndex := 25, attributes := #[] }, { accessFlags := 25, nameIndex := 187, descriptorIndex := 25, attributes := #[] }, { accessFlags := 26, nameIndex := 48, descriptorIndex := 25, attributes := #[] }, { accessFlags := 25, nameIndex := 277, descriptorIndex := 25, attributes := #[] }, { accessFlags := 25, nameIndex := 280, descriptorIndex := 25, attributes := #[] }, { accessFlags := 25, nameIndex := 282, descriptorIndex := 25, attributes := #[] }, { accessFlags := 25, nameIndex := 284, descriptorIndex := 25, attributes := #[] }, { accessFlags := 25, nameIndex := 286, descriptorIndex := 25, attributes := #[] }, { accessFlags := 25, nameIndex := 288, descriptorIndex := 25, attributes := #[] }, { accessFlags := 25, nameIndex := 290, descriptorIndex := 25, attributes := #[] }, { accessFlags := 25, nameIndex := 292, descriptorIndex := 25, attributes := #[] }, { accessFlags := 26, nameIndex := 108, descriptorIndex := 109, attributes := #[] }, { accessFlags := 25, nameIndex := 294, descriptorIndex := 25, attributes := #[] }])
  fields := #[{ name := "U", type := (.object "jdk/internal/misc/Unsafe"), accessFlags := 24, slot := 0, constantValue := 0 }, { name := "BIG_ENDIAN", type := .boolean, accessFlags := 26, slot := 1, constantValue := 0 }, { name := "LOG2_ARRAY_BOOLEAN_INDEX_SCALE", type := .int, accessFlags := 25, slot := 2, constantValue := 0 }, { name := "LOG2_ARRAY_BYTE_INDEX_SCALE", type := .int, accessFlags := 25, slot := 3, constantValue := 0 }, { name := "LOG2_ARRAY_CHAR_INDEX_SCALE", type := .int, accessFlags := 25, slot := 4, constantValue := 0 }, { name := "LOG2_ARRAY_SHORT_INDEX_SCALE", type := .int, accessFlags := 25, slot := 5, constantValue := 0 }, { name := "LOG2_ARRAY_INT_INDEX_SCALE", type := .int, accessFlags := 25, slot := 6, constantValue := 0 }, { name := "LOG2_ARRAY_LONG_INDEX_SCALE", type := .int, accessFlags := 25, slot := 7, constantValue := 0 }, { name := "LOG2_ARRAY_FLOAT_INDEX_SCALE", type := .int, accessFlags := 25, slot := 8, constantValue := 0 }, { name := "LOG2_ARRAY_DOUBLE_INDEX_SCALE", type := .int, accessFlags := 25, slot := 9, constantValue := 0 }, { name := "LOG2_BYTE_BIT_SIZE", type := .int, accessFlags := 26, slot := 10, constantValue := 0 }, { name := "T_BOOLEAN", type := .int, accessFlags := 25, slot := 11, constantValue := 0 }, { name := "T_CHAR", type := .int, accessFlags := 25, slot := 12, constantValue := 0 }, { name := "T_FLOAT", type := .int, accessFlags := 25, slot := 13, constantValue := 0 }, { name := "T_DOUBLE", type := .int, accessFlags := 25, slot := 14, constantValue := 0 }, { name := "T_BYTE", type := .int, accessFlags := 25, slot := 15, constantValue := 0 }, { name := "T_SHORT", type := .int, accessFlags := 25, slot := 16, constantValue := 0 }, { name := "T_INT", type := .int, accessFlags := 25, slot := 17, constantValue := 0 }, { name := "T_LONG", type := .int, accessFlags := 25, slot := 18, constantValue := 0 }, { name := "JLA", type := (.object "jdk/internal/access/JavaLangAccess"), accessFlags := 26, slot := 19, constantValue := 0 }, { name := "SOFT_MAX_ARRAY_LENGTH", type := .int, accessFlags := 25, slot := 20, constantValue := 0 }]
  methods := #[k12m0]
  instanceTypes := #[]
  staticTypes := #[(.object "jdk/internal/misc/Unsafe"), .boolean, .int, .int, .int, .int, .int, .int, .int, .int, .int, .int, .int, .int, .int, .int, .int, .int, .int, (.object "jdk/internal/access/JavaLangAccess"), .int]
  resolved := Array.replicate 378 none
  statics := none }

def pool13 : Array CpInfo := pool [(1, u "java/lang/Cloneable"), (0, .class_ 1), (0, u "java/lang/Object"), (0, .class_ 3)] 3

/-- java/lang/Cloneable -/
def k13 : Class := { plain "java/lang/Cloneable" (some 0) with
  accessFlags := 1537
  interfaces := #[]
  cf := some (fileOf pool13 2 #[] #[] 1537 4 #[] #[])
  fields := #[]
  methods := #[]
  instanceTypes := #[]
  staticTypes := #[]
  resolved := Array.replicate 8 none
  statics := none }

/-- the primitive byte -/
def k14 : Class := { plain "byte" none with kind := .primitive 'B', accessFlags := 0x411 }
/-- [B -/
def k15 : Class := { plain "[B" (some 0) with kind := .array 14 .byte, interfaces := #[13, 2], accessFlags := 1041 }

/-- the primitive char -/
def k16 : Class := { plain "char" none with kind := .primitive 'C', accessFlags := 0x411 }
/-- [C -/
def k17 : Class := { plain "[C" (some 0) with kind := .array 16 .char, interfaces := #[13, 2], accessFlags := 1041 }

/-- the primitive int -/
def k18 : Class := { plain "int" none with kind := .primitive 'I', accessFlags := 0x411 }
/-- [I -/
def k19 : Class := { plain "[I" (some 0) with kind := .array 18 .int, interfaces := #[13, 2], accessFlags := 1041 }

def heap : Heap := #[{ cls := 7, slots := #[.long 0, .int 1, .null, .int 0, .null, .int 0, .int 0], vm := .statics 7 },
  { cls := 11, slots := #[.null, .null, .null], vm := .statics 11 }]
def classes : Array Class := #[k0, k1, k2, k3, k4, k5, k6, k7, k8, k9, k10, k11, k12, k13, k14, k15, k16, k17, k18, k19]
def interned : List (Array UInt16 × Addr) := []
def slotsUsed : Nat := 10
def theMethod : MethodId := ⟨1, 2⟩
def args0 : Array Value := #[.long 5, .int 6, .int 7, .int 8]
def aboutOver (below : List Frame) : State where
  vm := { classes := classes, interned := interned.toArray }
  heap := heap
  slotsUsed := slotsUsed
  threads := #[{ frames := .invoking theMethod args0 :: below }]
def below0 : List Frame := [.native { method := ⟨0, 0⟩, args := #[] }]
def about1 : State := aboutOver below0
def p0 : Program := .bare "" "" ""
def e0 : Env := launch0.env 0 0 0
theorem w_frames : about1.frames = Frame.invoking theMethod args0 :: below0 := rfl
set_option maxRecDepth 65536 in
theorem w_args : argsFit about1.vm theMethod args0 = true := by decide +kernel
set_option maxRecDepth 65536 in
theorem w_heap : heapFits about1 = true := by decide +kernel
set_option maxRecDepth 65536 in
theorem w_runnable : about1.curStatus? = some .runnable := by decide +kernel
set_option maxRecDepth 65536 in
theorem w_alone : about1.alone = true := by decide +kernel
set_option maxRecDepth 65536 in
theorem w_named : about1.methodNamed? x = some theMethod := by decide +kernel
set_option maxRecDepth 65536 in
theorem w_hears : about1.hears theMethod below0 = true := by decide +kernel
set_option maxRecDepth 65536 in
theorem w_ripe : about1.ripe theMethod args0 below0 = true := by decide +kernel
theorem w_running : about1.status = .running := rfl
set_option maxRecDepth 65536 in
theorem w_room : about1.hasRoom e0.platform room_1 = true :=
  launch0.hasRoom_least _ room_1 (by decide +kernel) (by decide +kernel) (by decide +kernel) (by decide +kernel) (by decide +kernel) (by decide +kernel)
theorem allAtoms_all (ts : List Jvm.Cond) (a : Array Jvm.Value) (st : Jvm.State) : (allAtoms ts).before a st = ts.all (fun c => c.before a st) := by
  induction ts with
  | nil => rfl
  | cons c t ih =>
    show (Jvm.Cond.and c (allAtoms t)).before a st = _
    rw [Jvm.Cond.before_and, ih, List.all_cons]
def words1 : List Jvm.Cond := Jvm.Cond.code x code maxLocals ret :: tables_1
/-- a 'code' word, met by the world's own term for the bytes: nothing is compared byte by byte -/
theorem code_word {y : MethodName} {bytes : ByteArray} {mx : Nat} {rt : Option FieldType} {a : Array Value} {s : State} {m : MethodId} {meth : Method} {c : Code} (h1 : s.methodNamed? y = some m) (h2 : s.vm.method? m = some meth) (h3 : meth.code = some c) (h4 : c.code = bytes)
    (h5 : (c.maxLocals == mx && c.exceptionTable.isEmpty && decide (c.maxStack ≤ mostOperands) && decide (meth.sig.returnType = rt) && !meth.locks && decide (parseMethodDescriptor y.desc = some meth.sig)) = true) : (Jvm.Cond.code y bytes mx rt).before a s = true := by
  simp only [Bool.and_eq_true, beq_iff_eq, Bool.not_eq_true', decide_eq_true_eq] at h5
  obtain ⟨⟨⟨⟨⟨g1, g2⟩, g3⟩, g4⟩, g5⟩, g6⟩ := h5
  simp [Cond.before, Cond.holds, Cond.value, h1, h2, h3, h4, g1, g2, g3, g4, g5, g6]
def isCode : Jvm.Cond → Bool
  | .code _ _ _ _ => true
  | _ => false
theorem all_split {L : List Jvm.Cond} {P : Jvm.Cond → Bool} (h1 : L.all (fun c => isCode c || P c) = true) (h2 : ∀ c ∈ L.filter isCode, P c = true) : L.all P = true := by
  refine List.all_eq_true.mpr fun c hc => ?_
  have h := List.all_eq_true.mp h1 c hc
  rcases Bool.eq_false_or_eq_true (isCode c) with hi | hi
  · exact h2 c (List.mem_filter.mpr ⟨hc, hi⟩)
  · simpa [hi] using h
set_option maxRecDepth 65536 in
theorem w_c0 : (Jvm.Cond.code x code maxLocals ret).before args0 about1 = true := code_word (m := ⟨1, 2⟩) (meth := k1m2) (c := k1c2) (by decide +kernel) rfl rfl rfl (by decide +kernel)
set_option maxRecDepth 65536 in
theorem w_c1 : (Jvm.Cond.code ({ cls := "com/example/facetwork/facetwork/cli/LoggingIsVerbosePinLaw", name := "pick", desc := "(JZ)C" } : Jvm.MethodName) method_2_code (5 : Nat) (Option.some Jvm.ClassFile.FieldType.char)).before args0 about1 = true := code_word (m := ⟨1, 1⟩) (meth := k1m1) (c := k1c1) (by decide +kernel) rfl rfl rfl (by decide +kernel)
set_option maxRecDepth 65536 in
theorem w_c2 : (Jvm.Cond.code ({ cls := "java/lang/String", name := "<init>", desc := "([C)V" } : Jvm.MethodName) jdk_42_method_3_code (2 : Nat) (Option.none : Option Jvm.ClassFile.FieldType)).before args0 about1 = true := code_word (m := ⟨7, 1⟩) (meth := k7m1) (c := k7c1) (by decide +kernel) rfl rfl rfl (by decide +kernel)
set_option maxRecDepth 65536 in
theorem w_c3 : (Jvm.Cond.code ({ cls := "java/lang/String", name := "<init>", desc := "([CIILjava/lang/Void;)V" } : Jvm.MethodName) jdk_42_method_149_code (6 : Nat) (Option.none : Option Jvm.ClassFile.FieldType)).before args0 about1 = true := code_word (m := ⟨7, 3⟩) (meth := k7m3) (c := k7c3) (by decide +kernel) rfl rfl rfl (by decide +kernel)
set_option maxRecDepth 65536 in
theorem w_c4 : (Jvm.Cond.code ({ cls := "java/lang/Object", name := "<init>", desc := "()V" } : Jvm.MethodName) object_method_1_code (1 : Nat) (Option.none : Option Jvm.ClassFile.FieldType)).before args0 about1 = true := code_word (m := ⟨0, 0⟩) (meth := k0m0) (c := k0c0) (by decide +kernel) rfl rfl rfl (by decide +kernel)
set_option maxRecDepth 65536 in
theorem w_c5 : (Jvm.Cond.code ({ cls := "java/lang/StringUTF16", name := "compress", desc := "([CII)[B" } : Jvm.MethodName) jdk_52_method_16_code (6 : Nat) (Option.some (Jvm.ClassFile.FieldType.array Jvm.ClassFile.FieldType.byte))).before args0 about1 = true := code_word (m := ⟨8, 2⟩) (meth := k8m2) (c := k8c2) (by decide +kernel) rfl rfl rfl (by decide +kernel)
set_option maxRecDepth 65536 in
theorem w_c6 : (Jvm.Cond.code ({ cls := "java/lang/StringUTF16", name := "compress", desc := "([CI[BII)I" } : Jvm.MethodName) jdk_52_method_21_code (7 : Nat) (Option.some Jvm.ClassFile.FieldType.int)).before args0 about1 = true := code_word (m := ⟨8, 3⟩) (meth := k8m3) (c := k8c3) (by decide +kernel) rfl rfl rfl (by decide +kernel)
set_option maxRecDepth 65536 in
theorem w_c7 : (Jvm.Cond.code ({ cls := "java/lang/StringUTF16", name := "coderFromArrayLen", desc := "([BI)B" } : Jvm.MethodName) jdk_52_method_15_code (2 : Nat) (Option.some Jvm.ClassFile.FieldType.byte)).before args0 about1 = true := code_word (m := ⟨8, 1⟩) (meth := k8m1) (c := k8c1) (by decide +kernel) rfl rfl rfl (by decide +kernel)
set_option maxRecDepth 65536 in
theorem w_c8 : (Jvm.Cond.code ({ cls := "com/example/facetwork/facetwork/cli/Logging", name := "isVerbose", desc := "(Ljava/lang/String;)Z" } : Jvm.MethodName) prog_5_method_2_code (1 : Nat) (Option.some Jvm.ClassFile.FieldType.boolean)).before args0 about1 = true := code_word (m := ⟨9, 1⟩) (meth := k9m1) (c := k9c1) (by decide +kernel) rfl rfl rfl (by decide +kernel)
set_option maxRecDepth 65536 in
theorem w_c9 : (Jvm.Cond.code ({ cls := "java/lang/String", name := "equals", desc := "(Ljava/lang/Object;)Z" } : Jvm.MethodName) jdk_42_method_66_code (3 : Nat) (Option.some Jvm.ClassFile.FieldType.boolean)).before args0 about1 = true := code_word (m := ⟨7, 2⟩) (meth := k7m2) (c := k7c2) (by decide +kernel) rfl rfl rfl (by decide +kernel)
set_option maxRecDepth 65536 in
theorem w_c10 : (Jvm.Cond.code ({ cls := "java/lang/StringLatin1", name := "equals", desc := "([B[B)Z" } : Jvm.MethodName) jdk_43_method_13_code (3 : Nat) (Option.some Jvm.ClassFile.FieldType.boolean)).before args0 about1 = true := code_word (m := ⟨10, 1⟩) (meth := k10m1) (c := k10c1) (by decide +kernel) rfl rfl rfl (by decide +kernel)
def codes1 : List Jvm.Cond := [Jvm.Cond.code x code maxLocals ret, Jvm.Cond.code ({ cls := "com/example/facetwork/facetwork/cli/LoggingIsVerbosePinLaw", name := "pick", desc := "(JZ)C" } : Jvm.MethodName) method_2_code (5 : Nat) (Option.some Jvm.ClassFile.FieldType.char), Jvm.Cond.code ({ cls := "java/lang/String", name := "<init>", desc := "([C)V" } : Jvm.MethodName) jdk_42_method_3_code (2 : Nat) (Option.none : Option Jvm.ClassFile.FieldType), Jvm.Cond.code ({ cls := "java/lang/String", name := "<init>", desc := "([CIILjava/lang/Void;)V" } : Jvm.MethodName) jdk_42_method_149_code (6 : Nat) (Option.none : Option Jvm.ClassFile.FieldType), Jvm.Cond.code ({ cls := "java/lang/Object", name := "<init>", desc := "()V" } : Jvm.MethodName) object_method_1_code (1 : Nat) (Option.none : Option Jvm.ClassFile.FieldType), Jvm.Cond.code ({ cls := "java/lang/StringUTF16", name := "compress", desc := "([CII)[B" } : Jvm.MethodName) jdk_52_method_16_code (6 : Nat) (Option.some (Jvm.ClassFile.FieldType.array Jvm.ClassFile.FieldType.byte)), Jvm.Cond.code ({ cls := "java/lang/StringUTF16", name := "compress", desc := "([CI[BII)I" } : Jvm.MethodName) jdk_52_method_21_code (7 : Nat) (Option.some Jvm.ClassFile.FieldType.int), Jvm.Cond.code ({ cls := "java/lang/StringUTF16", name := "coderFromArrayLen", desc := "([BI)B" } : Jvm.MethodName) jdk_52_method_15_code (2 : Nat) (Option.some Jvm.ClassFile.FieldType.byte), Jvm.Cond.code ({ cls := "com/example/facetwork/facetwork/cli/Logging", name := "isVerbose", desc := "(Ljava/lang/String;)Z" } : Jvm.MethodName) prog_5_method_2_code (1 : Nat) (Option.some Jvm.ClassFile.FieldType.boolean), Jvm.Cond.code ({ cls := "java/lang/String", name := "equals", desc := "(Ljava/lang/Object;)Z" } : Jvm.MethodName) jdk_42_method_66_code (3 : Nat) (Option.some Jvm.ClassFile.FieldType.boolean), Jvm.Cond.code ({ cls := "java/lang/StringLatin1", name := "equals", desc := "([B[B)Z" } : Jvm.MethodName) jdk_43_method_13_code (3 : Nat) (Option.some Jvm.ClassFile.FieldType.boolean)]
set_option maxRecDepth 65536 in
theorem codes_eq : words1.filter isCode = codes1 := rfl
theorem w_codes : ∀ c ∈ words1.filter isCode, c.before args0 about1 = true := by
  rw [codes_eq]
  intro c hc
  simp only [codes1, List.mem_cons, List.not_mem_nil, or_false] at hc
  rcases hc with rfl | rfl | rfl | rfl | rfl | rfl | rfl | rfl | rfl | rfl | rfl
  · exact w_c0
  · exact w_c1
  · exact w_c2
  · exact w_c3
  · exact w_c4
  · exact w_c5
  · exact w_c6
  · exact w_c7
  · exact w_c8
  · exact w_c9
  · exact w_c10
set_option maxRecDepth 65536 in
theorem w_t1 : (words1.take 24).all (fun c => isCode c || c.before args0 about1) = true := by decide +kernel
set_option maxRecDepth 65536 in
theorem w_t2 : ((words1.drop 24).take 24).all (fun c => isCode c || c.before args0 about1) = true := by decide +kernel
set_option maxRecDepth 65536 in
theorem w_t3 : ((words1.drop 24).drop 24).all (fun c => isCode c || c.before args0 about1) = true := by decide +kernel
theorem w_tables : (allAtoms (Jvm.Cond.code x code maxLocals ret :: tables_1)).before args0 about1 = true := by
  rw [allAtoms_all]
  show words1.all (fun c => c.before args0 about1) = true
  refine all_split ?_ w_codes
  rw [← List.take_append_drop 24 words1, List.all_append, w_t1, ← List.take_append_drop 24 (words1.drop 24), List.all_append, w_t2, w_t3]
  rfl
set_option maxRecDepth 65536 in
theorem w_rest : rest_1_c.before args0 about1 = true := by decide +kernel
set_option maxRecDepth 65536 in
theorem w_case : (Jvm.Cond.and given_1 narrow_1).before args0 about1 = true := by decide +kernel
set_option maxRecDepth 65536 in
theorem w_consts : constsHeld consts_1 about1 := Jvm.Lit.constsHeldB_iff.mp (by decide +kernel)
theorem w_applies : (headSpec (Jvm.Cond.code x code maxLocals ret :: tables_1) room_1).applies x e0.platform about1 = true :=
  (Spec.applies_iff w_frames).mpr ⟨w_running, w_runnable, w_alone, w_named, w_hears, w_ripe, w_room, w_tables⟩
theorem atStart : AtStart classFile x code maxLocals ret World_1 tables_1 room_1 Calls_1 rest_1 Pre_1 launch0 p0 e0 about1 theMethod args0 below0 :=
  ⟨lists_1, trivial, launch0.admits_env _ _ _, launch0.least_env, fairChoices_fair.cas, fairChoices_fair.clock, w_frames, w_args, w_heap, w_applies, ⟨w_consts, trivial⟩, w_rest, w_case⟩
end start1
theorem witness_1 : WitnessClaimed_1 := ⟨start1.p0, start1.e0, start1.about1, start1.theMethod, start1.args0, start1.below0, start1.atStart⟩
end Jvm.Pilot.@@N@@
