import JvmDerived
import JvmDerived.Pilot.@@N@@Statement
import JvmDerived.Pilot.@@N@@Code
set_option linter.unusedVariables false
set_option linter.unusedSimpArgs false

namespace Jvm.RoadKit
open Sem ClassFile Op Lib Jvm.Stand Jvm.Free Jvm.LawKit
section New
variable {p : Program} {l : Launch} {e : Env} {R : Room} {s : State} {m : MethodId} {args : Array Value} {below : List Frame} {meth : Method} {c : Code} {T : State} {locs : List Loc} {cells slots : Nat}
theorem own_retI (X : Stand p l e R s m args below meth c T locs cells slots) (hx : p.tables.exec = Jvm.exec) {pc : Nat} {Ls : Array Slot} {z : Int32} {rest : List Value} (hret : meth.sig.returnType = some .int) (hd : decode c.code pc = .ok (.ireturn, 1)) {fs : List Frame}
    (hl : ∀ (f : JFrame) (acts : List Action), f.method = m → f.locked = none → f.entered = [] → (doReturn e (T.setTop f) acts (some (.int z))).1 = T.setFrames fs) : Steps p.tables e below (T.setTop (mkF m pc Ls (.int z :: rest))) (T.setFrames fs) :=
  retOut X hx (t := .int) (w := .int z) (i := .ireturn) hret rfl (Or.inl ⟨rfl, Or.inl rfl, z, rfl⟩) hd hl
end New
end Jvm.RoadKit

/- laws to paste: Road.backV, Road.eqW, Road.codOf (cut by pick.py; bodies as the Statement names them) -/
namespace Jvm.Pilot.@@N@@
namespace StrChars
open Jvm Sem ClassFile Op Lib Jvm.Stand Jvm.Free.XT Jvm.Free.ALB Jvm.Free.JM Jvm.Free
open Jvm.Lib.Cold (StaticIs)
/-- a char array whose places are chars -/
def Ch (a : Addr) (A : Cell) (U : State) : Prop := Arr .char a A U ∧ Typed .char A
theorem Ch.mv {a : Addr} {A : Cell} {U U' : State} (h : Ch a A U) (hal : U.vm.Alike U'.vm) (hh : U'.heap = U.heap) : Ch a A U' := ⟨h.1.mv hal hh, h.2⟩
theorem Ch.keep {a : Addr} {A : Cell} {U U' : State} (h : Ch a A U) (hal : U.vm.Alike U'.vm) (hk : U'.heap[a]? = some A) : Ch a A U' := ⟨h.1.keep hal hk, h.2⟩
/-- what place i of a char[]'s cell holds -/
def cv (A : Cell) (i : Nat) : Int32 := match A.slots[i]? with | some (.int x) => x | _ => 0
theorem Ch.get {a : Addr} {A : Cell} {U : State} (h : Ch a A U) {i : Nat} (hi : i < A.slots.size) : A.slots[i]? = some (.int (cv A i)) := by
  have e := Array.getElem?_eq_getElem hi
  have f := h.2 i _ e
  unfold cv; rw [e]
  generalize A.slots[i] = v at f
  cases v <;> simp [fits] at f ⊢
/-- the byte that i2b leaves of a char -/
def lo8 (x : Int32) : Int32 := x.toInt8.toInt32
theorem fits_lo8 (y : Int32) : fits .byte (.int (lo8 y)) = true := by
  have h1 := y.toInt8.le_toInt
  have h2 := y.toInt8.toInt_lt
  simp only [lo8, fits, Bool.and_eq_true, decide_eq_true_eq, Int32.le_iff_toInt_le, Int8.toInt_toInt32, show (-128 : Int32).toInt = -128 from by decide, show (127 : Int32).toInt = 127 from by decide]
  omega
/-- A' is A but that each place j of lo .. hi - 1 holds f j -/
def Laid (A A' : Cell) (lo hi : Nat) (f : Nat → Value) : Prop := A'.cls = A.cls ∧ A'.vm = A.vm ∧ A'.slots.size = A.slots.size ∧ ∀ i, A'.slots[i]? = if lo ≤ i ∧ i < hi then some (f i) else A.slots[i]?
theorem Laid.zero (A : Cell) (lo : Nat) (f : Nat → Value) : Laid A A lo (lo + 0) f := ⟨rfl, rfl, rfl, fun i => by rw [if_neg (by omega)]⟩
theorem Laid.step {A Ak : Cell} {lo k : Nat} {f : Nat → Value} {v : Value} (h : Laid A Ak lo k f) (hlo : lo ≤ k) (hk : k < Ak.slots.size) (hv : v = f k) : Laid A (Ak.setSlot k v) lo (k + 1) f := by
  refine ⟨h.1, h.2.1, by simpa [Cell.setSlot] using h.2.2.1, fun i => ?_⟩
  by_cases e : k = i
  · subst e; rw [Cell.slots_setSlot_self v hk, if_pos (by omega), hv]
  · rw [Cell.slots_setSlot_ne v e, h.2.2.2 i]
    by_cases q : lo ≤ i ∧ i < k
    · rw [if_pos q, if_pos (by omega)]
    · rw [if_neg q, if_neg (by omega)]
def U16 : String := "java/lang/StringUTF16"
namespace Cmp5
def yN : MethodName := ⟨"java/lang/StringUTF16", "compress", "([CI[BII)I"⟩
abbrev yB : ByteArray := jdk_52_method_21_code
theorem d0 : decode yB 0 = .ok (.iconst 0, 1) := by decide +kernel
theorem d1 : decode yB 1 = .ok (.istore 5, 2) := by decide +kernel
theorem d3 : decode yB 3 = .ok (.iload 5, 2) := by decide +kernel
theorem d5 : decode yB 5 = .ok (.iload 4, 2) := by decide +kernel
theorem d7 : decode yB 7 = .ok (.if_icmp (.ge) 37, 3) := by decide +kernel
theorem d10 : decode yB 10 = .ok (.aload_n 0, 1) := by decide +kernel
theorem d11 : decode yB 11 = .ok (.iload_n 1, 1) := by decide +kernel
theorem d12 : decode yB 12 = .ok (.caload, 1) := by decide +kernel
theorem d13 : decode yB 13 = .ok (.istore 6, 2) := by decide +kernel
theorem d15 : decode yB 15 = .ok (.iload 6, 2) := by decide +kernel
theorem d17 : decode yB 17 = .ok (.sipush 255, 3) := by decide +kernel
theorem d20 : decode yB 20 = .ok (.if_icmp (.le) 6, 3) := by decide +kernel
theorem d26 : decode yB 26 = .ok (.aload_n 2, 1) := by decide +kernel
theorem d27 : decode yB 27 = .ok (.iload_n 3, 1) := by decide +kernel
theorem d28 : decode yB 28 = .ok (.iload 6, 2) := by decide +kernel
theorem d30 : decode yB 30 = .ok (.i2b, 1) := by decide +kernel
theorem d31 : decode yB 31 = .ok (.bastore, 1) := by decide +kernel
theorem d32 : decode yB 32 = .ok (.iinc 1 1, 3) := by decide +kernel
theorem d35 : decode yB 35 = .ok (.iinc 3 1, 3) := by decide +kernel
theorem d38 : decode yB 38 = .ok (.iinc 5 1, 3) := by decide +kernel
theorem d41 : decode yB 41 = .ok (.goto (-38), 3) := by decide +kernel
theorem d44 : decode yB 44 = .ok (.iload 4, 2) := by decide +kernel
theorem d46 : decode yB 46 = .ok (.ireturn, 1) := by decide +kernel
def site : List Cond := []
def tab : Cond := tabOf yN yB 7 (some .int) site
def P (b : Addr) (A : Cell) (d : Addr) (B : Cell) (o q len : Nat) (args : Array Value) (s : State) : Prop := args = #[.ref b, .int (Int32.ofNat o), .ref d, .int (Int32.ofNat q), .int (Int32.ofNat len)] ∧ Ch b A s ∧ Arr .byte d B s ∧ b ≠ d ∧ o + len ≤ A.slots.size ∧ q + len ≤ B.slots.size ∧ ∀ i, i < len → ¬ 255 < cv A (o + i)
def E (b : Addr) (A : Cell) (d : Addr) (B : Cell) (o q len : Nat) (r : Option Value) (s u : State) : Prop := r = some (.int (Int32.ofNat len)) ∧ ∃ B', Put d B' s u ∧ Laid B B' q (q + len) (fun j => Value.int (lo8 (cv A (o + (j - q)))))
/-- no char of the range above 255: len; the places written hold each char's low byte -/
theorem law (l : Launch) (b : Addr) (A : Cell) (d : Addr) (B : Cell) (o q len : Nat) : Law l yN 5 5 0 0 yB 7 (some .int) site (P b A d B o q len) (E b A d B o q len) (copyLocs d q len) 0 0 := by
  refine Law.of_walk (plainFor_of_name (by decide +kernel)) (by decide +kernel) (by decide +kernel) (by decide) (fun _ _ h => by rw [h.1]; rfl) (fun _ U U' hal hh h => ⟨h.1, h.2.1.mv hal hh, h.2.2.1.mv hal hh, h.2.2.2⟩) (fun r U U' V V' h1 hal h2 h => ⟨h.1, h.2.elim fun B' q => ⟨B', q.1.mv h1 h2, q.2⟩⟩) ?_
  intro p e s m args below meth c s₁ X0 hexec hbytes hml hret hlk hnm hown hh0 W hP
  obtain ⟨rfl, hA, hB, hne, l1, l2, hp⟩ := hP
  have c1 : Steps p.tables e below (s₁.setTop (entryFrame m #[.ref b, .int (Int32.ofNat o), .ref d, .int (Int32.ofNat q), .int (Int32.ofNat len)] 7)) (s₁.setTop (mkF m 0 #[.val (.ref b), .val (.int (Int32.ofNat o)), .val (.ref d), .val (.int (Int32.ofNat q)), .val (.int (Int32.ofNat len)), .unset, .unset] [])) := entry rfl
  have hA0 := hA.1.mv X0.warmed.alike hh0
  have hB0 := hB.mv X0.warmed.alike hh0
  have a31 := hA.1.2.2.2
  have c2 : Steps p.tables e below (s₁.setTop (entryFrame m #[.ref b, .int (Int32.ofNat o), .ref d, .int (Int32.ofNat q), .int (Int32.ofNat len)] 7)) (s₁.setTop (mkF m 3 #[.val (.ref b), .val (.int (Int32.ofNat o)), .val (.ref d), .val (.int (Int32.ofNat q)), .val (.int (Int32.ofNat len)), .val (.int 0), .unset] [])) := c1.trans (by
    refine iconstV X0.here hexec rfl 0 (hb hbytes d0) (by decide) ?_
    refine XS.istore X0.here hexec rfl (hb hbytes d1) rfl rfl ?_
    exact Steps.refl _)
  have loop : ∀ (r i : Nat), i + r = len → ∀ (z : Slot), (z = .unset ∨ ∃ w, z = .val w ∧ w.category = 1) → ∀ (Tl : State) (Bk : Cell), Stand p l e { frames := 0, locals := 0, cells := 0, slots := 0 } s m #[.ref b, .int (Int32.ofNat o), .ref d, .int (Int32.ofNat q), .int (Int32.ofNat len)] below meth c Tl ([] ++ copyLocs d q i) 0 0 → Put d Bk s₁ Tl → Laid B Bk q (q + i) (fun j => Value.int (lo8 (cv A (o + (j - q))))) →
      Steps p.tables e below (s₁.setTop (entryFrame m #[.ref b, .int (Int32.ofNat o), .ref d, .int (Int32.ofNat q), .int (Int32.ofNat len)] 7)) (Tl.setTop (mkF m 3 #[.val (.ref b), .val (.int (Int32.ofNat (o + i))), .val (.ref d), .val (.int (Int32.ofNat (q + i))), .val (.int (Int32.ofNat len)), .val (.int (Int32.ofNat i)), z] [])) → ∃ (T' : State) (B' : Cell) (z' : Slot), Stand p l e { frames := 0, locals := 0, cells := 0, slots := 0 } s m #[.ref b, .int (Int32.ofNat o), .ref d, .int (Int32.ofNat q), .int (Int32.ofNat len)] below meth c T' ([] ++ copyLocs d q len) 0 0 ∧ Put d B' s₁ T' ∧ Laid B B' q (q + len) (fun j => Value.int (lo8 (cv A (o + (j - q))))) ∧
      Steps p.tables e below (s₁.setTop (entryFrame m #[.ref b, .int (Int32.ofNat o), .ref d, .int (Int32.ofNat q), .int (Int32.ofNat len)] 7)) (T'.setTop (mkF m 3 #[.val (.ref b), .val (.int (Int32.ofNat (o + len))), .val (.ref d), .val (.int (Int32.ofNat (q + len))), .val (.int (Int32.ofNat len)), .val (.int (Int32.ofNat len)), z'] [])) := by
    intro r
    induction r with
    | zero =>
      intro i hi z hz Tl Bk Xl pl fl cl
      have hil : i = len := by omega
      rw [hil] at Xl fl cl
      exact ⟨Tl, Bk, z, Xl, pl, fl, cl⟩
    | succ r ih =>
      intro i hi z hz Tl Bk Xl pl fl cl
      have all := X0.warmed.alike.symm.trans Xl.warmed.alike
      have hAl := hA0.keep all (pl.other hne hA0.1)
      have hBk := hB0.like all pl.1 fl.1 fl.2.1 fl.2.2.1
      have hlt : q + i < Bk.slots.size := by rw [fl.2.2.1]; omega
      have c3 : Steps p.tables e below (s₁.setTop (entryFrame m #[.ref b, .int (Int32.ofNat o), .ref d, .int (Int32.ofNat q), .int (Int32.ofNat len)] 7)) (Tl.setTop (mkF m 12 #[.val (.ref b), .val (.int (Int32.ofNat (o + i))), .val (.ref d), .val (.int (Int32.ofNat (q + i))), .val (.int (Int32.ofNat len)), .val (.int (Int32.ofNat i)), z] [.int (Int32.ofNat (o + i)), .ref b])) := cl.trans (by
        refine XS.iload Xl.here hexec rfl (hb hbytes d3) rfl ?_
        refine XS.iload Xl.here hexec rfl (hb hbytes d5) rfl ?_
        refine XS.icmpNo Xl.here hexec rfl (hb hbytes d7) rfl (ii_ge_f (lt32 (by omega) (by omega))) ?_
        refine XS.aloadN Xl.here hexec rfl (hb hbytes d10) rfl rfl ?_
        refine XS.iloadN Xl.here hexec rfl (hb hbytes d11) rfl ?_
        exact Steps.refl _)
      have c4 : Steps p.tables e below (s₁.setTop (entryFrame m #[.ref b, .int (Int32.ofNat o), .ref d, .int (Int32.ofNat q), .int (Int32.ofNat len)] 7)) (Tl.setTop (mkF m 13 #[.val (.ref b), .val (.int (Int32.ofNat (o + i))), .val (.ref d), .val (.int (Int32.ofNat (q + i))), .val (.int (Int32.ofNat len)), .val (.int (Int32.ofNat i)), z] [.int (cv A (o + i))])) := c3.trans (by
        refine Xl.aget hexec hAl rfl (hA.get (i := o + i) (by omega)) rfl rfl (hb hbytes d12) ?_
        exact Steps.refl _)
      have c5 : Steps p.tables e below (s₁.setTop (entryFrame m #[.ref b, .int (Int32.ofNat o), .ref d, .int (Int32.ofNat q), .int (Int32.ofNat len)] 7)) (Tl.setTop (mkF m 15 #[.val (.ref b), .val (.int (Int32.ofNat (o + i))), .val (.ref d), .val (.int (Int32.ofNat (q + i))), .val (.int (Int32.ofNat len)), .val (.int (Int32.ofNat i)), .val (.int (cv A (o + i)))] [])) := c4.trans (by
        refine XS.istoreS Xl.here hexec rfl (hb hbytes d13) rfl rfl hz ?_
        exact Steps.refl _)
      have c6 : Steps p.tables e below (s₁.setTop (entryFrame m #[.ref b, .int (Int32.ofNat o), .ref d, .int (Int32.ofNat q), .int (Int32.ofNat len)] 7)) (Tl.setTop (mkF m 31 #[.val (.ref b), .val (.int (Int32.ofNat (o + i))), .val (.ref d), .val (.int (Int32.ofNat (q + i))), .val (.int (Int32.ofNat len)), .val (.int (Int32.ofNat i)), .val (.int (cv A (o + i)))] [.int (lo8 (cv A (o + i))), .int (Int32.ofNat (q + i)), .ref d])) := c5.trans (by
        refine XS.iload Xl.here hexec rfl (hb hbytes d15) rfl ?_
        refine sipushV Xl.here hexec rfl 255 (hb hbytes d17) (by decide) ?_
        refine XS.icmpYes Xl.here hexec rfl (pc0 := 20) rfl (hb hbytes d20) rfl (ii_le_t (hp i (by omega))) (by decide) rfl ?_
        refine XS.aloadN Xl.here hexec rfl (hb hbytes d26) rfl rfl ?_
        refine XS.iloadN Xl.here hexec rfl (hb hbytes d27) rfl ?_
        refine XS.iload Xl.here hexec rfl (hb hbytes d28) rfl ?_
        refine i2b Xl.here hexec rfl (hb hbytes d30) rfl ?_
        exact Steps.refl _)
      obtain ⟨T7, X7, p7, st7⟩ := Xl.aput hexec hBk rfl hlt rfl (fits_lo8 (cv A (o + i))) (g := (mkF m 31 #[.val (.ref b), .val (.int (Int32.ofNat (o + i))), .val (.ref d), .val (.int (Int32.ofNat (q + i))), .val (.int (Int32.ofNat len)), .val (.int (Int32.ofNat i)), .val (.int (cv A (o + i)))] [.int (lo8 (cv A (o + i))), .int (Int32.ofNat (q + i)), .ref d])) rfl (rest := []) rfl (hb hbytes d31)
      have c8 : Steps p.tables e below (s₁.setTop (entryFrame m #[.ref b, .int (Int32.ofNat o), .ref d, .int (Int32.ofNat q), .int (Int32.ofNat len)] 7)) (T7.setTop (mkF m 32 #[.val (.ref b), .val (.int (Int32.ofNat (o + i))), .val (.ref d), .val (.int (Int32.ofNat (q + i))), .val (.int (Int32.ofNat len)), .val (.int (Int32.ofNat i)), .val (.int (cv A (o + i)))] [])) := c6.trans (st7 _ (Steps.refl _))
      have c9 : Steps p.tables e below (s₁.setTop (entryFrame m #[.ref b, .int (Int32.ofNat o), .ref d, .int (Int32.ofNat q), .int (Int32.ofNat len)] 7)) (T7.setTop (mkF m 3 #[.val (.ref b), .val (.int (Int32.ofNat (o + i) + 1)), .val (.ref d), .val (.int (Int32.ofNat (q + i) + 1)), .val (.int (Int32.ofNat len)), .val (.int (Int32.ofNat i + 1)), .val (.int (cv A (o + i)))] [])) := c8.trans (by
        refine iincV X7.here hexec rfl 1 (hb hbytes d32) (by decide) rfl rfl ?_
        refine iincV X7.here hexec rfl 1 (hb hbytes d35) (by decide) rfl rfl ?_
        refine iincV X7.here hexec rfl 1 (hb hbytes d38) (by decide) rfl rfl ?_
        refine XS.goto X7.here hexec rfl (pc0 := 41) rfl (hb hbytes d41) (by decide) rfl ?_
        exact Steps.refl _)
      have c10 : Steps p.tables e below (s₁.setTop (entryFrame m #[.ref b, .int (Int32.ofNat o), .ref d, .int (Int32.ofNat q), .int (Int32.ofNat len)] 7)) (T7.setTop (mkF m 3 #[.val (.ref b), .val (.int (Int32.ofNat (o + (i + 1)))), .val (.ref d), .val (.int (Int32.ofNat (q + (i + 1)))), .val (.int (Int32.ofNat len)), .val (.int (Int32.ofNat (i + 1))), .val (.int (cv A (o + i)))] [])) := by
        have := c9
        rw [succ32, succ32, succ32] at this
        exact this
      exact ih (i + 1) (by omega) _ (Or.inr ⟨_, rfl, rfl⟩) T7 _ (by rw [copyLocs_step, ← List.append_assoc]; exact X7) (pl.trans p7) (fl.step (by omega) hlt (by simp)) c10
  obtain ⟨T9, B9, z9, X9, p9, f9, g9⟩ := loop len 0 (by omega) .unset (Or.inl rfl) s₁ B (by simpa [copyLocs] using X0) ⟨hB0.1, fun _ _ => rfl, rfl⟩ (Laid.zero _ _ _) c2
  have c11 : Steps p.tables e below (s₁.setTop (entryFrame m #[.ref b, .int (Int32.ofNat o), .ref d, .int (Int32.ofNat q), .int (Int32.ofNat len)] 7)) (T9.setTop (mkF m 46 #[.val (.ref b), .val (.int (Int32.ofNat (o + len))), .val (.ref d), .val (.int (Int32.ofNat (q + len))), .val (.int (Int32.ofNat len)), .val (.int (Int32.ofNat len)), z9] [.int (Int32.ofNat len)])) := g9.trans (by
    refine XS.iload X9.here hexec rfl (hb hbytes d3) rfl ?_
    refine XS.iload X9.here hexec rfl (hb hbytes d5) rfl ?_
    refine XS.icmpYes X9.here hexec rfl (pc0 := 7) rfl (hb hbytes d7) rfl (ii_ge_t (nlt32 (by omega) (Nat.le_refl _))) (by decide) rfl ?_
    refine XS.iload X9.here hexec rfl (hb hbytes d44) rfl ?_
    exact Steps.refl _)
  exact ⟨T9, some (.int (Int32.ofNat len)), _, _, _, X9, by simp, rfl, rfl, (fun h => by cases h), ⟨rfl, B9, p9.from hh0, f9⟩, fun fs hl => c11.trans (X9.ireturnOut hexec hret rfl (Or.inl rfl) (hb hbytes d46) hl)⟩
end Cmp5
namespace Cmp3
def yN : MethodName := ⟨"java/lang/StringUTF16", "compress", "([CII)[B"⟩
abbrev yB : ByteArray := jdk_52_method_16_code
theorem d0 : decode yB 0 = .ok (.iload_n 2, 1) := by decide +kernel
theorem d1 : decode yB 1 = .ok (.newarray .byte, 2) := by decide +kernel
theorem d3 : decode yB 3 = .ok (.astore_n 3, 1) := by decide +kernel
theorem d4 : decode yB 4 = .ok (.aload_n 0, 1) := by decide +kernel
theorem d5 : decode yB 5 = .ok (.iload_n 1, 1) := by decide +kernel
theorem d6 : decode yB 6 = .ok (.aload_n 3, 1) := by decide +kernel
theorem d7 : decode yB 7 = .ok (.iconst 0, 1) := by decide +kernel
theorem d8 : decode yB 8 = .ok (.iload_n 2, 1) := by decide +kernel
theorem d9 : decode yB 9 = .ok (.invokestatic 115, 3) := by decide +kernel
theorem d12 : decode yB 12 = .ok (.istore 4, 2) := by decide +kernel
theorem d14 : decode yB 14 = .ok (.iload 4, 2) := by decide +kernel
theorem d16 : decode yB 16 = .ok (.iload_n 2, 1) := by decide +kernel
theorem d17 : decode yB 17 = .ok (.if_icmp (.eq) 40, 3) := by decide +kernel
theorem d57 : decode yB 57 = .ok (.aload_n 3, 1) := by decide +kernel
theorem d58 : decode yB 58 = .ok (.areturn, 1) := by decide +kernel
def site : List Cond := [.arrayClass .byte, Cmp5.tab] ++ staticW U16 115 Cmp5.yN
def tab : Cond := tabOf yN yB 6 (some (.array .byte)) site
def P (b : Addr) (A : Cell) (o len : Nat) (args : Array Value) (s : State) : Prop := args = #[.ref b, .int (Int32.ofNat o), .int (Int32.ofNat len)] ∧ Ch b A s ∧ o + len ≤ A.slots.size ∧ len ≤ 536870912 ∧ ∀ i, i < len → ¬ 255 < cv A (o + i)
def E (b : Addr) (A : Cell) (o len : Nat) (r : Option Value) (s u : State) : Prop := NewArr .byte "[B" len (fun j => .int (lo8 (cv A (o + j)))) r s u ∧ u.heap.size = s.heap.size + 1
/-- no char of the range above 255: a new byte[] of their low bytes -/
theorem law (l : Launch) (b : Addr) (A : Cell) (o len : Nat) : Law l yN 3 3 1 18 yB 6 (some (.array .byte)) site (P b A o len) (E b A o len) [] 1 len := by
  refine Law.of_walk (plainFor_of_name (by decide +kernel)) (by decide +kernel) (by decide +kernel) (by decide) (fun _ _ h => by rw [h.1]; rfl) (fun _ U U' hal hh h => ⟨h.1, h.2.1.mv hal hh, h.2.2⟩) (fun r U U' V V' h1 hal h2 h => ⟨NewArr.mv r U U' V V' h1 hal h2 h.1, by rw [h1, h2]; exact h.2⟩) ?_
  intro p e s m args below meth c s₁ X0 hexec hbytes hml hret hlk hnm hown hh0 W hP
  obtain ⟨rfl, hA, l1, l2, hp⟩ := hP
  have a31 := hA.1.2.2.2
  have c1 : Steps p.tables e below (s₁.setTop (entryFrame m #[.ref b, .int (Int32.ofNat o), .int (Int32.ofNat len)] 6)) (s₁.setTop (mkF m 0 #[.val (.ref b), .val (.int (Int32.ofNat o)), .val (.int (Int32.ofNat len)), .unset, .unset, .unset] [])) := entry rfl
  have c2 : Steps p.tables e below (s₁.setTop (entryFrame m #[.ref b, .int (Int32.ofNat o), .int (Int32.ofNat len)] 6)) (s₁.setTop (mkF m 1 #[.val (.ref b), .val (.int (Int32.ofNat o)), .val (.int (Int32.ofNat len)), .unset, .unset, .unset] [.int (Int32.ofNat len)])) := c1.trans (by
    refine XS.iloadN X0.here hexec rfl (hb hbytes d0) rfl ?_
    exact Steps.refl _)
  obtain ⟨T3, B3, X3, ba3, bs3, bv3, bh3, bf3, st3⟩ := X0.anew hexec (atype := .byte) (wk W (.arrayClass .byte)) rfl (by show len * 1 ≤ _; omega) (by omega) (g := (mkF m 1 #[.val (.ref b), .val (.int (Int32.ofNat o)), .val (.int (Int32.ofNat len)), .unset, .unset, .unset] [.int (Int32.ofNat len)])) rfl (hb hbytes d1) (rest := []) rfl (Nat.le_refl _) (by show 0 + len ≤ len; omega)
  rw [hh0] at ba3 st3
  have kp3 : XT.Kept s T3 := (XT.Kept.of_eq hh0).push bh3
  have hA3 := hA.keep X3.warmed.alike (kp3 _ _ hA.1.1)
  have hne : b ≠ s.heap.size := hA.1.ne
  have c4 : Steps p.tables e below (s₁.setTop (entryFrame m #[.ref b, .int (Int32.ofNat o), .int (Int32.ofNat len)] 6)) (T3.setTop (mkF m 3 #[.val (.ref b), .val (.int (Int32.ofNat o)), .val (.int (Int32.ofNat len)), .unset, .unset, .unset] [.ref s.heap.size])) := c2.trans (st3 _ (Steps.refl _))
  have c5 : Steps p.tables e below (s₁.setTop (entryFrame m #[.ref b, .int (Int32.ofNat o), .int (Int32.ofNat len)] 6)) (T3.setTop (mkF m 9 #[.val (.ref b), .val (.int (Int32.ofNat o)), .val (.int (Int32.ofNat len)), .val (.ref s.heap.size), .unset, .unset] [.int (Int32.ofNat len), .int 0, .ref s.heap.size, .int (Int32.ofNat o), .ref b])) := c4.trans (by
    refine XS.astoreN X3.here hexec rfl (hb hbytes d3) rfl rfl rfl ?_
    refine XS.aloadN X3.here hexec rfl (hb hbytes d4) rfl rfl ?_
    refine XS.iloadN X3.here hexec rfl (hb hbytes d5) rfl ?_
    refine XS.aloadN X3.here hexec rfl (hb hbytes d6) rfl rfl ?_
    refine iconstV X3.here hexec rfl 0 (hb hbytes d7) (by decide) ?_
    refine XS.iloadN X3.here hexec rfl (hb hbytes d8) rfl ?_
    exact Steps.refl _)
  obtain ⟨v6, T6, X6, E6, g6⟩ := X3.callS hexec (Cmp5.law l b A s.heap.size B3 o 0 len) hown (wks W (staticW U16 115 Cmp5.yN)) (wk W Cmp5.tab) (W := 0) (Nat.le_of_ble_eq_true rfl) (Nat.le_of_ble_eq_true rfl) (Nat.le_refl _) (by show 0 + len + 0 ≤ len; omega) (g := (mkF m 9 #[.val (.ref b), .val (.int (Int32.ofNat o)), .val (.int (Int32.ofNat len)), .val (.ref s.heap.size), .unset, .unset] [.int (Int32.ofNat len), .int (Int32.ofNat 0), .ref s.heap.size, .int (Int32.ofNat o), .ref b])) rfl (by rw [hml]; rfl) c5 (argsL := [.ref b, .int (Int32.ofNat o), .ref s.heap.size, .int (Int32.ofNat 0), .int (Int32.ofNat len)]) (rest := []) rfl rfl (by show 2 * 0 + 0 ≤ _; decide) (hb hbytes d9) (⟨rfl, hA3, ba3, hne, l1, by rw [bs3]; simp, hp⟩)
  obtain ⟨rfl, B6, p6, f6⟩ := E6
  have c7 : Steps p.tables e below (s₁.setTop (entryFrame m #[.ref b, .int (Int32.ofNat o), .int (Int32.ofNat len)] 6)) (T6.setTop (mkF m 12 #[.val (.ref b), .val (.int (Int32.ofNat o)), .val (.int (Int32.ofNat len)), .val (.ref s.heap.size), .unset, .unset] [.int (Int32.ofNat len)])) := g6
  have c8 : Steps p.tables e below (s₁.setTop (entryFrame m #[.ref b, .int (Int32.ofNat o), .int (Int32.ofNat len)] 6)) (T6.setTop (mkF m 58 #[.val (.ref b), .val (.int (Int32.ofNat o)), .val (.int (Int32.ofNat len)), .val (.ref s.heap.size), .val (.int (Int32.ofNat len)), .unset] [.ref s.heap.size])) := c7.trans (by
    refine XS.istore X6.here hexec rfl (hb hbytes d12) rfl rfl ?_
    refine XS.iload X6.here hexec rfl (hb hbytes d14) rfl ?_
    refine XS.iloadN X6.here hexec rfl (hb hbytes d16) rfl ?_
    refine XS.icmpYes X6.here hexec rfl (pc0 := 17) rfl (hb hbytes d17) rfl (ii_eq_t rfl) (by decide) rfl ?_
    refine XS.aloadN X6.here hexec rfl (hb hbytes d57) rfl rfl ?_
    exact Steps.refl _)
  have X8 := X6.wide (L' := []) (cells' := 1) (slots' := len) (fun x hx hlt => by
    simp only [List.nil_append, copyLocs, List.mem_map, List.mem_range] at hx
    obtain ⟨i, -, rfl⟩ := hx
    exact absurd hlt (Nat.lt_irrefl _)) (Nat.le_refl _) (by omega)
  exact ⟨T6, some (.ref s.heap.size), _, _, _, X8, rfl, rfl, rfl, (fun h => by cases h), ⟨⟨rfl, B6, ba3.like (X3.warmed.alike.symm.trans X6.warmed.alike) p6.1 f6.1 f6.2.1 f6.2.2.1, f6.2.1.trans bv3, by rw [X6.warmed.alike.findClass, f6.1]; exact bf3, by rw [f6.2.2.1, bs3]; simp, fun j hj => by rw [f6.2.2.2 j, if_pos (by omega)]; rfl, kp3.put p6 (Nat.le_refl _)⟩, by rw [p6.2.2, bh3, hh0]; simp⟩, fun fs hl => c8.trans (X8.areturnOut hexec rfl hret rfl (hb hbytes d58) hl)⟩
end Cmp3
namespace CodL
def yN : MethodName := ⟨"java/lang/StringUTF16", "coderFromArrayLen", "([BI)B"⟩
abbrev yB : ByteArray := jdk_52_method_15_code
theorem d0 : decode yB 0 = .ok (.iload_n 1, 1) := by decide +kernel
theorem d1 : decode yB 1 = .ok (.aload_n 0, 1) := by decide +kernel
theorem d2 : decode yB 2 = .ok (.arraylength, 1) := by decide +kernel
theorem d3 : decode yB 3 = .ok (.isub, 1) := by decide +kernel
theorem d4 : decode yB 4 = .ok (.bipush 31, 2) := by decide +kernel
theorem d6 : decode yB 6 = .ok (.iushr, 1) := by decide +kernel
theorem d7 : decode yB 7 = .ok (.i2b, 1) := by decide +kernel
theorem d8 : decode yB 8 = .ok (.ireturn, 1) := by decide +kernel
def site : List Cond := []
def tab : Cond := tabOf yN yB 2 (some .byte) site
def P (d : Addr) (B : Cell) (args : Array Value) (s : State) : Prop := args = #[.ref d, .int (Int32.ofNat B.slots.size)] ∧ Arr .byte d B s
def E (r : Option Value) (s u : State) : Prop := XT.PureE (some (.int 0)) r s u
/-- an array as long as the number of chars: LATIN1 -/
theorem law (l : Launch) (d : Addr) (B : Cell) : Law l yN 2 2 0 0 yB 2 (some .byte) site (P d B) E [] 0 0 := by
  refine Law.of_walk (plainFor_of_name (by decide +kernel)) (by decide +kernel) (by decide +kernel) (by decide) (fun _ _ h => by rw [h.1]; rfl) (fun _ U U' hal hh h => ⟨h.1, h.2.mv hal hh⟩) (fun r U U' V V' h1 hal h2 h => XT.PureE.mv r U U' V V' h1 hal h2 h) ?_
  intro p e s m args below meth c s₁ X0 hexec hbytes hml hret hlk hnm hown hh0 W hP
  obtain ⟨rfl, hB⟩ := hP
  have hB0 := hB.mv X0.warmed.alike hh0
  have c1 : Steps p.tables e below (s₁.setTop (entryFrame m #[.ref d, .int (Int32.ofNat B.slots.size)] 2)) (s₁.setTop (mkF m 0 #[.val (.ref d), .val (.int (Int32.ofNat B.slots.size))] [])) := entry rfl
  have c2 : Steps p.tables e below (s₁.setTop (entryFrame m #[.ref d, .int (Int32.ofNat B.slots.size)] 2)) (s₁.setTop (mkF m 2 #[.val (.ref d), .val (.int (Int32.ofNat B.slots.size))] [.ref d, .int (Int32.ofNat B.slots.size)])) := c1.trans (by
    refine XS.iloadN X0.here hexec rfl (hb hbytes d0) rfl ?_
    refine XS.aloadN X0.here hexec rfl (hb hbytes d1) rfl rfl ?_
    exact Steps.refl _)
  have c3 : Steps p.tables e below (s₁.setTop (entryFrame m #[.ref d, .int (Int32.ofNat B.slots.size)] 2)) (s₁.setTop (mkF m 8 #[.val (.ref d), .val (.int (Int32.ofNat B.slots.size))] [.int (lo8 (ushr (Int32.ofNat B.slots.size - Int32.ofNat B.slots.size) 31))])) := c2.trans (by
    refine X0.alen hexec hB0 rfl rfl (hb hbytes d2) ?_
    refine XS.isub X0.here hexec rfl (hb hbytes d3) rfl ?_
    refine bipushV X0.here hexec rfl 31 (hb hbytes d4) (by decide) ?_
    refine iushr X0.here hexec rfl (hb hbytes d6) rfl ?_
    refine i2b X0.here hexec rfl (hb hbytes d7) rfl ?_
    exact Steps.refl _)
  have e0 : lo8 (ushr (Int32.ofNat B.slots.size - Int32.ofNat B.slots.size) 31) = 0 := by rw [Int32.sub_self]; decide
  rw [e0] at c3
  exact ⟨s₁, some (.int 0), _, _, _, X0, rfl, rfl, rfl, (fun h => by cases h), ⟨rfl, hh0⟩, fun fs hl => c3.trans (X0.ireturnOut hexec hret rfl (Or.inr (Or.inr (Or.inl rfl))) (hb hbytes d8) hl)⟩
end CodL
/-- the String at a is Latin-1 over a new byte[] (the heap's one new cell): the low bytes of the len chars of A from o on; every cell but a is kept -/
def Got (a : Addr) (D : Cell) (fV fC : Field) (A : Cell) (o len : Nat) (r : Option Value) (s u : State) : Prop := r = none ∧ ∃ D' V : Cell, Blank "java/lang/String" a D' u ∧ Same D D' [fV.slot, fC.slot] ∧ D'.slots[fV.slot]? = some (.ref s.heap.size) ∧ D'.slots[fC.slot]? = some (.int 0) ∧ Arr .byte s.heap.size V u ∧ V.vm = .none ∧ u.vm.findClass "[B" = some V.cls ∧ V.slots.size = len ∧ (∀ j, j < len → V.slots[j]? = some (.int (lo8 (cv A (o + j))))) ∧ (∀ (y : Addr) (c : Cell), y ≠ a → s.heap[y]? = some c → u.heap[y]? = some c) ∧ u.heap.size = s.heap.size + 1
theorem Got.mv {a : Addr} {D A : Cell} {fV fC : Field} {o len : Nat} : ∀ r (U U' V V' : State), U'.heap = U.heap → V.vm.Alike V'.vm → V'.heap = V.heap → Got a D fV fC A o len r U V → Got a D fV fC A o len r U' V' :=
  fun r U U' V V' h1 hal h2 ⟨e0, D', X, a1, a2, a3, a4, a5, a6, a7, a8, a9, a10, a11⟩ => ⟨e0, D', X, a1.mv hal h2, a2, by rw [h1]; exact a3, a4, by rw [h1]; exact a5.mv hal h2, a6, by rw [hal.findClass]; exact a7, a8, a9, by rw [h1, h2]; exact a10, by rw [h1, h2]; exact a11⟩
namespace New4
def yN : MethodName := ⟨"java/lang/String", "<init>", "([CIILjava/lang/Void;)V"⟩
abbrev yB : ByteArray := jdk_42_method_149_code
theorem d0 : decode yB 0 = .ok (.aload_n 0, 1) := by decide +kernel
theorem d1 : decode yB 1 = .ok (.invokespecial 1, 3) := by decide +kernel
theorem d4 : decode yB 4 = .ok (.iload_n 3, 1) := by decide +kernel
theorem d5 : decode yB 5 = .ok (.ifCond (.ne) 22, 3) := by decide +kernel
theorem d27 : decode yB 27 = .ok (.getstatic 38, 3) := by decide +kernel
theorem d30 : decode yB 30 = .ok (.ifCond (.eq) 28, 3) := by decide +kernel
theorem d33 : decode yB 33 = .ok (.aload_n 1, 1) := by decide +kernel
theorem d34 : decode yB 34 = .ok (.iload_n 2, 1) := by decide +kernel
theorem d35 : decode yB 35 = .ok (.iload_n 3, 1) := by decide +kernel
theorem d36 : decode yB 36 = .ok (.invokestatic 177, 3) := by decide +kernel
theorem d39 : decode yB 39 = .ok (.astore 5, 2) := by decide +kernel
theorem d41 : decode yB 41 = .ok (.aload_n 0, 1) := by decide +kernel
theorem d42 : decode yB 42 = .ok (.aload 5, 2) := by decide +kernel
theorem d44 : decode yB 44 = .ok (.iload_n 3, 1) := by decide +kernel
theorem d45 : decode yB 45 = .ok (.invokestatic 47, 3) := by decide +kernel
theorem d48 : decode yB 48 = .ok (.putfield 15, 3) := by decide +kernel
theorem d51 : decode yB 51 = .ok (.aload_n 0, 1) := by decide +kernel
theorem d52 : decode yB 52 = .ok (.aload 5, 2) := by decide +kernel
theorem d54 : decode yB 54 = .ok (.putfield 9, 3) := by decide +kernel
theorem d57 : decode yB 57 = .ok (.return_, 1) := by decide +kernel
def site : List Cond := [.fieldLink "java/lang/String" 38 "java/lang/String" "COMPACT_STRINGS" "Z", Cmp3.tab, CodL.tab, .laysFinal "java/lang/String" "java/lang/String" "value" "[B", .fieldLink "java/lang/String" 9 "java/lang/String" "value" "[B", .laysFinal "java/lang/String" "java/lang/String" "coder" "B", .fieldLink "java/lang/String" 15 "java/lang/String" "coder" "B"] ++ objW "java/lang/String" 1 ++ staticW "java/lang/String" 177 Cmp3.yN ++ staticW "java/lang/String" 47 CodL.yN
def tab : Cond := tabOf yN yB 6 none site
def P (a : Addr) (D : Cell) (fV fC : Field) (b : Addr) (A : Cell) (z : Int32) (o len : Nat) (args : Array Value) (s : State) : Prop := args = #[.ref a, .ref b, .int (Int32.ofNat o), .int (Int32.ofNat len), .null] ∧ Blank "java/lang/String" a D s ∧ Found "java/lang/String" "value" "[B" fV s ∧ Found "java/lang/String" "coder" "B" fC s ∧ Ch b A s ∧ StaticIs s "java/lang/String" "COMPACT_STRINGS" "Z" (.int z) ∧ ¬ z = 0 ∧ 0 < len ∧ o + len ≤ A.slots.size ∧ len ≤ 536870912 ∧ ∀ i, i < len → ¬ 255 < cv A (o + i)
def E (a : Addr) (D : Cell) (fV fC : Field) (A : Cell) (o len : Nat) (r : Option Value) (s u : State) : Prop := Got a D fV fC A o len r s u
/-- len > 0, no char of the range above 255: a Latin-1 String of their low bytes -/
theorem law (l : Launch) (a : Addr) (D : Cell) (fV fC : Field) (b : Addr) (A : Cell) (z : Int32) (o len : Nat) : Law l yN 5 4 2 35 yB 6 none site (P a D fV fC b A z o len) (E a D fV fC A o len) [⟨a, fC.slot⟩, ⟨a, fV.slot⟩] 1 len := by
  refine Law.of_walk (plainFor_of_name (by decide +kernel)) (by decide +kernel) (by decide +kernel) (by decide) (fun _ _ h => by rw [h.1]; rfl) (fun _ U U' hal hh h => ⟨h.1, h.2.1.mv hal hh, h.2.2.1.al hal, h.2.2.2.1.al hal, h.2.2.2.2.1.mv hal hh, h.2.2.2.2.2.1.there hal hh, h.2.2.2.2.2.2⟩) (fun r U U' V V' h1 hal h2 h => Got.mv r U U' V V' h1 hal h2 h) ?_
  intro p e s m args below meth c s₁ X0 hexec hbytes hml hret hlk hnm hown hh0 W hP
  obtain ⟨rfl, hB, f1, f2, hA, s1, hz, l0, l1, l2, hp⟩ := hP
  have a31 := hA.1.2.2.2
  have c1 : Steps p.tables e below (s₁.setTop (entryFrame m #[.ref a, .ref b, .int (Int32.ofNat o), .int (Int32.ofNat len), .null] 6)) (s₁.setTop (mkF m 0 #[.val (.ref a), .val (.ref b), .val (.int (Int32.ofNat o)), .val (.int (Int32.ofNat len)), .val .null, .unset] [])) := entry rfl
  have c2 : Steps p.tables e below (s₁.setTop (entryFrame m #[.ref a, .ref b, .int (Int32.ofNat o), .int (Int32.ofNat len), .null] 6)) (s₁.setTop (mkF m 1 #[.val (.ref a), .val (.ref b), .val (.int (Int32.ofNat o)), .val (.int (Int32.ofNat len)), .val .null, .unset] [.ref a])) := c1.trans (by
    refine XS.aloadN X0.here hexec rfl (hb hbytes d0) rfl rfl ?_
    exact Steps.refl _)
  obtain ⟨T3, X3, q3, st3⟩ := X0.oinit hexec hown (wks W (objW "java/lang/String" 1)) (g := (mkF m 1 #[.val (.ref a), .val (.ref b), .val (.int (Int32.ofNat o)), .val (.int (Int32.ofNat len)), .val .null, .unset] [.ref a])) rfl (by rw [hml]; rfl) (rest := []) rfl (hb hbytes d1) (W := 0) (by show 2 * 0 + 0 ≤ _; decide) (Nat.le_of_ble_eq_true rfl) (Nat.le_of_ble_eq_true rfl)
  have hh3 := q3.trans hh0
  have c4 : Steps p.tables e below (s₁.setTop (entryFrame m #[.ref a, .ref b, .int (Int32.ofNat o), .int (Int32.ofNat len), .null] 6)) (T3.setTop (mkF m 27 #[.val (.ref a), .val (.ref b), .val (.int (Int32.ofNat o)), .val (.int (Int32.ofNat len)), .val .null, .unset] [])) := (c2.trans (st3 _ (Steps.refl _))).trans (by
    refine XS.iloadN X3.here hexec rfl (hb hbytes d4) rfl ?_
    refine XS.ifYes X3.here hexec rfl (pc0 := 5) rfl (hb hbytes d5) rfl (i0_ne_t (nz32 (by omega) l0)) (by decide) rfl ?_
    exact Steps.refl _)
  obtain ⟨T5, X5, q5, st5⟩ := X3.sget hexec hown (wk W (.fieldLink "java/lang/String" 38 "java/lang/String" "COMPACT_STRINGS" "Z")) s1 (fun _ _ h => by rw [hh3]; exact h) (g := (mkF m 27 #[.val (.ref a), .val (.ref b), .val (.int (Int32.ofNat o)), .val (.int (Int32.ofNat len)), .val .null, .unset] [])) rfl (hb hbytes d27)
  have hh5 := q5.trans hh3
  have c6 : Steps p.tables e below (s₁.setTop (entryFrame m #[.ref a, .ref b, .int (Int32.ofNat o), .int (Int32.ofNat len), .null] 6)) (T5.setTop (mkF m 30 #[.val (.ref a), .val (.ref b), .val (.int (Int32.ofNat o)), .val (.int (Int32.ofNat len)), .val .null, .unset] [.int z])) := c4.trans (st5 _ (Steps.refl _))
  have c7 : Steps p.tables e below (s₁.setTop (entryFrame m #[.ref a, .ref b, .int (Int32.ofNat o), .int (Int32.ofNat len), .null] 6)) (T5.setTop (mkF m 36 #[.val (.ref a), .val (.ref b), .val (.int (Int32.ofNat o)), .val (.int (Int32.ofNat len)), .val .null, .unset] [.int (Int32.ofNat len), .int (Int32.ofNat o), .ref b])) := c6.trans (by
    refine XS.ifNo X5.here hexec rfl (hb hbytes d30) rfl (i0_eq_f hz) ?_
    refine XS.aloadN X5.here hexec rfl (hb hbytes d33) rfl rfl ?_
    refine XS.iloadN X5.here hexec rfl (hb hbytes d34) rfl ?_
    refine XS.iloadN X5.here hexec rfl (hb hbytes d35) rfl ?_
    exact Steps.refl _)
  obtain ⟨v8, T8, X8, E8, g8⟩ := X5.callS hexec (Cmp3.law l b A o len) hown (wks W (staticW "java/lang/String" 177 Cmp3.yN)) (wk W Cmp3.tab) (W := 0) (Nat.le_of_ble_eq_true rfl) (Nat.le_of_ble_eq_true rfl) (Nat.le_refl _) (by show 0 + len ≤ len; omega) (g := (mkF m 36 #[.val (.ref a), .val (.ref b), .val (.int (Int32.ofNat o)), .val (.int (Int32.ofNat len)), .val .null, .unset] [.int (Int32.ofNat len), .int (Int32.ofNat o), .ref b])) rfl (by rw [hml]; rfl) c7 (argsL := [.ref b, .int (Int32.ofNat o), .int (Int32.ofNat len)]) (rest := []) rfl rfl (by show 2 * 0 + 0 ≤ _; decide) (hb hbytes d36) (⟨rfl, hA.mv X5.warmed.alike hh5, l1, l2, hp⟩)
  obtain ⟨e8, z8⟩ := E8
  obtain ⟨rfl, N, n1, n2, n3, n4, n5, n6⟩ := NewArr.mv _ T5 s _ _ hh5.symm (Vm.Alike.refl _) rfl e8
  rw [hh5] at z8
  have hB1 := hB.keep X8.warmed.alike (n6 _ _ hB.1)
  have hne : s.heap.size ≠ a := (Nat.ne_of_lt (Array.getElem?_eq_some_iff.mp hB.1).1).symm
  have c9 : Steps p.tables e below (s₁.setTop (entryFrame m #[.ref a, .ref b, .int (Int32.ofNat o), .int (Int32.ofNat len), .null] 6)) (T8.setTop (mkF m 39 #[.val (.ref a), .val (.ref b), .val (.int (Int32.ofNat o)), .val (.int (Int32.ofNat len)), .val .null, .unset] [.ref s.heap.size])) := g8
  have c10 : Steps p.tables e below (s₁.setTop (entryFrame m #[.ref a, .ref b, .int (Int32.ofNat o), .int (Int32.ofNat len), .null] 6)) (T8.setTop (mkF m 45 #[.val (.ref a), .val (.ref b), .val (.int (Int32.ofNat o)), .val (.int (Int32.ofNat len)), .val .null, .val (.ref s.heap.size)] [.int (Int32.ofNat N.slots.size), .ref s.heap.size, .ref a])) := by
    have hc : Steps p.tables e below (s₁.setTop (entryFrame m #[.ref a, .ref b, .int (Int32.ofNat o), .int (Int32.ofNat len), .null] 6)) (T8.setTop (mkF m 45 #[.val (.ref a), .val (.ref b), .val (.int (Int32.ofNat o)), .val (.int (Int32.ofNat len)), .val .null, .val (.ref s.heap.size)] [.int (Int32.ofNat len), .ref s.heap.size, .ref a])) := c9.trans (by
      refine XS.astore X8.here hexec rfl (hb hbytes d39) rfl rfl rfl ?_
      refine XS.aloadN X8.here hexec rfl (hb hbytes d41) rfl rfl ?_
      refine XS.aload X8.here hexec rfl (hb hbytes d42) rfl rfl ?_
      refine XS.iloadN X8.here hexec rfl (hb hbytes d44) rfl ?_
      exact Steps.refl _)
    rw [n4]; exact hc
  obtain ⟨v11, T11, X11, E11, g11⟩ := X8.callS hexec (CodL.law l s.heap.size N) hown (wks W (staticW "java/lang/String" 47 CodL.yN)) (wk W CodL.tab) (W := 1) (Nat.le_of_ble_eq_true rfl) (Nat.le_of_ble_eq_true rfl) (Nat.le_refl _) (by show 0 + len + 0 ≤ len; omega) (g := (mkF m 45 #[.val (.ref a), .val (.ref b), .val (.int (Int32.ofNat o)), .val (.int (Int32.ofNat len)), .val .null, .val (.ref s.heap.size)] [.int (Int32.ofNat N.slots.size), .ref s.heap.size, .ref a])) rfl (by rw [hml]; rfl) c10 (argsL := [.ref s.heap.size, .int (Int32.ofNat N.slots.size)]) (rest := [.ref a]) rfl rfl (by show 2 * 0 + (1 + 0) ≤ _; decide) (hb hbytes d45) (⟨rfl, n1⟩)
  obtain ⟨rfl, q11⟩ := E11
  have hB11 := hB1.mv (X8.warmed.alike.symm.trans X11.warmed.alike) q11
  have c12 : Steps p.tables e below (s₁.setTop (entryFrame m #[.ref a, .ref b, .int (Int32.ofNat o), .int (Int32.ofNat len), .null] 6)) (T11.setTop (mkF m 48 #[.val (.ref a), .val (.ref b), .val (.int (Int32.ofNat o)), .val (.int (Int32.ofNat len)), .val .null, .val (.ref s.heap.size)] [.int 0, .ref a])) := g11
  obtain ⟨T13, X13, p13, bl13, sl13, st13⟩ := X11.finit hexec hown (wk W (.fieldLink "java/lang/String" 15 "java/lang/String" "coder" "B")) (Or.inr ⟨_, (wk W (.laysFinal "java/lang/String" "java/lang/String" "coder" "B"))⟩) (Or.inl ⟨rfl, hnm⟩) f2 (Or.inl rfl) hB11 (t := .byte) (by decide +kernel) rfl (g := (mkF m 48 #[.val (.ref a), .val (.ref b), .val (.int (Int32.ofNat o)), .val (.int (Int32.ofNat len)), .val .null, .val (.ref s.heap.size)] [.int 0, .ref a])) rfl (rest := []) rfl (hb hbytes d48)
  have c14 : Steps p.tables e below (s₁.setTop (entryFrame m #[.ref a, .ref b, .int (Int32.ofNat o), .int (Int32.ofNat len), .null] 6)) (T13.setTop (mkF m 54 #[.val (.ref a), .val (.ref b), .val (.int (Int32.ofNat o)), .val (.int (Int32.ofNat len)), .val .null, .val (.ref s.heap.size)] [.ref s.heap.size, .ref a])) := (c12.trans (st13 _ (Steps.refl _))).trans (by
    refine XS.aloadN X13.here hexec rfl (hb hbytes d51) rfl rfl ?_
    refine XS.aload X13.here hexec rfl (hb hbytes d52) rfl rfl ?_
    exact Steps.refl _)
  obtain ⟨T15, X15, p15, bl15, sl15, st15⟩ := X13.finit hexec hown (wk W (.fieldLink "java/lang/String" 9 "java/lang/String" "value" "[B")) (Or.inr ⟨_, (wk W (.laysFinal "java/lang/String" "java/lang/String" "value" "[B"))⟩) (Or.inl ⟨rfl, hnm⟩) f1 (Or.inl rfl) bl13 (t := (.array .byte)) (by decide +kernel) rfl (g := (mkF m 54 #[.val (.ref a), .val (.ref b), .val (.int (Int32.ofNat o)), .val (.int (Int32.ofNat len)), .val .null, .val (.ref s.heap.size)] [.ref s.heap.size, .ref a])) rfl (rest := []) rfl (hb hbytes d54)
  have c16 : Steps p.tables e below (s₁.setTop (entryFrame m #[.ref a, .ref b, .int (Int32.ofNat o), .int (Int32.ofNat len), .null] 6)) (T15.setTop (mkF m 57 #[.val (.ref a), .val (.ref b), .val (.int (Int32.ofNat o)), .val (.int (Int32.ofNat len)), .val .null, .val (.ref s.heap.size)] [])) := c14.trans (st15 _ (Steps.refl _))
  have ap := apart (Or.inr ⟨_, (wk W (.laysFinal "java/lang/String" "java/lang/String" "value" "[B"))⟩) (Or.inr ⟨_, (wk W (.laysFinal "java/lang/String" "java/lang/String" "coder" "B"))⟩) f1 f2 (t₁ := .array .byte) (t₂ := .byte) (by decide +kernel) (by decide +kernel) (by decide)
  have al := X8.warmed.alike.symm.trans X15.warmed.alike
  have n7 : T11.heap[s.heap.size]? = some N := by rw [q11]; exact n1.1
  exact ⟨T15, none, _, _, _, X15, by simp, rfl, by omega, (fun _ => rfl), ⟨rfl, _, N, bl15, ((Same.refl D _).set _ (by simp)).set _ (by simp), sl15, (Cell.slots_setSlot_ne _ ap).trans sl13, n1.keep al (p15.other hne (p13.other hne n7)), n2, by rw [al.findClass]; exact n3, n4, n5, fun y c h1 h2 => p15.other h1 (p13.other h1 (by rw [q11]; exact n6 y c h2)), by rw [p15.2.2, p13.2.2, q11]; exact z8⟩, fun fs hl => c16.trans (X15.returnOut hexec hret (hb hbytes d57) hl)⟩
end New4
namespace New1
def yN : MethodName := ⟨"java/lang/String", "<init>", "([C)V"⟩
abbrev yB : ByteArray := jdk_42_method_3_code
theorem d0 : decode yB 0 = .ok (.aload_n 0, 1) := by decide +kernel
theorem d1 : decode yB 1 = .ok (.aload_n 1, 1) := by decide +kernel
theorem d2 : decode yB 2 = .ok (.iconst 0, 1) := by decide +kernel
theorem d3 : decode yB 3 = .ok (.aload_n 1, 1) := by decide +kernel
theorem d4 : decode yB 4 = .ok (.arraylength, 1) := by decide +kernel
theorem d5 : decode yB 5 = .ok (.aconst_null, 1) := by decide +kernel
theorem d6 : decode yB 6 = .ok (.invokespecial 27, 3) := by decide +kernel
theorem d9 : decode yB 9 = .ok (.return_, 1) := by decide +kernel
def site : List Cond := [New4.tab] ++ initW "java/lang/String" 27 New4.yN
def tab : Cond := tabOf yN yB 2 none site
def P (a : Addr) (D : Cell) (fV fC : Field) (b : Addr) (A : Cell) (z : Int32) (args : Array Value) (s : State) : Prop := args = #[.ref a, .ref b] ∧ Blank "java/lang/String" a D s ∧ Found "java/lang/String" "value" "[B" fV s ∧ Found "java/lang/String" "coder" "B" fC s ∧ Ch b A s ∧ StaticIs s "java/lang/String" "COMPACT_STRINGS" "Z" (.int z) ∧ ¬ z = 0 ∧ 0 < A.slots.size ∧ A.slots.size ≤ 536870912 ∧ ∀ i, i < A.slots.size → ¬ 255 < cv A i
def E (a : Addr) (D : Cell) (fV fC : Field) (A : Cell) (r : Option Value) (s u : State) : Prop := Got a D fV fC A 0 A.slots.size r s u
/-- new String(chars), not empty, no char above 255: a Latin-1 String of their low bytes -/
theorem law (l : Launch) (a : Addr) (D : Cell) (fV fC : Field) (b : Addr) (A : Cell) (z : Int32) : Law l yN 2 1 3 52 yB 2 none site (P a D fV fC b A z) (E a D fV fC A) [⟨a, fC.slot⟩, ⟨a, fV.slot⟩] 1 A.slots.size := by
  refine Law.of_walk (plainFor_of_name (by decide +kernel)) (by decide +kernel) (by decide +kernel) (by decide) (fun _ _ h => by rw [h.1]; rfl) (fun _ U U' hal hh h => ⟨h.1, h.2.1.mv hal hh, h.2.2.1.al hal, h.2.2.2.1.al hal, h.2.2.2.2.1.mv hal hh, h.2.2.2.2.2.1.there hal hh, h.2.2.2.2.2.2⟩) (fun r U U' V V' h1 hal h2 h => Got.mv r U U' V V' h1 hal h2 h) ?_
  intro p e s m args below meth c s₁ X0 hexec hbytes hml hret hlk hnm hown hh0 W hP
  obtain ⟨rfl, hB, f1, f2, hA, s1, hz, l0, l2, hp⟩ := hP
  have c1 : Steps p.tables e below (s₁.setTop (entryFrame m #[.ref a, .ref b] 2)) (s₁.setTop (mkF m 0 #[.val (.ref a), .val (.ref b)] [])) := entry rfl
  have c2 : Steps p.tables e below (s₁.setTop (entryFrame m #[.ref a, .ref b] 2)) (s₁.setTop (mkF m 6 #[.val (.ref a), .val (.ref b)] [.null, .int (Int32.ofNat A.slots.size), .int 0, .ref b, .ref a])) := c1.trans (by
    refine XS.aloadN X0.here hexec rfl (hb hbytes d0) rfl rfl ?_
    refine XS.aloadN X0.here hexec rfl (hb hbytes d1) rfl rfl ?_
    refine iconstV X0.here hexec rfl 0 (hb hbytes d2) (by decide) ?_
    refine XS.aloadN X0.here hexec rfl (hb hbytes d3) rfl rfl ?_
    refine X0.alen hexec (hA.1.mv X0.warmed.alike hh0) rfl rfl (hb hbytes d4) ?_
    refine XS.aconstNull X0.here hexec rfl (hb hbytes d5) ?_
    exact Steps.refl _)
  obtain ⟨v3, T3, X3, E3, g3⟩ := X0.callN hexec (New4.law l a D fV fC b A z 0 A.slots.size) rfl hown (wks W (initW "java/lang/String" 27 New4.yN)) (W New4.tab (by simp only [site, List.mem_cons, List.mem_append, true_or, or_true])) (W := 0) (Nat.le_of_ble_eq_true rfl) (Nat.le_of_ble_eq_true rfl) (Nat.le_refl _) (by show 0 + A.slots.size ≤ A.slots.size; omega) (g := (mkF m 6 #[.val (.ref a), .val (.ref b)] [.null, .int (Int32.ofNat A.slots.size), .int (Int32.ofNat 0), .ref b, .ref a])) rfl (by rw [hml]; rfl) c2 (argsL := [.ref b, .int (Int32.ofNat 0), .int (Int32.ofNat A.slots.size), .null]) (rest := []) rfl rfl (by show 2 * 0 + 0 ≤ _; decide) (hb hbytes d6) (⟨rfl, hB.mv X0.warmed.alike hh0, f1.al X0.warmed.alike, f2.al X0.warmed.alike, hA.mv X0.warmed.alike hh0, s1.there X0.warmed.alike hh0, hz, l0, by omega, l2, fun i hi => by rw [Nat.zero_add]; exact hp i hi⟩)
  have e0 := Got.mv _ s₁ s _ _ hh0.symm (Vm.Alike.refl _) rfl E3
  obtain rfl := e0.1
  have c4 : Steps p.tables e below (s₁.setTop (entryFrame m #[.ref a, .ref b] 2)) (T3.setTop (mkF m 9 #[.val (.ref a), .val (.ref b)] [])) := g3
  exact ⟨T3, none, _, _, _, X3, by simp, rfl, by omega, (fun _ => rfl), e0, fun fs hl => c4.trans (X3.returnOut hexec hret (hb hbytes d9) hl)⟩
theorem pays {l : Launch} {R : Room} {p : Program} {e : Env} {below : List Frame} {s : State} {sargs : Array Value} {len W : Nat} (a : Addr) (D : Cell) (fV fC : Field) (b : Addr) (A : Cell) (z : Int32) (htab : tab.before sargs s = true) (hfr : 4 ≤ R.frames) (hlo : W + 65 ≤ R.locals) :
    Back l R p e below s sargs yN len W (fun A₁ a₁ => A₁.cells + 1 ≤ R.cells ∧ A₁.slots + A.slots.size ≤ R.slots ∧ P a D fV fC b A z a₁ A₁.U) (fun A₁ _ v₁ B₁ => E a D fV fC A v₁ A₁.U B₁.U ∧ B₁.locs = A₁.locs ++ [⟨a, fC.slot⟩, ⟨a, fV.slot⟩] ∧ B₁.cells = A₁.cells + 1 ∧ B₁.slots = A₁.slots + A.slots.size) :=
  (law l a D fV fC b A z).pays htab hfr (by omega)
end New1
/-- the byte, read back as charAt reads it, is the char -/
theorem lo8_mask {x : Int32} (h0 : ¬ x < 0) (h1 : ¬ 255 < x) : lo8 x &&& 255 = x := by
  have t : ∀ k : Fin 256, lo8 (Int32.ofNat k.val) &&& 255 = Int32.ofNat k.val := by decide +kernel
  rw [Int32.lt_iff_toInt_lt] at h0 h1
  have e0 : (0 : Int32).toInt = 0 := rfl
  have e1 : (255 : Int32).toInt = 255 := rfl
  obtain ⟨k, hk⟩ : ∃ k : Nat, x.toInt = k := ⟨x.toInt.toNat, by omega⟩
  have hx : x = Int32.ofNat k := Int32.toInt_inj.mp (by rw [hk, Int32.toInt_ofNat_small (by omega)])
  rw [hx]
  exact t ⟨k, by omega⟩
end StrChars
namespace StrChars.Road
open Jvm Sem ClassFile Op Lib Jvm.Stand Jvm.Free Jvm.Free.XT
open Jvm.Lib.Cold (StaticIs)
abbrev ST : String := "java/lang/String"
/-- every table word that New1's law asks, flat -/
abbrev words : List Jvm.Cond := [.code New1.yN New1.yB 2 none, .initialized ST, .methodLink ST 27 New4.yN, .instanceMethod New4.yN,
  .code New4.yN New4.yB 6 none, .fieldLink ST 38 ST "COMPACT_STRINGS" "Z", .laysFinal ST ST "value" "[B", .fieldLink ST 9 ST "value" "[B", .laysFinal ST ST "coder" "B", .fieldLink ST 15 ST "coder" "B",
  .methodLink ST 1 Lib.objectInit, .instanceMethod Lib.objectInit, .code Lib.objectInit ⟨#[0xb1]⟩ 1 none, .methodLink ST 177 Cmp3.yN, .static Cmp3.yN, .methodLink ST 47 CodL.yN, .static CodL.yN,
  .code Cmp3.yN Cmp3.yB 6 (some (.array .byte)), .initialized U16, .arrayClass .byte, .methodLink U16 115 Cmp5.yN, .static Cmp5.yN, .code Cmp5.yN Cmp5.yB 7 (some .int), .code CodL.yN CodL.yB 2 (some .byte)]
theorem tab_of {a : Array Value} {s : State} (h : ∀ w ∈ words, w.before a s = true) : New1.tab.before a s = true := by
  have h5 : Cmp5.tab.before a s = true := unparts (wk h (.code Cmp5.yN Cmp5.yB 7 (some .int))) (wks h (.initialized Cmp5.yN.cls :: Cmp5.site))
  have hc : CodL.tab.before a s = true := unparts (wk h (.code CodL.yN CodL.yB 2 (some .byte))) (wks h (.initialized CodL.yN.cls :: CodL.site))
  have q5 : ∀ w ∈ Cmp5.tab :: words, w.before a s = true := fun w hw => (List.mem_cons.mp hw).elim (fun e => e ▸ h5) (h w)
  have h3 : Cmp3.tab.before a s = true := unparts (wk q5 (.code Cmp3.yN Cmp3.yB 6 (some (.array .byte)))) (wks q5 (.initialized Cmp3.yN.cls :: Cmp3.site))
  have q3 : ∀ w ∈ Cmp3.tab :: CodL.tab :: words, w.before a s = true := fun w hw => (List.mem_cons.mp hw).elim (fun e => e ▸ h3) fun hw => (List.mem_cons.mp hw).elim (fun e => e ▸ hc) (h w)
  have h4 : New4.tab.before a s = true := unparts (wk q3 (.code New4.yN New4.yB 6 none)) (wks q3 (.initialized New4.yN.cls :: New4.site))
  have q4 : ∀ w ∈ New4.tab :: words, w.before a s = true := fun w hw => (List.mem_cons.mp hw).elim (fun e => e ▸ h4) (h w)
  exact unparts (wk q4 (.code New1.yN New1.yB 2 none)) (wks q4 (.initialized New1.yN.cls :: New1.site))
/-- the words ride from the start Z to the walk's own state -/
theorem moved {Z s : State} {a0 args : Array Value} (hZ : Z.Warmed39 s.vm) (hw : ∀ d ∈ words, d.before a0 Z = true) : ∀ d ∈ words, d.before args s = true := fun d hd => by
  have q := hw d hd
  have t : ∀ d ∈ words, d = .arrayClass .byte ∨ (d.onTables && d.keepsFace) = true := by decide +kernel
  rcases t d hd with rfl | t
  · exact RoadKit.mvA hZ q
  · exact RoadKit.mv hZ q t
/-- WHAT COMES BACK, over the tables of the start Z: h the heap at the call, h' behind it -/
def Q (Z : State) (x : Addr) (A : Cell) (h : Heap) (v : Option Value) (h' : Heap) (L : List Loc) : Prop := v = none ∧ (∀ y ∈ L, y.base = x) ∧ RoadKit.Keep h h' [x] ∧ h'.size = h.size + 1 ∧ RoadKit.Exa Z h' x ST ∧ RoadKit.Fld Z h' x ST "value" "[B" (.ref h.size) ∧ RoadKit.Fld Z h' x ST "coder" "B" (.int 0) ∧
  (∃ V : Cell, RoadKit.Arr Z h' h.size V .byte ∧ V.vm = .none ∧ Z.vm.findClass "[B" = some V.cls ∧ V.slots.size = A.slots.size ∧ ∀ j, j < A.slots.size → V.slots[j]? = some (.int (lo8 (cv A j)))) ∧
  ∀ (O n d : String) (w : Value), RoadKit.Fld Z h x O n d w → RoadKit.slotOf Z O n d ≠ RoadKit.slotOf Z ST "value" "[B" → RoadKit.slotOf Z O n d ≠ RoadKit.slotOf Z ST "coder" "B" → RoadKit.Fld Z h' x O n d w
/-- **new String(chars) AT A CALL, IN THE ROAD'S FORM**: for specialBack behind newO: x the fresh String, b the char[] with the cell A -/
theorem back {p : Program} {l : Launch} {e : Env} {R : Room} {s : State} {args : Array Value} {below : List Frame} {len W : Nat} {Z : State} {a0 : Array Value} {h : Heap} (hZ : Z.Warmed39 s.vm) (hw : ∀ d ∈ words, d.before a0 Z = true) {kI : Nat} (wi : (Jvm.Cond.instantiable ST kI).before a0 Z = true)
    {x b : Addr} {A : Cell} {z : Int32} {v0 c0 : Value} (E : RoadKit.Exa Z h x ST) (V : RoadKit.Fld Z h x ST "value" "[B" v0) (C : RoadKit.Fld Z h x ST "coder" "B" c0) (K : RoadKit.Arr Z h b A .char) (hty : Typed .char A) (S : RoadKit.Sta Z h ST "COMPACT_STRINGS" "Z" (.int z)) (hz : ¬ z = 0)
    (l0 : 0 < A.slots.size) (l2 : A.slots.size ≤ 536870912) (hp : ∀ i, i < A.slots.size → ¬ 255 < cv A i) (hfr : 4 ≤ R.frames) (hlo : W + 65 ≤ R.locals) :
    Back l R p e below s args New1.yN len W (fun P a => a = #[.ref x, .ref b] ∧ P.U.heap = h ∧ P.cells + 1 ≤ R.cells ∧ P.slots + A.slots.size ≤ R.slots)
      (fun P _ v B => ∃ L, Q Z x A h v B.U.heap L ∧ B.locs = P.locs ++ L ∧ B.cells = P.cells + 1 ∧ B.slots = P.slots + A.slots.size) := by
  intro m meth c P g ig mk a X hg hsize hdg hW hn hp'
  obtain ⟨rfl, rfl, r1, r2⟩ := hp'
  have al : Z.vm.Alike P.U.vm := hZ.alike.trans X.warmed.alike
  obtain ⟨D, cfV, kV, iV, fV, hD, gV, stV, knV, obV, asV, slV⟩ := id V
  obtain ⟨D', cfC, kC, iC, fC, hD', gC, stC, -, -, asC, slC⟩ := id C
  cases hD.symm.trans hD'
  obtain ⟨D2, kD, e1, e2, e3, e4, e5⟩ := id E
  cases hD.symm.trans e1
  obtain ⟨c2, k2, i1, i2, i3, -⟩ := Cond.instantiable_spec wi
  cases e2.symm.trans i1
  cases e3.symm.trans i2
  obtain ⟨kU, u1, u2⟩ := al.2.2 _ _ e3
  have hB : Blank ST x D P.U := ⟨hD, ⟨knV, fun q hq => by rw [hq] at obV; cases obV⟩, by rw [al.findClass]; exact e2, kU, u1, by rw [u2]; exact i3, by rw [u2]; exact e5 i3⟩
  have F1 : Found ST "value" "[B" fV P.U := ⟨SBG.found_only al ⟨cfV, kV, iV, gV⟩, stV⟩
  have F2 : Found ST "coder" "B" fC P.U := ⟨SBG.found_only al ⟨cfC, kC, iC, gC⟩, stC⟩
  have hA : Ch b A P.U := ⟨⟨K.1, State.isArrayOf_alike al K.2.1, K.2.2, by omega⟩, hty⟩
  have hS : StaticIs P.U ST "COMPACT_STRINGS" "Z" (.int z) := by
    obtain ⟨cfS, iS, kS, fS, st, cS, t1, t2, t3, t4, t5, t6, t7⟩ := S
    exact StaticIs.there (s := { Z with heap := P.U.heap }) ⟨cfS, iS, kS, fS, st, cS, t1, t2, t3, t4, t5, (fun q => by rw [q] at t6; cases t6), t7⟩ al rfl
  obtain ⟨v, B, X', ⟨⟨hv, E', V', q1, q2, q3, q4, q5, q6, q7, q8, q9, q10, q11⟩, hl, hc, hs⟩, st⟩ := New1.pays x D fV fC b A z (tab_of (moved hZ hw)) hfr hlo m meth c P g ig mk _ X hg hsize hdg hW hn ⟨r1, r2, rfl, hB, F1, F2, hA, hS, hz, l0, l2, hp⟩
  have al' : Z.vm.Alike B.U.vm := hZ.alike.trans X'.warmed.alike
  have hsz : E'.slots.size = D.slots.size := by
    obtain ⟨-, -, -, kB, w1, w2, w3⟩ := q1
    obtain ⟨kB', y1, y2⟩ := al'.2.2 _ _ e3
    rw [q2.2.1] at w1
    cases w1.symm.trans y1
    rw [w3, e5 i3, y2]
  refine ⟨v, B, X', ⟨_, ⟨hv, ?_, ⟨by omega, fun y cy hy hn' => q10 y cy (by simpa using hn') hy, fun y cy hy => ?_⟩, q11, ⟨E', _, q1.1, by rw [q2.2.1]; exact e2, by rw [q2.2.1]; exact e3, by rw [q2.1]; exact obV, fun _ => by rw [hsz]; exact e5 i3⟩,
    ⟨E', cfV, kV, iV, fV, q1.1, gV, stV, by rw [q2.1]; exact knV, by rw [q2.1]; exact obV, by rw [q2.2.1]; exact asV, q3⟩, ⟨E', cfC, kC, iC, fC, q1.1, gC, stC, by rw [q2.1]; exact knV, by rw [q2.1]; exact obV, by rw [q2.2.1]; exact asC, q4⟩,
    ⟨V', ⟨q5.1, State.isArrayOf_alike al'.symm q5.2.1, q5.2.2.1⟩, q6, by rw [← al'.findClass]; exact q7, q8, fun j hj => by have := q9 j hj; rwa [Nat.zero_add] at this⟩, fun O n d w F n1 n2 => ?_⟩, hl, hc, hs⟩, st⟩
  · intro y hy
    simp only [List.mem_cons, List.not_mem_nil, or_false] at hy
    rcases hy with rfl | rfl <;> rfl
  · by_cases q : y = x
    · subst q
      cases hD.symm.trans hy
      exact ⟨E', q1.1, q2.2.1, q2.1, hsz⟩
    · exact ⟨cy, q10 y cy q hy, rfl, rfl, rfl⟩
  · obtain ⟨D3, cf, k, i, f, g1, g2, g3, g4, g5, g6, g7⟩ := F
    cases hD.symm.trans g1
    simp only [RoadKit.slotOf, g2, gV, gC, Option.map_some, Option.getD_some] at n1 n2
    exact ⟨E', cf, k, i, f, q1.1, g2, g3, by rw [q2.1]; exact g4, by rw [q2.1]; exact g5, by rw [q2.2.1]; exact g6, by rw [q2.2.2 f.slot (by simp [n1, n2])]; exact g7⟩
end StrChars.Road
namespace StrChars.Road
open Jvm Sem ClassFile Op Lib Jvm.Stand Jvm.Free Jvm.Free.XT
/-- WHAT COMES BACK, the byte[] as a list of values -/
def QA (Z : State) (x : Addr) (zn : Int32) (cs : List Int32) (h : Heap) (v : Option Value) (h' : Heap) (L : List Loc) : Prop := v = none ∧ (∀ y ∈ L, y.base = x) ∧ RoadKit.Keep h h' [x] ∧ h'.size = h.size + 1 ∧ RoadKit.Exa Z h' x ST ∧ RoadKit.Fld Z h' x ST "value" "[B" (.ref h.size) ∧ RoadKit.Fld Z h' x ST "coder" "B" (.int 0) ∧
  (∃ kb, Z.vm.findClass "[B" = some kb ∧ RoadKit.Arv Z h' h.size kb .byte zn (cs.map fun c => .int (lo8 c)) (.int 0)) ∧
  ∀ (O n d : String) (w : Value), RoadKit.Fld Z h x O n d w → RoadKit.slotOf Z O n d ≠ RoadKit.slotOf Z ST "value" "[B" → RoadKit.slotOf Z O n d ≠ RoadKit.slotOf Z ST "coder" "B" → RoadKit.Fld Z h' x O n d w
/-- **new String(chars) AT A CALL, THE ARRAYS AS LISTS**: the char[] at b holds cs, not empty, no char above 255 -/
theorem backArv {p : Program} {l : Launch} {e : Env} {R : Room} {s : State} {args : Array Value} {below : List Frame} {len W : Nat} {Z : State} {a0 : Array Value} {h : Heap} (hZ : Z.Warmed39 s.vm) (hw : ∀ d ∈ words, d.before a0 Z = true) {kI : Nat} (wi : (Jvm.Cond.instantiable ST kI).before a0 Z = true)
    {x b : Addr} {k : ClassId} {zn z : Int32} {cs : List Int32} {dv v0 c0 : Value} (E : RoadKit.Exa Z h x ST) (V : RoadKit.Fld Z h x ST "value" "[B" v0) (C : RoadKit.Fld Z h x ST "coder" "B" c0) (K : RoadKit.Arv Z h b k .char zn (cs.map Value.int) dv) (S : RoadKit.Sta Z h ST "COMPACT_STRINGS" "Z" (.int z)) (hz : ¬ z = 0)
    (hlen : zn.toNatClampNeg = cs.length) (h0 : 0 < cs.length) (hbig : cs.length ≤ 536870912) (hall : ∀ c ∈ cs, ¬ 255 < c) (hfr : 4 ≤ R.frames) (hlo : W + 65 ≤ R.locals) :
    Back l R p e below s args New1.yN len W (fun P a => a = #[.ref x, .ref b] ∧ P.U.heap = h ∧ P.cells + 1 ≤ R.cells ∧ P.slots + cs.length ≤ R.slots)
      (fun P _ v B => ∃ L, QA Z x zn cs h v B.U.heap L ∧ B.locs = P.locs ++ L ∧ B.cells = P.cells + 1 ∧ B.slots = P.slots + cs.length) := by
  obtain ⟨A, K1, K2, K3, K4, K5, K6⟩ := K
  have e : A.slots.size = cs.length := K3.trans hlen
  have hat : ∀ (i : Nat) (hi : i < cs.length), A.slots[i]? = some (.int cs[i]) := fun i hi => by rw [K5 i (by omega)]; simp [List.getD_eq_getElem?_getD, hi]
  have hcv : ∀ (i : Nat) (hi : i < cs.length), cv A i = cs[i] := fun i hi => by unfold cv; rw [hat i hi]
  have hty : Typed .char A := fun i v hv => by
    have hi : i < A.slots.size := (Array.getElem?_eq_some_iff.mp hv).1
    have q := K5 i hi
    rw [hv] at q
    rw [Option.some.inj q]
    exact K6 i hi
  refine Back.mono (back hZ hw wi E V C K1 hty S hz (by omega) (by omega) (fun i hi => by rw [hcv i (by omega)]; exact hall _ (List.getElem_mem _)) hfr hlo) (fun P a hp => ⟨hp.1, hp.2.1, hp.2.2.1, by rw [e]; exact hp.2.2.2⟩) (fun P a v B hp hq => ?_)
  obtain ⟨L, ⟨q1, q2, q3, q4, q5, q6, q7, ⟨V', v1, v2, v3, v4, v5⟩, q9⟩, hl, hc, hs⟩ := hq
  refine ⟨L, ⟨q1, q2, q3, q4, q5, q6, q7, ⟨V'.cls, v3, V', v1, rfl, by rw [v4, e, hlen], K4, fun i hi => ?_, fun i hi => ?_⟩, q9⟩, hl, hc, by rw [hs, e]⟩
  · have hi' : i < cs.length := by omega
    rw [v5 i (by omega), hcv i hi']; simp [List.getD_eq_getElem?_getD, hi']
  · have hi' : i < cs.length := by omega
    simp only [List.getD_eq_getElem?_getD, List.getElem?_map, List.getElem?_eq_getElem hi', Option.map_some, Option.getD_some]
    exact fits_lo8 _
end StrChars.Road
namespace StrChars.Road
open Jvm Sem ClassFile Op Lib Jvm.Stand Jvm.Free Jvm.Free.XT
/-- WHAT COMES BACK, in the writer's own shape -/
def QV (Z : State) (x : Addr) (N : Int32) (bs : List Int32) (h : Heap) (n0 : Nat) (v : Option Value) (h' : Heap) (L : List Loc) : Prop := v = none ∧ RoadKit.Fr n0 L ∧ RoadKit.Keep h h' [x] ∧ RoadKit.Exa Z h' x ST ∧ RoadKit.Fld Z h' x ST "coder" "B" (.int 0) ∧
  ∃ (t : Addr) (kb : ClassId), n0 ≤ t ∧ h.size ≤ t ∧ ¬ t = x ∧ RoadKit.Fld Z h' x ST "value" "[B" (.ref t) ∧ RoadKit.Arv Z h' t kb .byte N (bs.map Value.int) (.int 0)
/-- **new String(chars) AT A CALL, FOR THE WRITER**: a char[] of n known ints, each 0 to 255 -/
theorem backV {p : Program} {l : Launch} {e : Env} {R : Room} {s : State} {args : Array Value} {below : List Frame} {len W : Nat} {Z : State} {a0 : Array Value} {h : Heap} (hZ : Z.Warmed39 s.vm) (hw : ∀ d ∈ words, d.before a0 Z = true) {kI : Nat} (wi : (Jvm.Cond.instantiable ST kI).before a0 Z = true)
    {x b : Addr} {kC : ClassId} {cs bs : List Int32} {d v0 c0 : Value} {z N : Int32} {n n0 : Nat} (hx0 : n0 ≤ x) (hh0 : n0 ≤ h.size) (E : RoadKit.Exa Z h x ST) (V : RoadKit.Fld Z h x ST "value" "[B" v0) (C : RoadKit.Fld Z h x ST "coder" "B" c0) (K : RoadKit.Arv Z h b kC .char N (cs.map Value.int) d) (S : RoadKit.Sta Z h ST "COMPACT_STRINGS" "Z" (.int z)) (hz : ¬ z = 0)
    (hn : cs.length = n) (hN : N = Int32.ofNat n) (l0 : 0 < n) (l2 : n ≤ 4000) (hp : ∀ c ∈ cs, ¬ c < 0 ∧ ¬ (255 : Int32) < c) (hb : bs = cs.map (fun c => c.toInt8.toInt32)) (hfr : 4 ≤ R.frames) (hlo : W + 65 ≤ R.locals) :
    Back l R p e below s args (⟨"java/lang/String", "<init>", "([C)V"⟩ : MethodName) len W (fun P a => a = #[.ref x, .ref b] ∧ P.U.heap = h ∧ P.cells + 1 ≤ R.cells ∧ P.slots + n ≤ R.slots)
      (fun P _ v B => ∃ L, QV Z x N bs h n0 v B.U.heap L ∧ B.locs = P.locs ++ L ∧ B.cells = P.cells + 1 ∧ B.slots = P.slots + n) := by
  subst hn hN hb
  refine Back.mono (backArv hZ hw wi E V C K S hz (n32 (by omega)) l0 (by omega) (fun c hc => (hp c hc).2) hfr hlo) (fun P a hp => hp) (fun P a v B hp hq => ?_)
  obtain ⟨L, ⟨q1, q2, q3, q4, q5, q6, q7, ⟨kb, v1, v2⟩, q9⟩, hl, hc, hs⟩ := hq
  exact ⟨L, ⟨q1, fun y hy => by rw [q2 y hy]; exact hx0, q3, q5, q7, h.size, kb, hh0, Nat.le_refl _, Nat.ne_of_gt E.lt, q6, by rw [List.map_map]; exact v2⟩, hl, hc, hs⟩
end StrChars.Road
namespace StrChars
open Jvm Sem ClassFile Op Lib Jvm.Stand Jvm.Free.XT Jvm.Free.ALB Jvm.Free.JM Jvm.Free
open Jvm.Lib.Cold (StaticIs)
def hi8 (x : Int32) : Int32 := lo8 (x >>> ((8 : Int32) &&& 31))
/-- what StringUTF16.getChar makes of two bytes -/
def pairCh (u v : Int32) : Int32 := (((u &&& 255) <<< ((0 : Int32) &&& 31)) ||| ((v &&& 255) <<< ((8 : Int32) &&& 31))).toUInt32.toUInt16.toUInt32.toInt32
theorem lo8_and (x : Int32) : (lo8 x &&& 255).toBitVec.toNat = x.toBitVec.toNat % 256 := by
  have h : (lo8 x).toBitVec = (x.toBitVec.signExtend 8).signExtend 32 := by rw [lo8, Int8.toBitVec_toInt32, Int32.toBitVec_toInt8]
  rw [Int32.toBitVec_and, BitVec.toNat_and, h]
  have e : ((x.toBitVec.signExtend 8).signExtend 32).toNat % 256 = x.toBitVec.toNat % 256 := by
    rw [BitVec.toNat_signExtend]
    have hlt := x.toBitVec.isLt
    simp only [BitVec.toNat_setWidth, BitVec.toNat_signExtend]
    split <;> split <;> omega
  rw [← e]
  exact Nat.and_two_pow_sub_one_eq_mod _ 8
theorem pair_says {c : Int32} (h0 : ¬ c < 0) (h1 : ¬ 65535 < c) : pairCh (lo8 c) (hi8 c) = c := by
  rw [Int32.lt_iff_toInt_lt] at h0 h1
  have e0 : (0 : Int32).toInt = 0 := rfl
  have e1 : (65535 : Int32).toInt = 65535 := rfl
  have hc : c.toInt = c.toBitVec.toNat := by
    have := c.toBitVec.isLt
    have e : c.toInt = c.toBitVec.toInt := rfl
    rw [e] at h0 h1
    rw [e]
    rw [BitVec.toInt_eq_toNat_cond] at h0 h1 ⊢
    split at h0 <;> split <;> omega
  have hn : c.toBitVec.toNat < 65536 := by omega
  have a1 := lo8_and c
  have a2 : (hi8 c &&& 255).toBitVec.toNat = c.toBitVec.toNat / 256 := by
    rw [hi8, lo8_and]
    have e : ((8 : Int32) &&& 31) = 8 := by decide
    rw [e, Int32.toBitVec_shiftRight]
    have e2 : ((8 : Int32).toBitVec.smod 32) = 8#32 := by decide
    rw [e2, BitVec.sshiftRight_eq', BitVec.toNat_sshiftRight_of_msb_false (by rw [BitVec.msb_eq_false_iff_two_mul_lt]; omega)]
    show c.toBitVec.toNat >>> 8 % 256 = _
    rw [Nat.shiftRight_eq_div_pow]
    omega
  unfold pairCh
  apply Int32.toBitVec_inj.mp
  apply BitVec.eq_of_toNat_eq
  have f0 : ((0 : Int32) &&& 31) = 0 := by decide
  have f8 : ((8 : Int32) &&& 31) = 8 := by decide
  rw [f0, f8]
  have g : (((lo8 c &&& 255) <<< (0 : Int32)) ||| ((hi8 c &&& 255) <<< (8 : Int32))).toBitVec.toNat = c.toBitVec.toNat := by
    rw [Int32.toBitVec_or, Int32.toBitVec_shiftLeft, Int32.toBitVec_shiftLeft]
    have s0 : ((0 : Int32).toBitVec.smod 32) = 0#32 := by decide
    have s8 : ((8 : Int32).toBitVec.smod 32) = 8#32 := by decide
    rw [s0, s8, BitVec.toNat_or]
    simp only [BitVec.shiftLeft_eq', BitVec.toNat_shiftLeft, a1, a2]
    show (c.toBitVec.toNat % 256) <<< 0 % 2 ^ 32 ||| (c.toBitVec.toNat / 256) <<< 8 % 2 ^ 32 = _
    rw [Nat.shiftLeft_zero, Nat.mod_eq_of_lt (show c.toBitVec.toNat % 256 < 2 ^ 32 by omega), Nat.mod_eq_of_lt (show (c.toBitVec.toNat / 256) <<< 8 < 2 ^ 32 by rw [Nat.shiftLeft_eq]; omega), Nat.or_comm, ← Nat.shiftLeft_add_eq_or_of_lt (by omega), Nat.shiftLeft_eq]
    omega
  show BitVec.toNat (((((lo8 c &&& 255) <<< (0 : Int32)) ||| ((hi8 c &&& 255) <<< (8 : Int32))).toBitVec.setWidth 16).setWidth 32) = _
  rw [BitVec.toNat_setWidth, BitVec.toNat_setWidth, g]
  omega
end StrChars
namespace StrChars
open Jvm Sem ClassFile Op Lib Jvm.Stand Jvm.Free.XT Jvm.Free.ALB Jvm.Free.JM Jvm.Free
open Jvm.Lib.Cold (StaticIs)
/-- the array's cell V codes the n chars f 0 .. f (n - 1) by the coder cd, as the JDK does: coder 1 just where some char is above 255 -/
def Cod (cd : Int32) (n : Nat) (f : Nat → Int32) (V : Cell) : Prop := (cd = 0 ∧ V.slots.size = n ∧ ∀ j, j < n → V.slots[j]? = some (.int (lo8 (f j))) ∧ ¬ 255 < f j) ∨ (cd = 1 ∧ V.slots.size = 2 * n ∧ (∀ j, j < n → V.slots[2 * j]? = some (.int (lo8 (f j))) ∧ V.slots[2 * j + 1]? = some (.int (hi8 (f j)))) ∧ ∃ j, j < n ∧ 255 < f j)
/-- **x is a String of the n chars f 0 .. f (n - 1)**, Latin-1 or UTF-16; its array at t has the cell V -/
def Txt (x t : Addr) (V : Cell) (cd : Int32) (n : Nat) (f : Nat → Int32) (U : State) : Prop := Exact "java/lang/String" x U ∧ Has x "java/lang/String" "value" "[B" (.ref t) U ∧ Has x "java/lang/String" "coder" "B" (.int cd) U ∧ XT.Arr .byte t V U ∧ Cod cd n f V ∧ ∀ j, j < n → ¬ f j < 0 ∧ ¬ 65535 < f j
theorem Txt.mv {x t : Addr} {V : Cell} {cd : Int32} {n : Nat} {f : Nat → Int32} {U U' : State} (h : Txt x t V cd n f U) (hal : U.vm.Alike U'.vm) (hh : U'.heap = U.heap) : Txt x t V cd n f U' := ⟨h.1.mv hal hh, h.2.1.mv hal hh, h.2.2.1.mv hal hh, h.2.2.2.1.mv hal hh, h.2.2.2.2⟩
end StrChars
namespace StrChars.Road
open Jvm Sem ClassFile Op Lib Jvm.Stand Jvm.Free Jvm.Free.XT
open Jvm.Lib.Cold (StaticIs)
theorem consq {a : Array Value} {s : State} {c : Jvm.Cond} {L : List Jvm.Cond} (h0 : c.before a s = true) (h : ∀ w ∈ L, w.before a s = true) : ∀ w ∈ c :: L, w.before a s = true := fun w hw => (List.mem_cons.mp hw).elim (fun e => e ▸ h0) (h w)
/-- the bytes of the chars cs, low before high -/
def wideBytes : List Int32 → List Value
  | [] => []
  | c :: cs => .int (lo8 c) :: .int (hi8 c) :: wideBytes cs
theorem wide_lo (d : Value) : ∀ (cs : List Int32) (j : Nat), j < cs.length → (wideBytes cs).getD (2 * j) d = .int (lo8 (cs.getD j 0))
  | [], j, h => absurd h (Nat.not_lt_zero j)
  | c :: cs, 0, _ => rfl
  | c :: cs, j + 1, h => by
    have q := wide_lo d cs j (by simpa using h)
    rw [show 2 * (j + 1) = 2 * j + 1 + 1 from by omega]
    simpa [wideBytes] using q
theorem wide_hi (d : Value) : ∀ (cs : List Int32) (j : Nat), j < cs.length → (wideBytes cs).getD (2 * j + 1) d = .int (hi8 (cs.getD j 0))
  | [], j, h => absurd h (Nat.not_lt_zero j)
  | c :: cs, 0, _ => rfl
  | c :: cs, j + 1, h => by
    have q := wide_hi d cs j (by simpa using h)
    rw [show 2 * (j + 1) + 1 = 2 * j + 1 + 1 + 1 from by omega]
    simpa [wideBytes] using q
theorem low_at (d : Value) (cs : List Int32) (j : Nat) (h : j < cs.length) : (cs.map fun c => Value.int (lo8 c)).getD j d = .int (lo8 (cs.getD j 0)) := by
  simp [List.getD_eq_getElem?_getD, h]
/-- an array of N2 bytes vs codes the chars cs by the coder cd -/
def CodA (cs : List Int32) (cd N2 : Int32) (vs : List Value) : Prop := (cd = 0 ∧ N2 = Int32.ofNat cs.length ∧ vs = (cs.map fun c => Value.int (lo8 c)) ∧ ∀ c ∈ cs, ¬ 255 < c) ∨ (cd = 1 ∧ N2 = Int32.ofNat (2 * cs.length) ∧ vs = wideBytes cs ∧ ∃ c ∈ cs, 255 < c)
theorem CodA.cod {cs : List Int32} {cd N2 : Int32} {vs : List Value} {V : Cell} (h : CodA cs cd N2 vs) (hn : 2 * cs.length < 2 ^ 31) (hs : V.slots.size = N2.toNatClampNeg) (hv : RoadKit.Has V vs (.int 0)) : Cod cd cs.length (fun j => cs.getD j 0) V := by
  rcases h with ⟨rfl, rfl, rfl, h⟩ | ⟨rfl, rfl, rfl, c, hc, hw⟩
  · rw [n32 (by omega)] at hs
    exact Or.inl ⟨rfl, hs, fun j hj => ⟨by rw [hv j (by omega), low_at _ _ _ hj], by
      have e : cs.getD j 0 = cs[j] := by simp [List.getD_eq_getElem?_getD, hj]
      show ¬ 255 < cs.getD j 0
      rw [e]; exact h _ (List.getElem_mem _)⟩⟩
  · rw [n32 (by omega)] at hs
    obtain ⟨j, hj, rfl⟩ := List.getElem_of_mem hc
    exact Or.inr ⟨rfl, hs, fun j hj => ⟨by rw [hv _ (by omega), wide_lo _ _ _ hj], by rw [hv _ (by omega), wide_hi _ _ _ hj]⟩, j, hj, by
      have e : cs.getD j 0 = cs[j] := by simp [List.getD_eq_getElem?_getD, hj]
      show 255 < cs.getD j 0
      rw [e]; exact hw⟩
/-- an object of exactly java/lang/String, its two fields found: as the laws ask it -/
theorem strObj {Z U : State} {a0 : Array Value} {kI : Nat} (wi : (Jvm.Cond.instantiable ST kI).before a0 Z = true) (al : Z.vm.Alike U.vm) {x : Addr} {v0 c0 : Value} (E : RoadKit.Exa Z U.heap x ST) (V : RoadKit.Fld Z U.heap x ST "value" "[B" v0) (C : RoadKit.Fld Z U.heap x ST "coder" "B" c0) :
    ∃ (D : Cell) (fV fC : Field), Blank ST x D U ∧ Found ST "value" "[B" fV U ∧ Found ST "coder" "B" fC U ∧ D.slots[fV.slot]? = some v0 ∧ D.slots[fC.slot]? = some c0 ∧ RoadKit.slotOf Z ST "value" "[B" = fV.slot ∧ RoadKit.slotOf Z ST "coder" "B" = fC.slot := by
  obtain ⟨D, cfV, kV, iV, fV, hD, gV, stV, knV, obV, asV, slV⟩ := V
  obtain ⟨D', cfC, kC, iC, fC, hD', gC, stC, -, -, asC, slC⟩ := C
  cases hD.symm.trans hD'
  obtain ⟨D2, kD, e1, e2, e3, e4, e5⟩ := E
  cases hD.symm.trans e1
  obtain ⟨c2, k2, i1, i2, i3, -⟩ := Cond.instantiable_spec wi
  cases e2.symm.trans i1
  cases e3.symm.trans i2
  obtain ⟨kU, u1, u2⟩ := al.2.2 _ _ e3
  exact ⟨D, fV, fC, ⟨hD, ⟨knV, fun q hq => by rw [hq] at obV; cases obV⟩, by rw [al.findClass]; exact e2, kU, u1, by rw [u2]; exact i3, by rw [u2]; exact e5 i3⟩, ⟨SBG.found_only al ⟨cfV, kV, iV, gV⟩, stV⟩, ⟨SBG.found_only al ⟨cfC, kC, iC, gC⟩, stC⟩, slV, slC, by simp [RoadKit.slotOf, gV], by simp [RoadKit.slotOf, gC]⟩
theorem sta_is {Z U : State} (al : Z.vm.Alike U.vm) {C n d : String} {v : Value} (S : RoadKit.Sta Z U.heap C n d v) : StaticIs U C n d v := by
  obtain ⟨cfS, iS, kS, fS, st, cS, t1, t2, t3, t4, t5, t6, t7⟩ := S
  exact StaticIs.there (s := { Z with heap := U.heap }) ⟨cfS, iS, kS, fS, st, cS, t1, t2, t3, t4, t5, (fun q => by rw [q] at t6; cases t6), t7⟩ al rfl
end StrChars.Road
namespace StrChars
open Jvm Sem ClassFile Op Lib Jvm.Stand Jvm.Free.XT Jvm.Free.ALB Jvm.Free.JM Jvm.Free
open Jvm.Lib.Cold (StaticIs)
/-- what place i of a byte[]'s cell holds -/
def yv (A : Cell) (i : Nat) : Int32 := match A.slots[i]? with | some (.int x) => x | _ => 0
theorem yv_get {a : Addr} {A : Cell} {U : State} (h : XT.Arr .byte a A U) (ht : Typed .byte A) {i : Nat} (hi : i < A.slots.size) : A.slots[i]? = some (.int (yv A i)) := by
  have e := Array.getElem?_eq_getElem hi
  have f := ht i _ e
  unfold yv; rw [e]
  generalize A.slots[i] = v at f
  cases v <;> simp [fits] at f ⊢
/-- the two arrays are equal, place for place -/
def EqC (A B : Cell) : Prop := A.slots.size = B.slots.size ∧ ∀ i, i < A.slots.size → yv A i = yv B i
/-- a boolean that says whether p -/
def Says01 (q : Prop) (r : Option Value) (s u : State) : Prop := ∃ v : Int32, r = some (.int v) ∧ u.heap = s.heap ∧ ((v = 1 ∧ q) ∨ (v = 0 ∧ ¬ q))
theorem Says01.mv {q : Prop} : ∀ r (U U' V V' : State), U'.heap = U.heap → V.vm.Alike V'.vm → V'.heap = V.heap → Says01 q r U V → Says01 q r U' V' :=
  fun r U U' V V' h1 _ h2 ⟨v, a, b, c⟩ => ⟨v, a, by rw [h1, h2]; exact b, c⟩
namespace LEq
def yN : MethodName := ⟨"java/lang/StringLatin1", "equals", "([B[B)Z"⟩
abbrev yB : ByteArray := jdk_43_method_13_code
theorem d0 : decode yB 0 = .ok (.aload_n 0, 1) := by decide +kernel
theorem d1 : decode yB 1 = .ok (.arraylength, 1) := by decide +kernel
theorem d2 : decode yB 2 = .ok (.aload_n 1, 1) := by decide +kernel
theorem d3 : decode yB 3 = .ok (.arraylength, 1) := by decide +kernel
theorem d4 : decode yB 4 = .ok (.if_icmp (.ne) 30, 3) := by decide +kernel
theorem d7 : decode yB 7 = .ok (.iconst 0, 1) := by decide +kernel
theorem d8 : decode yB 8 = .ok (.istore_n 2, 1) := by decide +kernel
theorem d9 : decode yB 9 = .ok (.iload_n 2, 1) := by decide +kernel
theorem d10 : decode yB 10 = .ok (.aload_n 0, 1) := by decide +kernel
theorem d11 : decode yB 11 = .ok (.arraylength, 1) := by decide +kernel
theorem d12 : decode yB 12 = .ok (.if_icmp (.ge) 20, 3) := by decide +kernel
theorem d15 : decode yB 15 = .ok (.aload_n 0, 1) := by decide +kernel
theorem d16 : decode yB 16 = .ok (.iload_n 2, 1) := by decide +kernel
theorem d17 : decode yB 17 = .ok (.baload, 1) := by decide +kernel
theorem d18 : decode yB 18 = .ok (.aload_n 1, 1) := by decide +kernel
theorem d19 : decode yB 19 = .ok (.iload_n 2, 1) := by decide +kernel
theorem d20 : decode yB 20 = .ok (.baload, 1) := by decide +kernel
theorem d21 : decode yB 21 = .ok (.if_icmp (.eq) 5, 3) := by decide +kernel
theorem d24 : decode yB 24 = .ok (.iconst 0, 1) := by decide +kernel
theorem d25 : decode yB 25 = .ok (.ireturn, 1) := by decide +kernel
theorem d26 : decode yB 26 = .ok (.iinc 2 1, 3) := by decide +kernel
theorem d29 : decode yB 29 = .ok (.goto (-20), 3) := by decide +kernel
theorem d32 : decode yB 32 = .ok (.iconst 1, 1) := by decide +kernel
theorem d33 : decode yB 33 = .ok (.ireturn, 1) := by decide +kernel
theorem d34 : decode yB 34 = .ok (.iconst 0, 1) := by decide +kernel
theorem d35 : decode yB 35 = .ok (.ireturn, 1) := by decide +kernel
def site : List Cond := []
def tab : Cond := tabOf yN yB 3 (some .boolean) site
def P (a : Addr) (A : Cell) (b : Addr) (B : Cell) (args : Array Value) (s : State) : Prop := args = #[.ref a, .ref b] ∧ XT.Arr .byte a A s ∧ Typed .byte A ∧ XT.Arr .byte b B s ∧ Typed .byte B
/-- whether two byte[] are equal, place for place -/
theorem law (l : Launch) (a : Addr) (A : Cell) (b : Addr) (B : Cell) : Law l yN 2 2 0 0 yB 3 (some .boolean) site (P a A b B) (Says01 (EqC A B)) [] 0 0 := by
  refine Law.of_walk (plainFor_of_name (by decide +kernel)) (by decide +kernel) (by decide +kernel) (by decide) (fun _ _ h => by rw [h.1]; rfl) (fun _ U U' hal hh h => ⟨h.1, h.2.1.mv hal hh, h.2.2.1, h.2.2.2.1.mv hal hh, h.2.2.2.2⟩) (fun r U U' V V' h1 hal h2 h => Says01.mv r U U' V V' h1 hal h2 h) ?_
  intro p e s m args below meth c s₁ X0 hexec hbytes hml hret hlk hnm hown hh0 W hP
  obtain ⟨rfl, hA, tA, hB, tB⟩ := hP
  have a31 := hA.2.2.2
  have b31 := hB.2.2.2
  have hA0 := hA.mv X0.warmed.alike hh0
  have hB0 := hB.mv X0.warmed.alike hh0
  have c1 : Steps p.tables e below (s₁.setTop (entryFrame m #[.ref a, .ref b] 3)) (s₁.setTop (mkF m 0 #[.val (.ref a), .val (.ref b), .unset] [])) := entry rfl
  have c2 : Steps p.tables e below (s₁.setTop (entryFrame m #[.ref a, .ref b] 3)) (s₁.setTop (mkF m 4 #[.val (.ref a), .val (.ref b), .unset] [.int (Int32.ofNat B.slots.size), .int (Int32.ofNat A.slots.size)])) := c1.trans (by
    refine XS.aloadN X0.here hexec rfl (hb hbytes d0) rfl rfl ?_
    refine X0.alen hexec hA0 rfl rfl (hb hbytes d1) ?_
    refine XS.aloadN X0.here hexec rfl (hb hbytes d2) rfl rfl ?_
    refine X0.alen hexec hB0 rfl rfl (hb hbytes d3) ?_
    exact Steps.refl _)
  by_cases hs : A.slots.size = B.slots.size
  · have c3 : Steps p.tables e below (s₁.setTop (entryFrame m #[.ref a, .ref b] 3)) (s₁.setTop (mkF m 9 #[.val (.ref a), .val (.ref b), .val (.int 0)] [])) := c2.trans (by
      refine XS.icmpNo X0.here hexec rfl (hb hbytes d4) rfl (ii_ne_f (by rw [hs])) ?_
      refine iconstV X0.here hexec rfl 0 (hb hbytes d7) (by decide) ?_
      refine XS.istoreN X0.here hexec rfl (hb hbytes d8) rfl rfl ?_
      exact Steps.refl _)
    have loop : ∀ (r i : Nat), i + r = A.slots.size → (∀ j, j < i → yv A j = yv B j) → Steps p.tables e below (s₁.setTop (entryFrame m #[.ref a, .ref b] 3)) (s₁.setTop (mkF m 9 #[.val (.ref a), .val (.ref b), .val (.int (Int32.ofNat i))] [])) → ∃ (pc : Nat) (Ls : Array Slot) (v : Int32), (pc = 25 ∨ pc = 33) ∧ ((v = 1 ∧ EqC A B) ∨ (v = 0 ∧ ¬ EqC A B)) ∧ Steps p.tables e below (s₁.setTop (entryFrame m #[.ref a, .ref b] 3)) (s₁.setTop (mkF m pc Ls [.int v])) := by
      intro r
      induction r with
      | zero =>
        intro i hi he cl
        exact ⟨33, _, 1, Or.inr rfl, Or.inl ⟨rfl, hs, fun j hj => he j (by omega)⟩, cl.trans (by
          refine XS.iloadN X0.here hexec rfl (hb hbytes d9) rfl ?_
          refine XS.aloadN X0.here hexec rfl (hb hbytes d10) rfl rfl ?_
          refine X0.alen hexec hA0 rfl rfl (hb hbytes d11) ?_
          refine XS.icmpYes X0.here hexec rfl (pc0 := 12) rfl (hb hbytes d12) rfl (ii_ge_t (nlt32 (by omega) (by omega))) (by decide) rfl ?_
          refine iconstV X0.here hexec rfl 1 (hb hbytes d32) (by decide) ?_
          exact Steps.refl _)⟩
      | succ r ih =>
        intro i hi he cl
        have c4 : Steps p.tables e below (s₁.setTop (entryFrame m #[.ref a, .ref b] 3)) (s₁.setTop (mkF m 21 #[.val (.ref a), .val (.ref b), .val (.int (Int32.ofNat i))] [.int (yv B i), .int (yv A i)])) := cl.trans (by
          refine XS.iloadN X0.here hexec rfl (hb hbytes d9) rfl ?_
          refine XS.aloadN X0.here hexec rfl (hb hbytes d10) rfl rfl ?_
          refine X0.alen hexec hA0 rfl rfl (hb hbytes d11) ?_
          refine XS.icmpNo X0.here hexec rfl (hb hbytes d12) rfl (ii_ge_f (lt32 (by omega) (by omega))) ?_
          refine XS.aloadN X0.here hexec rfl (hb hbytes d15) rfl rfl ?_
          refine XS.iloadN X0.here hexec rfl (hb hbytes d16) rfl ?_
          refine X0.aget hexec hA0 rfl (yv_get hA tA (i := i) (by omega)) rfl rfl (hb hbytes d17) ?_
          refine XS.aloadN X0.here hexec rfl (hb hbytes d18) rfl rfl ?_
          refine XS.iloadN X0.here hexec rfl (hb hbytes d19) rfl ?_
          refine X0.aget hexec hB0 rfl (yv_get hB tB (i := i) (by omega)) rfl rfl (hb hbytes d20) ?_
          exact Steps.refl _)
        by_cases hv : yv A i = yv B i
        · have c5 : Steps p.tables e below (s₁.setTop (entryFrame m #[.ref a, .ref b] 3)) (s₁.setTop (mkF m 9 #[.val (.ref a), .val (.ref b), .val (.int (Int32.ofNat i + 1))] [])) := c4.trans (by
            refine XS.icmpYes X0.here hexec rfl (pc0 := 21) rfl (hb hbytes d21) rfl (ii_eq_t hv) (by decide) rfl ?_
            refine iincV X0.here hexec rfl 1 (hb hbytes d26) (by decide) rfl rfl ?_
            refine XS.goto X0.here hexec rfl (pc0 := 29) rfl (hb hbytes d29) (by decide) rfl ?_
            exact Steps.refl _)
          rw [succ32] at c5
          exact ih (i + 1) (by omega) (fun j hj => by
            by_cases e : j = i
            · rw [e]; exact hv
            · exact he j (by omega)) c5
        · exact ⟨25, _, 0, Or.inl rfl, Or.inr ⟨rfl, fun q => hv (q.2 i (by omega))⟩, c4.trans (by
            refine XS.icmpNo X0.here hexec rfl (hb hbytes d21) rfl (ii_eq_f hv) ?_
            refine iconstV X0.here hexec rfl 0 (hb hbytes d24) (by decide) ?_
            exact Steps.refl _)⟩
    obtain ⟨pc, Ls, v, hpc, hv, cz⟩ := loop A.slots.size 0 (by omega) (fun j hj => absurd hj (Nat.not_lt_zero j)) c3
    have nv : narrow .boolean (.int v) = .int v := by rcases hv with ⟨rfl, -⟩ | ⟨rfl, -⟩ <;> rfl
    rcases hpc with rfl | rfl
    · exact ⟨s₁, some (.int v), _, _, _, X0, rfl, rfl, rfl, (fun h => by cases h), ⟨v, rfl, hh0, hv⟩, fun fs hl => cz.trans (X0.ireturnOut hexec hret nv (Or.inr (Or.inl rfl)) (hb hbytes d25) hl)⟩
    · exact ⟨s₁, some (.int v), _, _, _, X0, rfl, rfl, rfl, (fun h => by cases h), ⟨v, rfl, hh0, hv⟩, fun fs hl => cz.trans (X0.ireturnOut hexec hret nv (Or.inr (Or.inl rfl)) (hb hbytes d33) hl)⟩
  · have c3 : Steps p.tables e below (s₁.setTop (entryFrame m #[.ref a, .ref b] 3)) (s₁.setTop (mkF m 35 #[.val (.ref a), .val (.ref b), .unset] [.int 0])) := c2.trans (by
      refine XS.icmpYes X0.here hexec rfl (pc0 := 4) rfl (hb hbytes d4) rfl (ii_ne_t (ne32 a31 b31 hs)) (by decide) rfl ?_
      refine iconstV X0.here hexec rfl 0 (hb hbytes d34) (by decide) ?_
      exact Steps.refl _)
    exact ⟨s₁, some (.int 0), _, _, _, X0, rfl, rfl, rfl, (fun h => by cases h), ⟨0, rfl, hh0, Or.inr ⟨rfl, fun q => hs q.1⟩⟩, fun fs hl => c3.trans (X0.ireturnOut hexec hret rfl (Or.inr (Or.inl rfl)) (hb hbytes d35) hl)⟩
end LEq
theorem Cod.ty {cd : Int32} {n : Nat} {f : Nat → Int32} {V : Cell} (h : Cod cd n f V) : Typed .byte V := fun i v hv => by
  have hi : i < V.slots.size := (Array.getElem?_eq_some_iff.mp hv).1
  rcases h with ⟨-, k1, k2⟩ | ⟨-, k1, k2, -⟩
  · rw [(k2 i (by omega)).1] at hv; cases hv; exact fits_lo8 _
  · rcases Nat.mod_two_eq_zero_or_one i with e | e
    · obtain ⟨j, rfl⟩ : ∃ j, i = 2 * j := ⟨i / 2, by omega⟩
      rw [(k2 j (by omega)).1] at hv; cases hv; exact fits_lo8 _
    · obtain ⟨j, rfl⟩ : ∃ j, i = 2 * j + 1 := ⟨i / 2, by omega⟩
      rw [(k2 j (by omega)).2] at hv; cases hv; exact fits_lo8 _
/-- the same text -/
def SameT (n : Nat) (f : Nat → Int32) (k : Nat) (g : Nat → Int32) : Prop := n = k ∧ ∀ j, j < n → f j = g j
theorem lo8_inj {x y : Int32} (h0 : ¬ x < 0) (h1 : ¬ 255 < x) (k0 : ¬ y < 0) (k1 : ¬ 255 < y) (h : lo8 x = lo8 y) : x = y := by
  rw [← lo8_mask h0 h1, ← lo8_mask k0 k1, h]
/-- arrays coded by one coder are equal just where the texts are -/
theorem Cod.eqv {cd : Int32} {n k : Nat} {f g : Nat → Int32} {V V' : Cell} (h : Cod cd n f V) (h' : Cod cd k g V') (hf : ∀ j, j < n → ¬ f j < 0 ∧ ¬ 65535 < f j) (hg : ∀ j, j < k → ¬ g j < 0 ∧ ¬ 65535 < g j) : EqC V V' ↔ SameT n f k g := by
  have yvv : ∀ {W : Cell} {i : Nat} {x : Int32}, W.slots[i]? = some (.int x) → yv W i = x := fun q => by unfold yv; rw [q]
  rcases h with ⟨rfl, k1, k2⟩ | ⟨rfl, k1, k2, -⟩
  · rcases h' with ⟨-, m1, m2⟩ | ⟨e, -⟩
    · constructor
      · rintro ⟨e1, e2⟩
        refine ⟨by omega, fun j hj => ?_⟩
        have q := e2 j (by omega)
        rw [yvv (k2 j hj).1, yvv (m2 j (by omega)).1] at q
        exact lo8_inj (hf j hj).1 (k2 j hj).2 (hg j (by omega)).1 (m2 j (by omega)).2 q
      · rintro ⟨rfl, e2⟩
        refine ⟨by omega, fun j hj => ?_⟩
        rw [yvv (k2 j (by omega)).1, yvv (m2 j (by omega)).1, e2 j (by omega)]
    · exact absurd e (by decide)
  · rcases h' with ⟨e, -⟩ | ⟨-, m1, m2, -⟩
    · exact absurd e (by decide)
    · constructor
      · rintro ⟨e1, e2⟩
        refine ⟨by omega, fun j hj => ?_⟩
        have q1 := e2 (2 * j) (by omega)
        have q2 := e2 (2 * j + 1) (by omega)
        rw [yvv (k2 j hj).1, yvv (m2 j (by omega)).1] at q1
        rw [yvv (k2 j hj).2, yvv (m2 j (by omega)).2] at q2
        rw [← pair_says (hf j hj).1 (hf j hj).2, ← pair_says (hg j (by omega)).1 (hg j (by omega)).2, q1, q2]
      · rintro ⟨rfl, e2⟩
        refine ⟨by omega, fun i hi => ?_⟩
        rcases Nat.mod_two_eq_zero_or_one i with e | e
        · obtain ⟨j, rfl⟩ : ∃ j, i = 2 * j := ⟨i / 2, by omega⟩
          rw [yvv (k2 j (by omega)).1, yvv (m2 j (by omega)).1, e2 j (by omega)]
        · obtain ⟨j, rfl⟩ : ∃ j, i = 2 * j + 1 := ⟨i / 2, by omega⟩
          rw [yvv (k2 j (by omega)).2, yvv (m2 j (by omega)).2, e2 j (by omega)]
/-- two codings differ: so do the texts -/
theorem Cod.dif {cd cd' : Int32} {n k : Nat} {f g : Nat → Int32} {V V' : Cell} (h : Cod cd n f V) (h' : Cod cd' k g V') (hne : ¬ cd = cd') : ¬ SameT n f k g := by
  rintro ⟨rfl, e⟩
  rcases h with ⟨rfl, -, k2⟩ | ⟨rfl, -, -, j, hj, hw⟩
  · rcases h' with ⟨rfl, -⟩ | ⟨-, -, -, j, hj, hw⟩
    · exact hne rfl
    · exact (k2 j hj).2 (by rw [e j hj]; exact hw)
  · rcases h' with ⟨-, -, m2⟩ | ⟨rfl, -⟩
    · exact (m2 j hj).2 (by rw [← e j hj]; exact hw)
    · exact hne rfl
/-- an object of exactly C is an instance of C -/
theorem cinst {p : Program} {l : Launch} {e : Env} {R : Room} {s : State} {m : MethodId} {args : Array Value} {below : List Frame} {meth : Method} {c : Code} {T : State} {locs : List Loc} {cells slots : Nat} (X : Stand p l e R s m args below meth c T locs cells slots) (hexec : p.tables.exec = Jvm.exec) {own C : String} {index : Nat} (hown : s.vm.findClass own = some m.cls) (hlink : (Cond.classLink own index C).before args s = true) {a : Addr} (hE : Exact C a T)
    {g : JFrame} (hg : g.method = m) {rest : List Value} (hstack : g.stack = .ref a :: rest) (hdg : decode c.code g.pc = .ok (.instanceof index, 3)) :
    ∃ T', Stand p l e R s m args below meth c T' locs cells slots ∧ T'.heap = T.heap ∧ ∀ target, Steps p.tables e below (T'.setTop { g with pc := g.pc + 3, stack := .int 1 :: rest }) target → Steps p.tables e below (T.setTop g) target := by
  obtain ⟨cB, h1, D, h2, h3, h4⟩ := hE
  have h1' : s.vm.findClass C = some cB := by rw [← X.warmed.alike.findClass]; exact h1
  obtain ⟨vm', X', st⟩ := X.instanceofYes hexec hown hlink h2 h4 h1' (by rw [h3]; exact Jvm.Free.SB.assignable_self _ _) hg hstack hdg
  exact ⟨_, X', rfl, st⟩
theorem cself {p : Program} {l : Launch} {e : Env} {R : Room} {s : State} {m : MethodId} {args : Array Value} {below : List Frame} {meth : Method} {c : Code} {T : State} {locs : List Loc} {cells slots : Nat} (X : Stand p l e R s m args below meth c T locs cells slots) (hexec : p.tables.exec = Jvm.exec) {own C : String} {index : Nat} (hown : s.vm.findClass own = some m.cls) (hlink : (Cond.classLink own index C).before args s = true) {a : Addr} (hE : Exact C a T)
    {g : JFrame} (hg : g.method = m) {rest : List Value} (hstack : g.stack = .ref a :: rest) (hdg : decode c.code g.pc = .ok (.checkcast index, 3)) :
    ∃ T', Stand p l e R s m args below meth c T' locs cells slots ∧ T'.heap = T.heap ∧ ∀ target, Steps p.tables e below (T'.setTop { g with pc := g.pc + 3, stack := .ref a :: rest }) target → Steps p.tables e below (T.setTop g) target := by
  obtain ⟨cB, h1, D, h2, h3, h4⟩ := hE
  have h1' : s.vm.findClass C = some cB := by rw [← X.warmed.alike.findClass]; exact h1
  obtain ⟨vm', X', st⟩ := X.checkcastYes hexec hown hlink h2 h4 h1' (by rw [h3]; exact Jvm.Free.SB.assignable_self _ _) hg hstack hdg
  exact ⟨_, X', rfl, fun t h => st t (by rw [← hstack] at h; exact h)⟩
namespace SEq
def yN : MethodName := ⟨"java/lang/String", "equals", "(Ljava/lang/Object;)Z"⟩
abbrev yB : ByteArray := jdk_42_method_66_code
theorem d0 : decode yB 0 = .ok (.aload_n 0, 1) := by decide +kernel
theorem d1 : decode yB 1 = .ok (.aload_n 1, 1) := by decide +kernel
theorem d2 : decode yB 2 = .ok (.if_acmp (.ne) 5, 3) := by decide +kernel
theorem d5 : decode yB 5 = .ok (.iconst 1, 1) := by decide +kernel
theorem d6 : decode yB 6 = .ok (.ireturn, 1) := by decide +kernel
theorem d7 : decode yB 7 = .ok (.aload_n 1, 1) := by decide +kernel
theorem d8 : decode yB 8 = .ok (.instanceof 10, 3) := by decide +kernel
theorem d11 : decode yB 11 = .ok (.ifCond (.eq) 43, 3) := by decide +kernel
theorem d14 : decode yB 14 = .ok (.aload_n 1, 1) := by decide +kernel
theorem d15 : decode yB 15 = .ok (.checkcast 10, 3) := by decide +kernel
theorem d18 : decode yB 18 = .ok (.astore_n 2, 1) := by decide +kernel
theorem d19 : decode yB 19 = .ok (.getstatic 38, 3) := by decide +kernel
theorem d22 : decode yB 22 = .ok (.ifCond (.eq) 14, 3) := by decide +kernel
theorem d25 : decode yB 25 = .ok (.aload_n 0, 1) := by decide +kernel
theorem d26 : decode yB 26 = .ok (.getfield 15, 3) := by decide +kernel
theorem d29 : decode yB 29 = .ok (.aload_n 2, 1) := by decide +kernel
theorem d30 : decode yB 30 = .ok (.getfield 15, 3) := by decide +kernel
theorem d33 : decode yB 33 = .ok (.if_icmp (.ne) 21, 3) := by decide +kernel
theorem d36 : decode yB 36 = .ok (.aload_n 0, 1) := by decide +kernel
theorem d37 : decode yB 37 = .ok (.getfield 9, 3) := by decide +kernel
theorem d40 : decode yB 40 = .ok (.aload_n 2, 1) := by decide +kernel
theorem d41 : decode yB 41 = .ok (.getfield 9, 3) := by decide +kernel
theorem d44 : decode yB 44 = .ok (.invokestatic 541, 3) := by decide +kernel
theorem d47 : decode yB 47 = .ok (.ifCond (.eq) 7, 3) := by decide +kernel
theorem d50 : decode yB 50 = .ok (.iconst 1, 1) := by decide +kernel
theorem d51 : decode yB 51 = .ok (.goto 4, 3) := by decide +kernel
theorem d54 : decode yB 54 = .ok (.iconst 0, 1) := by decide +kernel
theorem d55 : decode yB 55 = .ok (.ireturn, 1) := by decide +kernel
def site : List Cond := [.classLink "java/lang/String" 10 "java/lang/String", .fieldLink "java/lang/String" 38 "java/lang/String" "COMPACT_STRINGS" "Z", .fieldLink "java/lang/String" 15 "java/lang/String" "coder" "B", .fieldLink "java/lang/String" 9 "java/lang/String" "value" "[B", LEq.tab] ++ staticW "java/lang/String" 541 LEq.yN
def tab : Cond := tabOf yN yB 3 (some .boolean) site
def P (x t : Addr) (V : Cell) (cd : Int32) (n : Nat) (f : Nat → Int32) (y t' : Addr) (V' : Cell) (cd' : Int32) (k : Nat) (g : Nat → Int32) (z : Int32) (args : Array Value) (s : State) : Prop := args = #[.ref x, .ref y] ∧ Txt x t V cd n f s ∧ Txt y t' V' cd' k g s ∧ StaticIs s "java/lang/String" "COMPACT_STRINGS" "Z" (.int z) ∧ ¬ z = 0
/-- equals(Object) of two Strings: whether the texts are the same -/
theorem law (l : Launch) (x t : Addr) (V : Cell) (cd : Int32) (n : Nat) (f : Nat → Int32) (y t' : Addr) (V' : Cell) (cd' : Int32) (k : Nat) (g : Nat → Int32) (z : Int32) : Law l yN 2 1 1 14 yB 3 (some .boolean) site (P x t V cd n f y t' V' cd' k g z) (Says01 (SameT n f k g)) [] 0 0 := by
  refine Law.of_walk (plainFor_of_name (by decide +kernel)) (by decide +kernel) (by decide +kernel) (by decide) (fun _ _ h => by rw [h.1]; rfl) (fun _ U U' hal hh h => ⟨h.1, h.2.1.mv hal hh, h.2.2.1.mv hal hh, h.2.2.2.1.there hal hh, h.2.2.2.2⟩) (fun r U U' V V' h1 hal h2 h => Says01.mv r U U' V V' h1 hal h2 h) ?_
  intro p e s m args below meth c s₁ X0 hexec hbytes hml hret hlk hnm hown hh0 W hP
  obtain ⟨rfl, hx, hy, s1, hz⟩ := hP
  have c1 : Steps p.tables e below (s₁.setTop (entryFrame m #[.ref x, .ref y] 3)) (s₁.setTop (mkF m 2 #[.val (.ref x), .val (.ref y), .unset] [.ref y, .ref x])) := Steps.trans (entry rfl) (by
    show Steps p.tables e below (s₁.setTop (mkF m 0 #[.val (.ref x), .val (.ref y), .unset] [])) _
    refine XS.aloadN X0.here hexec rfl (hb hbytes d0) rfl rfl ?_
    refine XS.aloadN X0.here hexec rfl (hb hbytes d1) rfl rfl ?_
    exact Steps.refl _)
  by_cases hxy : x = y
  · have c2 : Steps p.tables e below (s₁.setTop (entryFrame m #[.ref x, .ref y] 3)) (s₁.setTop (mkF m 6 #[.val (.ref x), .val (.ref y), .unset] [.int 1])) := c1.trans (by
      refine acmpNo X0.here hexec rfl (hb hbytes d2) rfl rfl rfl (by simp [acmp, hxy]) ?_
      refine iconstV X0.here hexec rfl 1 (hb hbytes d5) (by decide) ?_
      exact Steps.refl _)
    subst hxy
    have ec : cd = cd' := by
      obtain ⟨D, fd, a1, a2, a3⟩ := hx.2.2.1
      obtain ⟨D', fd', b1, b2, b3⟩ := hy.2.2.1
      cases a1.symm.trans b1
      obtain ⟨q1, q2, q3, q4⟩ := a2.1
      obtain ⟨r1, r2, r3, r4⟩ := b2.1
      cases q4.symm.trans r4
      cases a3.symm.trans b3; rfl
    have et : t = t' := by
      obtain ⟨D, fd, a1, a2, a3⟩ := hx.2.1
      obtain ⟨D', fd', b1, b2, b3⟩ := hy.2.1
      cases a1.symm.trans b1
      obtain ⟨q1, q2, q3, q4⟩ := a2.1
      obtain ⟨r1, r2, r3, r4⟩ := b2.1
      cases q4.symm.trans r4
      cases a3.symm.trans b3; rfl
    subst ec et
    have ev : V = V' := by cases hx.2.2.2.1.1.symm.trans hy.2.2.2.1.1; rfl
    subst ev
    have hs : SameT n f k g := (Cod.eqv hx.2.2.2.2.1 hy.2.2.2.2.1 hx.2.2.2.2.2 hy.2.2.2.2.2).mp ⟨rfl, fun _ _ => rfl⟩
    exact ⟨s₁, some (.int 1), _, _, _, X0, rfl, rfl, rfl, (fun h => by cases h), ⟨1, rfl, hh0, Or.inl ⟨rfl, hs⟩⟩, fun fs hl => c2.trans (X0.ireturnOut hexec hret rfl (Or.inr (Or.inl rfl)) (hb hbytes d6) hl)⟩
  · have c2 : Steps p.tables e below (s₁.setTop (entryFrame m #[.ref x, .ref y] 3)) (s₁.setTop (mkF m 8 #[.val (.ref x), .val (.ref y), .unset] [.ref y])) := c1.trans (by
      refine acmpYes X0.here hexec rfl (pc0 := 2) rfl (hb hbytes d2) rfl rfl rfl (by simp [acmp, hxy]) (by decide) rfl ?_
      refine XS.aloadN X0.here hexec rfl (hb hbytes d7) rfl rfl ?_
      exact Steps.refl _)
    obtain ⟨T3, X3, q3, st3⟩ := cinst X0 hexec hown (wk W (.classLink "java/lang/String" 10 "java/lang/String")) (hy.mv X0.warmed.alike hh0).1 (g := (mkF m 8 #[.val (.ref x), .val (.ref y), .unset] [.ref y])) rfl (rest := []) rfl (hb hbytes d8)
    have hh3 := q3.trans hh0
    have c4 : Steps p.tables e below (s₁.setTop (entryFrame m #[.ref x, .ref y] 3)) (T3.setTop (mkF m 15 #[.val (.ref x), .val (.ref y), .unset] [.ref y])) := (c2.trans (st3 _ (Steps.refl _))).trans (by
      refine XS.ifNo X3.here hexec rfl (hb hbytes d11) rfl (i0_eq_f (by decide)) ?_
      refine XS.aloadN X3.here hexec rfl (hb hbytes d14) rfl rfl ?_
      exact Steps.refl _)
    obtain ⟨T5, X5, q5, st5⟩ := cself X3 hexec hown (wk W (.classLink "java/lang/String" 10 "java/lang/String")) (hy.mv X3.warmed.alike hh3).1 (g := (mkF m 15 #[.val (.ref x), .val (.ref y), .unset] [.ref y])) rfl (rest := []) rfl (hb hbytes d15)
    have hh5 := q5.trans hh3
    have c6 : Steps p.tables e below (s₁.setTop (entryFrame m #[.ref x, .ref y] 3)) (T5.setTop (mkF m 19 #[.val (.ref x), .val (.ref y), .val (.ref y)] [])) := (c4.trans (st5 _ (Steps.refl _))).trans (by
      refine XS.astoreN X5.here hexec rfl (hb hbytes d18) rfl rfl rfl ?_
      exact Steps.refl _)
    obtain ⟨T7, X7, q7, st7⟩ := X5.sget hexec hown (wk W (.fieldLink "java/lang/String" 38 "java/lang/String" "COMPACT_STRINGS" "Z")) s1 (fun _ _ h => by rw [hh5]; exact h) (g := (mkF m 19 #[.val (.ref x), .val (.ref y), .val (.ref y)] [])) rfl (hb hbytes d19)
    have hh7 := q7.trans hh5
    have c8 : Steps p.tables e below (s₁.setTop (entryFrame m #[.ref x, .ref y] 3)) (T7.setTop (mkF m 26 #[.val (.ref x), .val (.ref y), .val (.ref y)] [.ref x])) := (c6.trans (st7 _ (Steps.refl _))).trans (by
      refine XS.ifNo X7.here hexec rfl (hb hbytes d22) rfl (i0_eq_f hz) ?_
      refine XS.aloadN X7.here hexec rfl (hb hbytes d25) rfl rfl ?_
      exact Steps.refl _)
    obtain ⟨T9, X9, q9, st9⟩ := X7.hget hexec hown (wk W (.fieldLink "java/lang/String" 15 "java/lang/String" "coder" "B")) (hx.mv X7.warmed.alike hh7).2.2.1 (g := (mkF m 26 #[.val (.ref x), .val (.ref y), .val (.ref y)] [.ref x])) rfl (rest := []) rfl (hb hbytes d26)
    have hh9 := q9.trans hh7
    have c10 : Steps p.tables e below (s₁.setTop (entryFrame m #[.ref x, .ref y] 3)) (T9.setTop (mkF m 30 #[.val (.ref x), .val (.ref y), .val (.ref y)] [.ref y, .int cd])) := (c8.trans (st9 _ (Steps.refl _))).trans (by
      refine XS.aloadN X9.here hexec rfl (hb hbytes d29) rfl rfl ?_
      exact Steps.refl _)
    obtain ⟨T11, X11, q11, st11⟩ := X9.hget hexec hown (wk W (.fieldLink "java/lang/String" 15 "java/lang/String" "coder" "B")) (hy.mv X9.warmed.alike hh9).2.2.1 (g := (mkF m 30 #[.val (.ref x), .val (.ref y), .val (.ref y)] [.ref y, .int cd])) rfl (rest := [.int cd]) rfl (hb hbytes d30)
    have hh11 := q11.trans hh9
    have c12 : Steps p.tables e below (s₁.setTop (entryFrame m #[.ref x, .ref y] 3)) (T11.setTop (mkF m 33 #[.val (.ref x), .val (.ref y), .val (.ref y)] [.int cd', .int cd])) := c10.trans (st11 _ (Steps.refl _))
    by_cases hcd : cd = cd'
    · subst hcd
      have c13 : Steps p.tables e below (s₁.setTop (entryFrame m #[.ref x, .ref y] 3)) (T11.setTop (mkF m 37 #[.val (.ref x), .val (.ref y), .val (.ref y)] [.ref x])) := c12.trans (by
        refine XS.icmpNo X11.here hexec rfl (hb hbytes d33) rfl (ii_ne_f rfl) ?_
        refine XS.aloadN X11.here hexec rfl (hb hbytes d36) rfl rfl ?_
        exact Steps.refl _)
      obtain ⟨T14, X14, q14, st14⟩ := X11.hget hexec hown (wk W (.fieldLink "java/lang/String" 9 "java/lang/String" "value" "[B")) (hx.mv X11.warmed.alike hh11).2.1 (g := (mkF m 37 #[.val (.ref x), .val (.ref y), .val (.ref y)] [.ref x])) rfl (rest := []) rfl (hb hbytes d37)
      have hh14 := q14.trans hh11
      have c15 : Steps p.tables e below (s₁.setTop (entryFrame m #[.ref x, .ref y] 3)) (T14.setTop (mkF m 41 #[.val (.ref x), .val (.ref y), .val (.ref y)] [.ref y, .ref t])) := (c13.trans (st14 _ (Steps.refl _))).trans (by
        refine XS.aloadN X14.here hexec rfl (hb hbytes d40) rfl rfl ?_
        exact Steps.refl _)
      obtain ⟨T16, X16, q16, st16⟩ := X14.hget hexec hown (wk W (.fieldLink "java/lang/String" 9 "java/lang/String" "value" "[B")) (hy.mv X14.warmed.alike hh14).2.1 (g := (mkF m 41 #[.val (.ref x), .val (.ref y), .val (.ref y)] [.ref y, .ref t])) rfl (rest := [.ref t]) rfl (hb hbytes d41)
      have hh16 := q16.trans hh14
      have c17 : Steps p.tables e below (s₁.setTop (entryFrame m #[.ref x, .ref y] 3)) (T16.setTop (mkF m 44 #[.val (.ref x), .val (.ref y), .val (.ref y)] [.ref t', .ref t])) := c15.trans (st16 _ (Steps.refl _))
      obtain ⟨v18, T18, X18, E18, g18⟩ := X16.callS hexec (LEq.law l t V t' V') hown (wks W (staticW "java/lang/String" 541 LEq.yN)) (wk W LEq.tab) (W := 0) (Nat.le_of_ble_eq_true rfl) (Nat.le_of_ble_eq_true rfl) (Nat.le_refl _) (Nat.le_refl _) (g := (mkF m 44 #[.val (.ref x), .val (.ref y), .val (.ref y)] [.ref t', .ref t])) rfl (by rw [hml]; rfl) c17 (argsL := [.ref t, .ref t']) (rest := []) rfl rfl (by show 2 * 0 + 0 ≤ _; decide) (hb hbytes d44) (⟨rfl, hx.2.2.2.1.mv X16.warmed.alike hh16, hx.2.2.2.2.1.ty, hy.2.2.2.1.mv X16.warmed.alike hh16, hy.2.2.2.2.1.ty⟩)
      obtain ⟨v, rfl, q18, hv⟩ := E18
      have iff := Cod.eqv hx.2.2.2.2.1 hy.2.2.2.2.1 hx.2.2.2.2.2 hy.2.2.2.2.2
      rcases hv with ⟨rfl, he⟩ | ⟨rfl, he⟩
      · have c19 : Steps p.tables e below (s₁.setTop (entryFrame m #[.ref x, .ref y] 3)) (T18.setTop (mkF m 55 #[.val (.ref x), .val (.ref y), .val (.ref y)] [.int 1])) := Steps.trans g18 (by
          refine XS.ifNo X18.here hexec rfl (hb hbytes d47) rfl (i0_eq_f (by decide)) ?_
          refine iconstV X18.here hexec rfl 1 (hb hbytes d50) (by decide) ?_
          refine XS.goto X18.here hexec rfl (pc0 := 51) rfl (hb hbytes d51) (by decide) rfl ?_
          exact Steps.refl _)
        exact ⟨T18, some (.int 1), _, _, _, X18, rfl, rfl, rfl, (fun h => by cases h), ⟨1, rfl, q18.trans hh16, Or.inl ⟨rfl, iff.mp he⟩⟩, fun fs hl => c19.trans (X18.ireturnOut hexec hret rfl (Or.inr (Or.inl rfl)) (hb hbytes d55) hl)⟩
      · have c19 : Steps p.tables e below (s₁.setTop (entryFrame m #[.ref x, .ref y] 3)) (T18.setTop (mkF m 55 #[.val (.ref x), .val (.ref y), .val (.ref y)] [.int 0])) := Steps.trans g18 (by
          refine XS.ifYes X18.here hexec rfl (pc0 := 47) rfl (hb hbytes d47) rfl (i0_eq_t rfl) (by decide) rfl ?_
          refine iconstV X18.here hexec rfl 0 (hb hbytes d54) (by decide) ?_
          exact Steps.refl _)
        exact ⟨T18, some (.int 0), _, _, _, X18, rfl, rfl, rfl, (fun h => by cases h), ⟨0, rfl, q18.trans hh16, Or.inr ⟨rfl, fun q => he (iff.mpr q)⟩⟩, fun fs hl => c19.trans (X18.ireturnOut hexec hret rfl (Or.inr (Or.inl rfl)) (hb hbytes d55) hl)⟩
    · have c13 : Steps p.tables e below (s₁.setTop (entryFrame m #[.ref x, .ref y] 3)) (T11.setTop (mkF m 55 #[.val (.ref x), .val (.ref y), .val (.ref y)] [.int 0])) := c12.trans (by
        refine XS.icmpYes X11.here hexec rfl (pc0 := 33) rfl (hb hbytes d33) rfl (ii_ne_t hcd) (by decide) rfl ?_
        refine iconstV X11.here hexec rfl 0 (hb hbytes d54) (by decide) ?_
        exact Steps.refl _)
      exact ⟨T11, some (.int 0), _, _, _, X11, rfl, rfl, rfl, (fun h => by cases h), ⟨0, rfl, hh11, Or.inr ⟨rfl, Cod.dif hx.2.2.2.2.1 hy.2.2.2.2.1 hcd⟩⟩, fun fs hl => c13.trans (X11.ireturnOut hexec hret rfl (Or.inr (Or.inl rfl)) (hb hbytes d55) hl)⟩
theorem pays {l : Launch} {R : Room} {p : Program} {e : Env} {below : List Frame} {s : State} {sargs : Array Value} {len W : Nat} (x t : Addr) (V : Cell) (cd : Int32) (n : Nat) (f : Nat → Int32) (y t' : Addr) (V' : Cell) (cd' : Int32) (k : Nat) (g : Nat → Int32) (z : Int32) (htab : tab.before sargs s = true) (hfr : 2 ≤ R.frames) (hlo : W + 28 ≤ R.locals) :
    Back l R p e below s sargs yN len W (fun A₁ a₁ => A₁.cells + 0 ≤ R.cells ∧ A₁.slots + 0 ≤ R.slots ∧ P x t V cd n f y t' V' cd' k g z a₁ A₁.U) (fun A₁ _ v₁ B₁ => Says01 (SameT n f k g) v₁ A₁.U B₁.U ∧ B₁.locs = A₁.locs ++ [] ∧ B₁.cells = A₁.cells + 0 ∧ B₁.slots = A₁.slots + 0) :=
  (law l x t V cd n f y t' V' cd' k g z).pays htab hfr (by omega)
end SEq
end StrChars
namespace StrChars.Road
open Jvm Sem ClassFile Op Lib Jvm.Stand Jvm.Free Jvm.Free.XT
open Jvm.Lib.Cold (StaticIs)
/-- the words of String.equals(Object) -/
abbrev wordsEq : List Jvm.Cond := [.code SEq.yN SEq.yB 3 (some .boolean), .initialized ST, .classLink ST 10 ST, .fieldLink ST 38 ST "COMPACT_STRINGS" "Z", .fieldLink ST 15 ST "coder" "B", .fieldLink ST 9 ST "value" "[B", .methodLink ST 541 LEq.yN, .static LEq.yN, .code LEq.yN LEq.yB 3 (some .boolean), .initialized "java/lang/StringLatin1"]
theorem tabEq_of {a : Array Value} {s : State} (h : ∀ w ∈ wordsEq, w.before a s = true) : SEq.tab.before a s = true := by
  have hl : LEq.tab.before a s = true := unparts (wk h (.code LEq.yN LEq.yB 3 (some .boolean))) (wks h (.initialized LEq.yN.cls :: LEq.site))
  have q := consq hl h
  exact unparts (wk q (.code SEq.yN SEq.yB 3 (some .boolean))) (wks q (.initialized SEq.yN.cls :: SEq.site))
theorem movedEq {Z s : State} {a0 args : Array Value} (hZ : Z.Warmed39 s.vm) (hw : ∀ d ∈ wordsEq, d.before a0 Z = true) : ∀ d ∈ wordsEq, d.before args s = true := fun d hd => by
  have t : ∀ d ∈ wordsEq, (d.onTables && d.keepsFace) = true := by decide +kernel
  exact RoadKit.mv hZ (hw d hd) (t d hd)
/-- the road's facts of a String, as the laws ask it -/
theorem txt_of {Z U : State} {a0 : Array Value} {kI : Nat} (wi : (Jvm.Cond.instantiable ST kI).before a0 Z = true) (al : Z.vm.Alike U.vm) {x t : Addr} {kb : ClassId} {cs : List Int32} {cd N2 : Int32} {vs : List Value} (E : RoadKit.Exa Z U.heap x ST) (V : RoadKit.Fld Z U.heap x ST "value" "[B" (.ref t)) (C : RoadKit.Fld Z U.heap x ST "coder" "B" (.int cd)) (K : RoadKit.Arv Z U.heap t kb .byte N2 vs (.int 0)) (hc : CodA cs cd N2 vs) (hb : ∀ c ∈ cs, ¬ c < 0 ∧ ¬ (65535 : Int32) < c) (l2 : cs.length ≤ 4000) :
    ∃ A, Txt x t A cd cs.length (fun j => cs.getD j 0) U := by
  obtain ⟨A, K1, K2, K3, K4, K5, K6⟩ := K
  have hcod := hc.cod (by omega) K3 K5
  obtain ⟨D, fV, fC, hB, F1, F2, g1, g2, -, -⟩ := strObj wi al E V C
  exact ⟨A, ⟨_, hB.2.2.1, D, hB.1, rfl, by cases q : D.vm <;> first | rfl | exact absurd q (hB.2.1.2 _)⟩, Has.of hB F1 g1, Has.of hB F2 g2, ⟨K1.1, State.isArrayOf_alike al K1.2.1, K1.2.2, by rcases hcod with ⟨-, q, -⟩ | ⟨-, q, -⟩ <;> omega⟩, hcod, fun j hj => by
    have e : cs.getD j 0 = cs[j] := by simp [List.getD_eq_getElem?_getD, hj]
    show ¬ cs.getD j 0 < 0 ∧ ¬ 65535 < cs.getD j 0
    rw [e]; exact hb _ (List.getElem_mem _)⟩
theorem same_list (cs ds : List Int32) : SameT cs.length (fun j => cs.getD j 0) ds.length (fun j => ds.getD j 0) ↔ cs = ds := by
  constructor
  · rintro ⟨e, q⟩
    refine List.ext_getElem e fun j h1 h2 => ?_
    have := q j h1
    simpa [List.getD_eq_getElem?_getD, h1, h2] using this
  · rintro rfl
    exact ⟨rfl, fun _ _ => rfl⟩
/-- **equals(Object) OF TWO SUCH STRINGS**: 1 just where the chars are the same -/
theorem eqW {p : Program} {l : Launch} {e : Env} {R : Room} {s : State} {args : Array Value} {below : List Frame} {len W : Nat} {Z : State} {a0 : Array Value} {h : Heap} (hZ : Z.Warmed39 s.vm) (hw : ∀ d ∈ wordsEq, d.before a0 Z = true) {kI : Nat} (wi : (Jvm.Cond.instantiable ST kI).before a0 Z = true)
    {x t : Addr} {kb : ClassId} {cs : List Int32} {cd N2 : Int32} {vs : List Value} (E : RoadKit.Exa Z h x ST) (V : RoadKit.Fld Z h x ST "value" "[B" (.ref t)) (C : RoadKit.Fld Z h x ST "coder" "B" (.int cd)) (K : RoadKit.Arv Z h t kb .byte N2 vs (.int 0)) (hc : CodA cs cd N2 vs) (hb : ∀ c ∈ cs, ¬ c < 0 ∧ ¬ (65535 : Int32) < c) (l2 : cs.length ≤ 4000)
    {y t' : Addr} {kb' : ClassId} {ds : List Int32} {cd' N2' : Int32} {vs' : List Value} (E' : RoadKit.Exa Z h y ST) (V' : RoadKit.Fld Z h y ST "value" "[B" (.ref t')) (C' : RoadKit.Fld Z h y ST "coder" "B" (.int cd')) (K' : RoadKit.Arv Z h t' kb' .byte N2' vs' (.int 0)) (hc' : CodA ds cd' N2' vs') (hb' : ∀ c ∈ ds, ¬ c < 0 ∧ ¬ (65535 : Int32) < c) (l2' : ds.length ≤ 4000)
    {z : Int32} (S : RoadKit.Sta Z h ST "COMPACT_STRINGS" "Z" (.int z)) (hz : ¬ z = 0) (hfr : 2 ≤ R.frames) (hlo : W + 28 ≤ R.locals) :
    Back l R p e below s args (⟨"java/lang/String", "equals", "(Ljava/lang/Object;)Z"⟩ : MethodName) len W (fun P a => a = #[.ref x, .ref y] ∧ P.U.heap = h ∧ P.cells + 0 ≤ R.cells ∧ P.slots + 0 ≤ R.slots)
      (fun P _ v B => ∃ L, (((v = some (.int 1) ∧ cs = ds) ∨ (v = some (.int 0) ∧ ¬ cs = ds)) ∧ L = [] ∧ B.U.heap = h) ∧ B.locs = P.locs ++ L ∧ B.cells = P.cells + 0 ∧ B.slots = P.slots + 0) := by
  intro m meth c P g ig mk a X hg hsize hdg hW hn hp'
  obtain ⟨rfl, rfl, r1, r2⟩ := hp'
  have al : Z.vm.Alike P.U.vm := hZ.alike.trans X.warmed.alike
  obtain ⟨A, hx⟩ := txt_of wi al E V C K hc hb l2
  obtain ⟨A', hy⟩ := txt_of wi al E' V' C' K' hc' hb' l2'
  obtain ⟨v, B, X', ⟨⟨w, hv, hh, hq⟩, hl, hk, hs⟩, st⟩ := SEq.pays x t A cd cs.length (fun j => cs.getD j 0) y t' A' cd' ds.length (fun j => ds.getD j 0) z (tabEq_of (movedEq hZ hw)) hfr hlo m meth c P g ig mk _ X hg hsize hdg hW hn ⟨r1, r2, rfl, hx, hy, sta_is al S, hz⟩
  refine ⟨v, B, X', ⟨[], ⟨?_, rfl, hh⟩, hl, hk, hs⟩, st⟩
  rcases hq with ⟨rfl, q⟩ | ⟨rfl, q⟩
  · exact Or.inl ⟨hv, (same_list cs ds).mp q⟩
  · exact Or.inr ⟨hv, fun e => q ((same_list cs ds).mpr e)⟩
end StrChars.Road
namespace StrChars.Road
open Jvm Sem ClassFile Op Lib Jvm.Stand Jvm.Free Jvm.Free.XT
open Jvm.Lib.Cold (StaticIs)
/-- what backV says of its String, as the contracts of this text ask it: cs's low bytes, coder 0 -/
theorem codOf {cs : List Int32} {n : Nat} (hn : cs.length = n) (hb : ∀ c ∈ cs, ¬ 255 < c) : CodA cs 0 (Int32.ofNat n) ((cs.map lo8).map Value.int) := Or.inl ⟨rfl, by rw [hn], by simp [List.map_map, Function.comp_def], hb⟩
end StrChars.Road
end Jvm.Pilot.@@N@@

namespace Jvm.Pilot.@@N@@
open Jvm Jvm.ClassFile Sem Op Lib Jvm.Free Jvm.Stand Jvm.LawKit Jvm.RoadKit Bundle Jvm.Pilot.@@N@@.Jvm.D

theorem own_g {Z : State} {a0 : Array Value} (hw : ∀ d ∈ tables_1, d.before a0 Z = true) (i : Nat) {d : Jvm.Cond} (h : tables_1[i]? = some d) : d.before a0 Z = true := hw _ (List.mem_of_getElem? h)
/-- from the state T the run comes to an end that F takes -/
def own_Ends (p : Program) (e : Env) (below : List Frame) (F : Outcome → State → Prop) (T : State) : Prop :=
  ∃ s₂ o, Steps p.tables e below T s₂ ∧ s₂.status = .running ∧ Ended s₂ below o ∧ F o s₂
def own_Fin (s : State) (Q : Option Value → Heap → List Loc → Prop) (C S : Nat) (o : Outcome) (U : State) : Prop :=
  ∃ v L, o = .returned v ∧ Q v U.heap L ∧ FrameEnd s o U L C S
theorem own_Sta_keep {Z : State} {h h' : Heap} {C n d : String} {v : Value} {ws : List Addr} (F : Sta Z h C n d v) (K : Keep h h' ws) (q : ∀ x ∈ ws, ∀ c : Cell, h[x]? = some c → c.vm.isStatics = false) : Sta Z h' C n d v := by
  obtain ⟨cf, i, k, f, st, cell, h1, h2, h3, h4, h5, h6, h7⟩ := F
  exact ⟨cf, i, k, f, st, cell, h1, h2, h3, h4, K.2.1 st cell h5 (fun m => by rw [q st m cell h5] at h6; cases h6), h6, h7⟩
theorem own_ns_exa {Z : State} {h : Heap} {a : Addr} {C : String} (F : Exa Z h a C) : ∀ c : Cell, h[a]? = some c → c.vm.isStatics = false := fun c hc => by
  obtain ⟨cell, k, h1, h2, h3, h4, h5⟩ := F
  cases h1.symm.trans hc; exact h4
theorem own_ns_arv {Z : State} {h : Heap} {a : Addr} {k : ClassId} {ty : FieldType} {n : Int32} {vs : List Value} {d : Value} (F : Arv Z h a k ty n vs d) : ∀ c : Cell, h[a]? = some c → c.vm.isStatics = false := fun c hc => by
  obtain ⟨cell, A, r⟩ := F
  cases A.1.symm.trans hc; exact A.plain
section OwnSteps
variable {p : Program} {l : Launch} {e : Env} {R : Room} {s : State} {m : MethodId} {args : Array Value} {below : List Frame} {meth : Method} {c : Code} {T T' : State} {locs : List Loc} {cells slots cells' slots' : Nat} {F : Outcome → State → Prop}
theorem own_step (h : ∀ target, Steps p.tables e below T' target → Steps p.tables e below T target) (k : own_Ends p e below F T') : own_Ends p e below F T := by
  obtain ⟨s₂, o, h1, h2⟩ := k
  exact ⟨s₂, o, h _ h1, h2⟩
theorem own_trans (h : Steps p.tables e below T T') (k : own_Ends p e below F T') : own_Ends p e below F T := by
  obtain ⟨s₂, o, h1, h2⟩ := k
  exact ⟨s₂, o, h.trans h1, h2⟩
theorem own_mono (X : Stand p l e R s m args below meth c T locs cells slots) (h1 : cells ≤ cells') (h2 : slots ≤ slots') : Stand p l e R s m args below meth c T locs cells' slots' :=
  { X with same := X.same.mono h1 h2 }
theorem own_ret {Q : Option Value → Heap → List Loc → Prop} {C S : Nat} {g : JFrame} (X : Stand p l e R s m args below meth c T locs cells slots) {v : Option Value} (hv : meth.sig.returnType = none → v = none) (hlocks : meth.locks = false)
    (st : ∀ fs, (∀ (f : JFrame) (acts : List Action), f.method = m → f.locked = none → f.entered = [] → (doReturn e (T.setTop f) acts v).1 = T.setFrames fs) → Steps p.tables e below (T.setTop g) (T.setFrames fs))
    (h1 : cells ≤ C) (h2 : slots ≤ S) (hQ : Q v T.heap locs) : own_Ends p e below (own_Fin s Q C S) (T.setTop g) := by
  obtain ⟨fs, hr, hrun, hended, hW, hsame⟩ := X.leave (v := v) hv hlocks
  exact ⟨_, _, st fs hr, hrun, hended, _, _, rfl, hQ, ⟨_, rfl⟩, hW, hsame.mono h1 h2⟩
def own_FinW (s : State) (Q : Option Value → Heap → List Loc → Prop) (C S : Nat) (o : Outcome) (U : State) : Prop :=
  ∃ v L, o = .returned v ∧ Q v U.heap L ∧ ReturnedEndW s o U L C S
theorem own_retW {vm : Vm} {k : Nat} {Q : Option Value → Heap → List Loc → Prop} {C S : Nat} {g : JFrame} (X : Stand p l e R (s.setVm vm) m args below meth c T locs cells slots) (hS : s.Since vm k) (hk : k ≤ T.heap.size) {v : Option Value} (hv : meth.sig.returnType = none → v = none) (hlocks : meth.locks = false)
    (st : ∀ fs, (∀ (f : JFrame) (acts : List Action), f.method = m → f.locked = none → f.entered = [] → (doReturn e (T.setTop f) acts v).1 = T.setFrames fs) → Steps p.tables e below (T.setTop g) (T.setFrames fs))
    (h1 : cells ≤ C) (h2 : slots ≤ S) (hQ : Q v T.heap locs) : own_Ends p e below (own_FinW s Q C S) (T.setTop g) := by
  obtain ⟨fs, hr, hrun, hended, a, b, c', d'⟩ := X.leaveW hS hk (v := v) hv hlocks
  exact ⟨_, _, st fs hr, hrun, hended, _, _, rfl, hQ, a, b, c', d'.mono h1 h2⟩
theorem own_warm {Z : State} {vm0 vm1 : Vm} {k : Nat} (hZ : Z.Warmed39 vm0) (hS : (s.setVm vm0).Since vm1 k) : Z.Warmed39 vm1 := State.Warmed39.trans (t := s.setVm vm0) hZ hS.1
theorem own_find {vm0 vm1 : Vm} {k : Nat} {own : String} {c0 : ClassId} (h : vm0.findClass own = some c0) (hS : (s.setVm vm0).Since vm1 k) : vm1.findClass own = some c0 := by
  rw [hS.1.alike.findClass]; exact h
def own_FinH (Z : State) (EL : List (String × Nat)) (s : State) (Q : Option Value → Heap → List Loc → Prop) (C S : Nat) (o : Outcome) (U : State) : Prop :=
  ∃ v L, o = .returned v ∧ Q v U.heap L ∧ CHr Z EL s.vm s.heap U.vm U.heap ∧ ReturnedEndW s o U L C S
theorem own_retH {Z : State} {a0 : Array Value} {EL : List (String × Nat)} {vm : Vm} {k : Nat} {h0 h : Heap} {Q : Option Value → Heap → List Loc → Prop} {C S : Nat} {g : JFrame} (X : Stand p l e R (s.setVm vm) m args below meth c T locs cells slots) (hS : s.Since vm k) (hk : k ≤ T.heap.size) (hh : s.heap = h0) (eT : T.heap = h) (hZ : Z.Warmed39 vm) (hEL : EW Z a0 EL) (hC : CHr Z EL s.vm h0 vm h) {v : Option Value} (hv : meth.sig.returnType = none → v = none) (hlocks : meth.locks = false)
    (st : ∀ fs, (∀ (f : JFrame) (acts : List Action), f.method = m → f.locked = none → f.entered = [] → (doReturn e (T.setTop f) acts v).1 = T.setFrames fs) → Steps p.tables e below (T.setTop g) (T.setFrames fs))
    (h1 : cells ≤ C) (h2 : slots ≤ S) (hQ : Q v T.heap locs) : own_Ends p e below (own_FinH Z EL s Q C S) (T.setTop g) := by
  obtain ⟨fs, hr, hrun, hended, a, b, c', d'⟩ := X.leaveW hS hk (v := v) hv hlocks
  have q : CHr Z EL s.vm s.heap T.vm T.heap := by
    rw [hh, eT]; exact hC.trans (CHv.at X hZ hEL hC.1)
  exact ⟨_, _, st fs hr, hrun, hended, _, _, rfl, hQ, q, a, b, c', d'.mono h1 h2⟩
def own_SL (Z : State) (EL : List (String × Nat)) (vm : Vm) (h : Heap) (x : Addr) : Prop := x < h.size ∧ Safe Z EL vm h x
theorem own_SL.go {Z : State} {EL : List (String × Nat)} {vm vm1 : Vm} {h h' : Heap} {x : Addr} (F : own_SL Z EL vm h x) (A : CHr Z EL vm h vm1 h') : own_SL Z EL vm1 h' x := ⟨Nat.lt_of_lt_of_le F.1 A.2.1, A.safe F.1 F.2⟩
theorem own_SL.born {Z : State} {EL : List (String × Nat)} {vm : Vm} {h h' : Heap} {x : Addr} (H : CHv Z EL vm h) (E : Ext h h') (g : x = h.size) (lt : x < h'.size) : own_SL Z EL vm h' x := ⟨lt, Safe.ext E H (Safe.new (Nat.le_of_eq g.symm))⟩
end OwnSteps

/-- the String x of h spells the chars cs (each 0 to 255); it and its bytes lie below B -/
def own_Str (Z : State) (h : Heap) (B : Nat) (x : Addr) (cs : List Int32) : Prop := ∃ (t : Addr) (kb : ClassId), Exa Z h x "java/lang/String" ∧ Fld Z h x "java/lang/String" "coder" "B" (.int 0) ∧ Fld Z h x "java/lang/String" "value" "[B" (.ref t) ∧ Arv Z h t kb .byte (Int32.ofNat cs.length) ((cs.map (fun c => c.toInt8.toInt32)).map Value.int) (.int 0) ∧ (∀ c ∈ cs, ¬ c < 0 ∧ ¬ (255 : Int32) < c) ∧ x < B ∧ t < B
section OwnStr
variable {Z : State} {h h' : Heap} {B B' : Nat} {x : Addr} {cs ds : List Int32} {ws : List Addr}
theorem own_Str.exa (F : own_Str Z h B x cs) : Exa Z h x "java/lang/String" := by obtain ⟨t, kb, E, -⟩ := F; exact E
theorem own_Str.lt (F : own_Str Z h B x cs) : x < h.size := F.exa.lt
theorem own_Str.ext (F : own_Str Z h B x cs) (E : Ext h h') : own_Str Z h' B x cs := by
  obtain ⟨t, kb, f1, f2, f3, f4, f5⟩ := F
  exact ⟨t, kb, f1.ext E, f2.ext E, f3.ext E, f4.ext E, f5⟩
theorem own_Str.keep (F : own_Str Z h B x cs) (K : Keep h h' ws) (q : ∀ w ∈ ws, B ≤ w) : own_Str Z h' B x cs := by
  obtain ⟨t, kb, f1, f2, f3, f4, f5, f6, f7⟩ := F
  have n1 : x ∉ ws := fun m => absurd (q x m) (Nat.not_le.mpr f6)
  have n2 : t ∉ ws := fun m => absurd (q t m) (Nat.not_le.mpr f7)
  exact ⟨t, kb, f1.keep K, f2.keep K n1, f3.keep K n1, f4.keep K n2, f5, f6, f7⟩
theorem own_Str.keepN (F : own_Str Z h B x cs) (K : Keep h h' ws) (q : ∀ w ∈ ws, B ≤ w ∨ ∃ (C : String) (n : Nat) (a0 : Array Value), Exa Z h w C ∧ C ≠ "java/lang/String" ∧ (Jvm.Cond.instantiable C n).before a0 Z = true) : own_Str Z h' B x cs := by
  obtain ⟨t, kb, f1, f2, f3, f4, f5, f6, f7⟩ := F
  have n1 : x ∉ ws := fun m => by
    rcases q x m with g | ⟨C, n, a0, g, g2, g3⟩
    · exact absurd g (Nat.not_le.mpr f6)
    · exact g.ne f1 g2 rfl
  have n2 : t ∉ ws := fun m => by
    rcases q t m with g | ⟨C, n, a0, g, g2, g3⟩
    · exact absurd g (Nat.not_le.mpr f7)
    · exact g.neArv f4 g3 rfl
  exact ⟨t, kb, f1.keep K, f2.keep K n1, f3.keep K n1, f4.keep K n2, f5, f6, f7⟩
theorem own_Str.mono (F : own_Str Z h B x cs) (q : B ≤ B') : own_Str Z h B' x cs := by
  obtain ⟨t, kb, f1, f2, f3, f4, f5, f6, f7⟩ := F
  exact ⟨t, kb, f1, f2, f3, f4, f5, Nat.lt_of_lt_of_le f6 q, Nat.lt_of_lt_of_le f7 q⟩
theorem own_Str.top (F : own_Str Z h B x cs) : own_Str Z h h.size x cs := by
  obtain ⟨t, kb, f1, f2, f3, f4, f5, f6, f7⟩ := F
  exact ⟨t, kb, f1, f2, f3, f4, f5, f1.lt, f4.lt⟩
theorem own_Str.mk {t : Addr} {kb : ClassId} {N : Int32} {vs : List Value} (f1 : Exa Z h x "java/lang/String") (f2 : Fld Z h x "java/lang/String" "coder" "B" (.int 0)) (f3 : Fld Z h x "java/lang/String" "value" "[B" (.ref t)) (f4 : Arv Z h t kb .byte N vs (.int 0)) (e1 : N = Int32.ofNat cs.length) (e2 : vs = (cs.map (fun c => c.toInt8.toInt32)).map Value.int) (f5 : ∀ c ∈ cs, ¬ c < 0 ∧ ¬ (255 : Int32) < c) : own_Str Z h h.size x cs := by
  subst e1 e2
  exact ⟨t, kb, f1, f2, f3, f4, f5, f1.lt, f4.lt⟩
def own_eqv (cs ds : List Int32) : Int32 := if cs = ds then 1 else 0
theorem own_hi {c : Int32} (q : ¬ (255 : Int32) < c) : ¬ (65535 : Int32) < c := fun z => q (by
  rw [Int32.lt_iff_toInt_lt] at z ⊢
  have e1 : (255 : Int32).toInt = 255 := rfl
  have e2 : (65535 : Int32).toInt = 65535 := rfl
  omega)
end OwnStr

theorem own_eqB {p : Program} {l : Launch} {e : Env} {R : Room} {s : State} {args : Array Value} {below : List Frame} {len W : Nat} {Z : State} {a0 : Array Value} {h : Heap} (hZ : Z.Warmed39 s.vm) (hw : ∀ d ∈ tables_1, d.before a0 Z = true) (wi : (Jvm.Cond.instantiable "java/lang/String" 4).before a0 Z = true) {B B' : Nat} {x y : Addr} {cs ds : List Int32} (F : own_Str Z h B x cs) (G : own_Str Z h B' y ds) {z : Int32} (S : Sta Z h "java/lang/String" "COMPACT_STRINGS" "Z" (.int z)) (hz : ¬ z = 0) (l1 : cs.length ≤ 4000) (l2 : ds.length ≤ 4000) (hfr : 2 ≤ R.frames) (hlo : W + 28 ≤ R.locals) :
    Back l R p e below s args (⟨"java/lang/String", "equals", "(Ljava/lang/Object;)Z"⟩ : MethodName) len W (fun P a => a = #[.ref x, .ref y] ∧ P.U.heap = h ∧ P.cells + 0 ≤ R.cells ∧ P.slots + 0 ≤ R.slots)
      (fun P _ v B => ∃ L, (v = some (.int (own_eqv cs ds)) ∧ (∀ k, Fr k L) ∧ B.U.heap = h) ∧ B.locs = P.locs ++ L ∧ B.cells = P.cells + 0 ∧ B.slots = P.slots + 0) := by
  obtain ⟨t, kb, f1, f2, f3, f4, f5, -⟩ := F
  obtain ⟨t', kb', g1, g2, g3, g4, g5, -⟩ := G
  refine Back.mono (StrChars.Road.eqW hZ (fun d hd => hw d ((by decide +kernel : ∀ d ∈ StrChars.Road.wordsEq, d ∈ tables_1) d hd)) wi f1 f3 f2 f4 (StrChars.Road.codOf rfl (fun c hc => (f5 c hc).2)) (fun c hc => ⟨(f5 c hc).1, own_hi (f5 c hc).2⟩) l1 g1 g3 g2 g4 (StrChars.Road.codOf rfl (fun c hc => (g5 c hc).2)) (fun c hc => ⟨(g5 c hc).1, own_hi (g5 c hc).2⟩) l2 S hz hfr hlo) (fun _ _ q => q) (fun P a v B _ q => ?_)
  obtain ⟨L, ⟨q1, q2, q3⟩, r⟩ := q
  refine ⟨L, ⟨?_, by subst q2; exact fun k => Fr.nil k, q3⟩, r⟩
  unfold own_eqv
  rcases q1 with ⟨rfl, q⟩ | ⟨rfl, q⟩
  · rw [if_pos q]
  · rw [if_neg q]

theorem own_c0 {P : Int32 → Prop} : ∀ c ∈ ([] : List Int32), P c := fun _ q => nomatch q
theorem own_cS {P : Int32 → Prop} {y : Int32} {L : List Int32} (q : P y) (r : ∀ c ∈ L, P c) : ∀ c ∈ y :: L, P c := fun c z => (List.mem_cons.mp z).elim (fun u => u ▸ q) (r c)
theorem own_rng {v : Int32} (h : 0 ≤ v.toInt ∧ v.toInt ≤ 255) : ¬ v < 0 ∧ ¬ (255 : Int32) < v := by
  have e0 : (0 : Int32).toInt = 0 := rfl
  have e1 : (255 : Int32).toInt = 255 := rfl
  rw [Int32.lt_iff_toInt_lt, Int32.lt_iff_toInt_lt, e0, e1]; omega
theorem own_rng' {v : Int32} (h : ¬ v < 0 ∧ ¬ (255 : Int32) < v) : 0 ≤ v.toInt ∧ v.toInt ≤ 255 := by
  have e0 : (0 : Int32).toInt = 0 := rfl
  have e1 : (255 : Int32).toInt = 255 := rfl
  rw [Int32.lt_iff_toInt_lt, Int32.lt_iff_toInt_lt, e0, e1] at h; omega
theorem own_c8 {v x : Int32} (e : v = (x &&& (255 : Int32)).toUInt32.toUInt16.toUInt32.toInt32) : ¬ v < 0 ∧ ¬ (255 : Int32) < v := by
  rw [e, i2c_mask]
  have h := c_and x 255 (by decide)
  have e1 : (255 : Int32).toInt = 255 := rfl
  rw [e1] at h
  exact own_rng h
theorem own_narC {v : Int32} (h : ¬ v < 0 ∧ ¬ (255 : Int32) < v) : nar .char v = v := by
  have r := own_rng' h
  have q := c_i2c v
  apply Int32.toInt_inj.mp
  show v.toUInt32.toUInt16.toUInt32.toInt32.toInt = v.toInt
  omega
theorem own_fitC {v : Int32} (h : ¬ v < 0 ∧ ¬ (255 : Int32) < v) : fits .char (.int v) = true := by rw [← own_narC h]; exact fits_nar_char v
theorem own_i2c {v : Int32} (h : ¬ v < 0 ∧ ¬ (255 : Int32) < v) : v.toUInt32.toUInt16.toUInt32.toInt32 = v := own_narC h
theorem own_nar8 (x : Int32) : nar .byte (x.toInt8.toInt32) = x.toInt8.toInt32 := by
  show (x.toInt8.toInt32).toInt8.toInt32 = x.toInt8.toInt32
  rw [Int8.toInt8_toInt32]
theorem own_no {Z : State} {a0 : Array Value} {C S K : String} {n : Nat} (w : (Jvm.Cond.superclass C S).before a0 Z = true) (w0 : (Jvm.Cond.noSuperclass S).before a0 Z = true) (wk : (Jvm.Cond.instantiable K n).before a0 Z = true) (hn : C ≠ K) (hn2 : S ≠ K) : ∃ c t, Z.vm.findClass C = some c ∧ Z.vm.findClass K = some t ∧ Z.vm.assignable c t = false := by
  obtain ⟨t, k', g1, g2, g3, g4, -⟩ := Cond.instantiable_spec wk
  obtain ⟨c0, k0, r1, r2, r3, -, -⟩ := Cond.noSuperclass_spec w0
  obtain ⟨c, h0⟩ := found_sup w
  obtain ⟨p, k, kp, h1, h2, h3, h4, h5, -, h7⟩ := Cond.superclass_spec h0 w
  cases h1.symm.trans r1
  have ne := ids_ne h0 g1 hn
  have ne2 := ids_ne r1 g1 hn2
  refine ⟨c, t, h0, g1, ?_⟩
  simp only [Bool.or_eq_false_iff] at g4
  have n3 : ∀ fuel, Z.vm.isSubclassAux fuel c t = false := fun fuel => by
    cases fuel with
    | zero => rfl
    | succ f =>
      cases f with
      | zero => simp [Vm.isSubclassAux, ne, h2, h4]
      | succ f => simp [Vm.isSubclassAux, ne, h2, h4, ne2, r2, r3]
  show Z.vm.assignableAux (255 + 1) c t = false
  simp [Vm.assignableAux, ne, h2, g2, h5, g3, g4.1, Vm.isSubclass, n3]

theorem own_safeS {Z : State} {EL : List (String × Nat)} {vm : Vm} {h : Heap} {x : Addr} (hal : Z.vm.Alike vm) (E : Exa Z h x "java/lang/String") (V : Fld Z h x "java/lang/String" "value" "[B" .null) : Safe Z EL vm h x := fun B => by
  obtain ⟨cell, k, e1, e2, e3, -, -⟩ := E
  obtain ⟨p, -, u, a, -, q, -, F, rfl | rfl⟩ := B
  · have ha : h[q.sa]? = some q.sC := F.ha
    obtain ⟨cS, ⟨⟨-, -, -, ⟨c1, k1, i1, f1, -⟩, -, -, -, v1, -⟩, -⟩, -⟩ := F
    obtain ⟨cell', cf, kk, i, f, g1, g2, -, -, -, -, g7⟩ := V
    cases g1.symm.trans ha
    obtain ⟨k3, e3', -⟩ := State.fieldFound?_setVm (s := Z) hal g2
    have e4 := (show (Wst Z vm h).fieldFound? _ _ _ = _ from e3').symm.trans f1
    simp only [Option.some.injEq, Prod.mk.injEq] at e4
    rw [e4.2.2.2, v1] at g7; cases g7
  · cases (show h[q.sd]? = some q.SA from F.hd).symm.trans e1
    obtain ⟨cS, -, -, f, -⟩ := F
    have f' : Z.vm.findClass "[B" = some q.SA.cls := by rw [← hal.findClass]; exact f
    obtain ⟨k1, q1, q2⟩ := Vm.findClass_spec f'
    obtain ⟨k2, q3, q4⟩ := Vm.findClass_spec e2
    cases q1.symm.trans q3
    exact absurd (q2.symm.trans q4) (by decide)

theorem own_m3 (x : Int32) : x &&& 3 = 0 ∨ x &&& 3 = 1 ∨ x &&& 3 = 2 ∨ x &&& 3 = 3 := by
  have h := c_mask x 3 2 (by decide) (by decide)
  have e : ∀ k : Int32, (x &&& 3).toInt = k.toInt → x &&& 3 = k := fun k q => Int32.toInt_inj.mp q
  have p : ((2 ^ 2 : Nat) : Int) = 4 := rfl
  rw [p] at h
  have h4 : x.toInt % 4 = 0 ∨ x.toInt % 4 = 1 ∨ x.toInt % 4 = 2 ∨ x.toInt % 4 = 3 := by omega
  rcases h4 with q | q | q | q <;> rw [q] at h
  · exact Or.inl (e 0 h)
  · exact Or.inr (Or.inl (e 1 h))
  · exact Or.inr (Or.inr (Or.inl (e 2 h)))
  · exact Or.inr (Or.inr (Or.inr (e 3 h)))

def own_EL : List (String × Nat) := [("java/lang/String", 7)]
theorem own_EW {Z : State} {a0 : Array Value} (hw : ∀ d ∈ tables_1, d.before a0 Z = true) : EW Z a0 own_EL := (EW.cons (own_g hw 34 rfl) (by decide) EW.nil)

theorem d9_0 : decode jdk_43_method_3_code 0 = .ok (.iload_n 0, 1) := by decide +kernel
theorem d9_1 : decode jdk_43_method_3_code 1 = .ok (.sipush 255, 3) := by decide +kernel
theorem d9_4 : decode jdk_43_method_3_code 4 = .ok (.if_icmp .gt 7, 3) := by decide +kernel
theorem d9_7 : decode jdk_43_method_3_code 7 = .ok (.iconst 1, 1) := by decide +kernel
theorem d9_8 : decode jdk_43_method_3_code 8 = .ok (.goto 4, 3) := by decide +kernel
theorem d9_12 : decode jdk_43_method_3_code 12 = .ok (.ireturn, 1) := by decide +kernel
theorem pn_java_lang_StringLatin1 : plainName "java/lang/StringLatin1" = true := by first | (simp [plainName, overriddenIn]; done) | decide +kernel
theorem ef_rm9 (m : MethodId) (x0 : Int32) : entryFrame m #[(.int x0)] 1 = mkF m 0 #[.val (.int x0)] [] := by first | (simp [entryFrame, mkF, argsToLocals, Value.category, maxLocals]; done) | rfl
def Q9 (Z : State) (p1 : Int32) (h0 : Heap) (n0 : Nat) (v : Option Value) (h : Heap) (L : List Loc) : Prop := v = some (.int 1) ∧ Fr n0 L ∧ h = h0
set_option maxRecDepth 65536 in
set_option maxHeartbeats 40000000 in
theorem rm9 (l : Launch) (Z : State) (a0 : Array Value) (hw : ∀ d ∈ tables_1, d.before a0 Z = true) (ws : List Jvm.Cond) (p1 : Int32) (h0 : Heap) (n0 : Nat) (Z0 : n0 ≤ h0.size) (hp : ¬ p1 < 0 ∧ ¬ (255 : Int32) < p1) :
    MetFree l (⟨"java/lang/StringLatin1", "canEncode", "(C)Z"⟩ : MethodName) (head1 (Jvm.Cond.code (⟨"java/lang/StringLatin1", "canEncode", "(C)Z"⟩ : MethodName) jdk_43_method_3_code 1 (some .boolean) :: ws) ({ frames := 0, cells := 0, slots := 0, locals := 0 } : Room)) (fun ar U => ar = #[(.int p1)] ∧ Z.Warmed39 U.vm ∧ U.heap = h0) (fun _ _ _ _ _ => True) (fun _ U o U' => ∃ v L, o = .returned v ∧ Q9 Z p1 h0 n0 v U'.heap L ∧ FrameEnd U o U' L ({ frames := 0, cells := 0, slots := 0, locals := 0 } : Room).cells ({ frames := 0, cells := 0, slots := 0, locals := 0 } : Room).slots) := by
  refine MetFree.of_bodySF (plainFor_of_name pn_java_lang_StringLatin1) hisR ?_
  intro p e s m args below meth c s₁ Bd hml0 hP hK
  obtain ⟨rfl, hZ, hh⟩ := hP
  have hx := Bd.exec
  have hby := Bd.bytes
  have hml : c.maxLocals = 1 := hml0
  have hown : s.vm.findClass "java/lang/StringLatin1" = some m.cls := findClass_of_methodNamed Bd.named
  have hnm := (name_of_methodNamed Bd.named Bd.method).1
  have X0 : Stand p l e ({ frames := 0, cells := 0, slots := 0, locals := 0 } : Room) s m #[(.int p1)] below meth c s₁ [] 0 0 := Stand.of_body Bd
  have e0 : s₁.heap = h0 := by rw [← hh, Bd.state]; rfl
  have N0 := Fr.nil n0
  obtain ⟨F, hF⟩ : ∃ F, F = own_Fin s (Q9 Z p1 h0 n0) ({ frames := 0, cells := 0, slots := 0, locals := 0 } : Room).cells ({ frames := 0, cells := 0, slots := 0, locals := 0 } : Room).slots := ⟨_, rfl⟩
  show own_Ends p e below (own_Fin s (Q9 Z p1 h0 n0) ({ frames := 0, cells := 0, slots := 0, locals := 0 } : Room).cells ({ frames := 0, cells := 0, slots := 0, locals := 0 } : Room).slots) _
  rw [← hF, ef_rm9 m p1]
  show own_Ends p e below F (s₁.setTop (mkF m 0 #[.val (.int p1)] []))
  refine own_step (fun _ k => XS.iloadN X0.here hx rfl (hb hby d9_0) rfl k) ?_
  show own_Ends p e below F (s₁.setTop (mkF m 1 #[.val (.int p1)] [(.int p1)]))
  refine own_step (fun _ k => XS.sipush X0.here hx rfl (hb hby d9_1) k) ?_
  show own_Ends p e below F (s₁.setTop (mkF m 4 #[.val (.int p1)] [(.int (255 : Int32)), (.int p1)]))
  refine own_step (fun _ k => XS.icmpNo X0.here hx rfl (hb hby d9_4) rfl (flt (hp.2 : ¬ ((255 : Int32) < p1))).2.2.1 k) ?_
  show own_Ends p e below F (s₁.setTop (mkF m 7 #[.val (.int p1)] []))
  refine own_step (fun _ k => XS.iconst X0.here hx rfl (hb hby d9_7) k) ?_
  show own_Ends p e below F (s₁.setTop (mkF m 8 #[.val (.int p1)] [(.int (1 : Int32))]))
  refine own_step (fun _ k => XS.goto X0.here hx rfl (pc0 := 8) (pc' := 12) rfl (hb hby d9_8) (by decide) (by decide) k) ?_
  show own_Ends p e below F (s₁.setTop (mkF m 12 #[.val (.int p1)] [(.int (1 : Int32))]))
  rw [hF]
  exact own_ret X0 (v := (some (.int (nar .boolean (1 : Int32))))) (fun h => by rw [Bd.returns] at h; cases h) Bd.notSynchronized (fun fs hr => retN X0 hx (t := .boolean) Bd.returns (by simp) (hb hby d9_12) hr) (by decide) (by decide) (by rw [e0]; exact ⟨rfl, N0, rfl⟩)

theorem d10_0 : decode jdk_43_method_46_code 0 = .ok (.iconst 1, 1) := by decide +kernel
theorem d10_1 : decode jdk_43_method_46_code 1 = .ok (.newarray .byte, 2) := by decide +kernel
theorem d10_3 : decode jdk_43_method_46_code 3 = .ok (.dup, 1) := by decide +kernel
theorem d10_4 : decode jdk_43_method_46_code 4 = .ok (.iconst 0, 1) := by decide +kernel
theorem d10_5 : decode jdk_43_method_46_code 5 = .ok (.iload_n 0, 1) := by decide +kernel
theorem d10_6 : decode jdk_43_method_46_code 6 = .ok (.i2b, 1) := by decide +kernel
theorem d10_7 : decode jdk_43_method_46_code 7 = .ok (.bastore, 1) := by decide +kernel
theorem d10_8 : decode jdk_43_method_46_code 8 = .ok (.areturn, 1) := by decide +kernel
theorem ef_rm10 (m : MethodId) (x0 : Int32) : entryFrame m #[(.int x0)] 1 = mkF m 0 #[.val (.int x0)] [] := by first | (simp [entryFrame, mkF, argsToLocals, Value.category, maxLocals]; done) | rfl
def Q10 (Z : State) (p1 : Int32) (h0 : Heap) (n0 : Nat) (v : Option Value) (h : Heap) (L : List Loc) : Prop := ∃ c k, v = some (.ref c) ∧ Fr n0 L ∧ Keep h0 h [] ∧ h0.size ≤ c ∧ Arv Z h c k .byte (1 : Int32) [(.int (p1.toInt8.toInt32))] (.int (0 : Int32))
set_option maxRecDepth 65536 in
set_option maxHeartbeats 40000000 in
theorem rm10 (l : Launch) (Z : State) (a0 : Array Value) (hw : ∀ d ∈ tables_1, d.before a0 Z = true) (ws : List Jvm.Cond) (p1 : Int32) (h0 : Heap) (n0 : Nat) (Z0 : n0 ≤ h0.size)  :
    MetFree l (⟨"java/lang/StringLatin1", "toBytes", "(C)[B"⟩ : MethodName) (head1 (Jvm.Cond.code (⟨"java/lang/StringLatin1", "toBytes", "(C)[B"⟩ : MethodName) jdk_43_method_46_code 1 (some (.array .byte)) :: ws) ({ frames := 0, cells := 1, slots := 1, locals := 0 } : Room)) (fun ar U => ar = #[(.int p1)] ∧ Z.Warmed39 U.vm ∧ U.heap = h0) (fun _ _ _ _ _ => True) (fun _ U o U' => ∃ v L, o = .returned v ∧ Q10 Z p1 h0 n0 v U'.heap L ∧ FrameEnd U o U' L ({ frames := 0, cells := 1, slots := 1, locals := 0 } : Room).cells ({ frames := 0, cells := 1, slots := 1, locals := 0 } : Room).slots) := by
  refine MetFree.of_bodySF (plainFor_of_name pn_java_lang_StringLatin1) hisR ?_
  intro p e s m args below meth c s₁ Bd hml0 hP hK
  obtain ⟨rfl, hZ, hh⟩ := hP
  have hx := Bd.exec
  have hby := Bd.bytes
  have hml : c.maxLocals = 1 := hml0
  have hown : s.vm.findClass "java/lang/StringLatin1" = some m.cls := findClass_of_methodNamed Bd.named
  have hnm := (name_of_methodNamed Bd.named Bd.method).1
  have X0 : Stand p l e ({ frames := 0, cells := 1, slots := 1, locals := 0 } : Room) s m #[(.int p1)] below meth c s₁ [] 0 0 := Stand.of_body Bd
  have e0 : s₁.heap = h0 := by rw [← hh, Bd.state]; rfl
  have N0 := Fr.nil n0
  obtain ⟨F, hF⟩ : ∃ F, F = own_Fin s (Q10 Z p1 h0 n0) ({ frames := 0, cells := 1, slots := 1, locals := 0 } : Room).cells ({ frames := 0, cells := 1, slots := 1, locals := 0 } : Room).slots := ⟨_, rfl⟩
  show own_Ends p e below (own_Fin s (Q10 Z p1 h0 n0) ({ frames := 0, cells := 1, slots := 1, locals := 0 } : Room).cells ({ frames := 0, cells := 1, slots := 1, locals := 0 } : Room).slots) _
  rw [← hF, ef_rm10 m p1]
  show own_Ends p e below F (s₁.setTop (mkF m 0 #[.val (.int p1)] []))
  refine own_step (fun _ k => XS.iconst X0.here hx rfl (hb hby d10_0) k) ?_
  show own_Ends p e below F (s₁.setTop (mkF m 1 #[.val (.int p1)] [(.int (1 : Int32))]))
  obtain ⟨T1, h1, k1, X1, e1, E1, A1, st1⟩ := newP X0 hx hZ (own_g hw 23 rfl) e0 (g := (mkF m 1 #[.val (.int p1)] [(.int (1 : Int32))])) rfl (hb hby d10_1) rfl (by decide) (cap := 1) (by decide) (by decide) (by decide) (by decide)
  obtain ⟨a1, g1⟩ : ∃ z, z = h0.size := ⟨_, rfl⟩
  rw [← g1] at A1 st1
  have ge_a1 : n0 ≤ a1 := Nat.le_trans Z0 (Nat.le_of_eq g1.symm)
  have sz_a1 : h0.size ≤ a1 := Nat.le_trans (Nat.le_refl h0.size) (Nat.le_of_eq g1.symm)
  have Z1 : n0 ≤ h1.size := Nat.le_trans Z0 E1.1
  have SZ1 : h0.size ≤ h1.size := Nat.le_trans (Nat.le_refl h0.size) E1.1
  have V1 : Arv Z h1 a1 k1 .byte (1 : Int32) [(.int (0 : Int32))] (.int (0 : Int32)) := Arv.pad (Arv.new A1 (by decide)) (pad_rep [] _ 1)
  refine own_step st1 ?_
  show own_Ends p e below F (T1.setTop (mkF m 3 #[.val (.int p1)] [(.ref a1)]))
  refine own_step (fun _ k => XS.dup X1.here hx rfl (hb hby d10_3) rfl rfl k) ?_
  show own_Ends p e below F (T1.setTop (mkF m 4 #[.val (.int p1)] [(.ref a1), (.ref a1)]))
  refine own_step (fun _ k => XS.iconst X1.here hx rfl (hb hby d10_4) k) ?_
  show own_Ends p e below F (T1.setTop (mkF m 5 #[.val (.int p1)] [(.int (0 : Int32)), (.ref a1), (.ref a1)]))
  refine own_step (fun _ k => XS.iloadN X1.here hx rfl (hb hby d10_5) rfl k) ?_
  show own_Ends p e below F (T1.setTop (mkF m 6 #[.val (.int p1)] [(.int p1), (.int (0 : Int32)), (.ref a1), (.ref a1)]))
  refine own_step (fun _ k => XS.i2b X1.here hx rfl (hb hby d10_6) rfl k) ?_
  show own_Ends p e below F (T1.setTop (mkF m 7 #[.val (.int p1)] [(.int (p1.toInt8.toInt32)), (.int (0 : Int32)), (.ref a1), (.ref a1)]))
  obtain ⟨cl2, Ar2, q2, S2, M2, H2, G2⟩ := id V1
  have hin2 : ¬ ((0 : Int32) < 0 ∨ cl2.slots.size ≤ ((0 : Int32) : Int32).toNatClampNeg) := inb_of S2 ⟨by decide, by decide⟩
  obtain ⟨T2, h2, X2, e2, W2, st2⟩ := stB X1 hx hZ e1 Ar2 (j := (0 : Int32)) hin2 (g := (mkF m 7 #[.val (.int p1)] [(.int (p1.toInt8.toInt32)), (.int (0 : Int32)), (.ref a1), (.ref a1)])) rfl rfl (hb hby d10_7)
  rw [own_nar8 p1] at W2
  have V2 := Arv.set Ar2 q2 S2 M2 H2 G2 (fits_nar_byte p1) W2 0 rfl (Nat.le_of_ble_eq_true rfl)
  have V2 : Arv Z h2 a1 k1 .byte (1 : Int32) [(.int (p1.toInt8.toInt32))] (.int (0 : Int32)) := V2
  refine own_step st2 ?_
  have N2 := Fr.snoc X2 N0 ge_a1
  have Z2 : n0 ≤ h2.size := by rw [W2.size]; exact Z1
  have SZ2 : h0.size ≤ h2.size := by rw [W2.size]; exact SZ1
  show own_Ends p e below F (T2.setTop (mkF m 8 #[.val (.int p1)] [(.ref a1)]))
  rw [hF]
  exact own_ret X2 (v := (some (.ref a1))) (fun h => by rw [Bd.returns] at h; cases h) Bd.notSynchronized (fun fs hr => retOut X2 hx (t := (.array .byte)) (w := (.ref a1)) (i := .areturn) Bd.returns rfl (Or.inr (Or.inr (Or.inr (Or.inr ⟨rfl, rfl, rfl⟩)))) (hb hby d10_8) hr) (by decide) (by decide) (by rw [e2]; exact ⟨_, _, rfl, N2, ((Keep.wr (Keep.ext (Keep.refl _ _) E1) W2 (Or.inr sz_a1)) : Keep h0 h2 []), sz_a1, V2⟩)

theorem d11_0 : decode jdk_42_method_151_code 0 = .ok (.aload_n 0, 1) := by decide +kernel
theorem d11_1 : decode jdk_42_method_151_code 1 = .ok (.invokespecial 1, 3) := by decide +kernel
theorem d11_4 : decode jdk_42_method_151_code 4 = .ok (.aload_n 0, 1) := by decide +kernel
theorem d11_5 : decode jdk_42_method_151_code 5 = .ok (.aload_n 1, 1) := by decide +kernel
theorem d11_6 : decode jdk_42_method_151_code 6 = .ok (.putfield 9, 3) := by decide +kernel
theorem d11_9 : decode jdk_42_method_151_code 9 = .ok (.aload_n 0, 1) := by decide +kernel
theorem d11_10 : decode jdk_42_method_151_code 10 = .ok (.iload_n 2, 1) := by decide +kernel
theorem d11_11 : decode jdk_42_method_151_code 11 = .ok (.putfield 15, 3) := by decide +kernel
theorem d11_14 : decode jdk_42_method_151_code 14 = .ok (.return_, 1) := by decide +kernel
theorem pn_java_lang_String : plainName "java/lang/String" = true := by first | (simp [plainName, overriddenIn]; done) | decide +kernel
theorem ef_rm11 (m : MethodId) (x0 : Addr) (x1 : Addr) (x2 : Int32) : entryFrame m #[(.ref x0), (.ref x1), (.int x2)] 3 = mkF m 0 #[.val (.ref x0), .val (.ref x1), .val (.int x2)] [] := by first | (simp [entryFrame, mkF, argsToLocals, Value.category, maxLocals]; done) | rfl
def Q11 (Z : State) (a : Addr) (p1 : Addr) (h0 : Heap) (n0 : Nat) (v : Option Value) (h : Heap) (L : List Loc) : Prop := v = none ∧ Fr n0 L ∧ Keep h0 h [a] ∧ Exa Z h a "java/lang/String" ∧ Fld Z h a "java/lang/String" "value" "[B" (.ref p1) ∧ Fld Z h a "java/lang/String" "coder" "B" (.int (0 : Int32))
set_option maxRecDepth 65536 in
set_option maxHeartbeats 40000000 in
theorem rm11 (l : Launch) (Z : State) (a0 : Array Value) (hw : ∀ d ∈ tables_1, d.before a0 Z = true) (ws : List Jvm.Cond) (a : Addr) (p1 : Addr) (h0 : Heap) (n0 : Nat) (Z0 : n0 ≤ h0.size) (EX : Exa Z h0 a "java/lang/String") (ge : n0 ≤ a) (F_value : Fld Z h0 a "java/lang/String" "value" "[B" .null) (F_coder : Fld Z h0 a "java/lang/String" "coder" "B" (.int (0 : Int32))) :
    MetFree l (⟨"java/lang/String", "<init>", "([BB)V"⟩ : MethodName) (head1 (Jvm.Cond.code (⟨"java/lang/String", "<init>", "([BB)V"⟩ : MethodName) jdk_42_method_151_code 3 none :: ws) ({ frames := 1, cells := 0, slots := 0, locals := 12 } : Room)) (fun ar U => ar = #[(.ref a), (.ref p1), (.int (0 : Int32))] ∧ Z.Warmed39 U.vm ∧ U.heap = h0) (fun _ _ _ _ _ => True) (fun _ U o U' => ∃ v L, o = .returned v ∧ Q11 Z a p1 h0 n0 v U'.heap L ∧ FrameEnd U o U' L ({ frames := 1, cells := 0, slots := 0, locals := 12 } : Room).cells ({ frames := 1, cells := 0, slots := 0, locals := 12 } : Room).slots) := by
  refine MetFree.of_bodySF (plainFor_of_name pn_java_lang_String) hisR ?_
  intro p e s m args below meth c s₁ Bd hml0 hP hK
  obtain ⟨rfl, hZ, hh⟩ := hP
  have hx := Bd.exec
  have hby := Bd.bytes
  have hml : c.maxLocals = 3 := hml0
  have hown : s.vm.findClass "java/lang/String" = some m.cls := findClass_of_methodNamed Bd.named
  have hnm := (name_of_methodNamed Bd.named Bd.method).1
  have X0 : Stand p l e ({ frames := 1, cells := 0, slots := 0, locals := 12 } : Room) s m #[(.ref a), (.ref p1), (.int (0 : Int32))] below meth c s₁ [] 0 0 := Stand.of_body Bd
  have e0 : s₁.heap = h0 := by rw [← hh, Bd.state]; rfl
  have N0 := Fr.nil n0
  obtain ⟨F, hF⟩ : ∃ F, F = own_Fin s (Q11 Z a p1 h0 n0) ({ frames := 1, cells := 0, slots := 0, locals := 12 } : Room).cells ({ frames := 1, cells := 0, slots := 0, locals := 12 } : Room).slots := ⟨_, rfl⟩
  show own_Ends p e below (own_Fin s (Q11 Z a p1 h0 n0) ({ frames := 1, cells := 0, slots := 0, locals := 12 } : Room).cells ({ frames := 1, cells := 0, slots := 0, locals := 12 } : Room).slots) _
  rw [← hF, ef_rm11 m a p1 (0 : Int32)]
  show own_Ends p e below F (s₁.setTop (mkF m 0 #[.val (.ref a), .val (.ref p1), .val (.int (0 : Int32))] []))
  refine own_step (fun _ k => XS.aloadN X0.here hx rfl (hb hby d11_0) rfl rfl k) ?_
  show own_Ends p e below F (s₁.setTop (mkF m 1 #[.val (.ref a), .val (.ref p1), .val (.int (0 : Int32))] [(.ref a)]))
  obtain ⟨T1, X1, e1, st1⟩ := initO X0 hx hZ hown (own_g hw 15 rfl) (own_g hw 16 rfl) (own_g hw 17 rfl) e0 (g := (mkF m 1 #[.val (.ref a), .val (.ref p1), .val (.int (0 : Int32))] [(.ref a)])) rfl (by rw [hml]; rfl) rfl (hb hby d11_1) (by decide) (W := 0) (by show 2 * 0 + _ ≤ _; exact Nat.le_of_eq rfl) (by decide)
  refine own_step st1 ?_
  show own_Ends p e below F (T1.setTop (mkF m 4 #[.val (.ref a), .val (.ref p1), .val (.int (0 : Int32))] []))
  refine own_step (fun _ k => XS.aloadN X1.here hx rfl (hb hby d11_4) rfl rfl k) ?_
  show own_Ends p e below F (T1.setTop (mkF m 5 #[.val (.ref a), .val (.ref p1), .val (.int (0 : Int32))] [(.ref a)]))
  refine own_step (fun _ k => XS.aloadN X1.here hx rfl (hb hby d11_5) rfl rfl k) ?_
  show own_Ends p e below F (T1.setTop (mkF m 6 #[.val (.ref a), .val (.ref p1), .val (.int (0 : Int32))] [(.ref p1), (.ref a)]))
  obtain ⟨T2, h2, X2, e2, W2, st2⟩ := putF X1 hx hZ hown (host := "") (Or.inl (own_g hw 32 rfl)) Via.refl e1 F_value EX (Or.inr ⟨(own_g hw 33 rfl), rfl, hnm⟩) (own_g hw 5 rfl) (ty := (.array .byte)) (by decide) rfl rfl (g := (mkF m 6 #[.val (.ref a), .val (.ref p1), .val (.int (0 : Int32))] [(.ref p1), (.ref a)])) rfl rfl (hb hby d11_6)
  refine own_step st2 ?_
  have F2 := Fld.same W2 F_value
  have N2 := Fr.snoc X2 N0 ge
  have Z2 : n0 ≤ h2.size := by rw [W2.size]; exact Z0
  have SZ2 : h0.size ≤ h2.size := by rw [W2.size]; exact (Nat.le_refl h0.size)
  show own_Ends p e below F (T2.setTop (mkF m 9 #[.val (.ref a), .val (.ref p1), .val (.int (0 : Int32))] []))
  refine own_step (fun _ k => XS.aloadN X2.here hx rfl (hb hby d11_9) rfl rfl k) ?_
  show own_Ends p e below F (T2.setTop (mkF m 10 #[.val (.ref a), .val (.ref p1), .val (.int (0 : Int32))] [(.ref a)]))
  refine own_step (fun _ k => XS.iloadN X2.here hx rfl (hb hby d11_10) rfl k) ?_
  show own_Ends p e below F (T2.setTop (mkF m 11 #[.val (.ref a), .val (.ref p1), .val (.int (0 : Int32))] [(.int (0 : Int32)), (.ref a)]))
  obtain ⟨T3, h3, X3, e3, W3, st3⟩ := putFN X2 hx hZ hown (own_g hw 30 rfl) Via.refl e2 (Fld.other W2 F_coder (Or.inr (slot_ne (t := .byte) (t' := (.array .byte)) (Or.inr (own_g hw 31 rfl)) (Or.inr (own_g hw 33 rfl)) (by decide) (by decide) (by decide)))) (EX.wr W2) (Or.inr ⟨(own_g hw 31 rfl), rfl, hnm⟩) (own_g hw 5 rfl) (ty := .byte) (v' := (.int (0 : Int32))) (by decide) rfl rfl (g := (mkF m 11 #[.val (.ref a), .val (.ref p1), .val (.int (0 : Int32))] [(.int (0 : Int32)), (.ref a)])) rfl rfl (hb hby d11_11)
  refine own_step st3 ?_
  have F3 := Fld.same W3 (Fld.other W2 F_coder (Or.inr (slot_ne (t := .byte) (t' := (.array .byte)) (Or.inr (own_g hw 31 rfl)) (Or.inr (own_g hw 33 rfl)) (by decide) (by decide) (by decide))))
  have N3 := Fr.snoc X3 N2 ge
  have Z3 : n0 ≤ h3.size := by rw [W3.size]; exact Z2
  have SZ3 : h0.size ≤ h3.size := by rw [W3.size]; exact SZ2
  show own_Ends p e below F (T3.setTop (mkF m 14 #[.val (.ref a), .val (.ref p1), .val (.int (0 : Int32))] []))
  rw [hF]
  exact own_ret X3 (v := none) (fun _ => rfl) Bd.notSynchronized (fun fs hr => X3.returnOut hx Bd.returns (hb hby d11_14) hr) (by decide) (by decide) (by rw [e3]; exact ⟨rfl, N3, ((Keep.wr (Keep.wr (Keep.refl _ _) W2 (Or.inl (List.mem_of_getElem? (i := 0) rfl))) W3 (Or.inl (List.mem_of_getElem? (i := 0) rfl))) : Keep h0 h3 [a]), ((EX.wr W2).wr W3), (Fld.other W3 F2 (Or.inr (slot_ne (t := (.array .byte)) (t' := .byte) (Or.inr (own_g hw 33 rfl)) (Or.inr (own_g hw 31 rfl)) (by decide) (by decide) (by decide)))), F3⟩)

theorem d8_0 : decode jdk_42_method_139_code 0 = .ok (.getstatic 38, 3) := by decide +kernel
theorem d8_3 : decode jdk_42_method_139_code 3 = .ok (.ifCond .eq 23, 3) := by decide +kernel
theorem d8_6 : decode jdk_42_method_139_code 6 = .ok (.iload_n 0, 1) := by decide +kernel
theorem d8_7 : decode jdk_42_method_139_code 7 = .ok (.invokestatic 1015, 3) := by decide +kernel
theorem d8_10 : decode jdk_42_method_139_code 10 = .ok (.ifCond .eq 16, 3) := by decide +kernel
theorem d8_13 : decode jdk_42_method_139_code 13 = .ok (.new 10, 3) := by decide +kernel
theorem d8_16 : decode jdk_42_method_139_code 16 = .ok (.dup, 1) := by decide +kernel
theorem d8_17 : decode jdk_42_method_139_code 17 = .ok (.iload_n 0, 1) := by decide +kernel
theorem d8_18 : decode jdk_42_method_139_code 18 = .ok (.invokestatic 1018, 3) := by decide +kernel
theorem d8_21 : decode jdk_42_method_139_code 21 = .ok (.iconst 0, 1) := by decide +kernel
theorem d8_22 : decode jdk_42_method_139_code 22 = .ok (.invokespecial 209, 3) := by decide +kernel
theorem d8_25 : decode jdk_42_method_139_code 25 = .ok (.areturn, 1) := by decide +kernel
theorem pd__28C_29Z : parseMethodDescriptor "(C)Z" = some ⟨[.char], some .boolean⟩ := by decide +kernel
theorem pd__28C_29_5bB : parseMethodDescriptor "(C)[B" = some ⟨[.char], some (.array .byte)⟩ := by decide +kernel
theorem pd__28_5bBB_29V : parseMethodDescriptor "([BB)V" = some ⟨[(.array .byte), .byte], none⟩ := by decide +kernel
theorem ef_rm8 (m : MethodId) (x0 : Int32) : entryFrame m #[(.int x0)] 1 = mkF m 0 #[.val (.int x0)] [] := by first | (simp [entryFrame, mkF, argsToLocals, Value.category, maxLocals]; done) | rfl
def Q8 (Z : State) (p1 zc : Int32) (h0 : Heap) (n0 : Nat) (v : Option Value) (h : Heap) (L : List Loc) : Prop := ∃ c, v = some (.ref c) ∧ Fr n0 L ∧ Keep h0 h [] ∧ h0.size ≤ c ∧ own_Str Z h h.size c [p1]
set_option maxRecDepth 65536 in
set_option maxHeartbeats 40000000 in
theorem rm8 (l : Launch) (Z : State) (a0 : Array Value) (hw : ∀ d ∈ tables_1, d.before a0 Z = true) (ws : List Jvm.Cond) (p1 zc : Int32) (h0 : Heap) (n0 : Nat) (Z0 : n0 ≤ h0.size) (SC : Sta Z h0 "java/lang/String" "COMPACT_STRINGS" "Z" (.int zc)) (hz : ¬ zc = 0) (hp : ¬ p1 < 0 ∧ ¬ (255 : Int32) < p1) :
    MetFree l (⟨"java/lang/String", "valueOf", "(C)Ljava/lang/String;"⟩ : MethodName) (head1 (Jvm.Cond.code (⟨"java/lang/String", "valueOf", "(C)Ljava/lang/String;"⟩ : MethodName) jdk_42_method_139_code 1 (some (.object "java/lang/String")) :: ws) ({ frames := 2, cells := 2, slots := 5, locals := 27 } : Room)) (fun ar U => ar = #[(.int p1)] ∧ Z.Warmed39 U.vm ∧ U.heap = h0) (fun _ _ _ _ _ => True) (fun _ U o U' => ∃ v L, o = .returned v ∧ Q8 Z p1 zc h0 n0 v U'.heap L ∧ FrameEnd U o U' L ({ frames := 2, cells := 2, slots := 5, locals := 27 } : Room).cells ({ frames := 2, cells := 2, slots := 5, locals := 27 } : Room).slots) := by
  refine MetFree.of_bodySF (plainFor_of_name pn_java_lang_String) hisR ?_
  intro p e s m args below meth c s₁ Bd hml0 hP hK
  obtain ⟨rfl, hZ, hh⟩ := hP
  have hx := Bd.exec
  have hby := Bd.bytes
  have hml : c.maxLocals = 1 := hml0
  have hown : s.vm.findClass "java/lang/String" = some m.cls := findClass_of_methodNamed Bd.named
  have hnm := (name_of_methodNamed Bd.named Bd.method).1
  have X0 : Stand p l e ({ frames := 2, cells := 2, slots := 5, locals := 27 } : Room) s m #[(.int p1)] below meth c s₁ [] 0 0 := Stand.of_body Bd
  have e0 : s₁.heap = h0 := by rw [← hh, Bd.state]; rfl
  have N0 := Fr.nil n0
  obtain ⟨F, hF⟩ : ∃ F, F = own_Fin s (Q8 Z p1 zc h0 n0) ({ frames := 2, cells := 2, slots := 5, locals := 27 } : Room).cells ({ frames := 2, cells := 2, slots := 5, locals := 27 } : Room).slots := ⟨_, rfl⟩
  show own_Ends p e below (own_Fin s (Q8 Z p1 zc h0 n0) ({ frames := 2, cells := 2, slots := 5, locals := 27 } : Room).cells ({ frames := 2, cells := 2, slots := 5, locals := 27 } : Room).slots) _
  rw [← hF, ef_rm8 m p1]
  show own_Ends p e below F (s₁.setTop (mkF m 0 #[.val (.int p1)] []))
  obtain ⟨T1, X1, e1, st1⟩ := getS2 X0 hx hZ hown (host := "") (Or.inl (own_g hw 18 rfl)) Via.refl e0 SC (g := (mkF m 0 #[.val (.int p1)] [])) rfl (hb hby d8_0)
  refine own_step st1 ?_
  show own_Ends p e below F (T1.setTop (mkF m 3 #[.val (.int p1)] [(.int zc)]))
  refine own_step (fun _ k => XS.ifNo X1.here hx rfl (hb hby d8_3) rfl ((if0 _ _).trans (feq (hz : ¬ (zc = (0 : Int32)))).1) k) ?_
  show own_Ends p e below F (T1.setTop (mkF m 6 #[.val (.int p1)] []))
  refine own_step (fun _ k => XS.iloadN X1.here hx rfl (hb hby d8_6) rfl k) ?_
  show own_Ends p e below F (T1.setTop (mkF m 7 #[.val (.int p1)] [(.int p1)]))
  obtain ⟨_, _, ⟨T2, L2, k2, n2⟩, -, X2, ⟨Lc2, hQ2, l2, y2, z2⟩, st2⟩ := Jvm.LawKit.callS X1 hx (y := (⟨"java/lang/StringLatin1", "canEncode", "(C)Z"⟩ : MethodName)) hown (mvT hZ (own_g hw 40 rfl)) (mvT hZ (own_g hw 41 rfl)) (mvT hZ (own_g hw 42 rfl)) (mvT hZ (own_g hw 43 rfl)) (by decide) (backOf (W := 0) (rm9 l Z a0 hw [] p1 h0 n0 Z0 hp) hZ (own_g hw 43 rfl) (own_g hw 42 rfl) (by decide) (by decide)) (g := (mkF m 7 #[.val (.int p1)] [(.int p1)])) rfl (by rw [hml]; rfl) (argsL := [(.int p1)]) (rest := []) (lenOf pd__28C_29Z rfl) rfl (by show 2 * 0 + _ ≤ _; exact Nat.le_of_eq rfl) (hb hby d8_7) (fun _ _ => ⟨rfl, e1, (by decide : 0 + 0 ≤ _), (by decide : 0 + 0 ≤ _)⟩)
  dsimp only [Pt.U, Pt.locs, Pt.cells, Pt.slots] at X2 l2 y2 z2 st2 hQ2
  subst l2 y2 z2
  obtain ⟨rfl, Nq2, eq2⟩ := hQ2
  have N2 := Fr.app N0 Nq2
  refine own_step st2 ?_
  show own_Ends p e below F (T2.setTop (mkF m 10 #[.val (.int p1)] [(.int (1 : Int32))]))
  refine own_step (fun _ k => XS.ifNo X2.here hx rfl (hb hby d8_10) rfl ((if0 _ _).trans (feq (by decide : ¬ ((1 : Int32) = (0 : Int32)))).1) k) ?_
  show own_Ends p e below F (T2.setTop (mkF m 13 #[.val (.int p1)] []))
  obtain ⟨T3, h3, X3, e3, E3, A3, D3, -, st3⟩ := newO X2 hx hZ hown (own_g hw 44 rfl) (own_g hw 5 rfl) (own_g hw 6 rfl) eq2 (g := (mkF m 13 #[.val (.int p1)] [])) rfl (hb hby d8_13) (by decide) (by decide)
  obtain ⟨a3, g3⟩ : ∃ z, z = h0.size := ⟨_, rfl⟩
  rw [← g3] at A3 D3 st3
  have ge_a3 : n0 ≤ a3 := Nat.le_trans Z0 (Nat.le_of_eq g3.symm)
  have sz_a3 : h0.size ≤ a3 := Nat.le_trans (Nat.le_refl h0.size) (Nat.le_of_eq g3.symm)
  have Z3 : n0 ≤ h3.size := Nat.le_trans Z0 E3.1
  have SZ3 : h0.size ≤ h3.size := Nat.le_trans (Nat.le_refl h0.size) E3.1
  have F3_coder : Fld Z h3 a3 "java/lang/String" "coder" "B" (.int (0 : Int32)) := D3 (Or.inr (own_g hw 31 rfl)) (ty := .byte) (by decide)
  have F3_value : Fld Z h3 a3 "java/lang/String" "value" "[B" .null := D3 (Or.inr (own_g hw 33 rfl)) (ty := (.array .byte)) (by decide)
  refine own_step st3 ?_
  show own_Ends p e below F (T3.setTop (mkF m 16 #[.val (.int p1)] [(.ref a3)]))
  refine own_step (fun _ k => XS.dup X3.here hx rfl (hb hby d8_16) rfl rfl k) ?_
  show own_Ends p e below F (T3.setTop (mkF m 17 #[.val (.int p1)] [(.ref a3), (.ref a3)]))
  refine own_step (fun _ k => XS.iloadN X3.here hx rfl (hb hby d8_17) rfl k) ?_
  show own_Ends p e below F (T3.setTop (mkF m 18 #[.val (.int p1)] [(.int p1), (.ref a3), (.ref a3)]))
  obtain ⟨_, _, ⟨T4, L4, k4, n4⟩, -, X4, ⟨Lc4, hQ4, l4, y4, z4⟩, st4⟩ := Jvm.LawKit.callS X3 hx (y := (⟨"java/lang/StringLatin1", "toBytes", "(C)[B"⟩ : MethodName)) hown (mvT hZ (own_g hw 45 rfl)) (mvT hZ (own_g hw 46 rfl)) (mvT hZ (own_g hw 42 rfl)) (mvT hZ (own_g hw 47 rfl)) (by decide) (backOf (W := 2) (rm10 l Z a0 hw [] p1 h3 n0 Z3) hZ (own_g hw 47 rfl) (own_g hw 42 rfl) (by decide) (by decide)) (g := (mkF m 18 #[.val (.int p1)] [(.int p1), (.ref a3), (.ref a3)])) rfl (by rw [hml]; rfl) (argsL := [(.int p1)]) (rest := [(.ref a3), (.ref a3)]) (lenOf pd__28C_29_5bB rfl) rfl (by show 2 * 0 + _ ≤ _; exact Nat.le_of_eq rfl) (hb hby d8_18) (fun _ _ => ⟨rfl, e3, (by decide : 1 + 1 ≤ _), (by decide : 4 + 1 ≤ _)⟩)
  dsimp only [Pt.U, Pt.locs, Pt.cells, Pt.slots] at X4 l4 y4 z4 st4 hQ4
  subst l4 y4 z4
  obtain ⟨c4, kc4, rfl, Nq4, Kq4, fq0_4, fq1_4⟩ := hQ4
  have N4 := Fr.app N2 Nq4
  have Z4 : n0 ≤ T4.heap.size := Nat.le_trans Z3 Kq4.1
  have SZ4 : h0.size ≤ T4.heap.size := Nat.le_trans SZ3 Kq4.1
  have S0_4 := own_Sta_keep (Sta.ext E3 SC) Kq4 all0
  have ne_a3_c4 : a3 ≠ c4 := Nat.ne_of_lt (Nat.lt_of_lt_of_le (F3_coder).lt fq0_4)
  have ge_c4 : n0 ≤ c4 := Nat.le_trans Z3 fq0_4
  have sz_c4 : h0.size ≤ c4 := Nat.le_trans SZ3 fq0_4
  refine own_step st4 ?_
  show own_Ends p e below F (T4.setTop (mkF m 21 #[.val (.int p1)] [(.ref c4), (.ref a3), (.ref a3)]))
  refine own_step (fun _ k => XS.iconst X4.here hx rfl (hb hby d8_21) k) ?_
  show own_Ends p e below F (T4.setTop (mkF m 22 #[.val (.int p1)] [(.int (0 : Int32)), (.ref c4), (.ref a3), (.ref a3)]))
  obtain ⟨_, _, ⟨T5, L5, k5, n5⟩, -, X5, ⟨Lc5, hQ5, l5, y5, z5⟩, st5⟩ := X4.specialBack hx (y := (⟨"java/lang/String", "<init>", "([BB)V"⟩ : MethodName)) rfl hown (mvT hZ (own_g hw 48 rfl)) (mvT hZ (own_g hw 49 rfl)) (mvT hZ (own_g hw 50 rfl)) (by decide) (backOf (W := 1) (rm11 l Z a0 hw [] a3 c4 T4.heap n0 Z4 (A3.keep Kq4) ge_a3 (F3_value.keep Kq4 nin0) (F3_coder.keep Kq4 nin0)) hZ (own_g hw 50 rfl) (own_g hw 6 rfl) (by decide) (by decide)) (g := (mkF m 22 #[.val (.int p1)] [(.int (0 : Int32)), (.ref c4), (.ref a3), (.ref a3)])) rfl (by rw [hml]; rfl) (Steps.refl _) (a := a3) (argsL := [(.ref c4), (.int (0 : Int32))]) (rest := [(.ref a3)]) (lenOf pd__28_5bBB_29V rfl) rfl (by show 2 * 0 + _ ≤ _; exact Nat.le_of_eq rfl) (hb hby d8_22) (fun _ _ => ⟨rfl, rfl, (by decide : 2 + 0 ≤ _), (by decide : 5 + 0 ≤ _)⟩)
  dsimp only [Pt.U, Pt.locs, Pt.cells, Pt.slots] at X5 l5 y5 z5 st5 hQ5
  subst l5 y5 z5
  obtain ⟨rfl, Nq5, Kq5, fq0_5, fq1_5, fq2_5⟩ := hQ5
  have N5 := Fr.app N4 Nq5
  have Z5 : n0 ≤ T5.heap.size := Nat.le_trans Z4 Kq5.1
  have SZ5 : h0.size ≤ T5.heap.size := Nat.le_trans SZ4 Kq5.1
  have S0_5 := own_Sta_keep S0_4 Kq5 (allS (own_ns_exa (A3.keep Kq4)) all0)
  refine own_trans st5 ?_
  show own_Ends p e below F (T5.setTop (mkF m 25 #[.val (.int p1)] [(.ref a3)]))
  rw [hF]
  exact own_ret X5 (v := (some (.ref a3))) (fun h => by rw [Bd.returns] at h; cases h) Bd.notSynchronized (fun fs hr => retOut X5 hx (t := (.object "java/lang/String")) (w := (.ref a3)) (i := .areturn) Bd.returns rfl (Or.inr (Or.inr (Or.inr (Or.inr ⟨rfl, rfl, rfl⟩)))) (hb hby d8_25) hr) (by decide) (by decide) (by exact ⟨_, rfl, N5, ((Keep.trans (Keep.trans (Keep.ext (Keep.refl _ _) E3) Kq4 all0) Kq5 (allS (Or.inr sz_a3) all0)) : Keep h0 T5.heap []), sz_a3, own_Str.mk (cs := [p1]) fq0_5 fq2_5 fq1_5 (fq1_4.keep Kq5 (ninS (Ne.symm ne_a3_c4) nin0)) rfl rfl (own_cS hp own_c0)⟩)

theorem d15_0 : decode jdk_42_method_66_code 0 = .ok (.aload_n 0, 1) := by decide +kernel
theorem d15_1 : decode jdk_42_method_66_code 1 = .ok (.aload_n 1, 1) := by decide +kernel
theorem d15_2 : decode jdk_42_method_66_code 2 = .ok (.if_acmp .ne 5, 3) := by decide +kernel
theorem d15_7 : decode jdk_42_method_66_code 7 = .ok (.aload_n 1, 1) := by decide +kernel
theorem d15_8 : decode jdk_42_method_66_code 8 = .ok (.instanceof 10, 3) := by decide +kernel
theorem d15_11 : decode jdk_42_method_66_code 11 = .ok (.ifCond .eq 43, 3) := by decide +kernel
theorem d15_54 : decode jdk_42_method_66_code 54 = .ok (.iconst 0, 1) := by decide +kernel
theorem d15_55 : decode jdk_42_method_66_code 55 = .ok (.ireturn, 1) := by decide +kernel
theorem ef_rm15b (m : MethodId) (x0 : Addr) : entryFrame m #[(.ref x0), .null] 3 = mkF m 0 #[.val (.ref x0), .val .null, .unset] [] := by first | (simp [entryFrame, mkF, argsToLocals, Value.category, maxLocals]; done) | rfl
def Q15b (Z : State) (a : Addr) (h0 : Heap) (n0 : Nat) (v : Option Value) (h : Heap) (L : List Loc) : Prop := v = some (.int 0) ∧ Fr n0 L ∧ h = h0
set_option maxRecDepth 65536 in
set_option maxHeartbeats 40000000 in
theorem rm15b (l : Launch) (Z : State) (a0 : Array Value) (hw : ∀ d ∈ tables_1, d.before a0 Z = true) (ws : List Jvm.Cond) (a : Addr) (h0 : Heap) (n0 : Nat) (Z0 : n0 ≤ h0.size)  :
    MetFree l (⟨"java/lang/String", "equals", "(Ljava/lang/Object;)Z"⟩ : MethodName) (head1 (Jvm.Cond.code (⟨"java/lang/String", "equals", "(Ljava/lang/Object;)Z"⟩ : MethodName) jdk_42_method_66_code 3 (some .boolean) :: ws) ({ frames := 0, cells := 0, slots := 0, locals := 0 } : Room)) (fun ar U => ar = #[(.ref a), .null] ∧ Z.Warmed39 U.vm ∧ U.heap = h0) (fun _ _ _ _ _ => True) (fun _ U o U' => ∃ v L, o = .returned v ∧ Q15b Z a h0 n0 v U'.heap L ∧ FrameEnd U o U' L ({ frames := 0, cells := 0, slots := 0, locals := 0 } : Room).cells ({ frames := 0, cells := 0, slots := 0, locals := 0 } : Room).slots) := by
  refine MetFree.of_bodySF (plainFor_of_name pn_java_lang_String) hisR ?_
  intro p e s m args below meth c s₁ Bd hml0 hP hK
  obtain ⟨rfl, hZ, hh⟩ := hP
  have hx := Bd.exec
  have hby := Bd.bytes
  have hml : c.maxLocals = 3 := hml0
  have hown : s.vm.findClass "java/lang/String" = some m.cls := findClass_of_methodNamed Bd.named
  have hnm := (name_of_methodNamed Bd.named Bd.method).1
  have X0 : Stand p l e ({ frames := 0, cells := 0, slots := 0, locals := 0 } : Room) s m #[(.ref a), .null] below meth c s₁ [] 0 0 := Stand.of_body Bd
  have e0 : s₁.heap = h0 := by rw [← hh, Bd.state]; rfl
  have N0 := Fr.nil n0
  obtain ⟨F, hF⟩ : ∃ F, F = own_Fin s (Q15b Z a h0 n0) ({ frames := 0, cells := 0, slots := 0, locals := 0 } : Room).cells ({ frames := 0, cells := 0, slots := 0, locals := 0 } : Room).slots := ⟨_, rfl⟩
  show own_Ends p e below (own_Fin s (Q15b Z a h0 n0) ({ frames := 0, cells := 0, slots := 0, locals := 0 } : Room).cells ({ frames := 0, cells := 0, slots := 0, locals := 0 } : Room).slots) _
  rw [← hF, ef_rm15b m a]
  show own_Ends p e below F (s₁.setTop (mkF m 0 #[.val (.ref a), .val .null, .unset] []))
  refine own_step (fun _ k => XS.aloadN X0.here hx rfl (hb hby d15_0) rfl rfl k) ?_
  show own_Ends p e below F (s₁.setTop (mkF m 1 #[.val (.ref a), .val .null, .unset] [(.ref a)]))
  refine own_step (fun _ k => XS.aloadN X0.here hx rfl (hb hby d15_1) rfl rfl k) ?_
  show own_Ends p e below F (s₁.setTop (mkF m 2 #[.val (.ref a), .val .null, .unset] [.null, (.ref a)]))
  refine own_step (fun _ k => Jvm.RoadKit.acmp (below := below) (g := (mkF m 2 #[.val (.ref a), .val .null, .unset] [.null, (.ref a)])) X0 hx rfl rfl rfl (pc0 := 2) (pc' := 7) (same := false) rfl (hb hby d15_2) rfl (decide_eq_false nofun) (by decide) (by decide) k) ?_
  show own_Ends p e below F (s₁.setTop (mkF m 7 #[.val (.ref a), .val .null, .unset] []))
  refine own_step (fun _ k => XS.aloadN X0.here hx rfl (hb hby d15_7) rfl rfl k) ?_
  show own_Ends p e below F (s₁.setTop (mkF m 8 #[.val (.ref a), .val .null, .unset] [.null]))
  refine own_step (X0.instanceofNull hx (g := (mkF m 8 #[.val (.ref a), .val .null, .unset] [.null])) rfl rfl (hb hby d15_8)) ?_
  show own_Ends p e below F (s₁.setTop (mkF m 11 #[.val (.ref a), .val .null, .unset] [(.int (0 : Int32))]))
  refine own_step (fun _ k => XS.ifYes X0.here hx rfl (pc0 := 11) (pc' := 54) rfl (hb hby d15_11) rfl ((if0 _ _).trans (teq (by decide : (0 : Int32) = (0 : Int32))).1) (by decide) (by decide) k) ?_
  show own_Ends p e below F (s₁.setTop (mkF m 54 #[.val (.ref a), .val .null, .unset] []))
  refine own_step (fun _ k => XS.iconst X0.here hx rfl (hb hby d15_54) k) ?_
  show own_Ends p e below F (s₁.setTop (mkF m 55 #[.val (.ref a), .val .null, .unset] [(.int (0 : Int32))]))
  rw [hF]
  exact own_ret X0 (v := (some (.int (nar .boolean (0 : Int32))))) (fun h => by rw [Bd.returns] at h; cases h) Bd.notSynchronized (fun fs hr => retN X0 hx (t := .boolean) Bd.returns (by simp) (hb hby d15_55) hr) (by decide) (by decide) (by rw [e0]; exact ⟨rfl, N0, rfl⟩)

theorem own_sa : ∀ d ∈ Bundle.stringAtoms, d ∈ tables_1 := by decide +kernel
theorem d3_0 : decode jdk_42_method_149_code 0 = .ok (.aload_n 0, 1) := by decide +kernel
theorem d3_1 : decode jdk_42_method_149_code 1 = .ok (.invokespecial 1, 3) := by decide +kernel
theorem d3_4 : decode jdk_42_method_149_code 4 = .ok (.iload_n 3, 1) := by decide +kernel
theorem d3_5 : decode jdk_42_method_149_code 5 = .ok (.ifCond .ne 22, 3) := by decide +kernel
theorem d3_8 : decode jdk_42_method_149_code 8 = .ok (.aload_n 0, 1) := by decide +kernel
theorem d3_9 : decode jdk_42_method_149_code 9 = .ok (.ldc 7, 2) := by decide +kernel
theorem d3_11 : decode jdk_42_method_149_code 11 = .ok (.getfield 9, 3) := by decide +kernel
theorem d3_14 : decode jdk_42_method_149_code 14 = .ok (.putfield 9, 3) := by decide +kernel
theorem d3_17 : decode jdk_42_method_149_code 17 = .ok (.aload_n 0, 1) := by decide +kernel
theorem d3_18 : decode jdk_42_method_149_code 18 = .ok (.ldc 7, 2) := by decide +kernel
theorem d3_20 : decode jdk_42_method_149_code 20 = .ok (.getfield 15, 3) := by decide +kernel
theorem d3_23 : decode jdk_42_method_149_code 23 = .ok (.putfield 15, 3) := by decide +kernel
theorem d3_26 : decode jdk_42_method_149_code 26 = .ok (.return_, 1) := by decide +kernel
theorem ef_rm3 (m : MethodId) (x0 : Addr) (x1 : Addr) (x2 : Int32) (x3 : Int32) : entryFrame m #[(.ref x0), (.ref x1), (.int x2), (.int x3), .null] 6 = mkF m 0 #[.val (.ref x0), .val (.ref x1), .val (.int x2), .val (.int x3), .val .null, .unset] [] := by first | (simp [entryFrame, mkF, argsToLocals, Value.category, maxLocals]; done) | rfl
def Q3 (Z : State) (a b : Addr) (h0 : Heap) (n0 : Nat) (v : Option Value) (h : Heap) (L : List Loc) : Prop := v = none ∧ Fr n0 L ∧ Keep h0 h [a] ∧ own_Str Z h h.size a []
set_option maxRecDepth 65536 in
set_option maxHeartbeats 40000000 in
theorem rm3 (l : Launch) (Z : State) (a0 : Array Value) (hw : ∀ d ∈ tables_1, d.before a0 Z = true) (ws : List Jvm.Cond) (a b : Addr) (h0 : Heap) (n0 : Nat) (Z0 : n0 ≤ h0.size) (EX : Exa Z h0 a "java/lang/String") (ge : n0 ≤ a) (F_value : Fld Z h0 a "java/lang/String" "value" "[B" .null) (F_coder : Fld Z h0 a "java/lang/String" "coder" "B" (.int (0 : Int32))) :
    MetFree l (⟨"java/lang/String", "<init>", "([CIILjava/lang/Void;)V"⟩ : MethodName) (head1 (Jvm.Cond.code (⟨"java/lang/String", "<init>", "([CIILjava/lang/Void;)V"⟩ : MethodName) jdk_42_method_149_code 6 none :: ws) ({ frames := 1, cells := 4, slots := 8, locals := 12 } : Room)) (fun ar U => ar = #[(.ref a), (.ref b), (.int (0 : Int32)), (.int (0 : Int32)), .null] ∧ Z.Warmed39 U.vm ∧ U.heap = h0 ∧ CHv Z own_EL U.vm h0) (fun _ _ _ _ _ => True) (fun _ U o U' => ∃ v L, o = .returned v ∧ Q3 Z a b h0 n0 v U'.heap L ∧ CHr Z own_EL U.vm U.heap U'.vm U'.heap ∧ ReturnedEndW U o U' L ({ frames := 1, cells := 4, slots := 8, locals := 12 } : Room).cells ({ frames := 1, cells := 4, slots := 8, locals := 12 } : Room).slots) := by
  refine MetFree.of_bodySF (plainFor_of_name pn_java_lang_String) hisR ?_
  intro p e s m args below meth c s₁ Bd hml0 hP hK
  obtain ⟨rfl, hZ, hh, hH⟩ := hP
  have hx := Bd.exec
  have hby := Bd.bytes
  have hml : c.maxLocals = 6 := hml0
  have hown : s.vm.findClass "java/lang/String" = some m.cls := findClass_of_methodNamed Bd.named
  have hnm := (name_of_methodNamed Bd.named Bd.method).1
  have X0 : Stand p l e ({ frames := 1, cells := 4, slots := 8, locals := 12 } : Room) (s.setVm s.vm) m #[(.ref a), (.ref b), (.int (0 : Int32)), (.int (0 : Int32)), .null] below meth c s₁ [] 0 0 := Stand.of_body Bd
  have e0 : s₁.heap = h0 := by rw [← hh, Bd.state]; rfl
  have N0 := Fr.nil n0
  have hS : s.Since s.vm h0.size := (State.WarmedH.refl s).since _
  have hk := Nat.le_refl h0.size
  have hC0 : CHr Z own_EL s.vm h0 s.vm h0 := CHr.refl hH
  obtain ⟨F, hF⟩ : ∃ F, F = own_FinH Z own_EL s (Q3 Z a b h0 n0) ({ frames := 1, cells := 4, slots := 8, locals := 12 } : Room).cells ({ frames := 1, cells := 4, slots := 8, locals := 12 } : Room).slots := ⟨_, rfl⟩
  show own_Ends p e below (own_FinH Z own_EL s (Q3 Z a b h0 n0) ({ frames := 1, cells := 4, slots := 8, locals := 12 } : Room).cells ({ frames := 1, cells := 4, slots := 8, locals := 12 } : Room).slots) _
  rw [← hF, ef_rm3 m a b (0 : Int32) (0 : Int32)]
  show own_Ends p e below F (s₁.setTop (mkF m 0 #[.val (.ref a), .val (.ref b), .val (.int (0 : Int32)), .val (.int (0 : Int32)), .val .null, .unset] []))
  have sf_a : own_SL Z own_EL s.vm h0 a := ⟨EX.lt, own_safeS hZ.alike EX F_value⟩
  refine own_step (fun _ k => XS.aloadN X0.here hx rfl (hb hby d3_0) rfl rfl k) ?_
  show own_Ends p e below F (s₁.setTop (mkF m 1 #[.val (.ref a), .val (.ref b), .val (.int (0 : Int32)), .val (.int (0 : Int32)), .val .null, .unset] [(.ref a)]))
  obtain ⟨T1, X1, e1, st1⟩ := initO X0 hx hZ hown (own_g hw 15 rfl) (own_g hw 16 rfl) (own_g hw 17 rfl) e0 (g := (mkF m 1 #[.val (.ref a), .val (.ref b), .val (.int (0 : Int32)), .val (.int (0 : Int32)), .val .null, .unset] [(.ref a)])) rfl (by rw [hml]; rfl) rfl (hb hby d3_1) (by decide) (W := 0) (by show 2 * 0 + _ ≤ _; exact Nat.le_of_eq rfl) (by decide)
  refine own_step st1 ?_
  show own_Ends p e below F (T1.setTop (mkF m 4 #[.val (.ref a), .val (.ref b), .val (.int (0 : Int32)), .val (.int (0 : Int32)), .val .null, .unset] []))
  refine own_step (fun _ k => XS.iloadN X1.here hx rfl (hb hby d3_4) rfl k) ?_
  show own_Ends p e below F (T1.setTop (mkF m 5 #[.val (.ref a), .val (.ref b), .val (.int (0 : Int32)), .val (.int (0 : Int32)), .val .null, .unset] [(.int (0 : Int32))]))
  refine own_step (fun _ k => XS.ifNo X1.here hx rfl (hb hby d3_5) rfl ((if0 _ _).trans (teq (by decide : (0 : Int32) = (0 : Int32))).2) k) ?_
  show own_Ends p e below F (T1.setTop (mkF m 8 #[.val (.ref a), .val (.ref b), .val (.int (0 : Int32)), .val (.int (0 : Int32)), .val .null, .unset] []))
  refine own_step (fun _ k => XS.aloadN X1.here hx rfl (hb hby d3_8) rfl rfl k) ?_
  show own_Ends p e below F (T1.setTop (mkF m 9 #[.val (.ref a), .val (.ref b), .val (.int (0 : Int32)), .val (.int (0 : Int32)), .val .null, .unset] [(.ref a)]))
  obtain ⟨a2, T2, h2, kk2, b2, kb2, X2, e2, E2, hS, hk, hZ, hown, fe2, fc2, fv2, fa2, -, -, hr2, -, sf2, st2⟩ := ldcCH X1 hx hZ hown (own_g hw 34 rfl) (fun d hd => hw d (own_sa d hd)) e1 hS hk (own_EW hw) (List.mem_of_getElem? (i := 0) rfl) hC0.1 (vs := []) (z := (0 : Int32)) ⟨by decide, rfl⟩ (by decide) rfl (g := (mkF m 9 #[.val (.ref a), .val (.ref b), .val (.int (0 : Int32)), .val (.int (0 : Int32)), .val .null, .unset] [(.ref a)])) rfl (hb hby d3_9) (n := 0) (by decide) (by decide) (by decide) (by decide)
  have Z2 : n0 ≤ h2.size := Nat.le_trans Z0 E2.1
  have SZ2 : h0.size ≤ h2.size := Nat.le_trans (Nat.le_refl h0.size) E2.1
  have hC2 := hC0.trans hr2
  obtain ⟨ne_a_a2, ne_a_b2⟩ := sf2 a (own_SL.go sf_a hr2).2
  have str2 : own_Str Z h2 h2.size a2 ([] : List Int32) := own_Str.mk fe2 fc2 fv2 fa2 rfl rfl (by decide)
  refine own_step st2 ?_
  show own_Ends p e below F (T2.setTop (mkF m 11 #[.val (.ref a), .val (.ref b), .val (.int (0 : Int32)), .val (.int (0 : Int32)), .val .null, .unset] [(.ref a2), (.ref a)]))
  obtain ⟨T3, X3, e3, st3⟩ := getF X2 hx hZ hown (host := "") (Or.inl (own_g hw 32 rfl)) Via.refl e2 fv2 (g := (mkF m 11 #[.val (.ref a), .val (.ref b), .val (.int (0 : Int32)), .val (.int (0 : Int32)), .val .null, .unset] [(.ref a2), (.ref a)])) rfl rfl (hb hby d3_11)
  refine own_step st3 ?_
  show own_Ends p e below F (T3.setTop (mkF m 14 #[.val (.ref a), .val (.ref b), .val (.int (0 : Int32)), .val (.int (0 : Int32)), .val .null, .unset] [(.ref b2), (.ref a)]))
  obtain ⟨T4, h4, X4, e4, W4, st4⟩ := putF X3 hx hZ hown (host := "") (Or.inl (own_g hw 32 rfl)) Via.refl e3 (F_value.ext E2) (EX.ext E2) (Or.inr ⟨(own_g hw 33 rfl), rfl, hnm⟩) (own_g hw 5 rfl) (ty := (.array .byte)) (by decide) rfl rfl (g := (mkF m 14 #[.val (.ref a), .val (.ref b), .val (.int (0 : Int32)), .val (.int (0 : Int32)), .val .null, .unset] [(.ref b2), (.ref a)])) rfl rfl (hb hby d3_14)
  refine own_step st4 ?_
  have F4 := Fld.same W4 (F_value.ext E2)
  have N4 := Fr.snoc X4 N0 ge
  have Z4 : n0 ≤ h4.size := by rw [W4.size]; exact Z2
  have SZ4 : h0.size ≤ h4.size := by rw [W4.size]; exact SZ2
  have hk := (W4.size.symm ▸ hk : _ ≤ h4.size)
  have hr4 := CHr.wr W4 (own_SL.go sf_a hr2).2 hC2.1
  have hC4 := hC2.trans hr4
  show own_Ends p e below F (T4.setTop (mkF m 17 #[.val (.ref a), .val (.ref b), .val (.int (0 : Int32)), .val (.int (0 : Int32)), .val .null, .unset] []))
  refine own_step (fun _ k => XS.aloadN X4.here hx rfl (hb hby d3_17) rfl rfl k) ?_
  show own_Ends p e below F (T4.setTop (mkF m 18 #[.val (.ref a), .val (.ref b), .val (.int (0 : Int32)), .val (.int (0 : Int32)), .val .null, .unset] [(.ref a)]))
  obtain ⟨a5, T5, h5, kk5, b5, kb5, X5, e5, E5, hS, hk, hZ, hown, fe5, fc5, fv5, fa5, -, -, hr5, -, sf5, st5⟩ := ldcCH X4 hx hZ hown (own_g hw 34 rfl) (fun d hd => hw d (own_sa d hd)) e4 hS hk (own_EW hw) (List.mem_of_getElem? (i := 0) rfl) hC4.1 (vs := []) (z := (0 : Int32)) ⟨by decide, rfl⟩ (by decide) rfl (g := (mkF m 18 #[.val (.ref a), .val (.ref b), .val (.int (0 : Int32)), .val (.int (0 : Int32)), .val .null, .unset] [(.ref a)])) rfl (hb hby d3_18) (n := 0) (by decide) (by decide) (by decide) (by decide)
  have Z5 : n0 ≤ h5.size := Nat.le_trans Z4 E5.1
  have SZ5 : h0.size ≤ h5.size := Nat.le_trans SZ4 E5.1
  have hC5 := hC4.trans hr5
  obtain ⟨ne_a_a5, ne_a_b5⟩ := sf5 a (own_SL.go (own_SL.go (own_SL.go sf_a hr2) hr4) hr5).2
  have str5 : own_Str Z h5 h5.size a5 ([] : List Int32) := own_Str.mk fe5 fc5 fv5 fa5 rfl rfl (by decide)
  refine own_step st5 ?_
  show own_Ends p e below F (T5.setTop (mkF m 20 #[.val (.ref a), .val (.ref b), .val (.int (0 : Int32)), .val (.int (0 : Int32)), .val .null, .unset] [(.ref a5), (.ref a)]))
  obtain ⟨T6, X6, e6, st6⟩ := getF X5 hx hZ hown (host := "") (Or.inl (own_g hw 30 rfl)) Via.refl e5 fc5 (g := (mkF m 20 #[.val (.ref a), .val (.ref b), .val (.int (0 : Int32)), .val (.int (0 : Int32)), .val .null, .unset] [(.ref a5), (.ref a)])) rfl rfl (hb hby d3_20)
  refine own_step st6 ?_
  show own_Ends p e below F (T6.setTop (mkF m 23 #[.val (.ref a), .val (.ref b), .val (.int (0 : Int32)), .val (.int (0 : Int32)), .val .null, .unset] [(.int (0 : Int32)), (.ref a)]))
  obtain ⟨T7, h7, X7, e7, W7, st7⟩ := putFN X6 hx hZ hown (own_g hw 30 rfl) Via.refl e6 ((Fld.other W4 (F_coder.ext E2) (Or.inr (slot_ne (t := .byte) (t' := (.array .byte)) (Or.inr (own_g hw 31 rfl)) (Or.inr (own_g hw 33 rfl)) (by decide) (by decide) (by decide)))).ext E5) (((EX.ext E2).wr W4).ext E5) (Or.inr ⟨(own_g hw 31 rfl), rfl, hnm⟩) (own_g hw 5 rfl) (ty := .byte) (v' := (.int (0 : Int32))) (by decide) rfl rfl (g := (mkF m 23 #[.val (.ref a), .val (.ref b), .val (.int (0 : Int32)), .val (.int (0 : Int32)), .val .null, .unset] [(.int (0 : Int32)), (.ref a)])) rfl rfl (hb hby d3_23)
  refine own_step st7 ?_
  have F7 := Fld.same W7 ((Fld.other W4 (F_coder.ext E2) (Or.inr (slot_ne (t := .byte) (t' := (.array .byte)) (Or.inr (own_g hw 31 rfl)) (Or.inr (own_g hw 33 rfl)) (by decide) (by decide) (by decide)))).ext E5)
  have N7 := Fr.snoc X7 N4 ge
  have Z7 : n0 ≤ h7.size := by rw [W7.size]; exact Z5
  have SZ7 : h0.size ≤ h7.size := by rw [W7.size]; exact SZ5
  have hk := (W7.size.symm ▸ hk : _ ≤ h7.size)
  have hr7 := CHr.wr W7 (own_SL.go (own_SL.go (own_SL.go sf_a hr2) hr4) hr5).2 hC5.1
  have hC7 := hC5.trans hr7
  show own_Ends p e below F (T7.setTop (mkF m 26 #[.val (.ref a), .val (.ref b), .val (.int (0 : Int32)), .val (.int (0 : Int32)), .val .null, .unset] []))
  rw [hF]
  exact own_retH X7 hS (by rw [e7]; exact hk) hh e7 hZ (own_EW hw) hC7 (v := none) (fun _ => rfl) Bd.notSynchronized (fun fs hr => X7.returnOut hx Bd.returns (hb hby d3_26) hr) (by decide) (by decide) (by rw [e7]; exact ⟨rfl, N7, ((Keep.wr (Keep.ext (Keep.wr (Keep.ext (Keep.refl _ _) E2) W4 (Or.inl (List.mem_of_getElem? (i := 0) rfl))) E5) W7 (Or.inl (List.mem_of_getElem? (i := 0) rfl))) : Keep h0 h7 [a]), own_Str.mk (cs := []) ((((EX.ext E2).wr W4).ext E5).wr W7) F7 (Fld.other W7 (F4.ext E5) (Or.inr (slot_ne (t := (.array .byte)) (t' := .byte) (Or.inr (own_g hw 33 rfl)) (Or.inr (own_g hw 31 rfl)) (by decide) (by decide) (by decide)))) (((fa2.other W4 (Ne.symm ne_a_b2)).ext E5).other W7 (Ne.symm ne_a_b2)) rfl rfl own_c0⟩)

theorem d2_0 : decode jdk_42_method_3_code 0 = .ok (.aload_n 0, 1) := by decide +kernel
theorem d2_1 : decode jdk_42_method_3_code 1 = .ok (.aload_n 1, 1) := by decide +kernel
theorem d2_2 : decode jdk_42_method_3_code 2 = .ok (.iconst 0, 1) := by decide +kernel
theorem d2_3 : decode jdk_42_method_3_code 3 = .ok (.aload_n 1, 1) := by decide +kernel
theorem d2_4 : decode jdk_42_method_3_code 4 = .ok (.arraylength, 1) := by decide +kernel
theorem d2_5 : decode jdk_42_method_3_code 5 = .ok (.aconst_null, 1) := by decide +kernel
theorem d2_6 : decode jdk_42_method_3_code 6 = .ok (.invokespecial 27, 3) := by decide +kernel
theorem d2_9 : decode jdk_42_method_3_code 9 = .ok (.return_, 1) := by decide +kernel
theorem pd__28_5bCIILjava_2flang_2fVoid_3b_29V : parseMethodDescriptor "([CIILjava/lang/Void;)V" = some ⟨[(.array .char), .int, .int, (.object "java/lang/Void")], none⟩ := by decide +kernel
theorem ef_rm2 (m : MethodId) (x0 : Addr) (x1 : Addr) : entryFrame m #[(.ref x0), (.ref x1)] 2 = mkF m 0 #[.val (.ref x0), .val (.ref x1)] [] := by first | (simp [entryFrame, mkF, argsToLocals, Value.category, maxLocals]; done) | rfl
def Q2 (Z : State) (a b : Addr) (kb : ClassId) (h0 : Heap) (n0 : Nat) (v : Option Value) (h : Heap) (L : List Loc) : Prop := v = none ∧ Fr n0 L ∧ Keep h0 h [a] ∧ own_Str Z h h.size a []
set_option maxRecDepth 65536 in
set_option maxHeartbeats 40000000 in
theorem rm2 (l : Launch) (Z : State) (a0 : Array Value) (hw : ∀ d ∈ tables_1, d.before a0 Z = true) (ws : List Jvm.Cond) (a b : Addr) (kb : ClassId) (h0 : Heap) (n0 : Nat) (Z0 : n0 ≤ h0.size) (EX : Exa Z h0 a "java/lang/String") (ge : n0 ≤ a) (F_value : Fld Z h0 a "java/lang/String" "value" "[B" .null) (F_coder : Fld Z h0 a "java/lang/String" "coder" "B" (.int (0 : Int32))) (VB : Arv Z h0 b kb .char (0 : Int32) [] (.int (0 : Int32))) :
    MetFree l (⟨"java/lang/String", "<init>", "([C)V"⟩ : MethodName) (head1 (Jvm.Cond.code (⟨"java/lang/String", "<init>", "([C)V"⟩ : MethodName) jdk_42_method_3_code 2 none :: ws) ({ frames := 2, cells := 4, slots := 8, locals := 29 } : Room)) (fun ar U => ar = #[(.ref a), (.ref b)] ∧ Z.Warmed39 U.vm ∧ U.heap = h0 ∧ CHv Z own_EL U.vm h0) (fun _ _ _ _ _ => True) (fun _ U o U' => ∃ v L, o = .returned v ∧ Q2 Z a b kb h0 n0 v U'.heap L ∧ CHr Z own_EL U.vm U.heap U'.vm U'.heap ∧ ReturnedEndW U o U' L ({ frames := 2, cells := 4, slots := 8, locals := 29 } : Room).cells ({ frames := 2, cells := 4, slots := 8, locals := 29 } : Room).slots) := by
  refine MetFree.of_bodySF (plainFor_of_name pn_java_lang_String) hisR ?_
  intro p e s m args below meth c s₁ Bd hml0 hP hK
  obtain ⟨rfl, hZ, hh, hH⟩ := hP
  have hx := Bd.exec
  have hby := Bd.bytes
  have hml : c.maxLocals = 2 := hml0
  have hown : s.vm.findClass "java/lang/String" = some m.cls := findClass_of_methodNamed Bd.named
  have hnm := (name_of_methodNamed Bd.named Bd.method).1
  have X0 : Stand p l e ({ frames := 2, cells := 4, slots := 8, locals := 29 } : Room) (s.setVm s.vm) m #[(.ref a), (.ref b)] below meth c s₁ [] 0 0 := Stand.of_body Bd
  have e0 : s₁.heap = h0 := by rw [← hh, Bd.state]; rfl
  have N0 := Fr.nil n0
  have hS : s.Since s.vm h0.size := (State.WarmedH.refl s).since _
  have hk := Nat.le_refl h0.size
  have hC0 : CHr Z own_EL s.vm h0 s.vm h0 := CHr.refl hH
  obtain ⟨F, hF⟩ : ∃ F, F = own_FinH Z own_EL s (Q2 Z a b kb h0 n0) ({ frames := 2, cells := 4, slots := 8, locals := 29 } : Room).cells ({ frames := 2, cells := 4, slots := 8, locals := 29 } : Room).slots := ⟨_, rfl⟩
  show own_Ends p e below (own_FinH Z own_EL s (Q2 Z a b kb h0 n0) ({ frames := 2, cells := 4, slots := 8, locals := 29 } : Room).cells ({ frames := 2, cells := 4, slots := 8, locals := 29 } : Room).slots) _
  rw [← hF, ef_rm2 m a b]
  show own_Ends p e below F (s₁.setTop (mkF m 0 #[.val (.ref a), .val (.ref b)] []))
  have sf_a : own_SL Z own_EL s.vm h0 a := ⟨EX.lt, own_safeS hZ.alike EX F_value⟩
  refine own_step (fun _ k => XS.aloadN X0.here hx rfl (hb hby d2_0) rfl rfl k) ?_
  show own_Ends p e below F (s₁.setTop (mkF m 1 #[.val (.ref a), .val (.ref b)] [(.ref a)]))
  refine own_step (fun _ k => XS.aloadN X0.here hx rfl (hb hby d2_1) rfl rfl k) ?_
  show own_Ends p e below F (s₁.setTop (mkF m 2 #[.val (.ref a), .val (.ref b)] [(.ref b), (.ref a)]))
  refine own_step (fun _ k => XS.iconst X0.here hx rfl (hb hby d2_2) k) ?_
  show own_Ends p e below F (s₁.setTop (mkF m 3 #[.val (.ref a), .val (.ref b)] [(.int (0 : Int32)), (.ref b), (.ref a)]))
  refine own_step (fun _ k => XS.aloadN X0.here hx rfl (hb hby d2_3) rfl rfl k) ?_
  show own_Ends p e below F (s₁.setTop (mkF m 4 #[.val (.ref a), .val (.ref b)] [(.ref b), (.int (0 : Int32)), (.ref b), (.ref a)]))
  obtain ⟨cl1, Ar1, q1, S1, M1, H1, G1⟩ := id VB
  have al1 := X0.arraylength hx (by rw [e0]; exact Ar1.1) (State.isArrayOf_alike hZ.alike Ar1.2.1) (g := (mkF m 4 #[.val (.ref a), .val (.ref b)] [(.ref b), (.int (0 : Int32)), (.ref b), (.ref a)])) rfl rfl (hb hby d2_4)
  rw [len_of S1 M1] at al1
  refine own_step al1 ?_
  show own_Ends p e below F (s₁.setTop (mkF m 5 #[.val (.ref a), .val (.ref b)] [(.int (0 : Int32)), (.int (0 : Int32)), (.ref b), (.ref a)]))
  refine own_step (fun _ k => XS.aconstNull X0.here hx rfl (hb hby d2_5) k) ?_
  show own_Ends p e below F (s₁.setTop (mkF m 6 #[.val (.ref a), .val (.ref b)] [.null, (.int (0 : Int32)), (.int (0 : Int32)), (.ref b), (.ref a)]))
  obtain ⟨_, _, ⟨T2, L2, k2, n2⟩, -, X2, hS2, gr2, ⟨Lc2, hQ2, l2, y2, z2, hr2⟩, st2⟩ := X0.specialBackS hx (y := (⟨"java/lang/String", "<init>", "([CIILjava/lang/Void;)V"⟩ : MethodName)) rfl hown (mvT hZ (own_g hw 11 rfl)) (mvT hZ (own_g hw 12 rfl)) (mvT hZ (own_g hw 14 rfl)) (by decide) (backOfSH (W := 0) (rm3 l Z a0 hw [] a b h0 n0 Z0 EX ge F_value F_coder) hZ (own_g hw 14 rfl) (own_g hw 6 rfl) (by decide) (by decide) (own_EW hw) hC0.1) (g := (mkF m 6 #[.val (.ref a), .val (.ref b)] [.null, (.int (0 : Int32)), (.int (0 : Int32)), (.ref b), (.ref a)])) rfl (by rw [hml]; rfl) (Steps.refl _) (a := a) (argsL := [(.ref b), (.int (0 : Int32)), (.int (0 : Int32)), .null]) (rest := []) (lenOf pd__28_5bCIILjava_2flang_2fVoid_3b_29V rfl) rfl (by show 2 * 0 + _ ≤ _; exact Nat.le_of_eq rfl) (hb hby d2_6) (fun _ _ => ⟨rfl, e0, (by decide : 0 + 4 ≤ _), (by decide : 0 + 8 ≤ _)⟩)
  dsimp only [Pt.U, Pt.locs, Pt.cells, Pt.slots] at X2 l2 y2 z2 st2 hQ2 hS2 gr2 hr2
  subst l2 y2 z2
  obtain ⟨rfl, Nq2, Kq2, fq0_2⟩ := hQ2
  have N2 := Fr.app N0 Nq2
  have Z2 : n0 ≤ T2.heap.size := Nat.le_trans Z0 Kq2.1
  have SZ2 : h0.size ≤ T2.heap.size := Nat.le_trans (Nat.le_refl h0.size) Kq2.1
  have str2 := fq0_2
  have fe2 := str2.exa
  have hC2 := hC0.trans hr2
  have hZ := own_warm hZ hS2
  have hown := own_find hown hS2
  have hS := foldS hS (by rw [e0]; exact hk) hS2 gr2
  have hk := Nat.le_refl T2.heap.size
  refine own_trans st2 ?_
  show own_Ends p e below F (T2.setTop (mkF m 9 #[.val (.ref a), .val (.ref b)] []))
  rw [hF]
  exact own_retH X2 hS (by exact hk) hh rfl hZ (own_EW hw) hC2 (v := none) (fun _ => rfl) Bd.notSynchronized (fun fs hr => X2.returnOut hx Bd.returns (hb hby d2_9) hr) (by decide) (by decide) (by exact ⟨rfl, N2, ((Keep.trans (Keep.refl _ _) Kq2 (allS (Or.inl (List.mem_of_getElem? (i := 0) rfl)) all0)) : Keep h0 T2.heap [a]), own_Str.top str2⟩)

def own_cs (ln ca cb cc : Int32) : List Int32 := if ln = (0 : Int32) then [] else if ln = (1 : Int32) then [ca] else if ln = (2 : Int32) then [ca, cb] else [ca, cb, cc]
theorem own_cslen (ln ca cb cc : Int32) : (own_cs ln ca cb cc).length ≤ 4000 := by
  unfold own_cs; split
  · exact Nat.le_of_ble_eq_true rfl
  · split
    · exact Nat.le_of_ble_eq_true rfl
    · split <;> exact Nat.le_of_ble_eq_true rfl
theorem d1_0 : decode method_2_code 0 = .ok (.iload_n 0, 1) := by decide +kernel
theorem d1_1 : decode method_2_code 1 = .ok (.ifCond .ne 14, 3) := by decide +kernel
theorem d1_4 : decode method_2_code 4 = .ok (.new 7, 3) := by decide +kernel
theorem d1_7 : decode method_2_code 7 = .ok (.dup, 1) := by decide +kernel
theorem d1_8 : decode method_2_code 8 = .ok (.iconst 0, 1) := by decide +kernel
theorem d1_9 : decode method_2_code 9 = .ok (.newarray .char, 2) := by decide +kernel
theorem d1_11 : decode method_2_code 11 = .ok (.invokespecial 9, 3) := by decide +kernel
theorem d1_14 : decode method_2_code 14 = .ok (.areturn, 1) := by decide +kernel
theorem d1_15 : decode method_2_code 15 = .ok (.iload_n 0, 1) := by decide +kernel
theorem d1_16 : decode method_2_code 16 = .ok (.iconst 1, 1) := by decide +kernel
theorem d1_17 : decode method_2_code 17 = .ok (.if_icmp .ne 18, 3) := by decide +kernel
theorem d1_20 : decode method_2_code 20 = .ok (.new 7, 3) := by decide +kernel
theorem d1_23 : decode method_2_code 23 = .ok (.dup, 1) := by decide +kernel
theorem d1_24 : decode method_2_code 24 = .ok (.iconst 1, 1) := by decide +kernel
theorem d1_25 : decode method_2_code 25 = .ok (.newarray .char, 2) := by decide +kernel
theorem d1_27 : decode method_2_code 27 = .ok (.dup, 1) := by decide +kernel
theorem d1_28 : decode method_2_code 28 = .ok (.iconst 0, 1) := by decide +kernel
theorem d1_29 : decode method_2_code 29 = .ok (.iload_n 1, 1) := by decide +kernel
theorem d1_30 : decode method_2_code 30 = .ok (.castore, 1) := by decide +kernel
theorem d1_31 : decode method_2_code 31 = .ok (.invokespecial 9, 3) := by decide +kernel
theorem d1_34 : decode method_2_code 34 = .ok (.areturn, 1) := by decide +kernel
theorem d1_35 : decode method_2_code 35 = .ok (.iload_n 0, 1) := by decide +kernel
theorem d1_36 : decode method_2_code 36 = .ok (.iconst 2, 1) := by decide +kernel
theorem d1_37 : decode method_2_code 37 = .ok (.if_icmp .ne 22, 3) := by decide +kernel
theorem d1_40 : decode method_2_code 40 = .ok (.new 7, 3) := by decide +kernel
theorem d1_43 : decode method_2_code 43 = .ok (.dup, 1) := by decide +kernel
theorem d1_44 : decode method_2_code 44 = .ok (.iconst 2, 1) := by decide +kernel
theorem d1_45 : decode method_2_code 45 = .ok (.newarray .char, 2) := by decide +kernel
theorem d1_47 : decode method_2_code 47 = .ok (.dup, 1) := by decide +kernel
theorem d1_48 : decode method_2_code 48 = .ok (.iconst 0, 1) := by decide +kernel
theorem d1_49 : decode method_2_code 49 = .ok (.iload_n 1, 1) := by decide +kernel
theorem d1_50 : decode method_2_code 50 = .ok (.castore, 1) := by decide +kernel
theorem d1_51 : decode method_2_code 51 = .ok (.dup, 1) := by decide +kernel
theorem d1_52 : decode method_2_code 52 = .ok (.iconst 1, 1) := by decide +kernel
theorem d1_53 : decode method_2_code 53 = .ok (.iload_n 2, 1) := by decide +kernel
theorem d1_54 : decode method_2_code 54 = .ok (.castore, 1) := by decide +kernel
theorem d1_55 : decode method_2_code 55 = .ok (.invokespecial 9, 3) := by decide +kernel
theorem d1_58 : decode method_2_code 58 = .ok (.areturn, 1) := by decide +kernel
theorem d1_59 : decode method_2_code 59 = .ok (.new 7, 3) := by decide +kernel
theorem d1_62 : decode method_2_code 62 = .ok (.dup, 1) := by decide +kernel
theorem d1_63 : decode method_2_code 63 = .ok (.iconst 3, 1) := by decide +kernel
theorem d1_64 : decode method_2_code 64 = .ok (.newarray .char, 2) := by decide +kernel
theorem d1_66 : decode method_2_code 66 = .ok (.dup, 1) := by decide +kernel
theorem d1_67 : decode method_2_code 67 = .ok (.iconst 0, 1) := by decide +kernel
theorem d1_68 : decode method_2_code 68 = .ok (.iload_n 1, 1) := by decide +kernel
theorem d1_69 : decode method_2_code 69 = .ok (.castore, 1) := by decide +kernel
theorem d1_70 : decode method_2_code 70 = .ok (.dup, 1) := by decide +kernel
theorem d1_71 : decode method_2_code 71 = .ok (.iconst 1, 1) := by decide +kernel
theorem d1_72 : decode method_2_code 72 = .ok (.iload_n 2, 1) := by decide +kernel
theorem d1_73 : decode method_2_code 73 = .ok (.castore, 1) := by decide +kernel
theorem d1_74 : decode method_2_code 74 = .ok (.dup, 1) := by decide +kernel
theorem d1_75 : decode method_2_code 75 = .ok (.iconst 2, 1) := by decide +kernel
theorem d1_76 : decode method_2_code 76 = .ok (.iload_n 3, 1) := by decide +kernel
theorem d1_77 : decode method_2_code 77 = .ok (.castore, 1) := by decide +kernel
theorem d1_78 : decode method_2_code 78 = .ok (.invokespecial 9, 3) := by decide +kernel
theorem d1_81 : decode method_2_code 81 = .ok (.areturn, 1) := by decide +kernel
theorem pn_com_example_pledger_pledger_model_AccountIsOpenedAsPinLaw : plainName "com/example/pledger/pledger/model/AccountIsOpenedAsPinLaw" = true := by first | (simp [plainName, overriddenIn]; done) | decide +kernel
theorem pd__28_5bC_29V : parseMethodDescriptor "([C)V" = some ⟨[(.array .char)], none⟩ := by decide +kernel
theorem ef_rm1 (m : MethodId) (x0 : Int32) (x1 : Int32) (x2 : Int32) (x3 : Int32) : entryFrame m #[(.int x0), (.int x1), (.int x2), (.int x3)] 4 = mkF m 0 #[.val (.int x0), .val (.int x1), .val (.int x2), .val (.int x3)] [] := by first | (simp [entryFrame, mkF, argsToLocals, Value.category, maxLocals]; done) | rfl
def Q1 (Z : State) (ln ca cb cc zc : Int32) (h0 : Heap) (n0 : Nat) (v : Option Value) (h : Heap) (L : List Loc) : Prop := ∃ c, v = some (.ref c) ∧ Fr n0 L ∧ Keep h0 h [] ∧ h0.size ≤ c ∧ own_Str Z h h.size c (own_cs ln ca cb cc)
set_option maxRecDepth 65536 in
set_option maxHeartbeats 40000000 in
theorem rm1 (l : Launch) (Z : State) (a0 : Array Value) (hw : ∀ d ∈ tables_1, d.before a0 Z = true) (ws : List Jvm.Cond) (ln ca cb cc zc : Int32) (h0 : Heap) (n0 : Nat) (Z0 : n0 ≤ h0.size) (SC : Sta Z h0 "java/lang/String" "COMPACT_STRINGS" "Z" (.int zc)) (hz : ¬ zc = 0) (h_ca : ¬ ca < 0 ∧ ¬ (255 : Int32) < ca) (h_cb : ¬ cb < 0 ∧ ¬ (255 : Int32) < cb) (h_cc : ¬ cc < 0 ∧ ¬ (255 : Int32) < cc) :
    MetFree l (⟨"com/example/pledger/pledger/model/AccountIsOpenedAsPinLaw", "mk", "(ICCC)Ljava/lang/String;"⟩ : MethodName) (head1 (Jvm.Cond.code (⟨"com/example/pledger/pledger/model/AccountIsOpenedAsPinLaw", "mk", "(ICCC)Ljava/lang/String;"⟩ : MethodName) method_2_code 4 (some (.object "java/lang/String")) :: ws) ({ frames := 4, cells := 6, slots := 12, locals := 66 } : Room)) (fun ar U => ar = #[(.int ln), (.int ca), (.int cb), (.int cc)] ∧ Z.Warmed39 U.vm ∧ U.heap = h0 ∧ CHv Z own_EL U.vm h0) (fun _ _ _ _ _ => True) (fun _ U o U' => ∃ v L, o = .returned v ∧ Q1 Z ln ca cb cc zc h0 n0 v U'.heap L ∧ CHr Z own_EL U.vm U.heap U'.vm U'.heap ∧ ReturnedEndW U o U' L ({ frames := 4, cells := 6, slots := 12, locals := 66 } : Room).cells ({ frames := 4, cells := 6, slots := 12, locals := 66 } : Room).slots) := by
  refine MetFree.of_bodySF (plainFor_of_name pn_com_example_pledger_pledger_model_AccountIsOpenedAsPinLaw) hisR ?_
  intro p e s m args below meth c s₁ Bd hml0 hP hK
  obtain ⟨rfl, hZ, hh, hH⟩ := hP
  have hx := Bd.exec
  have hby := Bd.bytes
  have hml : c.maxLocals = 4 := hml0
  have hown : s.vm.findClass "com/example/pledger/pledger/model/AccountIsOpenedAsPinLaw" = some m.cls := findClass_of_methodNamed Bd.named
  have hnm := (name_of_methodNamed Bd.named Bd.method).1
  have X0 : Stand p l e ({ frames := 4, cells := 6, slots := 12, locals := 66 } : Room) (s.setVm s.vm) m #[(.int ln), (.int ca), (.int cb), (.int cc)] below meth c s₁ [] 0 0 := Stand.of_body Bd
  have e0 : s₁.heap = h0 := by rw [← hh, Bd.state]; rfl
  have N0 := Fr.nil n0
  have hS : s.Since s.vm h0.size := (State.WarmedH.refl s).since _
  have hk := Nat.le_refl h0.size
  have hC0 : CHr Z own_EL s.vm h0 s.vm h0 := CHr.refl hH
  obtain ⟨F, hF⟩ : ∃ F, F = own_FinH Z own_EL s (Q1 Z ln ca cb cc zc h0 n0) ({ frames := 4, cells := 6, slots := 12, locals := 66 } : Room).cells ({ frames := 4, cells := 6, slots := 12, locals := 66 } : Room).slots := ⟨_, rfl⟩
  show own_Ends p e below (own_FinH Z own_EL s (Q1 Z ln ca cb cc zc h0 n0) ({ frames := 4, cells := 6, slots := 12, locals := 66 } : Room).cells ({ frames := 4, cells := 6, slots := 12, locals := 66 } : Room).slots) _
  rw [← hF, ef_rm1 m ln ca cb cc]
  show own_Ends p e below F (s₁.setTop (mkF m 0 #[.val (.int ln), .val (.int ca), .val (.int cb), .val (.int cc)] []))
  refine own_step (fun _ k => XS.iloadN X0.here hx rfl (hb hby d1_0) rfl k) ?_
  show own_Ends p e below F (s₁.setTop (mkF m 1 #[.val (.int ln), .val (.int ca), .val (.int cb), .val (.int cc)] [(.int ln)]))
  by_cases c1_1 : ln = (0 : Int32)
  · refine own_step (fun _ k => XS.ifNo X0.here hx rfl (hb hby d1_1) rfl ((if0 _ _).trans (teq c1_1).2) k) ?_
    show own_Ends p e below F (s₁.setTop (mkF m 4 #[.val (.int ln), .val (.int ca), .val (.int cb), .val (.int cc)] []))
    obtain ⟨T2, h2, X2, e2, E2, A2, D2, -, st2⟩ := newO X0 hx hZ hown (own_g hw 4 rfl) (own_g hw 5 rfl) (own_g hw 6 rfl) e0 (g := (mkF m 4 #[.val (.int ln), .val (.int ca), .val (.int cb), .val (.int cc)] [])) rfl (hb hby d1_4) (by decide) (by decide)
    obtain ⟨a2, g2⟩ : ∃ z, z = h0.size := ⟨_, rfl⟩
    rw [← g2] at A2 D2 st2
    have ge_a2 : n0 ≤ a2 := Nat.le_trans Z0 (Nat.le_of_eq g2.symm)
    have sz_a2 : h0.size ≤ a2 := Nat.le_trans (Nat.le_refl h0.size) (Nat.le_of_eq g2.symm)
    have Z2 : n0 ≤ h2.size := Nat.le_trans Z0 E2.1
    have SZ2 : h0.size ≤ h2.size := Nat.le_trans (Nat.le_refl h0.size) E2.1
    have hk := Nat.le_trans hk E2.1
    have hr2 := CHr.ext E2 hC0.1
    have hC2 := hC0.trans hr2
    have F2_coder : Fld Z h2 a2 "java/lang/String" "coder" "B" (.int (0 : Int32)) := D2 (Or.inr (own_g hw 31 rfl)) (ty := .byte) (by decide)
    have F2_value : Fld Z h2 a2 "java/lang/String" "value" "[B" .null := D2 (Or.inr (own_g hw 33 rfl)) (ty := (.array .byte)) (by decide)
    have sf_a2 : own_SL Z own_EL s.vm h2 a2 := own_SL.born hC0.1 E2 g2 A2.lt
    refine own_step st2 ?_
    show own_Ends p e below F (T2.setTop (mkF m 7 #[.val (.int ln), .val (.int ca), .val (.int cb), .val (.int cc)] [(.ref a2)]))
    refine own_step (fun _ k => XS.dup X2.here hx rfl (hb hby d1_7) rfl rfl k) ?_
    show own_Ends p e below F (T2.setTop (mkF m 8 #[.val (.int ln), .val (.int ca), .val (.int cb), .val (.int cc)] [(.ref a2), (.ref a2)]))
    refine own_step (fun _ k => XS.iconst X2.here hx rfl (hb hby d1_8) k) ?_
    show own_Ends p e below F (T2.setTop (mkF m 9 #[.val (.int ln), .val (.int ca), .val (.int cb), .val (.int cc)] [(.int (0 : Int32)), (.ref a2), (.ref a2)]))
    obtain ⟨T3, h3, k3, X3, e3, E3, A3, st3⟩ := newP X2 hx hZ (own_g hw 7 rfl) e2 (g := (mkF m 9 #[.val (.int ln), .val (.int ca), .val (.int cb), .val (.int cc)] [(.int (0 : Int32)), (.ref a2), (.ref a2)])) rfl (hb hby d1_9) rfl (by decide) (cap := 0) (by decide) (by decide) (by decide) (by decide)
    obtain ⟨a3, g3⟩ : ∃ z, z = h2.size := ⟨_, rfl⟩
    rw [← g3] at A3 st3
    have ge_a3 : n0 ≤ a3 := Nat.le_trans Z2 (Nat.le_of_eq g3.symm)
    have sz_a3 : h0.size ≤ a3 := Nat.le_trans SZ2 (Nat.le_of_eq g3.symm)
    have ne_a2_a3 : a2 ≠ a3 := Nat.ne_of_lt (by rw [g3]; exact F2_coder.lt)
    have Z3 : n0 ≤ h3.size := Nat.le_trans Z2 E3.1
    have SZ3 : h0.size ≤ h3.size := Nat.le_trans SZ2 E3.1
    have hk := Nat.le_trans hk E3.1
    have hr3 := CHr.ext E3 hC2.1
    have hC3 := hC2.trans hr3
    have V3 : Arv Z h3 a3 k3 .char (0 : Int32) [] (.int (0 : Int32)) := Arv.pad (Arv.new A3 (by decide)) (pad_rep [] _ 0)
    have sf_a3 : own_SL Z own_EL s.vm h3 a3 := own_SL.born hC2.1 E3 g3 V3.lt
    refine own_step st3 ?_
    show own_Ends p e below F (T3.setTop (mkF m 11 #[.val (.int ln), .val (.int ca), .val (.int cb), .val (.int cc)] [(.ref a3), (.ref a2), (.ref a2)]))
    obtain ⟨_, _, ⟨T4, L4, k4, n4⟩, -, X4, hS4, gr4, ⟨Lc4, hQ4, l4, y4, z4, hr4⟩, st4⟩ := X3.specialBackS hx (y := (⟨"java/lang/String", "<init>", "([C)V"⟩ : MethodName)) rfl hown (mvT hZ (own_g hw 8 rfl)) (mvT hZ (own_g hw 9 rfl)) (mvT hZ (own_g hw 10 rfl)) (by decide) (backOfSH (W := 1) (rm2 l Z a0 hw [] a2 a3 k3 h3 n0 Z3 (A2.ext E3) ge_a2 (F2_value.ext E3) (F2_coder.ext E3) V3) hZ (own_g hw 10 rfl) (own_g hw 6 rfl) (by decide) (by decide) (own_EW hw) hC3.1) (g := (mkF m 11 #[.val (.int ln), .val (.int ca), .val (.int cb), .val (.int cc)] [(.ref a3), (.ref a2), (.ref a2)])) rfl (by rw [hml]; rfl) (Steps.refl _) (a := a2) (argsL := [(.ref a3)]) (rest := [(.ref a2)]) (lenOf pd__28_5bC_29V rfl) rfl (by show 2 * 0 + _ ≤ _; exact Nat.le_of_eq rfl) (hb hby d1_11) (fun _ _ => ⟨rfl, e3, (by decide : 2 + 4 ≤ _), (by decide : 4 + 8 ≤ _)⟩)
    dsimp only [Pt.U, Pt.locs, Pt.cells, Pt.slots] at X4 l4 y4 z4 st4 hQ4 hS4 gr4 hr4
    subst l4 y4 z4
    obtain ⟨rfl, Nq4, Kq4, fq0_4⟩ := hQ4
    have N4 := Fr.app N0 Nq4
    have Z4 : n0 ≤ T4.heap.size := Nat.le_trans Z3 Kq4.1
    have SZ4 : h0.size ≤ T4.heap.size := Nat.le_trans SZ3 Kq4.1
    have S0_4 := own_Sta_keep (Sta.ext E3 (Sta.ext E2 SC)) Kq4 (allS (own_ns_exa (A2.ext E3)) all0)
    have str4 := fq0_4
    have fe4 := str4.exa
    have hC4 := hC3.trans hr4
    have hZ := own_warm hZ hS4
    have hown := own_find hown hS4
    have hS := foldS hS (by rw [e3]; exact hk) hS4 gr4
    have hk := Nat.le_refl T4.heap.size
    refine own_trans st4 ?_
    show own_Ends p e below F (T4.setTop (mkF m 14 #[.val (.int ln), .val (.int ca), .val (.int cb), .val (.int cc)] [(.ref a2)]))
    rw [hF]
    exact own_retH X4 hS (by exact hk) hh rfl hZ (own_EW hw) hC4 (v := (some (.ref a2))) (fun h => by rw [Bd.returns] at h; cases h) Bd.notSynchronized (fun fs hr => retOut X4 hx (t := (.object "java/lang/String")) (w := (.ref a2)) (i := .areturn) Bd.returns rfl (Or.inr (Or.inr (Or.inr (Or.inr ⟨rfl, rfl, rfl⟩)))) (hb hby d1_14) hr) (by decide) (by decide) (by exact ⟨_, rfl, N4, ((Keep.trans (Keep.ext (Keep.ext (Keep.refl _ _) E2) E3) Kq4 (allS (Or.inr sz_a2) all0)) : Keep h0 T4.heap []), sz_a2, (by simp only [own_cs, c1_1, if_true, if_false]; exact own_Str.top str4)⟩)
  · refine own_step (fun _ k => XS.ifYes X0.here hx rfl (pc0 := 1) (pc' := 15) rfl (hb hby d1_1) rfl ((if0 _ _).trans (feq c1_1).2) (by decide) (by decide) k) ?_
    show own_Ends p e below F (s₁.setTop (mkF m 15 #[.val (.int ln), .val (.int ca), .val (.int cb), .val (.int cc)] []))
    refine own_step (fun _ k => XS.iloadN X0.here hx rfl (hb hby d1_15) rfl k) ?_
    show own_Ends p e below F (s₁.setTop (mkF m 16 #[.val (.int ln), .val (.int ca), .val (.int cb), .val (.int cc)] [(.int ln)]))
    refine own_step (fun _ k => XS.iconst X0.here hx rfl (hb hby d1_16) k) ?_
    show own_Ends p e below F (s₁.setTop (mkF m 17 #[.val (.int ln), .val (.int ca), .val (.int cb), .val (.int cc)] [(.int (1 : Int32)), (.int ln)]))
    by_cases c17_5 : ln = (1 : Int32)
    · refine own_step (fun _ k => XS.icmpNo X0.here hx rfl (hb hby d1_17) rfl (teq c17_5).2 k) ?_
      show own_Ends p e below F (s₁.setTop (mkF m 20 #[.val (.int ln), .val (.int ca), .val (.int cb), .val (.int cc)] []))
      obtain ⟨T6, h6, X6, e6, E6, A6, D6, -, st6⟩ := newO X0 hx hZ hown (own_g hw 4 rfl) (own_g hw 5 rfl) (own_g hw 6 rfl) e0 (g := (mkF m 20 #[.val (.int ln), .val (.int ca), .val (.int cb), .val (.int cc)] [])) rfl (hb hby d1_20) (by decide) (by decide)
      obtain ⟨a6, g6⟩ : ∃ z, z = h0.size := ⟨_, rfl⟩
      rw [← g6] at A6 D6 st6
      have ge_a6 : n0 ≤ a6 := Nat.le_trans Z0 (Nat.le_of_eq g6.symm)
      have sz_a6 : h0.size ≤ a6 := Nat.le_trans (Nat.le_refl h0.size) (Nat.le_of_eq g6.symm)
      have Z6 : n0 ≤ h6.size := Nat.le_trans Z0 E6.1
      have SZ6 : h0.size ≤ h6.size := Nat.le_trans (Nat.le_refl h0.size) E6.1
      have hk := Nat.le_trans hk E6.1
      have hr6 := CHr.ext E6 hC0.1
      have hC6 := hC0.trans hr6
      have F6_coder : Fld Z h6 a6 "java/lang/String" "coder" "B" (.int (0 : Int32)) := D6 (Or.inr (own_g hw 31 rfl)) (ty := .byte) (by decide)
      have F6_value : Fld Z h6 a6 "java/lang/String" "value" "[B" .null := D6 (Or.inr (own_g hw 33 rfl)) (ty := (.array .byte)) (by decide)
      have sf_a6 : own_SL Z own_EL s.vm h6 a6 := own_SL.born hC0.1 E6 g6 A6.lt
      refine own_step st6 ?_
      show own_Ends p e below F (T6.setTop (mkF m 23 #[.val (.int ln), .val (.int ca), .val (.int cb), .val (.int cc)] [(.ref a6)]))
      refine own_step (fun _ k => XS.dup X6.here hx rfl (hb hby d1_23) rfl rfl k) ?_
      show own_Ends p e below F (T6.setTop (mkF m 24 #[.val (.int ln), .val (.int ca), .val (.int cb), .val (.int cc)] [(.ref a6), (.ref a6)]))
      refine own_step (fun _ k => XS.iconst X6.here hx rfl (hb hby d1_24) k) ?_
      show own_Ends p e below F (T6.setTop (mkF m 25 #[.val (.int ln), .val (.int ca), .val (.int cb), .val (.int cc)] [(.int (1 : Int32)), (.ref a6), (.ref a6)]))
      obtain ⟨T7, h7, k7, X7, e7, E7, A7, st7⟩ := newP X6 hx hZ (own_g hw 7 rfl) e6 (g := (mkF m 25 #[.val (.int ln), .val (.int ca), .val (.int cb), .val (.int cc)] [(.int (1 : Int32)), (.ref a6), (.ref a6)])) rfl (hb hby d1_25) rfl (by decide) (cap := 1) (by decide) (by decide) (by decide) (by decide)
      obtain ⟨a7, g7⟩ : ∃ z, z = h6.size := ⟨_, rfl⟩
      rw [← g7] at A7 st7
      have ge_a7 : n0 ≤ a7 := Nat.le_trans Z6 (Nat.le_of_eq g7.symm)
      have sz_a7 : h0.size ≤ a7 := Nat.le_trans SZ6 (Nat.le_of_eq g7.symm)
      have ne_a6_a7 : a6 ≠ a7 := Nat.ne_of_lt (by rw [g7]; exact F6_coder.lt)
      have Z7 : n0 ≤ h7.size := Nat.le_trans Z6 E7.1
      have SZ7 : h0.size ≤ h7.size := Nat.le_trans SZ6 E7.1
      have hk := Nat.le_trans hk E7.1
      have hr7 := CHr.ext E7 hC6.1
      have hC7 := hC6.trans hr7
      have V7 : Arv Z h7 a7 k7 .char (1 : Int32) [(.int (0 : Int32))] (.int (0 : Int32)) := Arv.pad (Arv.new A7 (by decide)) (pad_rep [] _ 1)
      have sf_a7 : own_SL Z own_EL s.vm h7 a7 := own_SL.born hC6.1 E7 g7 V7.lt
      refine own_step st7 ?_
      show own_Ends p e below F (T7.setTop (mkF m 27 #[.val (.int ln), .val (.int ca), .val (.int cb), .val (.int cc)] [(.ref a7), (.ref a6), (.ref a6)]))
      refine own_step (fun _ k => XS.dup X7.here hx rfl (hb hby d1_27) rfl rfl k) ?_
      show own_Ends p e below F (T7.setTop (mkF m 28 #[.val (.int ln), .val (.int ca), .val (.int cb), .val (.int cc)] [(.ref a7), (.ref a7), (.ref a6), (.ref a6)]))
      refine own_step (fun _ k => XS.iconst X7.here hx rfl (hb hby d1_28) k) ?_
      show own_Ends p e below F (T7.setTop (mkF m 29 #[.val (.int ln), .val (.int ca), .val (.int cb), .val (.int cc)] [(.int (0 : Int32)), (.ref a7), (.ref a7), (.ref a6), (.ref a6)]))
      refine own_step (fun _ k => XS.iloadN X7.here hx rfl (hb hby d1_29) rfl k) ?_
      show own_Ends p e below F (T7.setTop (mkF m 30 #[.val (.int ln), .val (.int ca), .val (.int cb), .val (.int cc)] [(.int ca), (.int (0 : Int32)), (.ref a7), (.ref a7), (.ref a6), (.ref a6)]))
      obtain ⟨cl8, Ar8, q8, S8, M8, H8, G8⟩ := id V7
      have hin8 : ¬ ((0 : Int32) < 0 ∨ cl8.slots.size ≤ ((0 : Int32) : Int32).toNatClampNeg) := inb_of S8 ⟨by decide, by decide⟩
      obtain ⟨T8, h8, X8, e8, W8, st8⟩ := stC X7 hx hZ e7 Ar8 (j := (0 : Int32)) hin8 (g := (mkF m 30 #[.val (.int ln), .val (.int ca), .val (.int cb), .val (.int cc)] [(.int ca), (.int (0 : Int32)), (.ref a7), (.ref a7), (.ref a6), (.ref a6)])) rfl rfl (hb hby d1_30)
      rw [own_narC h_ca] at W8
      have V8 := Arv.set Ar8 q8 S8 M8 H8 G8 (own_fitC h_ca) W8 0 rfl (Nat.le_of_ble_eq_true rfl)
      have V8 : Arv Z h8 a7 k7 .char (1 : Int32) [(.int ca)] (.int (0 : Int32)) := V8
      refine own_step st8 ?_
      have N8 := Fr.snoc X8 N0 ge_a7
      have Z8 : n0 ≤ h8.size := by rw [W8.size]; exact Z7
      have SZ8 : h0.size ≤ h8.size := by rw [W8.size]; exact SZ7
      have hk := (W8.size.symm ▸ hk : _ ≤ h8.size)
      have hr8 := CHr.wr W8 sf_a7.2 hC7.1
      have hC8 := hC7.trans hr8
      show own_Ends p e below F (T8.setTop (mkF m 31 #[.val (.int ln), .val (.int ca), .val (.int cb), .val (.int cc)] [(.ref a7), (.ref a6), (.ref a6)]))
      obtain ⟨_, _, ⟨T9, L9, k9, n9⟩, -, X9, ⟨Lc9, hQ9, l9, y9, z9⟩, st9⟩ := X8.specialBack hx (y := (⟨"java/lang/String", "<init>", "([C)V"⟩ : MethodName)) rfl hown (mvT hZ (own_g hw 8 rfl)) (mvT hZ (own_g hw 9 rfl)) (mvT hZ (own_g hw 10 rfl)) (by decide) (StrChars.Road.backV (W := 1) hZ (fun d hd => hw d ((by decide +kernel : ∀ d ∈ StrChars.Road.words, d ∈ tables_1) d hd)) (kI := 4) (own_g hw 5 rfl) (cs := ([ca] : List Int32)) (bs := ([ca] : List Int32).map (fun c => c.toInt8.toInt32)) (n := 1) ge_a6 Z8 ((A6.ext E7).wr W8) (Fld.other W8 (F6_value.ext E7) (Or.inl ne_a6_a7)) (Fld.other W8 (F6_coder.ext E7) (Or.inl ne_a6_a7)) V8 (Sta.wr W8 (Sta.ext E7 (Sta.ext E6 SC))) hz rfl rfl (by decide) (by decide) (own_cS h_ca own_c0) rfl (by decide) (by decide)) (g := (mkF m 31 #[.val (.int ln), .val (.int ca), .val (.int cb), .val (.int cc)] [(.ref a7), (.ref a6), (.ref a6)])) rfl (by rw [hml]; rfl) (Steps.refl _) (a := a6) (argsL := [(.ref a7)]) (rest := [(.ref a6)]) (lenOf pd__28_5bC_29V rfl) rfl (by show 2 * 0 + _ ≤ _; exact Nat.le_of_eq rfl) (hb hby d1_31) (fun _ _ => ⟨rfl, e8, (by decide : 2 + 1 ≤ _), (by decide : 5 + 1 ≤ _)⟩)
      dsimp only [Pt.U, Pt.locs, Pt.cells, Pt.slots] at X9 l9 y9 z9 st9 hQ9
      subst l9 y9 z9
      obtain ⟨rfl, Nq9, Kq9, fe9, fc9, tt9, kt9, -, -, -, fv9, fa9⟩ := hQ9
      have N9 := Fr.app N8 Nq9
      have Z9 : n0 ≤ T9.heap.size := Nat.le_trans Z8 Kq9.1
      have SZ9 : h0.size ≤ T9.heap.size := Nat.le_trans SZ8 Kq9.1
      have S0_9 := own_Sta_keep (Sta.wr W8 (Sta.ext E7 (Sta.ext E6 SC))) Kq9 (allS (own_ns_exa ((A6.ext E7).wr W8)) all0)
      have str9 : own_Str Z T9.heap T9.heap.size a6 ([ca] : List Int32) := own_Str.mk fe9 fc9 fv9 fa9 rfl rfl (own_cS h_ca own_c0)
      have hr9 := CHr.keep Kq9 (sfS (own_SL.go (own_SL.go sf_a6 hr7) hr8).2 sf0) hC8.1
      have hC9 := hC8.trans hr9
      have hk := Nat.le_trans hk Kq9.1
      refine own_trans st9 ?_
      show own_Ends p e below F (T9.setTop (mkF m 34 #[.val (.int ln), .val (.int ca), .val (.int cb), .val (.int cc)] [(.ref a6)]))
      rw [hF]
      exact own_retH X9 hS (by exact hk) hh rfl hZ (own_EW hw) hC9 (v := (some (.ref a6))) (fun h => by rw [Bd.returns] at h; cases h) Bd.notSynchronized (fun fs hr => retOut X9 hx (t := (.object "java/lang/String")) (w := (.ref a6)) (i := .areturn) Bd.returns rfl (Or.inr (Or.inr (Or.inr (Or.inr ⟨rfl, rfl, rfl⟩)))) (hb hby d1_34) hr) (by decide) (by decide) (by exact ⟨_, rfl, N9, ((Keep.trans (Keep.wr (Keep.ext (Keep.ext (Keep.refl _ _) E6) E7) W8 (Or.inr sz_a7)) Kq9 (allS (Or.inr sz_a6) all0)) : Keep h0 T9.heap []), sz_a6, (by simp only [own_cs, c1_1, c17_5, if_true, if_false]; exact own_Str.top str9)⟩)
    · refine own_step (fun _ k => XS.icmpYes X0.here hx rfl (pc0 := 17) (pc' := 35) rfl (hb hby d1_17) rfl (feq c17_5).2 (by decide) (by decide) k) ?_
      show own_Ends p e below F (s₁.setTop (mkF m 35 #[.val (.int ln), .val (.int ca), .val (.int cb), .val (.int cc)] []))
      refine own_step (fun _ k => XS.iloadN X0.here hx rfl (hb hby d1_35) rfl k) ?_
      show own_Ends p e below F (s₁.setTop (mkF m 36 #[.val (.int ln), .val (.int ca), .val (.int cb), .val (.int cc)] [(.int ln)]))
      refine own_step (fun _ k => XS.iconst X0.here hx rfl (hb hby d1_36) k) ?_
      show own_Ends p e below F (s₁.setTop (mkF m 37 #[.val (.int ln), .val (.int ca), .val (.int cb), .val (.int cc)] [(.int (2 : Int32)), (.int ln)]))
      by_cases c37_10 : ln = (2 : Int32)
      · refine own_step (fun _ k => XS.icmpNo X0.here hx rfl (hb hby d1_37) rfl (teq c37_10).2 k) ?_
        show own_Ends p e below F (s₁.setTop (mkF m 40 #[.val (.int ln), .val (.int ca), .val (.int cb), .val (.int cc)] []))
        obtain ⟨T11, h11, X11, e11, E11, A11, D11, -, st11⟩ := newO X0 hx hZ hown (own_g hw 4 rfl) (own_g hw 5 rfl) (own_g hw 6 rfl) e0 (g := (mkF m 40 #[.val (.int ln), .val (.int ca), .val (.int cb), .val (.int cc)] [])) rfl (hb hby d1_40) (by decide) (by decide)
        obtain ⟨a11, g11⟩ : ∃ z, z = h0.size := ⟨_, rfl⟩
        rw [← g11] at A11 D11 st11
        have ge_a11 : n0 ≤ a11 := Nat.le_trans Z0 (Nat.le_of_eq g11.symm)
        have sz_a11 : h0.size ≤ a11 := Nat.le_trans (Nat.le_refl h0.size) (Nat.le_of_eq g11.symm)
        have Z11 : n0 ≤ h11.size := Nat.le_trans Z0 E11.1
        have SZ11 : h0.size ≤ h11.size := Nat.le_trans (Nat.le_refl h0.size) E11.1
        have hk := Nat.le_trans hk E11.1
        have hr11 := CHr.ext E11 hC0.1
        have hC11 := hC0.trans hr11
        have F11_coder : Fld Z h11 a11 "java/lang/String" "coder" "B" (.int (0 : Int32)) := D11 (Or.inr (own_g hw 31 rfl)) (ty := .byte) (by decide)
        have F11_value : Fld Z h11 a11 "java/lang/String" "value" "[B" .null := D11 (Or.inr (own_g hw 33 rfl)) (ty := (.array .byte)) (by decide)
        have sf_a11 : own_SL Z own_EL s.vm h11 a11 := own_SL.born hC0.1 E11 g11 A11.lt
        refine own_step st11 ?_
        show own_Ends p e below F (T11.setTop (mkF m 43 #[.val (.int ln), .val (.int ca), .val (.int cb), .val (.int cc)] [(.ref a11)]))
        refine own_step (fun _ k => XS.dup X11.here hx rfl (hb hby d1_43) rfl rfl k) ?_
        show own_Ends p e below F (T11.setTop (mkF m 44 #[.val (.int ln), .val (.int ca), .val (.int cb), .val (.int cc)] [(.ref a11), (.ref a11)]))
        refine own_step (fun _ k => XS.iconst X11.here hx rfl (hb hby d1_44) k) ?_
        show own_Ends p e below F (T11.setTop (mkF m 45 #[.val (.int ln), .val (.int ca), .val (.int cb), .val (.int cc)] [(.int (2 : Int32)), (.ref a11), (.ref a11)]))
        obtain ⟨T12, h12, k12, X12, e12, E12, A12, st12⟩ := newP X11 hx hZ (own_g hw 7 rfl) e11 (g := (mkF m 45 #[.val (.int ln), .val (.int ca), .val (.int cb), .val (.int cc)] [(.int (2 : Int32)), (.ref a11), (.ref a11)])) rfl (hb hby d1_45) rfl (by decide) (cap := 2) (by decide) (by decide) (by decide) (by decide)
        obtain ⟨a12, g12⟩ : ∃ z, z = h11.size := ⟨_, rfl⟩
        rw [← g12] at A12 st12
        have ge_a12 : n0 ≤ a12 := Nat.le_trans Z11 (Nat.le_of_eq g12.symm)
        have sz_a12 : h0.size ≤ a12 := Nat.le_trans SZ11 (Nat.le_of_eq g12.symm)
        have ne_a11_a12 : a11 ≠ a12 := Nat.ne_of_lt (by rw [g12]; exact F11_coder.lt)
        have Z12 : n0 ≤ h12.size := Nat.le_trans Z11 E12.1
        have SZ12 : h0.size ≤ h12.size := Nat.le_trans SZ11 E12.1
        have hk := Nat.le_trans hk E12.1
        have hr12 := CHr.ext E12 hC11.1
        have hC12 := hC11.trans hr12
        have V12 : Arv Z h12 a12 k12 .char (2 : Int32) [(.int (0 : Int32)), (.int (0 : Int32))] (.int (0 : Int32)) := Arv.pad (Arv.new A12 (by decide)) (pad_rep [] _ 2)
        have sf_a12 : own_SL Z own_EL s.vm h12 a12 := own_SL.born hC11.1 E12 g12 V12.lt
        refine own_step st12 ?_
        show own_Ends p e below F (T12.setTop (mkF m 47 #[.val (.int ln), .val (.int ca), .val (.int cb), .val (.int cc)] [(.ref a12), (.ref a11), (.ref a11)]))
        refine own_step (fun _ k => XS.dup X12.here hx rfl (hb hby d1_47) rfl rfl k) ?_
        show own_Ends p e below F (T12.setTop (mkF m 48 #[.val (.int ln), .val (.int ca), .val (.int cb), .val (.int cc)] [(.ref a12), (.ref a12), (.ref a11), (.ref a11)]))
        refine own_step (fun _ k => XS.iconst X12.here hx rfl (hb hby d1_48) k) ?_
        show own_Ends p e below F (T12.setTop (mkF m 49 #[.val (.int ln), .val (.int ca), .val (.int cb), .val (.int cc)] [(.int (0 : Int32)), (.ref a12), (.ref a12), (.ref a11), (.ref a11)]))
        refine own_step (fun _ k => XS.iloadN X12.here hx rfl (hb hby d1_49) rfl k) ?_
        show own_Ends p e below F (T12.setTop (mkF m 50 #[.val (.int ln), .val (.int ca), .val (.int cb), .val (.int cc)] [(.int ca), (.int (0 : Int32)), (.ref a12), (.ref a12), (.ref a11), (.ref a11)]))
        obtain ⟨cl13, Ar13, q13, S13, M13, H13, G13⟩ := id V12
        have hin13 : ¬ ((0 : Int32) < 0 ∨ cl13.slots.size ≤ ((0 : Int32) : Int32).toNatClampNeg) := inb_of S13 ⟨by decide, by decide⟩
        obtain ⟨T13, h13, X13, e13, W13, st13⟩ := stC X12 hx hZ e12 Ar13 (j := (0 : Int32)) hin13 (g := (mkF m 50 #[.val (.int ln), .val (.int ca), .val (.int cb), .val (.int cc)] [(.int ca), (.int (0 : Int32)), (.ref a12), (.ref a12), (.ref a11), (.ref a11)])) rfl rfl (hb hby d1_50)
        rw [own_narC h_ca] at W13
        have V13 := Arv.set Ar13 q13 S13 M13 H13 G13 (own_fitC h_ca) W13 0 rfl (Nat.le_of_ble_eq_true rfl)
        have V13 : Arv Z h13 a12 k12 .char (2 : Int32) [(.int ca), (.int (0 : Int32))] (.int (0 : Int32)) := V13
        refine own_step st13 ?_
        have N13 := Fr.snoc X13 N0 ge_a12
        have Z13 : n0 ≤ h13.size := by rw [W13.size]; exact Z12
        have SZ13 : h0.size ≤ h13.size := by rw [W13.size]; exact SZ12
        have hk := (W13.size.symm ▸ hk : _ ≤ h13.size)
        have hr13 := CHr.wr W13 sf_a12.2 hC12.1
        have hC13 := hC12.trans hr13
        show own_Ends p e below F (T13.setTop (mkF m 51 #[.val (.int ln), .val (.int ca), .val (.int cb), .val (.int cc)] [(.ref a12), (.ref a11), (.ref a11)]))
        refine own_step (fun _ k => XS.dup X13.here hx rfl (hb hby d1_51) rfl rfl k) ?_
        show own_Ends p e below F (T13.setTop (mkF m 52 #[.val (.int ln), .val (.int ca), .val (.int cb), .val (.int cc)] [(.ref a12), (.ref a12), (.ref a11), (.ref a11)]))
        refine own_step (fun _ k => XS.iconst X13.here hx rfl (hb hby d1_52) k) ?_
        show own_Ends p e below F (T13.setTop (mkF m 53 #[.val (.int ln), .val (.int ca), .val (.int cb), .val (.int cc)] [(.int (1 : Int32)), (.ref a12), (.ref a12), (.ref a11), (.ref a11)]))
        refine own_step (fun _ k => XS.iloadN X13.here hx rfl (hb hby d1_53) rfl k) ?_
        show own_Ends p e below F (T13.setTop (mkF m 54 #[.val (.int ln), .val (.int ca), .val (.int cb), .val (.int cc)] [(.int cb), (.int (1 : Int32)), (.ref a12), (.ref a12), (.ref a11), (.ref a11)]))
        obtain ⟨cl14, Ar14, q14, S14, M14, H14, G14⟩ := id V13
        have hin14 : ¬ ((1 : Int32) < 0 ∨ cl14.slots.size ≤ ((1 : Int32) : Int32).toNatClampNeg) := inb_of S14 ⟨by decide, by decide⟩
        obtain ⟨T14, h14, X14, e14, W14, st14⟩ := stC X13 hx hZ e13 Ar14 (j := (1 : Int32)) hin14 (g := (mkF m 54 #[.val (.int ln), .val (.int ca), .val (.int cb), .val (.int cc)] [(.int cb), (.int (1 : Int32)), (.ref a12), (.ref a12), (.ref a11), (.ref a11)])) rfl rfl (hb hby d1_54)
        rw [own_narC h_cb] at W14
        have V14 := Arv.set Ar14 q14 S14 M14 H14 G14 (own_fitC h_cb) W14 1 rfl (Nat.le_of_ble_eq_true rfl)
        have V14 : Arv Z h14 a12 k12 .char (2 : Int32) [(.int ca), (.int cb)] (.int (0 : Int32)) := V14
        refine own_step st14 ?_
        have N14 := Fr.snoc X14 N13 ge_a12
        have Z14 : n0 ≤ h14.size := by rw [W14.size]; exact Z13
        have SZ14 : h0.size ≤ h14.size := by rw [W14.size]; exact SZ13
        have hk := (W14.size.symm ▸ hk : _ ≤ h14.size)
        have hr14 := CHr.wr W14 (own_SL.go sf_a12 hr13).2 hC13.1
        have hC14 := hC13.trans hr14
        show own_Ends p e below F (T14.setTop (mkF m 55 #[.val (.int ln), .val (.int ca), .val (.int cb), .val (.int cc)] [(.ref a12), (.ref a11), (.ref a11)]))
        obtain ⟨_, _, ⟨T15, L15, k15, n15⟩, -, X15, ⟨Lc15, hQ15, l15, y15, z15⟩, st15⟩ := X14.specialBack hx (y := (⟨"java/lang/String", "<init>", "([C)V"⟩ : MethodName)) rfl hown (mvT hZ (own_g hw 8 rfl)) (mvT hZ (own_g hw 9 rfl)) (mvT hZ (own_g hw 10 rfl)) (by decide) (StrChars.Road.backV (W := 1) hZ (fun d hd => hw d ((by decide +kernel : ∀ d ∈ StrChars.Road.words, d ∈ tables_1) d hd)) (kI := 4) (own_g hw 5 rfl) (cs := ([ca, cb] : List Int32)) (bs := ([ca, cb] : List Int32).map (fun c => c.toInt8.toInt32)) (n := 2) ge_a11 Z14 (((A11.ext E12).wr W13).wr W14) (Fld.other W14 (Fld.other W13 (F11_value.ext E12) (Or.inl ne_a11_a12)) (Or.inl ne_a11_a12)) (Fld.other W14 (Fld.other W13 (F11_coder.ext E12) (Or.inl ne_a11_a12)) (Or.inl ne_a11_a12)) V14 (Sta.wr W14 (Sta.wr W13 (Sta.ext E12 (Sta.ext E11 SC)))) hz rfl rfl (by decide) (by decide) (own_cS h_ca (own_cS h_cb own_c0)) rfl (by decide) (by decide)) (g := (mkF m 55 #[.val (.int ln), .val (.int ca), .val (.int cb), .val (.int cc)] [(.ref a12), (.ref a11), (.ref a11)])) rfl (by rw [hml]; rfl) (Steps.refl _) (a := a11) (argsL := [(.ref a12)]) (rest := [(.ref a11)]) (lenOf pd__28_5bC_29V rfl) rfl (by show 2 * 0 + _ ≤ _; exact Nat.le_of_eq rfl) (hb hby d1_55) (fun _ _ => ⟨rfl, e14, (by decide : 2 + 1 ≤ _), (by decide : 6 + 2 ≤ _)⟩)
        dsimp only [Pt.U, Pt.locs, Pt.cells, Pt.slots] at X15 l15 y15 z15 st15 hQ15
        subst l15 y15 z15
        obtain ⟨rfl, Nq15, Kq15, fe15, fc15, tt15, kt15, -, -, -, fv15, fa15⟩ := hQ15
        have N15 := Fr.app N14 Nq15
        have Z15 : n0 ≤ T15.heap.size := Nat.le_trans Z14 Kq15.1
        have SZ15 : h0.size ≤ T15.heap.size := Nat.le_trans SZ14 Kq15.1
        have S0_15 := own_Sta_keep (Sta.wr W14 (Sta.wr W13 (Sta.ext E12 (Sta.ext E11 SC)))) Kq15 (allS (own_ns_exa (((A11.ext E12).wr W13).wr W14)) all0)
        have str15 : own_Str Z T15.heap T15.heap.size a11 ([ca, cb] : List Int32) := own_Str.mk fe15 fc15 fv15 fa15 rfl rfl (own_cS h_ca (own_cS h_cb own_c0))
        have hr15 := CHr.keep Kq15 (sfS (own_SL.go (own_SL.go (own_SL.go sf_a11 hr12) hr13) hr14).2 sf0) hC14.1
        have hC15 := hC14.trans hr15
        have hk := Nat.le_trans hk Kq15.1
        refine own_trans st15 ?_
        show own_Ends p e below F (T15.setTop (mkF m 58 #[.val (.int ln), .val (.int ca), .val (.int cb), .val (.int cc)] [(.ref a11)]))
        rw [hF]
        exact own_retH X15 hS (by exact hk) hh rfl hZ (own_EW hw) hC15 (v := (some (.ref a11))) (fun h => by rw [Bd.returns] at h; cases h) Bd.notSynchronized (fun fs hr => retOut X15 hx (t := (.object "java/lang/String")) (w := (.ref a11)) (i := .areturn) Bd.returns rfl (Or.inr (Or.inr (Or.inr (Or.inr ⟨rfl, rfl, rfl⟩)))) (hb hby d1_58) hr) (by decide) (by decide) (by exact ⟨_, rfl, N15, ((Keep.trans (Keep.wr (Keep.wr (Keep.ext (Keep.ext (Keep.refl _ _) E11) E12) W13 (Or.inr sz_a12)) W14 (Or.inr sz_a12)) Kq15 (allS (Or.inr sz_a11) all0)) : Keep h0 T15.heap []), sz_a11, (by simp only [own_cs, c1_1, c17_5, c37_10, if_true, if_false]; exact own_Str.top str15)⟩)
      · refine own_step (fun _ k => XS.icmpYes X0.here hx rfl (pc0 := 37) (pc' := 59) rfl (hb hby d1_37) rfl (feq c37_10).2 (by decide) (by decide) k) ?_
        show own_Ends p e below F (s₁.setTop (mkF m 59 #[.val (.int ln), .val (.int ca), .val (.int cb), .val (.int cc)] []))
        obtain ⟨T16, h16, X16, e16, E16, A16, D16, -, st16⟩ := newO X0 hx hZ hown (own_g hw 4 rfl) (own_g hw 5 rfl) (own_g hw 6 rfl) e0 (g := (mkF m 59 #[.val (.int ln), .val (.int ca), .val (.int cb), .val (.int cc)] [])) rfl (hb hby d1_59) (by decide) (by decide)
        obtain ⟨a16, g16⟩ : ∃ z, z = h0.size := ⟨_, rfl⟩
        rw [← g16] at A16 D16 st16
        have ge_a16 : n0 ≤ a16 := Nat.le_trans Z0 (Nat.le_of_eq g16.symm)
        have sz_a16 : h0.size ≤ a16 := Nat.le_trans (Nat.le_refl h0.size) (Nat.le_of_eq g16.symm)
        have Z16 : n0 ≤ h16.size := Nat.le_trans Z0 E16.1
        have SZ16 : h0.size ≤ h16.size := Nat.le_trans (Nat.le_refl h0.size) E16.1
        have hk := Nat.le_trans hk E16.1
        have hr16 := CHr.ext E16 hC0.1
        have hC16 := hC0.trans hr16
        have F16_coder : Fld Z h16 a16 "java/lang/String" "coder" "B" (.int (0 : Int32)) := D16 (Or.inr (own_g hw 31 rfl)) (ty := .byte) (by decide)
        have F16_value : Fld Z h16 a16 "java/lang/String" "value" "[B" .null := D16 (Or.inr (own_g hw 33 rfl)) (ty := (.array .byte)) (by decide)
        have sf_a16 : own_SL Z own_EL s.vm h16 a16 := own_SL.born hC0.1 E16 g16 A16.lt
        refine own_step st16 ?_
        show own_Ends p e below F (T16.setTop (mkF m 62 #[.val (.int ln), .val (.int ca), .val (.int cb), .val (.int cc)] [(.ref a16)]))
        refine own_step (fun _ k => XS.dup X16.here hx rfl (hb hby d1_62) rfl rfl k) ?_
        show own_Ends p e below F (T16.setTop (mkF m 63 #[.val (.int ln), .val (.int ca), .val (.int cb), .val (.int cc)] [(.ref a16), (.ref a16)]))
        refine own_step (fun _ k => XS.iconst X16.here hx rfl (hb hby d1_63) k) ?_
        show own_Ends p e below F (T16.setTop (mkF m 64 #[.val (.int ln), .val (.int ca), .val (.int cb), .val (.int cc)] [(.int (3 : Int32)), (.ref a16), (.ref a16)]))
        obtain ⟨T17, h17, k17, X17, e17, E17, A17, st17⟩ := newP X16 hx hZ (own_g hw 7 rfl) e16 (g := (mkF m 64 #[.val (.int ln), .val (.int ca), .val (.int cb), .val (.int cc)] [(.int (3 : Int32)), (.ref a16), (.ref a16)])) rfl (hb hby d1_64) rfl (by decide) (cap := 3) (by decide) (by decide) (by decide) (by decide)
        obtain ⟨a17, g17⟩ : ∃ z, z = h16.size := ⟨_, rfl⟩
        rw [← g17] at A17 st17
        have ge_a17 : n0 ≤ a17 := Nat.le_trans Z16 (Nat.le_of_eq g17.symm)
        have sz_a17 : h0.size ≤ a17 := Nat.le_trans SZ16 (Nat.le_of_eq g17.symm)
        have ne_a16_a17 : a16 ≠ a17 := Nat.ne_of_lt (by rw [g17]; exact F16_coder.lt)
        have Z17 : n0 ≤ h17.size := Nat.le_trans Z16 E17.1
        have SZ17 : h0.size ≤ h17.size := Nat.le_trans SZ16 E17.1
        have hk := Nat.le_trans hk E17.1
        have hr17 := CHr.ext E17 hC16.1
        have hC17 := hC16.trans hr17
        have V17 : Arv Z h17 a17 k17 .char (3 : Int32) [(.int (0 : Int32)), (.int (0 : Int32)), (.int (0 : Int32))] (.int (0 : Int32)) := Arv.pad (Arv.new A17 (by decide)) (pad_rep [] _ 3)
        have sf_a17 : own_SL Z own_EL s.vm h17 a17 := own_SL.born hC16.1 E17 g17 V17.lt
        refine own_step st17 ?_
        show own_Ends p e below F (T17.setTop (mkF m 66 #[.val (.int ln), .val (.int ca), .val (.int cb), .val (.int cc)] [(.ref a17), (.ref a16), (.ref a16)]))
        refine own_step (fun _ k => XS.dup X17.here hx rfl (hb hby d1_66) rfl rfl k) ?_
        show own_Ends p e below F (T17.setTop (mkF m 67 #[.val (.int ln), .val (.int ca), .val (.int cb), .val (.int cc)] [(.ref a17), (.ref a17), (.ref a16), (.ref a16)]))
        refine own_step (fun _ k => XS.iconst X17.here hx rfl (hb hby d1_67) k) ?_
        show own_Ends p e below F (T17.setTop (mkF m 68 #[.val (.int ln), .val (.int ca), .val (.int cb), .val (.int cc)] [(.int (0 : Int32)), (.ref a17), (.ref a17), (.ref a16), (.ref a16)]))
        refine own_step (fun _ k => XS.iloadN X17.here hx rfl (hb hby d1_68) rfl k) ?_
        show own_Ends p e below F (T17.setTop (mkF m 69 #[.val (.int ln), .val (.int ca), .val (.int cb), .val (.int cc)] [(.int ca), (.int (0 : Int32)), (.ref a17), (.ref a17), (.ref a16), (.ref a16)]))
        obtain ⟨cl18, Ar18, q18, S18, M18, H18, G18⟩ := id V17
        have hin18 : ¬ ((0 : Int32) < 0 ∨ cl18.slots.size ≤ ((0 : Int32) : Int32).toNatClampNeg) := inb_of S18 ⟨by decide, by decide⟩
        obtain ⟨T18, h18, X18, e18, W18, st18⟩ := stC X17 hx hZ e17 Ar18 (j := (0 : Int32)) hin18 (g := (mkF m 69 #[.val (.int ln), .val (.int ca), .val (.int cb), .val (.int cc)] [(.int ca), (.int (0 : Int32)), (.ref a17), (.ref a17), (.ref a16), (.ref a16)])) rfl rfl (hb hby d1_69)
        rw [own_narC h_ca] at W18
        have V18 := Arv.set Ar18 q18 S18 M18 H18 G18 (own_fitC h_ca) W18 0 rfl (Nat.le_of_ble_eq_true rfl)
        have V18 : Arv Z h18 a17 k17 .char (3 : Int32) [(.int ca), (.int (0 : Int32)), (.int (0 : Int32))] (.int (0 : Int32)) := V18
        refine own_step st18 ?_
        have N18 := Fr.snoc X18 N0 ge_a17
        have Z18 : n0 ≤ h18.size := by rw [W18.size]; exact Z17
        have SZ18 : h0.size ≤ h18.size := by rw [W18.size]; exact SZ17
        have hk := (W18.size.symm ▸ hk : _ ≤ h18.size)
        have hr18 := CHr.wr W18 sf_a17.2 hC17.1
        have hC18 := hC17.trans hr18
        show own_Ends p e below F (T18.setTop (mkF m 70 #[.val (.int ln), .val (.int ca), .val (.int cb), .val (.int cc)] [(.ref a17), (.ref a16), (.ref a16)]))
        refine own_step (fun _ k => XS.dup X18.here hx rfl (hb hby d1_70) rfl rfl k) ?_
        show own_Ends p e below F (T18.setTop (mkF m 71 #[.val (.int ln), .val (.int ca), .val (.int cb), .val (.int cc)] [(.ref a17), (.ref a17), (.ref a16), (.ref a16)]))
        refine own_step (fun _ k => XS.iconst X18.here hx rfl (hb hby d1_71) k) ?_
        show own_Ends p e below F (T18.setTop (mkF m 72 #[.val (.int ln), .val (.int ca), .val (.int cb), .val (.int cc)] [(.int (1 : Int32)), (.ref a17), (.ref a17), (.ref a16), (.ref a16)]))
        refine own_step (fun _ k => XS.iloadN X18.here hx rfl (hb hby d1_72) rfl k) ?_
        show own_Ends p e below F (T18.setTop (mkF m 73 #[.val (.int ln), .val (.int ca), .val (.int cb), .val (.int cc)] [(.int cb), (.int (1 : Int32)), (.ref a17), (.ref a17), (.ref a16), (.ref a16)]))
        obtain ⟨cl19, Ar19, q19, S19, M19, H19, G19⟩ := id V18
        have hin19 : ¬ ((1 : Int32) < 0 ∨ cl19.slots.size ≤ ((1 : Int32) : Int32).toNatClampNeg) := inb_of S19 ⟨by decide, by decide⟩
        obtain ⟨T19, h19, X19, e19, W19, st19⟩ := stC X18 hx hZ e18 Ar19 (j := (1 : Int32)) hin19 (g := (mkF m 73 #[.val (.int ln), .val (.int ca), .val (.int cb), .val (.int cc)] [(.int cb), (.int (1 : Int32)), (.ref a17), (.ref a17), (.ref a16), (.ref a16)])) rfl rfl (hb hby d1_73)
        rw [own_narC h_cb] at W19
        have V19 := Arv.set Ar19 q19 S19 M19 H19 G19 (own_fitC h_cb) W19 1 rfl (Nat.le_of_ble_eq_true rfl)
        have V19 : Arv Z h19 a17 k17 .char (3 : Int32) [(.int ca), (.int cb), (.int (0 : Int32))] (.int (0 : Int32)) := V19
        refine own_step st19 ?_
        have N19 := Fr.snoc X19 N18 ge_a17
        have Z19 : n0 ≤ h19.size := by rw [W19.size]; exact Z18
        have SZ19 : h0.size ≤ h19.size := by rw [W19.size]; exact SZ18
        have hk := (W19.size.symm ▸ hk : _ ≤ h19.size)
        have hr19 := CHr.wr W19 (own_SL.go sf_a17 hr18).2 hC18.1
        have hC19 := hC18.trans hr19
        show own_Ends p e below F (T19.setTop (mkF m 74 #[.val (.int ln), .val (.int ca), .val (.int cb), .val (.int cc)] [(.ref a17), (.ref a16), (.ref a16)]))
        refine own_step (fun _ k => XS.dup X19.here hx rfl (hb hby d1_74) rfl rfl k) ?_
        show own_Ends p e below F (T19.setTop (mkF m 75 #[.val (.int ln), .val (.int ca), .val (.int cb), .val (.int cc)] [(.ref a17), (.ref a17), (.ref a16), (.ref a16)]))
        refine own_step (fun _ k => XS.iconst X19.here hx rfl (hb hby d1_75) k) ?_
        show own_Ends p e below F (T19.setTop (mkF m 76 #[.val (.int ln), .val (.int ca), .val (.int cb), .val (.int cc)] [(.int (2 : Int32)), (.ref a17), (.ref a17), (.ref a16), (.ref a16)]))
        refine own_step (fun _ k => XS.iloadN X19.here hx rfl (hb hby d1_76) rfl k) ?_
        show own_Ends p e below F (T19.setTop (mkF m 77 #[.val (.int ln), .val (.int ca), .val (.int cb), .val (.int cc)] [(.int cc), (.int (2 : Int32)), (.ref a17), (.ref a17), (.ref a16), (.ref a16)]))
        obtain ⟨cl20, Ar20, q20, S20, M20, H20, G20⟩ := id V19
        have hin20 : ¬ ((2 : Int32) < 0 ∨ cl20.slots.size ≤ ((2 : Int32) : Int32).toNatClampNeg) := inb_of S20 ⟨by decide, by decide⟩
        obtain ⟨T20, h20, X20, e20, W20, st20⟩ := stC X19 hx hZ e19 Ar20 (j := (2 : Int32)) hin20 (g := (mkF m 77 #[.val (.int ln), .val (.int ca), .val (.int cb), .val (.int cc)] [(.int cc), (.int (2 : Int32)), (.ref a17), (.ref a17), (.ref a16), (.ref a16)])) rfl rfl (hb hby d1_77)
        rw [own_narC h_cc] at W20
        have V20 := Arv.set Ar20 q20 S20 M20 H20 G20 (own_fitC h_cc) W20 2 rfl (Nat.le_of_ble_eq_true rfl)
        have V20 : Arv Z h20 a17 k17 .char (3 : Int32) [(.int ca), (.int cb), (.int cc)] (.int (0 : Int32)) := V20
        refine own_step st20 ?_
        have N20 := Fr.snoc X20 N19 ge_a17
        have Z20 : n0 ≤ h20.size := by rw [W20.size]; exact Z19
        have SZ20 : h0.size ≤ h20.size := by rw [W20.size]; exact SZ19
        have hk := (W20.size.symm ▸ hk : _ ≤ h20.size)
        have hr20 := CHr.wr W20 (own_SL.go (own_SL.go sf_a17 hr18) hr19).2 hC19.1
        have hC20 := hC19.trans hr20
        show own_Ends p e below F (T20.setTop (mkF m 78 #[.val (.int ln), .val (.int ca), .val (.int cb), .val (.int cc)] [(.ref a17), (.ref a16), (.ref a16)]))
        obtain ⟨_, _, ⟨T21, L21, k21, n21⟩, -, X21, ⟨Lc21, hQ21, l21, y21, z21⟩, st21⟩ := X20.specialBack hx (y := (⟨"java/lang/String", "<init>", "([C)V"⟩ : MethodName)) rfl hown (mvT hZ (own_g hw 8 rfl)) (mvT hZ (own_g hw 9 rfl)) (mvT hZ (own_g hw 10 rfl)) (by decide) (StrChars.Road.backV (W := 1) hZ (fun d hd => hw d ((by decide +kernel : ∀ d ∈ StrChars.Road.words, d ∈ tables_1) d hd)) (kI := 4) (own_g hw 5 rfl) (cs := ([ca, cb, cc] : List Int32)) (bs := ([ca, cb, cc] : List Int32).map (fun c => c.toInt8.toInt32)) (n := 3) ge_a16 Z20 ((((A16.ext E17).wr W18).wr W19).wr W20) (Fld.other W20 (Fld.other W19 (Fld.other W18 (F16_value.ext E17) (Or.inl ne_a16_a17)) (Or.inl ne_a16_a17)) (Or.inl ne_a16_a17)) (Fld.other W20 (Fld.other W19 (Fld.other W18 (F16_coder.ext E17) (Or.inl ne_a16_a17)) (Or.inl ne_a16_a17)) (Or.inl ne_a16_a17)) V20 (Sta.wr W20 (Sta.wr W19 (Sta.wr W18 (Sta.ext E17 (Sta.ext E16 SC))))) hz rfl rfl (by decide) (by decide) (own_cS h_ca (own_cS h_cb (own_cS h_cc own_c0))) rfl (by decide) (by decide)) (g := (mkF m 78 #[.val (.int ln), .val (.int ca), .val (.int cb), .val (.int cc)] [(.ref a17), (.ref a16), (.ref a16)])) rfl (by rw [hml]; rfl) (Steps.refl _) (a := a16) (argsL := [(.ref a17)]) (rest := [(.ref a16)]) (lenOf pd__28_5bC_29V rfl) rfl (by show 2 * 0 + _ ≤ _; exact Nat.le_of_eq rfl) (hb hby d1_78) (fun _ _ => ⟨rfl, e20, (by decide : 2 + 1 ≤ _), (by decide : 7 + 3 ≤ _)⟩)
        dsimp only [Pt.U, Pt.locs, Pt.cells, Pt.slots] at X21 l21 y21 z21 st21 hQ21
        subst l21 y21 z21
        obtain ⟨rfl, Nq21, Kq21, fe21, fc21, tt21, kt21, -, -, -, fv21, fa21⟩ := hQ21
        have N21 := Fr.app N20 Nq21
        have Z21 : n0 ≤ T21.heap.size := Nat.le_trans Z20 Kq21.1
        have SZ21 : h0.size ≤ T21.heap.size := Nat.le_trans SZ20 Kq21.1
        have S0_21 := own_Sta_keep (Sta.wr W20 (Sta.wr W19 (Sta.wr W18 (Sta.ext E17 (Sta.ext E16 SC))))) Kq21 (allS (own_ns_exa ((((A16.ext E17).wr W18).wr W19).wr W20)) all0)
        have str21 : own_Str Z T21.heap T21.heap.size a16 ([ca, cb, cc] : List Int32) := own_Str.mk fe21 fc21 fv21 fa21 rfl rfl (own_cS h_ca (own_cS h_cb (own_cS h_cc own_c0)))
        have hr21 := CHr.keep Kq21 (sfS (own_SL.go (own_SL.go (own_SL.go (own_SL.go sf_a16 hr17) hr18) hr19) hr20).2 sf0) hC20.1
        have hC21 := hC20.trans hr21
        have hk := Nat.le_trans hk Kq21.1
        refine own_trans st21 ?_
        show own_Ends p e below F (T21.setTop (mkF m 81 #[.val (.int ln), .val (.int ca), .val (.int cb), .val (.int cc)] [(.ref a16)]))
        rw [hF]
        exact own_retH X21 hS (by exact hk) hh rfl hZ (own_EW hw) hC21 (v := (some (.ref a16))) (fun h => by rw [Bd.returns] at h; cases h) Bd.notSynchronized (fun fs hr => retOut X21 hx (t := (.object "java/lang/String")) (w := (.ref a16)) (i := .areturn) Bd.returns rfl (Or.inr (Or.inr (Or.inr (Or.inr ⟨rfl, rfl, rfl⟩)))) (hb hby d1_81) hr) (by decide) (by decide) (by exact ⟨_, rfl, N21, ((Keep.trans (Keep.wr (Keep.wr (Keep.wr (Keep.ext (Keep.ext (Keep.refl _ _) E16) E17) W18 (Or.inr sz_a17)) W19 (Or.inr sz_a17)) W20 (Or.inr sz_a17)) Kq21 (allS (Or.inr sz_a16) all0)) : Keep h0 T21.heap []), sz_a16, (by simp only [own_cs, c1_1, c17_5, c37_10, if_true, if_false]; exact own_Str.top str21)⟩)

theorem d13_0 : decode jdk_30_method_1_code 0 = .ok (.aload_n 0, 1) := by decide +kernel
theorem d13_1 : decode jdk_30_method_1_code 1 = .ok (.invokespecial 1, 3) := by decide +kernel
theorem d13_4 : decode jdk_30_method_1_code 4 = .ok (.return_, 1) := by decide +kernel
theorem pn_java_lang_Record : plainName "java/lang/Record" = true := by first | (simp [plainName, overriddenIn]; done) | decide +kernel
theorem ef_rm13 (m : MethodId) (x0 : Addr) : entryFrame m #[(.ref x0)] 1 = mkF m 0 #[.val (.ref x0)] [] := by first | (simp [entryFrame, mkF, argsToLocals, Value.category, maxLocals]; done) | rfl
def Q13 (Z : State) (a : Addr) (h0 : Heap) (n0 : Nat) (v : Option Value) (h : Heap) (L : List Loc) : Prop := v = none ∧ Fr n0 L ∧ h = h0
set_option maxRecDepth 65536 in
set_option maxHeartbeats 40000000 in
theorem rm13 (l : Launch) (Z : State) (a0 : Array Value) (hw : ∀ d ∈ tables_1, d.before a0 Z = true) (ws : List Jvm.Cond) (a : Addr) (h0 : Heap) (n0 : Nat) (Z0 : n0 ≤ h0.size)  :
    MetFree l (⟨"java/lang/Record", "<init>", "()V"⟩ : MethodName) (head1 (Jvm.Cond.code (⟨"java/lang/Record", "<init>", "()V"⟩ : MethodName) jdk_30_method_1_code 1 none :: ws) ({ frames := 1, cells := 0, slots := 0, locals := 12 } : Room)) (fun ar U => ar = #[(.ref a)] ∧ Z.Warmed39 U.vm ∧ U.heap = h0) (fun _ _ _ _ _ => True) (fun _ U o U' => ∃ v L, o = .returned v ∧ Q13 Z a h0 n0 v U'.heap L ∧ FrameEnd U o U' L ({ frames := 1, cells := 0, slots := 0, locals := 12 } : Room).cells ({ frames := 1, cells := 0, slots := 0, locals := 12 } : Room).slots) := by
  refine MetFree.of_bodySF (plainFor_of_name pn_java_lang_Record) hisR ?_
  intro p e s m args below meth c s₁ Bd hml0 hP hK
  obtain ⟨rfl, hZ, hh⟩ := hP
  have hx := Bd.exec
  have hby := Bd.bytes
  have hml : c.maxLocals = 1 := hml0
  have hown : s.vm.findClass "java/lang/Record" = some m.cls := findClass_of_methodNamed Bd.named
  have hnm := (name_of_methodNamed Bd.named Bd.method).1
  have X0 : Stand p l e ({ frames := 1, cells := 0, slots := 0, locals := 12 } : Room) s m #[(.ref a)] below meth c s₁ [] 0 0 := Stand.of_body Bd
  have e0 : s₁.heap = h0 := by rw [← hh, Bd.state]; rfl
  have N0 := Fr.nil n0
  obtain ⟨F, hF⟩ : ∃ F, F = own_Fin s (Q13 Z a h0 n0) ({ frames := 1, cells := 0, slots := 0, locals := 12 } : Room).cells ({ frames := 1, cells := 0, slots := 0, locals := 12 } : Room).slots := ⟨_, rfl⟩
  show own_Ends p e below (own_Fin s (Q13 Z a h0 n0) ({ frames := 1, cells := 0, slots := 0, locals := 12 } : Room).cells ({ frames := 1, cells := 0, slots := 0, locals := 12 } : Room).slots) _
  rw [← hF, ef_rm13 m a]
  show own_Ends p e below F (s₁.setTop (mkF m 0 #[.val (.ref a)] []))
  refine own_step (fun _ k => XS.aloadN X0.here hx rfl (hb hby d13_0) rfl rfl k) ?_
  show own_Ends p e below F (s₁.setTop (mkF m 1 #[.val (.ref a)] [(.ref a)]))
  obtain ⟨T1, X1, e1, st1⟩ := initO X0 hx hZ hown (own_g hw 62 rfl) (own_g hw 16 rfl) (own_g hw 17 rfl) e0 (g := (mkF m 1 #[.val (.ref a)] [(.ref a)])) rfl (by rw [hml]; rfl) rfl (hb hby d13_1) (by decide) (W := 0) (by show 2 * 0 + _ ≤ _; exact Nat.le_of_eq rfl) (by decide)
  refine own_step st1 ?_
  show own_Ends p e below F (T1.setTop (mkF m 4 #[.val (.ref a)] []))
  rw [hF]
  exact own_ret X1 (v := none) (fun _ => rfl) Bd.notSynchronized (fun fs hr => X1.returnOut hx Bd.returns (hb hby d13_4) hr) (by decide) (by decide) (by rw [e1]; exact ⟨rfl, N0, rfl⟩)

theorem d12_0 : decode prog_5_method_1_code 0 = .ok (.aload_n 0, 1) := by decide +kernel
theorem d12_1 : decode prog_5_method_1_code 1 = .ok (.invokespecial 1, 3) := by decide +kernel
theorem d12_4 : decode prog_5_method_1_code 4 = .ok (.aload_n 0, 1) := by decide +kernel
theorem d12_5 : decode prog_5_method_1_code 5 = .ok (.aload_n 1, 1) := by decide +kernel
theorem d12_6 : decode prog_5_method_1_code 6 = .ok (.putfield 7, 3) := by decide +kernel
theorem d12_9 : decode prog_5_method_1_code 9 = .ok (.aload_n 0, 1) := by decide +kernel
theorem d12_10 : decode prog_5_method_1_code 10 = .ok (.aload_n 2, 1) := by decide +kernel
theorem d12_11 : decode prog_5_method_1_code 11 = .ok (.putfield 13, 3) := by decide +kernel
theorem d12_14 : decode prog_5_method_1_code 14 = .ok (.aload_n 0, 1) := by decide +kernel
theorem d12_15 : decode prog_5_method_1_code 15 = .ok (.iload_n 3, 1) := by decide +kernel
theorem d12_16 : decode prog_5_method_1_code 16 = .ok (.putfield 16, 3) := by decide +kernel
theorem d12_19 : decode prog_5_method_1_code 19 = .ok (.aload_n 0, 1) := by decide +kernel
theorem d12_20 : decode prog_5_method_1_code 20 = .ok (.lload 4, 2) := by decide +kernel
theorem d12_22 : decode prog_5_method_1_code 22 = .ok (.putfield 20, 3) := by decide +kernel
theorem d12_25 : decode prog_5_method_1_code 25 = .ok (.aload_n 0, 1) := by decide +kernel
theorem d12_26 : decode prog_5_method_1_code 26 = .ok (.lload 6, 2) := by decide +kernel
theorem d12_28 : decode prog_5_method_1_code 28 = .ok (.putfield 24, 3) := by decide +kernel
theorem d12_31 : decode prog_5_method_1_code 31 = .ok (.return_, 1) := by decide +kernel
theorem pn_com_example_pledger_pledger_model_Account : plainName "com/example/pledger/pledger/model/Account" = true := by first | (simp [plainName, overriddenIn]; done) | decide +kernel
theorem pd__28_29V : parseMethodDescriptor "()V" = some ⟨[], none⟩ := by decide +kernel
theorem ef_rm12 (m : MethodId) (x0 : Addr) (x1 : Addr) (x2 : Addr) (x3 : Int32) (x4 : Int64) (x5 : Int64) : entryFrame m #[(.ref x0), (.ref x1), (.ref x2), (.int x3), (.long x4), (.long x5)] 8 = mkF m 0 #[.val (.ref x0), .val (.ref x1), .val (.ref x2), .val (.int x3), .val (.long x4), .second, .val (.long x5), .second] [] := by first | (simp [entryFrame, mkF, argsToLocals, Value.category, maxLocals]; done) | rfl
def Q12 (Z : State) (a : Addr) (p1 : Addr) (p2 : Addr) (p3 : Int32) (p4 : Int64) (p5 : Int64) (h0 : Heap) (n0 : Nat) (v : Option Value) (h : Heap) (L : List Loc) : Prop := v = none ∧ Fr n0 L ∧ Keep h0 h [a] ∧ Exa Z h a "com/example/pledger/pledger/model/Account" ∧ Fld Z h a "com/example/pledger/pledger/model/Account" "id" "Ljava/lang/String;" (.ref p1) ∧ Fld Z h a "com/example/pledger/pledger/model/Account" "currency" "Ljava/lang/String;" (.ref p2) ∧ Fld Z h a "com/example/pledger/pledger/model/Account" "allowNegative" "Z" (.int (nar .boolean p3)) ∧ Fld Z h a "com/example/pledger/pledger/model/Account" "balance" "J" (.long p4) ∧ Fld Z h a "com/example/pledger/pledger/model/Account" "reserved" "J" (.long p5)
set_option maxRecDepth 65536 in
set_option maxHeartbeats 40000000 in
theorem rm12 (l : Launch) (Z : State) (a0 : Array Value) (hw : ∀ d ∈ tables_1, d.before a0 Z = true) (ws : List Jvm.Cond) (a : Addr) (p1 : Addr) (p2 : Addr) (p3 : Int32) (p4 : Int64) (p5 : Int64) (h0 : Heap) (n0 : Nat) (Z0 : n0 ≤ h0.size) (EX : Exa Z h0 a "com/example/pledger/pledger/model/Account") (ge : n0 ≤ a) (F_id : Fld Z h0 a "com/example/pledger/pledger/model/Account" "id" "Ljava/lang/String;" .null) (F_currency : Fld Z h0 a "com/example/pledger/pledger/model/Account" "currency" "Ljava/lang/String;" .null) (F_allowNegative : Fld Z h0 a "com/example/pledger/pledger/model/Account" "allowNegative" "Z" (.int (0 : Int32))) (F_balance : Fld Z h0 a "com/example/pledger/pledger/model/Account" "balance" "J" (.long (0 : Int64))) (F_reserved : Fld Z h0 a "com/example/pledger/pledger/model/Account" "reserved" "J" (.long (0 : Int64))) :
    MetFree l (⟨"com/example/pledger/pledger/model/Account", "<init>", "(Ljava/lang/String;Ljava/lang/String;ZJJ)V"⟩ : MethodName) (head1 (Jvm.Cond.code (⟨"com/example/pledger/pledger/model/Account", "<init>", "(Ljava/lang/String;Ljava/lang/String;ZJJ)V"⟩ : MethodName) prog_5_method_1_code 8 none :: ws) ({ frames := 2, cells := 0, slots := 0, locals := 24 } : Room)) (fun ar U => ar = #[(.ref a), (.ref p1), (.ref p2), (.int p3), (.long p4), (.long p5)] ∧ Z.Warmed39 U.vm ∧ U.heap = h0) (fun _ _ _ _ _ => True) (fun _ U o U' => ∃ v L, o = .returned v ∧ Q12 Z a p1 p2 p3 p4 p5 h0 n0 v U'.heap L ∧ FrameEnd U o U' L ({ frames := 2, cells := 0, slots := 0, locals := 24 } : Room).cells ({ frames := 2, cells := 0, slots := 0, locals := 24 } : Room).slots) := by
  refine MetFree.of_bodySF (plainFor_of_name pn_com_example_pledger_pledger_model_Account) hisR ?_
  intro p e s m args below meth c s₁ Bd hml0 hP hK
  obtain ⟨rfl, hZ, hh⟩ := hP
  have hx := Bd.exec
  have hby := Bd.bytes
  have hml : c.maxLocals = 8 := hml0
  have hown : s.vm.findClass "com/example/pledger/pledger/model/Account" = some m.cls := findClass_of_methodNamed Bd.named
  have hnm := (name_of_methodNamed Bd.named Bd.method).1
  have X0 : Stand p l e ({ frames := 2, cells := 0, slots := 0, locals := 24 } : Room) s m #[(.ref a), (.ref p1), (.ref p2), (.int p3), (.long p4), (.long p5)] below meth c s₁ [] 0 0 := Stand.of_body Bd
  have e0 : s₁.heap = h0 := by rw [← hh, Bd.state]; rfl
  have N0 := Fr.nil n0
  obtain ⟨F, hF⟩ : ∃ F, F = own_Fin s (Q12 Z a p1 p2 p3 p4 p5 h0 n0) ({ frames := 2, cells := 0, slots := 0, locals := 24 } : Room).cells ({ frames := 2, cells := 0, slots := 0, locals := 24 } : Room).slots := ⟨_, rfl⟩
  show own_Ends p e below (own_Fin s (Q12 Z a p1 p2 p3 p4 p5 h0 n0) ({ frames := 2, cells := 0, slots := 0, locals := 24 } : Room).cells ({ frames := 2, cells := 0, slots := 0, locals := 24 } : Room).slots) _
  rw [← hF, ef_rm12 m a p1 p2 p3 p4 p5]
  show own_Ends p e below F (s₁.setTop (mkF m 0 #[.val (.ref a), .val (.ref p1), .val (.ref p2), .val (.int p3), .val (.long p4), .second, .val (.long p5), .second] []))
  refine own_step (fun _ k => XS.aloadN X0.here hx rfl (hb hby d12_0) rfl rfl k) ?_
  show own_Ends p e below F (s₁.setTop (mkF m 1 #[.val (.ref a), .val (.ref p1), .val (.ref p2), .val (.int p3), .val (.long p4), .second, .val (.long p5), .second] [(.ref a)]))
  obtain ⟨_, _, ⟨T1, L1, k1, n1⟩, -, X1, ⟨Lc1, hQ1, l1, y1, z1⟩, st1⟩ := X0.specialBack hx (y := (⟨"java/lang/Record", "<init>", "()V"⟩ : MethodName)) rfl hown (mvT hZ (own_g hw 57 rfl)) (mvT hZ (own_g hw 58 rfl)) (mvT hZ (own_g hw 61 rfl)) (by decide) (backOf (W := 0) (rm13 l Z a0 hw [] a h0 n0 Z0) hZ (own_g hw 61 rfl) (own_g hw 60 rfl) (by decide) (by decide)) (g := (mkF m 1 #[.val (.ref a), .val (.ref p1), .val (.ref p2), .val (.int p3), .val (.long p4), .second, .val (.long p5), .second] [(.ref a)])) rfl (by rw [hml]; rfl) (Steps.refl _) (a := a) (argsL := []) (rest := []) (lenOf pd__28_29V rfl) rfl (by show 2 * 0 + _ ≤ _; exact Nat.le_of_eq rfl) (hb hby d12_1) (fun _ _ => ⟨rfl, e0, (by decide : 0 + 0 ≤ _), (by decide : 0 + 0 ≤ _)⟩)
  dsimp only [Pt.U, Pt.locs, Pt.cells, Pt.slots] at X1 l1 y1 z1 st1 hQ1
  subst l1 y1 z1
  obtain ⟨rfl, Nq1, eq1⟩ := hQ1
  have N1 := Fr.app N0 Nq1
  refine own_trans st1 ?_
  show own_Ends p e below F (T1.setTop (mkF m 4 #[.val (.ref a), .val (.ref p1), .val (.ref p2), .val (.int p3), .val (.long p4), .second, .val (.long p5), .second] []))
  refine own_step (fun _ k => XS.aloadN X1.here hx rfl (hb hby d12_4) rfl rfl k) ?_
  show own_Ends p e below F (T1.setTop (mkF m 5 #[.val (.ref a), .val (.ref p1), .val (.ref p2), .val (.int p3), .val (.long p4), .second, .val (.long p5), .second] [(.ref a)]))
  refine own_step (fun _ k => XS.aloadN X1.here hx rfl (hb hby d12_5) rfl rfl k) ?_
  show own_Ends p e below F (T1.setTop (mkF m 6 #[.val (.ref a), .val (.ref p1), .val (.ref p2), .val (.int p3), .val (.long p4), .second, .val (.long p5), .second] [(.ref p1), (.ref a)]))
  obtain ⟨T2, h2, X2, e2, W2, st2⟩ := putF X1 hx hZ hown (host := "") (Or.inl (own_g hw 63 rfl)) Via.refl eq1 F_id EX (Or.inr ⟨(own_g hw 64 rfl), rfl, hnm⟩) (own_g hw 52 rfl) (ty := (.object "java/lang/String")) (by decide) rfl rfl (g := (mkF m 6 #[.val (.ref a), .val (.ref p1), .val (.ref p2), .val (.int p3), .val (.long p4), .second, .val (.long p5), .second] [(.ref p1), (.ref a)])) rfl rfl (hb hby d12_6)
  refine own_step st2 ?_
  have F2 := Fld.same W2 F_id
  have N2 := Fr.snoc X2 N1 ge
  have Z2 : n0 ≤ h2.size := by rw [W2.size]; exact Z0
  have SZ2 : h0.size ≤ h2.size := by rw [W2.size]; exact (Nat.le_refl h0.size)
  show own_Ends p e below F (T2.setTop (mkF m 9 #[.val (.ref a), .val (.ref p1), .val (.ref p2), .val (.int p3), .val (.long p4), .second, .val (.long p5), .second] []))
  refine own_step (fun _ k => XS.aloadN X2.here hx rfl (hb hby d12_9) rfl rfl k) ?_
  show own_Ends p e below F (T2.setTop (mkF m 10 #[.val (.ref a), .val (.ref p1), .val (.ref p2), .val (.int p3), .val (.long p4), .second, .val (.long p5), .second] [(.ref a)]))
  refine own_step (fun _ k => XS.aloadN X2.here hx rfl (hb hby d12_10) rfl rfl k) ?_
  show own_Ends p e below F (T2.setTop (mkF m 11 #[.val (.ref a), .val (.ref p1), .val (.ref p2), .val (.int p3), .val (.long p4), .second, .val (.long p5), .second] [(.ref p2), (.ref a)]))
  obtain ⟨T3, h3, X3, e3, W3, st3⟩ := putF X2 hx hZ hown (host := "") (Or.inl (own_g hw 65 rfl)) Via.refl e2 (Fld.other W2 F_currency (Or.inr (slot_ne (t := (.object "java/lang/String")) (t' := (.object "java/lang/String")) (Or.inr (own_g hw 66 rfl)) (Or.inr (own_g hw 64 rfl)) (by decide) (by decide) (by decide)))) (EX.wr W2) (Or.inr ⟨(own_g hw 66 rfl), rfl, hnm⟩) (own_g hw 52 rfl) (ty := (.object "java/lang/String")) (by decide) rfl rfl (g := (mkF m 11 #[.val (.ref a), .val (.ref p1), .val (.ref p2), .val (.int p3), .val (.long p4), .second, .val (.long p5), .second] [(.ref p2), (.ref a)])) rfl rfl (hb hby d12_11)
  refine own_step st3 ?_
  have F3 := Fld.same W3 (Fld.other W2 F_currency (Or.inr (slot_ne (t := (.object "java/lang/String")) (t' := (.object "java/lang/String")) (Or.inr (own_g hw 66 rfl)) (Or.inr (own_g hw 64 rfl)) (by decide) (by decide) (by decide))))
  have N3 := Fr.snoc X3 N2 ge
  have Z3 : n0 ≤ h3.size := by rw [W3.size]; exact Z2
  have SZ3 : h0.size ≤ h3.size := by rw [W3.size]; exact SZ2
  show own_Ends p e below F (T3.setTop (mkF m 14 #[.val (.ref a), .val (.ref p1), .val (.ref p2), .val (.int p3), .val (.long p4), .second, .val (.long p5), .second] []))
  refine own_step (fun _ k => XS.aloadN X3.here hx rfl (hb hby d12_14) rfl rfl k) ?_
  show own_Ends p e below F (T3.setTop (mkF m 15 #[.val (.ref a), .val (.ref p1), .val (.ref p2), .val (.int p3), .val (.long p4), .second, .val (.long p5), .second] [(.ref a)]))
  refine own_step (fun _ k => XS.iloadN X3.here hx rfl (hb hby d12_15) rfl k) ?_
  show own_Ends p e below F (T3.setTop (mkF m 16 #[.val (.ref a), .val (.ref p1), .val (.ref p2), .val (.int p3), .val (.long p4), .second, .val (.long p5), .second] [(.int p3), (.ref a)]))
  obtain ⟨T4, h4, X4, e4, W4, st4⟩ := putFN X3 hx hZ hown (own_g hw 67 rfl) Via.refl e3 (Fld.other W3 (Fld.other W2 F_allowNegative (Or.inr (slot_ne (t := .boolean) (t' := (.object "java/lang/String")) (Or.inr (own_g hw 68 rfl)) (Or.inr (own_g hw 64 rfl)) (by decide) (by decide) (by decide)))) (Or.inr (slot_ne (t := .boolean) (t' := (.object "java/lang/String")) (Or.inr (own_g hw 68 rfl)) (Or.inr (own_g hw 66 rfl)) (by decide) (by decide) (by decide)))) ((EX.wr W2).wr W3) (Or.inr ⟨(own_g hw 68 rfl), rfl, hnm⟩) (own_g hw 52 rfl) (ty := .boolean) (v' := (.int (nar .boolean p3))) (by decide) rfl (fits_nar_bool _) (g := (mkF m 16 #[.val (.ref a), .val (.ref p1), .val (.ref p2), .val (.int p3), .val (.long p4), .second, .val (.long p5), .second] [(.int p3), (.ref a)])) rfl rfl (hb hby d12_16)
  refine own_step st4 ?_
  have F4 := Fld.same W4 (Fld.other W3 (Fld.other W2 F_allowNegative (Or.inr (slot_ne (t := .boolean) (t' := (.object "java/lang/String")) (Or.inr (own_g hw 68 rfl)) (Or.inr (own_g hw 64 rfl)) (by decide) (by decide) (by decide)))) (Or.inr (slot_ne (t := .boolean) (t' := (.object "java/lang/String")) (Or.inr (own_g hw 68 rfl)) (Or.inr (own_g hw 66 rfl)) (by decide) (by decide) (by decide))))
  have N4 := Fr.snoc X4 N3 ge
  have Z4 : n0 ≤ h4.size := by rw [W4.size]; exact Z3
  have SZ4 : h0.size ≤ h4.size := by rw [W4.size]; exact SZ3
  show own_Ends p e below F (T4.setTop (mkF m 19 #[.val (.ref a), .val (.ref p1), .val (.ref p2), .val (.int p3), .val (.long p4), .second, .val (.long p5), .second] []))
  refine own_step (fun _ k => XS.aloadN X4.here hx rfl (hb hby d12_19) rfl rfl k) ?_
  show own_Ends p e below F (T4.setTop (mkF m 20 #[.val (.ref a), .val (.ref p1), .val (.ref p2), .val (.int p3), .val (.long p4), .second, .val (.long p5), .second] [(.ref a)]))
  refine own_step (fun _ k => XS.lload X4.here hx rfl (hb hby d12_20) rfl k) ?_
  show own_Ends p e below F (T4.setTop (mkF m 22 #[.val (.ref a), .val (.ref p1), .val (.ref p2), .val (.int p3), .val (.long p4), .second, .val (.long p5), .second] [(.long p4), (.ref a)]))
  obtain ⟨T5, h5, X5, e5, W5, st5⟩ := putF X4 hx hZ hown (host := "") (Or.inl (own_g hw 69 rfl)) Via.refl e4 (Fld.other W4 (Fld.other W3 (Fld.other W2 F_balance (Or.inr (slot_ne (t := .long) (t' := (.object "java/lang/String")) (Or.inr (own_g hw 70 rfl)) (Or.inr (own_g hw 64 rfl)) (by decide) (by decide) (by decide)))) (Or.inr (slot_ne (t := .long) (t' := (.object "java/lang/String")) (Or.inr (own_g hw 70 rfl)) (Or.inr (own_g hw 66 rfl)) (by decide) (by decide) (by decide)))) (Or.inr (slot_ne (t := .long) (t' := .boolean) (Or.inr (own_g hw 70 rfl)) (Or.inr (own_g hw 68 rfl)) (by decide) (by decide) (by decide)))) (((EX.wr W2).wr W3).wr W4) (Or.inr ⟨(own_g hw 70 rfl), rfl, hnm⟩) (own_g hw 52 rfl) (ty := .long) (by decide) rfl rfl (g := (mkF m 22 #[.val (.ref a), .val (.ref p1), .val (.ref p2), .val (.int p3), .val (.long p4), .second, .val (.long p5), .second] [(.long p4), (.ref a)])) rfl rfl (hb hby d12_22)
  refine own_step st5 ?_
  have F5 := Fld.same W5 (Fld.other W4 (Fld.other W3 (Fld.other W2 F_balance (Or.inr (slot_ne (t := .long) (t' := (.object "java/lang/String")) (Or.inr (own_g hw 70 rfl)) (Or.inr (own_g hw 64 rfl)) (by decide) (by decide) (by decide)))) (Or.inr (slot_ne (t := .long) (t' := (.object "java/lang/String")) (Or.inr (own_g hw 70 rfl)) (Or.inr (own_g hw 66 rfl)) (by decide) (by decide) (by decide)))) (Or.inr (slot_ne (t := .long) (t' := .boolean) (Or.inr (own_g hw 70 rfl)) (Or.inr (own_g hw 68 rfl)) (by decide) (by decide) (by decide))))
  have N5 := Fr.snoc X5 N4 ge
  have Z5 : n0 ≤ h5.size := by rw [W5.size]; exact Z4
  have SZ5 : h0.size ≤ h5.size := by rw [W5.size]; exact SZ4
  show own_Ends p e below F (T5.setTop (mkF m 25 #[.val (.ref a), .val (.ref p1), .val (.ref p2), .val (.int p3), .val (.long p4), .second, .val (.long p5), .second] []))
  refine own_step (fun _ k => XS.aloadN X5.here hx rfl (hb hby d12_25) rfl rfl k) ?_
  show own_Ends p e below F (T5.setTop (mkF m 26 #[.val (.ref a), .val (.ref p1), .val (.ref p2), .val (.int p3), .val (.long p4), .second, .val (.long p5), .second] [(.ref a)]))
  refine own_step (fun _ k => XS.lload X5.here hx rfl (hb hby d12_26) rfl k) ?_
  show own_Ends p e below F (T5.setTop (mkF m 28 #[.val (.ref a), .val (.ref p1), .val (.ref p2), .val (.int p3), .val (.long p4), .second, .val (.long p5), .second] [(.long p5), (.ref a)]))
  obtain ⟨T6, h6, X6, e6, W6, st6⟩ := putF X5 hx hZ hown (host := "") (Or.inl (own_g hw 71 rfl)) Via.refl e5 (Fld.other W5 (Fld.other W4 (Fld.other W3 (Fld.other W2 F_reserved (Or.inr (slot_ne (t := .long) (t' := (.object "java/lang/String")) (Or.inr (own_g hw 72 rfl)) (Or.inr (own_g hw 64 rfl)) (by decide) (by decide) (by decide)))) (Or.inr (slot_ne (t := .long) (t' := (.object "java/lang/String")) (Or.inr (own_g hw 72 rfl)) (Or.inr (own_g hw 66 rfl)) (by decide) (by decide) (by decide)))) (Or.inr (slot_ne (t := .long) (t' := .boolean) (Or.inr (own_g hw 72 rfl)) (Or.inr (own_g hw 68 rfl)) (by decide) (by decide) (by decide)))) (Or.inr (slot_ne (t := .long) (t' := .long) (Or.inr (own_g hw 72 rfl)) (Or.inr (own_g hw 70 rfl)) (by decide) (by decide) (by decide)))) ((((EX.wr W2).wr W3).wr W4).wr W5) (Or.inr ⟨(own_g hw 72 rfl), rfl, hnm⟩) (own_g hw 52 rfl) (ty := .long) (by decide) rfl rfl (g := (mkF m 28 #[.val (.ref a), .val (.ref p1), .val (.ref p2), .val (.int p3), .val (.long p4), .second, .val (.long p5), .second] [(.long p5), (.ref a)])) rfl rfl (hb hby d12_28)
  refine own_step st6 ?_
  have F6 := Fld.same W6 (Fld.other W5 (Fld.other W4 (Fld.other W3 (Fld.other W2 F_reserved (Or.inr (slot_ne (t := .long) (t' := (.object "java/lang/String")) (Or.inr (own_g hw 72 rfl)) (Or.inr (own_g hw 64 rfl)) (by decide) (by decide) (by decide)))) (Or.inr (slot_ne (t := .long) (t' := (.object "java/lang/String")) (Or.inr (own_g hw 72 rfl)) (Or.inr (own_g hw 66 rfl)) (by decide) (by decide) (by decide)))) (Or.inr (slot_ne (t := .long) (t' := .boolean) (Or.inr (own_g hw 72 rfl)) (Or.inr (own_g hw 68 rfl)) (by decide) (by decide) (by decide)))) (Or.inr (slot_ne (t := .long) (t' := .long) (Or.inr (own_g hw 72 rfl)) (Or.inr (own_g hw 70 rfl)) (by decide) (by decide) (by decide))))
  have N6 := Fr.snoc X6 N5 ge
  have Z6 : n0 ≤ h6.size := by rw [W6.size]; exact Z5
  have SZ6 : h0.size ≤ h6.size := by rw [W6.size]; exact SZ5
  show own_Ends p e below F (T6.setTop (mkF m 31 #[.val (.ref a), .val (.ref p1), .val (.ref p2), .val (.int p3), .val (.long p4), .second, .val (.long p5), .second] []))
  rw [hF]
  exact own_ret X6 (v := none) (fun _ => rfl) Bd.notSynchronized (fun fs hr => X6.returnOut hx Bd.returns (hb hby d12_31) hr) (by decide) (by decide) (by rw [e6]; exact ⟨rfl, N6, ((Keep.wr (Keep.wr (Keep.wr (Keep.wr (Keep.wr (Keep.refl _ _) W2 (Or.inl (List.mem_of_getElem? (i := 0) rfl))) W3 (Or.inl (List.mem_of_getElem? (i := 0) rfl))) W4 (Or.inl (List.mem_of_getElem? (i := 0) rfl))) W5 (Or.inl (List.mem_of_getElem? (i := 0) rfl))) W6 (Or.inl (List.mem_of_getElem? (i := 0) rfl))) : Keep h0 h6 [a]), (((((EX.wr W2).wr W3).wr W4).wr W5).wr W6), (Fld.other W6 (Fld.other W5 (Fld.other W4 (Fld.other W3 F2 (Or.inr (slot_ne (t := (.object "java/lang/String")) (t' := (.object "java/lang/String")) (Or.inr (own_g hw 64 rfl)) (Or.inr (own_g hw 66 rfl)) (by decide) (by decide) (by decide)))) (Or.inr (slot_ne (t := (.object "java/lang/String")) (t' := .boolean) (Or.inr (own_g hw 64 rfl)) (Or.inr (own_g hw 68 rfl)) (by decide) (by decide) (by decide)))) (Or.inr (slot_ne (t := (.object "java/lang/String")) (t' := .long) (Or.inr (own_g hw 64 rfl)) (Or.inr (own_g hw 70 rfl)) (by decide) (by decide) (by decide)))) (Or.inr (slot_ne (t := (.object "java/lang/String")) (t' := .long) (Or.inr (own_g hw 64 rfl)) (Or.inr (own_g hw 72 rfl)) (by decide) (by decide) (by decide)))), (Fld.other W6 (Fld.other W5 (Fld.other W4 F3 (Or.inr (slot_ne (t := (.object "java/lang/String")) (t' := .boolean) (Or.inr (own_g hw 66 rfl)) (Or.inr (own_g hw 68 rfl)) (by decide) (by decide) (by decide)))) (Or.inr (slot_ne (t := (.object "java/lang/String")) (t' := .long) (Or.inr (own_g hw 66 rfl)) (Or.inr (own_g hw 70 rfl)) (by decide) (by decide) (by decide)))) (Or.inr (slot_ne (t := (.object "java/lang/String")) (t' := .long) (Or.inr (own_g hw 66 rfl)) (Or.inr (own_g hw 72 rfl)) (by decide) (by decide) (by decide)))), (Fld.other W6 (Fld.other W5 F4 (Or.inr (slot_ne (t := .boolean) (t' := .long) (Or.inr (own_g hw 68 rfl)) (Or.inr (own_g hw 70 rfl)) (by decide) (by decide) (by decide)))) (Or.inr (slot_ne (t := .boolean) (t' := .long) (Or.inr (own_g hw 68 rfl)) (Or.inr (own_g hw 72 rfl)) (by decide) (by decide) (by decide)))), (Fld.other W6 F5 (Or.inr (slot_ne (t := .long) (t' := .long) (Or.inr (own_g hw 70 rfl)) (Or.inr (own_g hw 72 rfl)) (by decide) (by decide) (by decide)))), F6⟩)

theorem d14_0 : decode prog_5_method_2_code 0 = .ok (.aload_n 0, 1) := by decide +kernel
theorem d14_1 : decode prog_5_method_2_code 1 = .ok (.getfield 13, 3) := by decide +kernel
theorem d14_4 : decode prog_5_method_2_code 4 = .ok (.aload_n 1, 1) := by decide +kernel
theorem d14_5 : decode prog_5_method_2_code 5 = .ok (.invokevirtual 27, 3) := by decide +kernel
theorem d14_8 : decode prog_5_method_2_code 8 = .ok (.ifCond .eq 15, 3) := by decide +kernel
theorem d14_23 : decode prog_5_method_2_code 23 = .ok (.iconst 0, 1) := by decide +kernel
theorem d14_24 : decode prog_5_method_2_code 24 = .ok (.ireturn, 1) := by decide +kernel
theorem pd__28Ljava_2flang_2fObject_3b_29Z : parseMethodDescriptor "(Ljava/lang/Object;)Z" = some ⟨[(.object "java/lang/Object")], some .boolean⟩ := by decide +kernel
theorem ef_rm14a (m : MethodId) (x0 : Addr) (x2 : Int32) : entryFrame m #[(.ref x0), .null, (.int x2)] 3 = mkF m 0 #[.val (.ref x0), .val .null, .val (.int x2)] [] := by first | (simp [entryFrame, mkF, argsToLocals, Value.category, maxLocals]; done) | rfl
def Q14a (Z : State) (a sa : Addr) (ng p2 : Int32) (h0 : Heap) (n0 : Nat) (v : Option Value) (h : Heap) (L : List Loc) : Prop := v = some (.int 0) ∧ Fr n0 L ∧ h = h0
set_option maxRecDepth 65536 in
set_option maxHeartbeats 40000000 in
theorem rm14a (l : Launch) (Z : State) (a0 : Array Value) (hw : ∀ d ∈ tables_1, d.before a0 Z = true) (ws : List Jvm.Cond) (a sa : Addr) (ng p2 : Int32) (h0 : Heap) (n0 : Nat) (Z0 : n0 ≤ h0.size) (FC : Fld Z h0 a "com/example/pledger/pledger/model/Account" "currency" "Ljava/lang/String;" (.ref sa)) (FN : Fld Z h0 a "com/example/pledger/pledger/model/Account" "allowNegative" "Z" (.int ng)) (ESA : Exa Z h0 sa "java/lang/String") :
    MetFree l (⟨"com/example/pledger/pledger/model/Account", "isOpenedAs", "(Ljava/lang/String;Z)Z"⟩ : MethodName) (head1 (Jvm.Cond.code (⟨"com/example/pledger/pledger/model/Account", "isOpenedAs", "(Ljava/lang/String;Z)Z"⟩ : MethodName) prog_5_method_2_code 3 (some .boolean) :: ws) ({ frames := 1, cells := 0, slots := 0, locals := 14 } : Room)) (fun ar U => ar = #[(.ref a), .null, (.int p2)] ∧ Z.Warmed39 U.vm ∧ U.heap = h0) (fun _ _ _ _ _ => True) (fun _ U o U' => ∃ v L, o = .returned v ∧ Q14a Z a sa ng p2 h0 n0 v U'.heap L ∧ FrameEnd U o U' L ({ frames := 1, cells := 0, slots := 0, locals := 14 } : Room).cells ({ frames := 1, cells := 0, slots := 0, locals := 14 } : Room).slots) := by
  refine MetFree.of_bodySF (plainFor_of_name pn_com_example_pledger_pledger_model_Account) hisR ?_
  intro p e s m args below meth c s₁ Bd hml0 hP hK
  obtain ⟨rfl, hZ, hh⟩ := hP
  have hx := Bd.exec
  have hby := Bd.bytes
  have hml : c.maxLocals = 3 := hml0
  have hown : s.vm.findClass "com/example/pledger/pledger/model/Account" = some m.cls := findClass_of_methodNamed Bd.named
  have hnm := (name_of_methodNamed Bd.named Bd.method).1
  have X0 : Stand p l e ({ frames := 1, cells := 0, slots := 0, locals := 14 } : Room) s m #[(.ref a), .null, (.int p2)] below meth c s₁ [] 0 0 := Stand.of_body Bd
  have e0 : s₁.heap = h0 := by rw [← hh, Bd.state]; rfl
  have N0 := Fr.nil n0
  obtain ⟨F, hF⟩ : ∃ F, F = own_Fin s (Q14a Z a sa ng p2 h0 n0) ({ frames := 1, cells := 0, slots := 0, locals := 14 } : Room).cells ({ frames := 1, cells := 0, slots := 0, locals := 14 } : Room).slots := ⟨_, rfl⟩
  show own_Ends p e below (own_Fin s (Q14a Z a sa ng p2 h0 n0) ({ frames := 1, cells := 0, slots := 0, locals := 14 } : Room).cells ({ frames := 1, cells := 0, slots := 0, locals := 14 } : Room).slots) _
  rw [← hF, ef_rm14a m a p2]
  show own_Ends p e below F (s₁.setTop (mkF m 0 #[.val (.ref a), .val .null, .val (.int p2)] []))
  refine own_step (fun _ k => XS.aloadN X0.here hx rfl (hb hby d14_0) rfl rfl k) ?_
  show own_Ends p e below F (s₁.setTop (mkF m 1 #[.val (.ref a), .val .null, .val (.int p2)] [(.ref a)]))
  obtain ⟨T1, X1, e1, st1⟩ := getF X0 hx hZ hown (host := "") (Or.inl (own_g hw 65 rfl)) Via.refl e0 FC (g := (mkF m 1 #[.val (.ref a), .val .null, .val (.int p2)] [(.ref a)])) rfl rfl (hb hby d14_1)
  refine own_step st1 ?_
  show own_Ends p e below F (T1.setTop (mkF m 4 #[.val (.ref a), .val .null, .val (.int p2)] [(.ref sa)]))
  refine own_step (fun _ k => XS.aloadN X1.here hx rfl (hb hby d14_4) rfl rfl k) ?_
  show own_Ends p e below F (T1.setTop (mkF m 5 #[.val (.ref a), .val .null, .val (.int p2)] [.null, (.ref sa)]))
  obtain ⟨cq2, kq2, qa2, qb2, qc2⟩ := isOf hZ e1 ESA
  obtain ⟨_, _, ⟨T2, L2, k2, n2⟩, -, X2, ⟨Lc2, hQ2, l2, y2, z2⟩, st2⟩ := X1.virtualBack hx (y := (⟨"java/lang/String", "equals", "(Ljava/lang/Object;)Z"⟩ : MethodName)) (z := (⟨"java/lang/String", "equals", "(Ljava/lang/Object;)Z"⟩ : MethodName)) hown (mvT hZ (own_g hw 78 rfl)) (mvT hZ (own_g hw 79 rfl)) (notFace_of_selects (args := #[]) (mvT hZ (own_g hw 81 rfl))) (mvT hZ (own_g hw 81 rfl)) (mvT hZ (own_g hw 80 rfl)) (by decide) (backOf (W := 0) (rm15b l Z a0 hw [] sa h0 n0 Z0) hZ (own_g hw 82 rfl) (own_g hw 6 rfl) (by decide) (by decide)) qa2 qc2 (g := (mkF m 5 #[.val (.ref a), .val .null, .val (.int p2)] [.null, (.ref sa)])) rfl (by rw [hml]; rfl) (Steps.refl _) (argsL := [.null]) (rest := []) (lenOf pd__28Ljava_2flang_2fObject_3b_29Z rfl) rfl (by show 2 * 0 + _ ≤ _; exact Nat.le_of_eq rfl) (hb hby d14_5) (fun _ _ => ⟨rfl, e1, (by decide : 0 + 0 ≤ _), (by decide : 0 + 0 ≤ _)⟩)
  dsimp only [Pt.U, Pt.locs, Pt.cells, Pt.slots] at X2 l2 y2 z2 st2 hQ2
  subst l2 y2 z2
  obtain ⟨rfl, Nq2, eq2⟩ := hQ2
  have N2 := Fr.app N0 Nq2
  refine own_trans st2 ?_
  show own_Ends p e below F (T2.setTop (mkF m 8 #[.val (.ref a), .val .null, .val (.int p2)] [(.int (0 : Int32))]))
  refine own_step (fun _ k => XS.ifYes X2.here hx rfl (pc0 := 8) (pc' := 23) rfl (hb hby d14_8) rfl ((if0 _ _).trans (teq (by decide : (0 : Int32) = (0 : Int32))).1) (by decide) (by decide) k) ?_
  show own_Ends p e below F (T2.setTop (mkF m 23 #[.val (.ref a), .val .null, .val (.int p2)] []))
  refine own_step (fun _ k => XS.iconst X2.here hx rfl (hb hby d14_23) k) ?_
  show own_Ends p e below F (T2.setTop (mkF m 24 #[.val (.ref a), .val .null, .val (.int p2)] [(.int (0 : Int32))]))
  rw [hF]
  exact own_ret X2 (v := (some (.int (nar .boolean (0 : Int32))))) (fun h => by rw [Bd.returns] at h; cases h) Bd.notSynchronized (fun fs hr => retN X2 hx (t := .boolean) Bd.returns (by simp) (hb hby d14_24) hr) (by decide) (by decide) (by rw [eq2]; exact ⟨rfl, N2, rfl⟩)

def own_op (ca cb : List Int32) (ng p2 : Int32) : Int32 := if own_eqv ca cb = (0 : Int32) then 0 else if ng = p2 then 1 else 0
theorem d14_11 : decode prog_5_method_2_code 11 = .ok (.aload_n 0, 1) := by decide +kernel
theorem d14_12 : decode prog_5_method_2_code 12 = .ok (.getfield 16, 3) := by decide +kernel
theorem d14_15 : decode prog_5_method_2_code 15 = .ok (.iload_n 2, 1) := by decide +kernel
theorem d14_16 : decode prog_5_method_2_code 16 = .ok (.if_icmp .ne 7, 3) := by decide +kernel
theorem d14_19 : decode prog_5_method_2_code 19 = .ok (.iconst 1, 1) := by decide +kernel
theorem d14_20 : decode prog_5_method_2_code 20 = .ok (.goto 4, 3) := by decide +kernel
theorem ef_rm14s (m : MethodId) (x0 : Addr) (x1 : Addr) (x2 : Int32) : entryFrame m #[(.ref x0), (.ref x1), (.int x2)] 3 = mkF m 0 #[.val (.ref x0), .val (.ref x1), .val (.int x2)] [] := by first | (simp [entryFrame, mkF, argsToLocals, Value.category, maxLocals]; done) | rfl
def Q14s (Z : State) (a sa sb : Addr) (ng p2 : Int32) (ca cb : List Int32) (Bq : Nat) (zc : Int32) (h0 : Heap) (n0 : Nat) (v : Option Value) (h : Heap) (L : List Loc) : Prop := v = some (.int (own_op ca cb ng p2)) ∧ Fr n0 L ∧ h = h0
set_option maxRecDepth 65536 in
set_option maxHeartbeats 40000000 in
theorem rm14s (l : Launch) (Z : State) (a0 : Array Value) (hw : ∀ d ∈ tables_1, d.before a0 Z = true) (ws : List Jvm.Cond) (a sa sb : Addr) (ng p2 : Int32) (ca cb : List Int32) (Bq : Nat) (zc : Int32) (h0 : Heap) (n0 : Nat) (Z0 : n0 ≤ h0.size) (SC : Sta Z h0 "java/lang/String" "COMPACT_STRINGS" "Z" (.int zc)) (hz : ¬ zc = 0) (FC : Fld Z h0 a "com/example/pledger/pledger/model/Account" "currency" "Ljava/lang/String;" (.ref sa)) (FN : Fld Z h0 a "com/example/pledger/pledger/model/Account" "allowNegative" "Z" (.int ng)) (TA : own_Str Z h0 Bq sa ca) (LA : ca.length ≤ 4000) (TB : own_Str Z h0 Bq sb cb) (LB : cb.length ≤ 4000) :
    MetFree l (⟨"com/example/pledger/pledger/model/Account", "isOpenedAs", "(Ljava/lang/String;Z)Z"⟩ : MethodName) (head1 (Jvm.Cond.code (⟨"com/example/pledger/pledger/model/Account", "isOpenedAs", "(Ljava/lang/String;Z)Z"⟩ : MethodName) prog_5_method_2_code 3 (some .boolean) :: ws) ({ frames := 2, cells := 0, slots := 0, locals := 28 } : Room)) (fun ar U => ar = #[(.ref a), (.ref sb), (.int p2)] ∧ Z.Warmed39 U.vm ∧ U.heap = h0) (fun _ _ _ _ _ => True) (fun _ U o U' => ∃ v L, o = .returned v ∧ Q14s Z a sa sb ng p2 ca cb Bq zc h0 n0 v U'.heap L ∧ FrameEnd U o U' L ({ frames := 2, cells := 0, slots := 0, locals := 28 } : Room).cells ({ frames := 2, cells := 0, slots := 0, locals := 28 } : Room).slots) := by
  refine MetFree.of_bodySF (plainFor_of_name pn_com_example_pledger_pledger_model_Account) hisR ?_
  intro p e s m args below meth c s₁ Bd hml0 hP hK
  obtain ⟨rfl, hZ, hh⟩ := hP
  have hx := Bd.exec
  have hby := Bd.bytes
  have hml : c.maxLocals = 3 := hml0
  have hown : s.vm.findClass "com/example/pledger/pledger/model/Account" = some m.cls := findClass_of_methodNamed Bd.named
  have hnm := (name_of_methodNamed Bd.named Bd.method).1
  have X0 : Stand p l e ({ frames := 2, cells := 0, slots := 0, locals := 28 } : Room) s m #[(.ref a), (.ref sb), (.int p2)] below meth c s₁ [] 0 0 := Stand.of_body Bd
  have e0 : s₁.heap = h0 := by rw [← hh, Bd.state]; rfl
  have N0 := Fr.nil n0
  obtain ⟨F, hF⟩ : ∃ F, F = own_Fin s (Q14s Z a sa sb ng p2 ca cb Bq zc h0 n0) ({ frames := 2, cells := 0, slots := 0, locals := 28 } : Room).cells ({ frames := 2, cells := 0, slots := 0, locals := 28 } : Room).slots := ⟨_, rfl⟩
  show own_Ends p e below (own_Fin s (Q14s Z a sa sb ng p2 ca cb Bq zc h0 n0) ({ frames := 2, cells := 0, slots := 0, locals := 28 } : Room).cells ({ frames := 2, cells := 0, slots := 0, locals := 28 } : Room).slots) _
  rw [← hF, ef_rm14s m a sb p2]
  show own_Ends p e below F (s₁.setTop (mkF m 0 #[.val (.ref a), .val (.ref sb), .val (.int p2)] []))
  refine own_step (fun _ k => XS.aloadN X0.here hx rfl (hb hby d14_0) rfl rfl k) ?_
  show own_Ends p e below F (s₁.setTop (mkF m 1 #[.val (.ref a), .val (.ref sb), .val (.int p2)] [(.ref a)]))
  obtain ⟨T1, X1, e1, st1⟩ := getF X0 hx hZ hown (host := "") (Or.inl (own_g hw 65 rfl)) Via.refl e0 FC (g := (mkF m 1 #[.val (.ref a), .val (.ref sb), .val (.int p2)] [(.ref a)])) rfl rfl (hb hby d14_1)
  refine own_step st1 ?_
  show own_Ends p e below F (T1.setTop (mkF m 4 #[.val (.ref a), .val (.ref sb), .val (.int p2)] [(.ref sa)]))
  refine own_step (fun _ k => XS.aloadN X1.here hx rfl (hb hby d14_4) rfl rfl k) ?_
  show own_Ends p e below F (T1.setTop (mkF m 5 #[.val (.ref a), .val (.ref sb), .val (.int p2)] [(.ref sb), (.ref sa)]))
  obtain ⟨cq2, kq2, qa2, qb2, qc2⟩ := isOf hZ e1 TA.exa
  obtain ⟨_, _, ⟨T2, L2, k2, n2⟩, -, X2, ⟨Lc2, hQ2, l2, y2, z2⟩, st2⟩ := X1.virtualBack hx (y := (⟨"java/lang/String", "equals", "(Ljava/lang/Object;)Z"⟩ : MethodName)) (z := (⟨"java/lang/String", "equals", "(Ljava/lang/Object;)Z"⟩ : MethodName)) hown (mvT hZ (own_g hw 78 rfl)) (mvT hZ (own_g hw 79 rfl)) (notFace_of_selects (args := #[]) (mvT hZ (own_g hw 81 rfl))) (mvT hZ (own_g hw 81 rfl)) (mvT hZ (own_g hw 80 rfl)) (by decide) (own_eqB (W := 0) hZ hw (own_g hw 5 rfl) TA TB SC hz LA LB (by decide) (by decide)) qa2 qc2 (g := (mkF m 5 #[.val (.ref a), .val (.ref sb), .val (.int p2)] [(.ref sb), (.ref sa)])) rfl (by rw [hml]; rfl) (Steps.refl _) (argsL := [(.ref sb)]) (rest := []) (lenOf pd__28Ljava_2flang_2fObject_3b_29Z rfl) rfl (by show 2 * 0 + _ ≤ _; exact Nat.le_of_eq rfl) (hb hby d14_5) (fun _ _ => ⟨rfl, e1, (by decide : 0 + 0 ≤ _), (by decide : 0 + 0 ≤ _)⟩)
  dsimp only [Pt.U, Pt.locs, Pt.cells, Pt.slots] at X2 l2 y2 z2 st2 hQ2
  subst l2 y2 z2
  obtain ⟨rfl, Nr2, eq2⟩ := hQ2
  have N2 := Fr.app N0 (Nr2 n0)
  refine own_trans st2 ?_
  show own_Ends p e below F (T2.setTop (mkF m 8 #[.val (.ref a), .val (.ref sb), .val (.int p2)] [(.int (own_eqv ca cb))]))
  by_cases c8_3 : (own_eqv ca cb) = (0 : Int32)
  · refine own_step (fun _ k => XS.ifYes X2.here hx rfl (pc0 := 8) (pc' := 23) rfl (hb hby d14_8) rfl ((if0 _ _).trans (teq c8_3).1) (by decide) (by decide) k) ?_
    show own_Ends p e below F (T2.setTop (mkF m 23 #[.val (.ref a), .val (.ref sb), .val (.int p2)] []))
    refine own_step (fun _ k => XS.iconst X2.here hx rfl (hb hby d14_23) k) ?_
    show own_Ends p e below F (T2.setTop (mkF m 24 #[.val (.ref a), .val (.ref sb), .val (.int p2)] [(.int (0 : Int32))]))
    rw [hF]
    exact own_ret X2 (v := (some (.int (nar .boolean (0 : Int32))))) (fun h => by rw [Bd.returns] at h; cases h) Bd.notSynchronized (fun fs hr => retN X2 hx (t := .boolean) Bd.returns (by simp) (hb hby d14_24) hr) (by decide) (by decide) (by rw [eq2]; exact ⟨by simp only [own_op, c8_3, if_true, if_false]; first | done | rfl, N2, rfl⟩)
  · refine own_step (fun _ k => XS.ifNo X2.here hx rfl (hb hby d14_8) rfl ((if0 _ _).trans (feq c8_3).1) k) ?_
    show own_Ends p e below F (T2.setTop (mkF m 11 #[.val (.ref a), .val (.ref sb), .val (.int p2)] []))
    refine own_step (fun _ k => XS.aloadN X2.here hx rfl (hb hby d14_11) rfl rfl k) ?_
    show own_Ends p e below F (T2.setTop (mkF m 12 #[.val (.ref a), .val (.ref sb), .val (.int p2)] [(.ref a)]))
    obtain ⟨T4, X4, e4, st4⟩ := getF X2 hx hZ hown (host := "") (Or.inl (own_g hw 67 rfl)) Via.refl eq2 FN (g := (mkF m 12 #[.val (.ref a), .val (.ref sb), .val (.int p2)] [(.ref a)])) rfl rfl (hb hby d14_12)
    refine own_step st4 ?_
    show own_Ends p e below F (T4.setTop (mkF m 15 #[.val (.ref a), .val (.ref sb), .val (.int p2)] [(.int ng)]))
    refine own_step (fun _ k => XS.iloadN X4.here hx rfl (hb hby d14_15) rfl k) ?_
    show own_Ends p e below F (T4.setTop (mkF m 16 #[.val (.ref a), .val (.ref sb), .val (.int p2)] [(.int p2), (.int ng)]))
    by_cases c16_5 : ng = p2
    · refine own_step (fun _ k => XS.icmpNo X4.here hx rfl (hb hby d14_16) rfl (teq c16_5).2 k) ?_
      show own_Ends p e below F (T4.setTop (mkF m 19 #[.val (.ref a), .val (.ref sb), .val (.int p2)] []))
      refine own_step (fun _ k => XS.iconst X4.here hx rfl (hb hby d14_19) k) ?_
      show own_Ends p e below F (T4.setTop (mkF m 20 #[.val (.ref a), .val (.ref sb), .val (.int p2)] [(.int (1 : Int32))]))
      refine own_step (fun _ k => XS.goto X4.here hx rfl (pc0 := 20) (pc' := 24) rfl (hb hby d14_20) (by decide) (by decide) k) ?_
      show own_Ends p e below F (T4.setTop (mkF m 24 #[.val (.ref a), .val (.ref sb), .val (.int p2)] [(.int (1 : Int32))]))
      rw [hF]
      exact own_ret X4 (v := (some (.int (nar .boolean (1 : Int32))))) (fun h => by rw [Bd.returns] at h; cases h) Bd.notSynchronized (fun fs hr => retN X4 hx (t := .boolean) Bd.returns (by simp) (hb hby d14_24) hr) (by decide) (by decide) (by rw [e4]; exact ⟨by simp only [own_op, c8_3, c16_5, if_true, if_false]; first | done | rfl, N2, rfl⟩)
    · refine own_step (fun _ k => XS.icmpYes X4.here hx rfl (pc0 := 16) (pc' := 23) rfl (hb hby d14_16) rfl (feq c16_5).2 (by decide) (by decide) k) ?_
      show own_Ends p e below F (T4.setTop (mkF m 23 #[.val (.ref a), .val (.ref sb), .val (.int p2)] []))
      refine own_step (fun _ k => XS.iconst X4.here hx rfl (hb hby d14_23) k) ?_
      show own_Ends p e below F (T4.setTop (mkF m 24 #[.val (.ref a), .val (.ref sb), .val (.int p2)] [(.int (0 : Int32))]))
      rw [hF]
      exact own_ret X4 (v := (some (.int (nar .boolean (0 : Int32))))) (fun h => by rw [Bd.returns] at h; cases h) Bd.notSynchronized (fun fs hr => retN X4 hx (t := .boolean) Bd.returns (by simp) (hb hby d14_24) hr) (by decide) (by decide) (by rw [e4]; exact ⟨by simp only [own_op, c8_3, c16_5, if_true, if_false]; first | done | rfl, N2, rfl⟩)

theorem own_x256 : ∀ k : Fin 256, (¬ ((Int32.ofInt (k.1 : Int)) ^^^ (0 : Int32)).toUInt32.toUInt16.toUInt32.toInt32 < 0 ∧ ¬ (255 : Int32) < ((Int32.ofInt (k.1 : Int)) ^^^ (0 : Int32)).toUInt32.toUInt16.toUInt32.toInt32) ∧ (¬ ((Int32.ofInt (k.1 : Int)) ^^^ (1 : Int32)).toUInt32.toUInt16.toUInt32.toInt32 < 0 ∧ ¬ (255 : Int32) < ((Int32.ofInt (k.1 : Int)) ^^^ (1 : Int32)).toUInt32.toUInt16.toUInt32.toInt32) := by decide +kernel
theorem own_cx {v y : Int32} (h : ¬ v < 0 ∧ ¬ (255 : Int32) < v) : ¬ ((v ^^^ (y &&& (1 : Int32))).toUInt32.toUInt16.toUInt32.toInt32) < 0 ∧ ¬ (255 : Int32) < ((v ^^^ (y &&& (1 : Int32))).toUInt32.toUInt16.toUInt32.toInt32) := by
  have r := own_rng' h
  have e : Int32.ofInt ((v.toInt.toNat : Nat) : Int) = v := by rw [Int.toNat_of_nonneg r.1]; exact Int32.ofInt_toInt v
  have q := own_x256 ⟨v.toInt.toNat, by omega⟩
  rw [show Int32.ofInt (((⟨v.toInt.toNat, by omega⟩ : Fin 256).1 : Nat) : Int) = v from e] at q
  rcases and_one y with g | g <;> rw [g]
  · exact q.1
  · exact q.2
theorem own_cnear {z v x y c : Int32} (h : ¬ v < 0 ∧ ¬ (255 : Int32) < v) (e : z = if c = (0 : Int32) then ((x &&& (255 : Int32)).toUInt32.toUInt16.toUInt32.toInt32) else ((v ^^^ (y &&& (1 : Int32))).toUInt32.toUInt16.toUInt32.toInt32)) : ¬ z < 0 ∧ ¬ (255 : Int32) < z := by
  subst e
  split
  · exact own_c8 rfl
  · exact own_cx h
def own_in4 (x : Int32) : Prop := x = 0 ∨ x = 1 ∨ x = 2 ∨ x = 3
theorem own_sames {l a b c l' a' b' c' z : Int32} (h : own_in4 l) (h' : own_in4 l')
    (hz : z = (if l = l' then (if l < (1 : Int32) then (if l < (2 : Int32) then (if l < (3 : Int32) then (1 : Int32) else (if c = c' then (1 : Int32) else (0 : Int32))) else (if b = b' then (if l < (3 : Int32) then (1 : Int32) else (if c = c' then (1 : Int32) else (0 : Int32))) else (0 : Int32))) else (if a = a' then (if l < (2 : Int32) then (if l < (3 : Int32) then (1 : Int32) else (if c = c' then (1 : Int32) else (0 : Int32))) else (if b = b' then (if l < (3 : Int32) then (1 : Int32) else (if c = c' then (1 : Int32) else (0 : Int32))) else (0 : Int32))) else (0 : Int32))) else (0 : Int32))) :
    own_eqv (own_cs l a b c) (own_cs l' a' b' c') = z := by
  subst hz
  rcases h with rfl | rfl | rfl | rfl <;> rcases h' with rfl | rfl | rfl | rfl <;> by_cases g : a = a' <;> by_cases g2 : b = b' <;> by_cases g3 : c = c' <;> simp +decide [own_eqv, own_cs, g, g2, g3]
theorem own_nb {z x : Int32} (e : z = if x = (0 : Int32) then (0 : Int32) else (1 : Int32)) : nar .boolean z = z := by
  subst e
  split <;> rfl
theorem own_main {x y v2 v4 a b c a' b' c' z11 z16 z51 z56 u w : Int32} (e2 : v2 = x &&& (3 : Int32)) (e4 : v4 = y &&& (3 : Int32)) (h11 : z11 = if u = (0 : Int32) then (0 : Int32) else (1 : Int32)) (h16 : z16 = if w = (0 : Int32) then (0 : Int32) else (1 : Int32))
    (h51 : z51 = (if v2 = v4 then (if v2 < (1 : Int32) then (if v2 < (2 : Int32) then (if v2 < (3 : Int32) then (1 : Int32) else (if c = c' then (1 : Int32) else (0 : Int32))) else (if b = b' then (if v2 < (3 : Int32) then (1 : Int32) else (if c = c' then (1 : Int32) else (0 : Int32))) else (0 : Int32))) else (if a = a' then (if v2 < (2 : Int32) then (if v2 < (3 : Int32) then (1 : Int32) else (if c = c' then (1 : Int32) else (0 : Int32))) else (if b = b' then (if v2 < (3 : Int32) then (1 : Int32) else (if c = c' then (1 : Int32) else (0 : Int32))) else (0 : Int32))) else (0 : Int32))) else (0 : Int32)))
    (h56 : z56 = (if z51 = (0 : Int32) then (0 : Int32) else (if z11 = z16 then (1 : Int32) else (0 : Int32)))) : own_op (own_cs v2 a b c) (own_cs v4 a' b' c') (nar .boolean z11) z16 = z56 := by
  rw [own_nb h11]
  unfold own_op
  rw [own_sames (e2 ▸ own_m3 x) (e4 ▸ own_m3 y) h51, h56]

theorem pd__28ICCC_29Ljava_2flang_2fString_3b : parseMethodDescriptor "(ICCC)Ljava/lang/String;" = some ⟨[.int, .char, .char, .char], some (.object "java/lang/String")⟩ := by decide +kernel
theorem pd__28C_29Ljava_2flang_2fString_3b : parseMethodDescriptor "(C)Ljava/lang/String;" = some ⟨[.char], some (.object "java/lang/String")⟩ := by decide +kernel
theorem pd__28Ljava_2flang_2fString_3bLjava_2flang_2fString_3bZJJ_29V : parseMethodDescriptor "(Ljava/lang/String;Ljava/lang/String;ZJJ)V" = some ⟨[(.object "java/lang/String"), (.object "java/lang/String"), .boolean, .long, .long], none⟩ := by decide +kernel
theorem pd__28Ljava_2flang_2fString_3bZ_29Z : parseMethodDescriptor "(Ljava/lang/String;Z)Z" = some ⟨[(.object "java/lang/String"), .boolean], some .boolean⟩ := by decide +kernel
theorem ef_rm0 (m : MethodId) (x0 : Int32) (x1 : Int32) (x2 : Int32) (x3 : Int32) (x4 : Int64) (x5 : Int64) : entryFrame m #[(.int x0), (.int x1), (.int x2), (.int x3), (.long x4), (.long x5)] maxLocals = mkF m 0 #[.val (.int x0), .val (.int x1), .val (.int x2), .val (.int x3), .val (.long x4), .second, .val (.long x5), .second, .unset, .unset, .unset, .unset, .unset, .unset, .unset, .unset, .unset, .unset, .unset, .unset, .unset, .unset, .unset, .unset, .unset, .unset, .unset] [] := by first | (simp [entryFrame, mkF, argsToLocals, Value.category, maxLocals]; done) | rfl
def Q0 (Z : State) (p1 p2 p3 p4 : Int32) (p5 p6 : Int64) (zc : Int32) (h0 : Heap) (n0 : Nat) (v : Option Value) (h : Heap) (L : List Loc) : Prop := v = some (.int 1) ∧ Fr n0 L
set_option maxRecDepth 65536 in
set_option maxHeartbeats 40000000 in
theorem rm0 (l : Launch) (Z : State) (a0 : Array Value) (hw : ∀ d ∈ tables_1, d.before a0 Z = true) (ws : List Jvm.Cond) (p1 p2 p3 p4 : Int32) (p5 p6 : Int64) (zc : Int32) (h0 : Heap) (n0 : Nat) (Z0 : n0 ≤ h0.size) (SC : Sta Z h0 "java/lang/String" "COMPACT_STRINGS" "Z" (.int zc)) (hz : ¬ zc = 0) :
    MetFree l x (head1 (Jvm.Cond.code x code maxLocals ret :: ws) room_1) (fun ar U => ar = #[(.int p1), (.int p2), (.int p3), (.int p4), (.long p5), (.long p6)] ∧ Z.Warmed39 U.vm ∧ U.heap = h0 ∧ CHv Z own_EL U.vm h0) (fun _ _ _ _ _ => True) (fun _ U o U' => ∃ v L, o = .returned v ∧ Q0 Z p1 p2 p3 p4 p5 p6 zc h0 n0 v U'.heap L ∧ CHr Z own_EL U.vm U.heap U'.vm U'.heap ∧ ReturnedEndW U o U' L room_1.cells room_1.slots) := by
  refine MetFree.of_bodySF (plainFor_of_name pn_com_example_pledger_pledger_model_AccountIsOpenedAsPinLaw) hisR ?_
  intro p e s m args below meth c s₁ Bd hml0 hP hK
  obtain ⟨rfl, hZ, hh, hH⟩ := hP
  have hx := Bd.exec
  have hby := Bd.bytes
  have hml : c.maxLocals = 27 := hml0
  have hown : s.vm.findClass "com/example/pledger/pledger/model/AccountIsOpenedAsPinLaw" = some m.cls := findClass_of_methodNamed Bd.named
  have hnm := (name_of_methodNamed Bd.named Bd.method).1
  have X0 : Stand p l e room_1 (s.setVm s.vm) m #[(.int p1), (.int p2), (.int p3), (.int p4), (.long p5), (.long p6)] below meth c s₁ [] 0 0 := Stand.of_body Bd
  have e0 : s₁.heap = h0 := by rw [← hh, Bd.state]; rfl
  have N0 := Fr.nil n0
  have hS : s.Since s.vm h0.size := (State.WarmedH.refl s).since _
  have hk := Nat.le_refl h0.size
  have hC0 : CHr Z own_EL s.vm h0 s.vm h0 := CHr.refl hH
  obtain ⟨F, hF⟩ : ∃ F, F = own_FinH Z own_EL s (Q0 Z p1 p2 p3 p4 p5 p6 zc h0 n0) room_1.cells room_1.slots := ⟨_, rfl⟩
  show own_Ends p e below (own_FinH Z own_EL s (Q0 Z p1 p2 p3 p4 p5 p6 zc h0 n0) room_1.cells room_1.slots) _
  rw [← hF, ef_rm0 m p1 p2 p3 p4 p5 p6]
  show own_Ends p e below F (s₁.setTop (mkF m 0 #[.val (.int p1), .val (.int p2), .val (.int p3), .val (.int p4), .val (.long p5), .second, .val (.long p6), .second, .unset, .unset, .unset, .unset, .unset, .unset, .unset, .unset, .unset, .unset, .unset, .unset, .unset, .unset, .unset, .unset, .unset, .unset, .unset] []))
  obtain ⟨A1, hA1⟩ : ∃ z : Array Slot, z = #[.val (.int p1), .val (.int p2), .val (.int p3), .val (.int p4), .val (.long p5), .second, .val (.long p6), .second, .unset, .unset, .unset, .unset, .unset, .unset, .unset, .unset, .unset, .unset, .unset, .unset, .unset, .unset, .unset, .unset, .unset, .unset, .unset] := ⟨_, rfl⟩
  rw [← hA1]
  show own_Ends p e below F (s₁.setTop (mkF m 0 A1 []))
  refine own_step (fun _ k => XS.iloadN X0.here hx rfl (hb hby at_0) (by rw [hA1]; rfl) k) ?_
  show own_Ends p e below F (s₁.setTop (mkF m 1 A1 [(.int p3)]))
  refine own_step (fun _ k => XS.iconst X0.here hx rfl (hb hby at_1) k) ?_
  show own_Ends p e below F (s₁.setTop (mkF m 2 A1 [(.int (3 : Int32)), (.int p3)]))
  refine own_step (fun _ k => XS.iand X0.here hx rfl (hb hby at_2) rfl k) ?_
  show own_Ends p e below F (s₁.setTop (mkF m 3 A1 [(.int (p3 &&& (3 : Int32)))]))
  obtain ⟨v2, ev2⟩ : ∃ z : Int32, z = (p3 &&& (3 : Int32)) := ⟨_, rfl⟩
  rw [← ev2]
  show own_Ends p e below F (s₁.setTop (mkF m 3 A1 [(.int v2)]))
  obtain ⟨A3, hA3⟩ : ∃ z : Array Slot, z = #[.val (.int p1), .val (.int p2), .val (.int p3), .val (.int p4), .val (.long p5), .second, .val (.long p6), .second, .val (.int v2), .unset, .unset, .unset, .unset, .unset, .unset, .unset, .unset, .unset, .unset, .unset, .unset, .unset, .unset, .unset, .unset, .unset, .unset] := ⟨_, rfl⟩
  refine own_step (fun _ k => XS.istore X0.here hx rfl (hb hby at_3) rfl (l' := A3) (by rw [hA1, hA3]; exact rfl) k) ?_
  show own_Ends p e below F (s₁.setTop (mkF m 5 A3 []))
  refine own_step (fun _ k => XS.iloadN X0.here hx rfl (hb hby at_5) (by rw [hA3]; rfl) k) ?_
  show own_Ends p e below F (s₁.setTop (mkF m 6 A3 [(.int p3)]))
  refine own_step (fun _ k => XS.iconst X0.here hx rfl (hb hby at_6) k) ?_
  show own_Ends p e below F (s₁.setTop (mkF m 7 A3 [(.int (2 : Int32)), (.int p3)]))
  refine own_step (fun _ k => XS.ishr X0.here hx rfl (hb hby at_7) rfl k) ?_
  show own_Ends p e below F (s₁.setTop (mkF m 8 A3 [(.int (p3 >>> ((2 : Int32) &&& 31)))]))
  refine own_step (fun _ k => XS.iconst X0.here hx rfl (hb hby at_8) k) ?_
  show own_Ends p e below F (s₁.setTop (mkF m 9 A3 [(.int (3 : Int32)), (.int (p3 >>> ((2 : Int32) &&& 31)))]))
  refine own_step (fun _ k => XS.iand X0.here hx rfl (hb hby at_9) rfl k) ?_
  show own_Ends p e below F (s₁.setTop (mkF m 10 A3 [(.int ((p3 >>> ((2 : Int32) &&& 31)) &&& (3 : Int32)))]))
  obtain ⟨v4, ev4⟩ : ∃ z : Int32, z = ((p3 >>> ((2 : Int32) &&& 31)) &&& (3 : Int32)) := ⟨_, rfl⟩
  rw [← ev4]
  show own_Ends p e below F (s₁.setTop (mkF m 10 A3 [(.int v4)]))
  obtain ⟨A5, hA5⟩ : ∃ z : Array Slot, z = #[.val (.int p1), .val (.int p2), .val (.int p3), .val (.int p4), .val (.long p5), .second, .val (.long p6), .second, .val (.int v2), .val (.int v4), .unset, .unset, .unset, .unset, .unset, .unset, .unset, .unset, .unset, .unset, .unset, .unset, .unset, .unset, .unset, .unset, .unset] := ⟨_, rfl⟩
  refine own_step (fun _ k => XS.istore X0.here hx rfl (hb hby at_10) rfl (l' := A5) (by rw [hA3, hA5]; exact rfl) k) ?_
  show own_Ends p e below F (s₁.setTop (mkF m 12 A5 []))
  refine own_step (fun _ k => XS.iloadN X0.here hx rfl (hb hby at_12) (by rw [hA5]; rfl) k) ?_
  show own_Ends p e below F (s₁.setTop (mkF m 13 A5 [(.int p3)]))
  refine own_step (fun _ k => XS.iconst X0.here hx rfl (hb hby at_13) k) ?_
  show own_Ends p e below F (s₁.setTop (mkF m 14 A5 [(.int (4 : Int32)), (.int p3)]))
  refine own_step (fun _ k => XS.ishr X0.here hx rfl (hb hby at_14) rfl k) ?_
  show own_Ends p e below F (s₁.setTop (mkF m 15 A5 [(.int (p3 >>> ((4 : Int32) &&& 31)))]))
  refine own_step (fun _ k => XS.iconst X0.here hx rfl (hb hby at_15) k) ?_
  show own_Ends p e below F (s₁.setTop (mkF m 16 A5 [(.int (1 : Int32)), (.int (p3 >>> ((4 : Int32) &&& 31)))]))
  refine own_step (fun _ k => XS.iand X0.here hx rfl (hb hby at_16) rfl k) ?_
  show own_Ends p e below F (s₁.setTop (mkF m 17 A5 [(.int ((p3 >>> ((4 : Int32) &&& 31)) &&& (1 : Int32)))]))
  have J17_7 : ∀ (z6 : Int32) (hz6 : z6 = (if ((p3 >>> ((4 : Int32) &&& 31)) &&& (1 : Int32)) = (0 : Int32) then (0 : Int32) else (1 : Int32))), own_Ends p e below F (s₁.setTop (mkF m 25 #[.val (.int p1), .val (.int p2), .val (.int p3), .val (.int p4), .val (.long p5), .second, .val (.long p6), .second, .val (.int v2), .val (.int v4), .unset, .unset, .unset, .unset, .unset, .unset, .unset, .unset, .unset, .unset, .unset, .unset, .unset, .unset, .unset, .unset, .unset] [(.int z6)])) := by
    intro z6 hz6
    obtain ⟨A9, hA9⟩ : ∃ z : Array Slot, z = #[.val (.int p1), .val (.int p2), .val (.int p3), .val (.int p4), .val (.long p5), .second, .val (.long p6), .second, .val (.int v2), .val (.int v4), .unset, .unset, .unset, .unset, .unset, .unset, .unset, .unset, .unset, .unset, .unset, .unset, .unset, .unset, .unset, .unset, .unset] := ⟨_, rfl⟩
    rw [← hA9]
    show own_Ends p e below F (s₁.setTop (mkF m 25 A9 [(.int z6)]))
    obtain ⟨A10, hA10⟩ : ∃ z : Array Slot, z = #[.val (.int p1), .val (.int p2), .val (.int p3), .val (.int p4), .val (.long p5), .second, .val (.long p6), .second, .val (.int v2), .val (.int v4), .val (.int z6), .unset, .unset, .unset, .unset, .unset, .unset, .unset, .unset, .unset, .unset, .unset, .unset, .unset, .unset, .unset, .unset] := ⟨_, rfl⟩
    refine own_step (fun _ k => XS.istore X0.here hx rfl (hb hby at_25) rfl (l' := A10) (by rw [hA9, hA10]; exact rfl) k) ?_
    show own_Ends p e below F (s₁.setTop (mkF m 27 A10 []))
    refine own_step (fun _ k => XS.iloadN X0.here hx rfl (hb hby at_27) (by rw [hA10]; rfl) k) ?_
    show own_Ends p e below F (s₁.setTop (mkF m 28 A10 [(.int p3)]))
    refine own_step (fun _ k => XS.iconst X0.here hx rfl (hb hby at_28) k) ?_
    show own_Ends p e below F (s₁.setTop (mkF m 29 A10 [(.int (5 : Int32)), (.int p3)]))
    refine own_step (fun _ k => XS.ishr X0.here hx rfl (hb hby at_29) rfl k) ?_
    show own_Ends p e below F (s₁.setTop (mkF m 30 A10 [(.int (p3 >>> ((5 : Int32) &&& 31)))]))
    refine own_step (fun _ k => XS.iconst X0.here hx rfl (hb hby at_30) k) ?_
    show own_Ends p e below F (s₁.setTop (mkF m 31 A10 [(.int (1 : Int32)), (.int (p3 >>> ((5 : Int32) &&& 31)))]))
    refine own_step (fun _ k => XS.iand X0.here hx rfl (hb hby at_31) rfl k) ?_
    show own_Ends p e below F (s₁.setTop (mkF m 32 A10 [(.int ((p3 >>> ((5 : Int32) &&& 31)) &&& (1 : Int32)))]))
    have J32_12 : ∀ (z11 : Int32) (hz11 : z11 = (if ((p3 >>> ((5 : Int32) &&& 31)) &&& (1 : Int32)) = (0 : Int32) then (0 : Int32) else (1 : Int32))), own_Ends p e below F (s₁.setTop (mkF m 40 #[.val (.int p1), .val (.int p2), .val (.int p3), .val (.int p4), .val (.long p5), .second, .val (.long p6), .second, .val (.int v2), .val (.int v4), .val (.int z6), .unset, .unset, .unset, .unset, .unset, .unset, .unset, .unset, .unset, .unset, .unset, .unset, .unset, .unset, .unset, .unset] [(.int z11)])) := by
      intro z11 hz11
      obtain ⟨A14, hA14⟩ : ∃ z : Array Slot, z = #[.val (.int p1), .val (.int p2), .val (.int p3), .val (.int p4), .val (.long p5), .second, .val (.long p6), .second, .val (.int v2), .val (.int v4), .val (.int z6), .unset, .unset, .unset, .unset, .unset, .unset, .unset, .unset, .unset, .unset, .unset, .unset, .unset, .unset, .unset, .unset] := ⟨_, rfl⟩
      rw [← hA14]
      show own_Ends p e below F (s₁.setTop (mkF m 40 A14 [(.int z11)]))
      obtain ⟨A15, hA15⟩ : ∃ z : Array Slot, z = #[.val (.int p1), .val (.int p2), .val (.int p3), .val (.int p4), .val (.long p5), .second, .val (.long p6), .second, .val (.int v2), .val (.int v4), .val (.int z6), .val (.int z11), .unset, .unset, .unset, .unset, .unset, .unset, .unset, .unset, .unset, .unset, .unset, .unset, .unset, .unset, .unset] := ⟨_, rfl⟩
      refine own_step (fun _ k => XS.istore X0.here hx rfl (hb hby at_40) rfl (l' := A15) (by rw [hA14, hA15]; exact rfl) k) ?_
      show own_Ends p e below F (s₁.setTop (mkF m 42 A15 []))
      refine own_step (fun _ k => XS.iloadN X0.here hx rfl (hb hby at_42) (by rw [hA15]; rfl) k) ?_
      show own_Ends p e below F (s₁.setTop (mkF m 43 A15 [(.int p3)]))
      refine own_step (fun _ k => XS.bipush X0.here hx rfl (hb hby at_43) k) ?_
      show own_Ends p e below F (s₁.setTop (mkF m 45 A15 [(.int (6 : Int32)), (.int p3)]))
      refine own_step (fun _ k => XS.ishr X0.here hx rfl (hb hby at_45) rfl k) ?_
      show own_Ends p e below F (s₁.setTop (mkF m 46 A15 [(.int (p3 >>> ((6 : Int32) &&& 31)))]))
      refine own_step (fun _ k => XS.iconst X0.here hx rfl (hb hby at_46) k) ?_
      show own_Ends p e below F (s₁.setTop (mkF m 47 A15 [(.int (1 : Int32)), (.int (p3 >>> ((6 : Int32) &&& 31)))]))
      refine own_step (fun _ k => XS.iand X0.here hx rfl (hb hby at_47) rfl k) ?_
      show own_Ends p e below F (s₁.setTop (mkF m 48 A15 [(.int ((p3 >>> ((6 : Int32) &&& 31)) &&& (1 : Int32)))]))
      have J48_17 : ∀ (z16 : Int32) (hz16 : z16 = (if ((p3 >>> ((6 : Int32) &&& 31)) &&& (1 : Int32)) = (0 : Int32) then (0 : Int32) else (1 : Int32))), own_Ends p e below F (s₁.setTop (mkF m 56 #[.val (.int p1), .val (.int p2), .val (.int p3), .val (.int p4), .val (.long p5), .second, .val (.long p6), .second, .val (.int v2), .val (.int v4), .val (.int z6), .val (.int z11), .unset, .unset, .unset, .unset, .unset, .unset, .unset, .unset, .unset, .unset, .unset, .unset, .unset, .unset, .unset] [(.int z16)])) := by
        intro z16 hz16
        obtain ⟨A19, hA19⟩ : ∃ z : Array Slot, z = #[.val (.int p1), .val (.int p2), .val (.int p3), .val (.int p4), .val (.long p5), .second, .val (.long p6), .second, .val (.int v2), .val (.int v4), .val (.int z6), .val (.int z11), .unset, .unset, .unset, .unset, .unset, .unset, .unset, .unset, .unset, .unset, .unset, .unset, .unset, .unset, .unset] := ⟨_, rfl⟩
        rw [← hA19]
        show own_Ends p e below F (s₁.setTop (mkF m 56 A19 [(.int z16)]))
        obtain ⟨A20, hA20⟩ : ∃ z : Array Slot, z = #[.val (.int p1), .val (.int p2), .val (.int p3), .val (.int p4), .val (.long p5), .second, .val (.long p6), .second, .val (.int v2), .val (.int v4), .val (.int z6), .val (.int z11), .val (.int z16), .unset, .unset, .unset, .unset, .unset, .unset, .unset, .unset, .unset, .unset, .unset, .unset, .unset, .unset] := ⟨_, rfl⟩
        refine own_step (fun _ k => XS.istore X0.here hx rfl (hb hby at_56) rfl (l' := A20) (by rw [hA19, hA20]; exact rfl) k) ?_
        show own_Ends p e below F (s₁.setTop (mkF m 58 A20 []))
        refine own_step (fun _ k => XS.iloadN X0.here hx rfl (hb hby at_58) (by rw [hA20]; rfl) k) ?_
        show own_Ends p e below F (s₁.setTop (mkF m 59 A20 [(.int p3)]))
        refine own_step (fun _ k => XS.bipush X0.here hx rfl (hb hby at_59) k) ?_
        show own_Ends p e below F (s₁.setTop (mkF m 61 A20 [(.int (7 : Int32)), (.int p3)]))
        refine own_step (fun _ k => XS.ishr X0.here hx rfl (hb hby at_61) rfl k) ?_
        show own_Ends p e below F (s₁.setTop (mkF m 62 A20 [(.int (p3 >>> ((7 : Int32) &&& 31)))]))
        refine own_step (fun _ k => XS.bipush X0.here hx rfl (hb hby at_62) k) ?_
        show own_Ends p e below F (s₁.setTop (mkF m 64 A20 [(.int (7 : Int32)), (.int (p3 >>> ((7 : Int32) &&& 31)))]))
        refine own_step (fun _ k => XS.iand X0.here hx rfl (hb hby at_64) rfl k) ?_
        show own_Ends p e below F (s₁.setTop (mkF m 65 A20 [(.int ((p3 >>> ((7 : Int32) &&& 31)) &&& (7 : Int32)))]))
        refine own_step (fun _ k => XS.bipush X0.here hx rfl (hb hby at_65) k) ?_
        show own_Ends p e below F (s₁.setTop (mkF m 67 A20 [(.int (7 : Int32)), (.int ((p3 >>> ((7 : Int32) &&& 31)) &&& (7 : Int32)))]))
        have J67_22 : ∀ (z21 : Int32) (hz21 : z21 = (if ((p3 >>> ((7 : Int32) &&& 31)) &&& (7 : Int32)) = (7 : Int32) then (1 : Int32) else (0 : Int32))), own_Ends p e below F (s₁.setTop (mkF m 75 #[.val (.int p1), .val (.int p2), .val (.int p3), .val (.int p4), .val (.long p5), .second, .val (.long p6), .second, .val (.int v2), .val (.int v4), .val (.int z6), .val (.int z11), .val (.int z16), .unset, .unset, .unset, .unset, .unset, .unset, .unset, .unset, .unset, .unset, .unset, .unset, .unset, .unset] [(.int z21)])) := by
          intro z21 hz21
          obtain ⟨A24, hA24⟩ : ∃ z : Array Slot, z = #[.val (.int p1), .val (.int p2), .val (.int p3), .val (.int p4), .val (.long p5), .second, .val (.long p6), .second, .val (.int v2), .val (.int v4), .val (.int z6), .val (.int z11), .val (.int z16), .unset, .unset, .unset, .unset, .unset, .unset, .unset, .unset, .unset, .unset, .unset, .unset, .unset, .unset] := ⟨_, rfl⟩
          rw [← hA24]
          show own_Ends p e below F (s₁.setTop (mkF m 75 A24 [(.int z21)]))
          obtain ⟨A25, hA25⟩ : ∃ z : Array Slot, z = #[.val (.int p1), .val (.int p2), .val (.int p3), .val (.int p4), .val (.long p5), .second, .val (.long p6), .second, .val (.int v2), .val (.int v4), .val (.int z6), .val (.int z11), .val (.int z16), .val (.int z21), .unset, .unset, .unset, .unset, .unset, .unset, .unset, .unset, .unset, .unset, .unset, .unset, .unset] := ⟨_, rfl⟩
          refine own_step (fun _ k => XS.istore X0.here hx rfl (hb hby at_75) rfl (l' := A25) (by rw [hA24, hA25]; exact rfl) k) ?_
          show own_Ends p e below F (s₁.setTop (mkF m 77 A25 []))
          refine own_step (fun _ k => XS.iloadN X0.here hx rfl (hb hby at_77) (by rw [hA25]; rfl) k) ?_
          show own_Ends p e below F (s₁.setTop (mkF m 78 A25 [(.int p1)]))
          refine own_step (fun _ k => XS.sipush X0.here hx rfl (hb hby at_78) k) ?_
          show own_Ends p e below F (s₁.setTop (mkF m 81 A25 [(.int (255 : Int32)), (.int p1)]))
          refine own_step (fun _ k => XS.iand X0.here hx rfl (hb hby at_81) rfl k) ?_
          show own_Ends p e below F (s₁.setTop (mkF m 82 A25 [(.int (p1 &&& (255 : Int32)))]))
          refine own_step (fun _ k => XS.i2c X0.here hx rfl (hb hby at_82) rfl k) ?_
          show own_Ends p e below F (s₁.setTop (mkF m 83 A25 [(.int ((p1 &&& (255 : Int32)).toUInt32.toUInt16.toUInt32.toInt32))]))
          obtain ⟨v26, ev26⟩ : ∃ z : Int32, z = ((p1 &&& (255 : Int32)).toUInt32.toUInt16.toUInt32.toInt32) := ⟨_, rfl⟩
          rw [← ev26]
          show own_Ends p e below F (s₁.setTop (mkF m 83 A25 [(.int v26)]))
          obtain ⟨A27, hA27⟩ : ∃ z : Array Slot, z = #[.val (.int p1), .val (.int p2), .val (.int p3), .val (.int p4), .val (.long p5), .second, .val (.long p6), .second, .val (.int v2), .val (.int v4), .val (.int z6), .val (.int z11), .val (.int z16), .val (.int z21), .val (.int v26), .unset, .unset, .unset, .unset, .unset, .unset, .unset, .unset, .unset, .unset, .unset, .unset] := ⟨_, rfl⟩
          refine own_step (fun _ k => XS.istore X0.here hx rfl (hb hby at_83) rfl (l' := A27) (by rw [hA25, hA27]; exact rfl) k) ?_
          show own_Ends p e below F (s₁.setTop (mkF m 85 A27 []))
          have ch14 := own_c8 ev26
          refine own_step (fun _ k => XS.iloadN X0.here hx rfl (hb hby at_85) (by rw [hA27]; rfl) k) ?_
          show own_Ends p e below F (s₁.setTop (mkF m 86 A27 [(.int p1)]))
          refine own_step (fun _ k => XS.bipush X0.here hx rfl (hb hby at_86) k) ?_
          show own_Ends p e below F (s₁.setTop (mkF m 88 A27 [(.int (8 : Int32)), (.int p1)]))
          refine own_step (fun _ k => XS.ishr X0.here hx rfl (hb hby at_88) rfl k) ?_
          show own_Ends p e below F (s₁.setTop (mkF m 89 A27 [(.int (p1 >>> ((8 : Int32) &&& 31)))]))
          refine own_step (fun _ k => XS.sipush X0.here hx rfl (hb hby at_89) k) ?_
          show own_Ends p e below F (s₁.setTop (mkF m 92 A27 [(.int (255 : Int32)), (.int (p1 >>> ((8 : Int32) &&& 31)))]))
          refine own_step (fun _ k => XS.iand X0.here hx rfl (hb hby at_92) rfl k) ?_
          show own_Ends p e below F (s₁.setTop (mkF m 93 A27 [(.int ((p1 >>> ((8 : Int32) &&& 31)) &&& (255 : Int32)))]))
          refine own_step (fun _ k => XS.i2c X0.here hx rfl (hb hby at_93) rfl k) ?_
          show own_Ends p e below F (s₁.setTop (mkF m 94 A27 [(.int (((p1 >>> ((8 : Int32) &&& 31)) &&& (255 : Int32)).toUInt32.toUInt16.toUInt32.toInt32))]))
          obtain ⟨v28, ev28⟩ : ∃ z : Int32, z = (((p1 >>> ((8 : Int32) &&& 31)) &&& (255 : Int32)).toUInt32.toUInt16.toUInt32.toInt32) := ⟨_, rfl⟩
          rw [← ev28]
          show own_Ends p e below F (s₁.setTop (mkF m 94 A27 [(.int v28)]))
          obtain ⟨A29, hA29⟩ : ∃ z : Array Slot, z = #[.val (.int p1), .val (.int p2), .val (.int p3), .val (.int p4), .val (.long p5), .second, .val (.long p6), .second, .val (.int v2), .val (.int v4), .val (.int z6), .val (.int z11), .val (.int z16), .val (.int z21), .val (.int v26), .val (.int v28), .unset, .unset, .unset, .unset, .unset, .unset, .unset, .unset, .unset, .unset, .unset] := ⟨_, rfl⟩
          refine own_step (fun _ k => XS.istore X0.here hx rfl (hb hby at_94) rfl (l' := A29) (by rw [hA27, hA29]; exact rfl) k) ?_
          show own_Ends p e below F (s₁.setTop (mkF m 96 A29 []))
          have ch15 := own_c8 ev28
          refine own_step (fun _ k => XS.iloadN X0.here hx rfl (hb hby at_96) (by rw [hA29]; rfl) k) ?_
          show own_Ends p e below F (s₁.setTop (mkF m 97 A29 [(.int p1)]))
          refine own_step (fun _ k => XS.bipush X0.here hx rfl (hb hby at_97) k) ?_
          show own_Ends p e below F (s₁.setTop (mkF m 99 A29 [(.int (16 : Int32)), (.int p1)]))
          refine own_step (fun _ k => XS.ishr X0.here hx rfl (hb hby at_99) rfl k) ?_
          show own_Ends p e below F (s₁.setTop (mkF m 100 A29 [(.int (p1 >>> ((16 : Int32) &&& 31)))]))
          refine own_step (fun _ k => XS.sipush X0.here hx rfl (hb hby at_100) k) ?_
          show own_Ends p e below F (s₁.setTop (mkF m 103 A29 [(.int (255 : Int32)), (.int (p1 >>> ((16 : Int32) &&& 31)))]))
          refine own_step (fun _ k => XS.iand X0.here hx rfl (hb hby at_103) rfl k) ?_
          show own_Ends p e below F (s₁.setTop (mkF m 104 A29 [(.int ((p1 >>> ((16 : Int32) &&& 31)) &&& (255 : Int32)))]))
          refine own_step (fun _ k => XS.i2c X0.here hx rfl (hb hby at_104) rfl k) ?_
          show own_Ends p e below F (s₁.setTop (mkF m 105 A29 [(.int (((p1 >>> ((16 : Int32) &&& 31)) &&& (255 : Int32)).toUInt32.toUInt16.toUInt32.toInt32))]))
          obtain ⟨v30, ev30⟩ : ∃ z : Int32, z = (((p1 >>> ((16 : Int32) &&& 31)) &&& (255 : Int32)).toUInt32.toUInt16.toUInt32.toInt32) := ⟨_, rfl⟩
          rw [← ev30]
          show own_Ends p e below F (s₁.setTop (mkF m 105 A29 [(.int v30)]))
          obtain ⟨A31, hA31⟩ : ∃ z : Array Slot, z = #[.val (.int p1), .val (.int p2), .val (.int p3), .val (.int p4), .val (.long p5), .second, .val (.long p6), .second, .val (.int v2), .val (.int v4), .val (.int z6), .val (.int z11), .val (.int z16), .val (.int z21), .val (.int v26), .val (.int v28), .val (.int v30), .unset, .unset, .unset, .unset, .unset, .unset, .unset, .unset, .unset, .unset] := ⟨_, rfl⟩
          refine own_step (fun _ k => XS.istore X0.here hx rfl (hb hby at_105) rfl (l' := A31) (by rw [hA29, hA31]; exact rfl) k) ?_
          show own_Ends p e below F (s₁.setTop (mkF m 107 A31 []))
          have ch16 := own_c8 ev30
          refine own_step (fun _ k => XS.iload X0.here hx rfl (hb hby at_107) (by rw [hA31]; rfl) k) ?_
          show own_Ends p e below F (s₁.setTop (mkF m 109 A31 [(.int z6)]))
          have J109_35 : ∀ (z32 : Int32) (z33 : Int32) (z34 : Int32) (hz32 : z32 = (if z6 = (0 : Int32) then ((p2 &&& (255 : Int32)).toUInt32.toUInt16.toUInt32.toInt32) else ((v26 ^^^ (p2 &&& (1 : Int32))).toUInt32.toUInt16.toUInt32.toInt32))) (hz33 : z33 = (if z6 = (0 : Int32) then (((p2 >>> ((8 : Int32) &&& 31)) &&& (255 : Int32)).toUInt32.toUInt16.toUInt32.toInt32) else ((v28 ^^^ ((p2 >>> ((1 : Int32) &&& 31)) &&& (1 : Int32))).toUInt32.toUInt16.toUInt32.toInt32))) (hz34 : z34 = (if z6 = (0 : Int32) then (((p2 >>> ((16 : Int32) &&& 31)) &&& (255 : Int32)).toUInt32.toUInt16.toUInt32.toInt32) else ((v30 ^^^ ((p2 >>> ((2 : Int32) &&& 31)) &&& (1 : Int32))).toUInt32.toUInt16.toUInt32.toInt32))), own_Ends p e below F (s₁.setTop (mkF m 176 #[.val (.int p1), .val (.int p2), .val (.int p3), .val (.int p4), .val (.long p5), .second, .val (.long p6), .second, .val (.int v2), .val (.int v4), .val (.int z6), .val (.int z11), .val (.int z16), .val (.int z21), .val (.int v26), .val (.int v28), .val (.int v30), .val (.int z32), .val (.int z33), .val (.int z34), .unset, .unset, .unset, .unset, .unset, .unset, .unset] [])) := by
            intro z32 z33 z34 hz32 hz33 hz34
            obtain ⟨A37, hA37⟩ : ∃ z : Array Slot, z = #[.val (.int p1), .val (.int p2), .val (.int p3), .val (.int p4), .val (.long p5), .second, .val (.long p6), .second, .val (.int v2), .val (.int v4), .val (.int z6), .val (.int z11), .val (.int z16), .val (.int z21), .val (.int v26), .val (.int v28), .val (.int v30), .val (.int z32), .val (.int z33), .val (.int z34), .unset, .unset, .unset, .unset, .unset, .unset, .unset] := ⟨_, rfl⟩
            rw [← hA37]
            show own_Ends p e below F (s₁.setTop (mkF m 176 A37 []))
            have ch17 := own_cnear ch14 hz32
            have ch18 := own_cnear ch15 hz33
            have ch19 := own_cnear ch16 hz34
            refine own_step (fun _ k => XS.iload X0.here hx rfl (hb hby at_176) (by rw [hA37]; rfl) k) ?_
            show own_Ends p e below F (s₁.setTop (mkF m 178 A37 [(.int v2)]))
            refine own_step (fun _ k => XS.iload X0.here hx rfl (hb hby at_178) (by rw [hA37]; rfl) k) ?_
            show own_Ends p e below F (s₁.setTop (mkF m 180 A37 [(.int v26), (.int v2)]))
            refine own_step (fun _ k => XS.iload X0.here hx rfl (hb hby at_180) (by rw [hA37]; rfl) k) ?_
            show own_Ends p e below F (s₁.setTop (mkF m 182 A37 [(.int v28), (.int v26), (.int v2)]))
            refine own_step (fun _ k => XS.iload X0.here hx rfl (hb hby at_182) (by rw [hA37]; rfl) k) ?_
            show own_Ends p e below F (s₁.setTop (mkF m 184 A37 [(.int v30), (.int v28), (.int v26), (.int v2)]))
            obtain ⟨_, _, ⟨T38, L38, k38, n38⟩, -, X38, hS38, gr38, ⟨Lc38, hQ38, l38, y38, z38, hr38⟩, st38⟩ := callSS X0 hx (y := (⟨"com/example/pledger/pledger/model/AccountIsOpenedAsPinLaw", "mk", "(ICCC)Ljava/lang/String;"⟩ : MethodName)) hown (mvT hZ (own_g hw 0 rfl)) (mvT hZ (own_g hw 1 rfl)) (mvT hZ (own_g hw 2 rfl)) (mvT hZ (own_g hw 3 rfl)) (by decide) (backOfSH (W := 0) (rm1 l Z a0 hw [] v2 v26 v28 v30 zc h0 n0 Z0 SC hz ch14 ch15 ch16) hZ (own_g hw 3 rfl) (own_g hw 2 rfl) (by decide) (by decide) (own_EW hw) hC0.1) (g := (mkF m 184 A37 [(.int v30), (.int v28), (.int v26), (.int v2)])) rfl (by rw [hml]; show A37.size = _; rw [hA37]; rfl) (argsL := [(.int v2), (.int v26), (.int v28), (.int v30)]) (rest := []) (lenOf pd__28ICCC_29Ljava_2flang_2fString_3b rfl) rfl (by show 2 * 0 + _ ≤ _; exact Nat.le_of_eq rfl) (hb hby at_184) (fun _ _ => ⟨rfl, e0, (by decide : 0 + 6 ≤ _), (by decide : 0 + 12 ≤ _)⟩)
            dsimp only [Pt.U, Pt.locs, Pt.cells, Pt.slots] at X38 l38 y38 z38 st38 hQ38 hS38 gr38 hr38
            subst l38 y38 z38
            obtain ⟨c38, rfl, Nq38, Kq38, fq0_38, fq1_38⟩ := hQ38
            have N38 := Fr.app N0 Nq38
            have Z38 : n0 ≤ T38.heap.size := Nat.le_trans Z0 Kq38.1
            have SZ38 : h0.size ≤ T38.heap.size := Nat.le_trans (Nat.le_refl h0.size) Kq38.1
            have S0_38 := own_Sta_keep SC Kq38 all0
            have ge_c38 : n0 ≤ c38 := Nat.le_trans Z0 fq0_38
            have sz_c38 : h0.size ≤ c38 := Nat.le_trans (Nat.le_refl h0.size) fq0_38
            have str38 := fq1_38
            have fe38 := str38.exa
            have hC38 := hC0.trans hr38
            have hZ := own_warm hZ hS38
            have hown := own_find hown hS38
            have hS := foldS hS (by rw [e0]; exact hk) hS38 gr38
            have hk := Nat.le_refl T38.heap.size
            refine own_trans st38 ?_
            show own_Ends p e below F (T38.setTop (mkF m 187 A37 [(.ref c38)]))
            obtain ⟨A39, hA39⟩ : ∃ z : Array Slot, z = #[.val (.int p1), .val (.int p2), .val (.int p3), .val (.int p4), .val (.long p5), .second, .val (.long p6), .second, .val (.int v2), .val (.int v4), .val (.int z6), .val (.int z11), .val (.int z16), .val (.int z21), .val (.int v26), .val (.int v28), .val (.int v30), .val (.int z32), .val (.int z33), .val (.int z34), .val (.ref c38), .unset, .unset, .unset, .unset, .unset, .unset] := ⟨_, rfl⟩
            refine own_step (fun _ k => XS.astore X38.here hx rfl (hb hby at_187) rfl rfl (l' := A39) (by rw [hA37, hA39]; exact rfl) k) ?_
            show own_Ends p e below F (T38.setTop (mkF m 189 A39 []))
            refine own_step (fun _ k => XS.iload X38.here hx rfl (hb hby at_189) (by rw [hA39]; rfl) k) ?_
            show own_Ends p e below F (T38.setTop (mkF m 191 A39 [(.int z21)]))
            by_cases c191_40 : z21 = (0 : Int32)
            · refine own_step (fun _ k => XS.ifYes X38.here hx rfl (pc0 := 191) (pc' := 198) rfl (hb hby at_191) rfl ((if0 _ _).trans (teq c191_40).1) (by decide) (by decide) k) ?_
              show own_Ends p e below F (T38.setTop (mkF m 198 A39 []))
              refine own_step (fun _ k => XS.iload X38.here hx rfl (hb hby at_198) (by rw [hA39]; rfl) k) ?_
              show own_Ends p e below F (T38.setTop (mkF m 200 A39 [(.int v4)]))
              refine own_step (fun _ k => XS.iload X38.here hx rfl (hb hby at_200) (by rw [hA39]; rfl) k) ?_
              show own_Ends p e below F (T38.setTop (mkF m 202 A39 [(.int z32), (.int v4)]))
              refine own_step (fun _ k => XS.iload X38.here hx rfl (hb hby at_202) (by rw [hA39]; rfl) k) ?_
              show own_Ends p e below F (T38.setTop (mkF m 204 A39 [(.int z33), (.int z32), (.int v4)]))
              refine own_step (fun _ k => XS.iload X38.here hx rfl (hb hby at_204) (by rw [hA39]; rfl) k) ?_
              show own_Ends p e below F (T38.setTop (mkF m 206 A39 [(.int z34), (.int z33), (.int z32), (.int v4)]))
              obtain ⟨_, _, ⟨T41, L41, k41, n41⟩, -, X41, hS41, gr41, ⟨Lc41, hQ41, l41, y41, z41, hr41⟩, st41⟩ := callSS X38 hx (y := (⟨"com/example/pledger/pledger/model/AccountIsOpenedAsPinLaw", "mk", "(ICCC)Ljava/lang/String;"⟩ : MethodName)) hown (mvT hZ (own_g hw 0 rfl)) (mvT hZ (own_g hw 1 rfl)) (mvT hZ (own_g hw 2 rfl)) (mvT hZ (own_g hw 3 rfl)) (by decide) (backOfSH (W := 0) (rm1 l Z a0 hw [] v4 z32 z33 z34 zc T38.heap n0 Z38 S0_38 hz ch17 ch18 ch19) hZ (own_g hw 3 rfl) (own_g hw 2 rfl) (by decide) (by decide) (own_EW hw) hC38.1) (g := (mkF m 206 A39 [(.int z34), (.int z33), (.int z32), (.int v4)])) rfl (by rw [hml]; show A39.size = _; rw [hA39]; rfl) (argsL := [(.int v4), (.int z32), (.int z33), (.int z34)]) (rest := []) (lenOf pd__28ICCC_29Ljava_2flang_2fString_3b rfl) rfl (by show 2 * 0 + _ ≤ _; exact Nat.le_of_eq rfl) (hb hby at_206) (fun _ _ => ⟨rfl, rfl, (by decide : 6 + 6 ≤ _), (by decide : 12 + 12 ≤ _)⟩)
              dsimp only [Pt.U, Pt.locs, Pt.cells, Pt.slots] at X41 l41 y41 z41 st41 hQ41 hS41 gr41 hr41
              subst l41 y41 z41
              obtain ⟨c41, rfl, Nq41, Kq41, fq0_41, fq1_41⟩ := hQ41
              have N41 := Fr.app N38 Nq41
              have Z41 : n0 ≤ T41.heap.size := Nat.le_trans Z38 Kq41.1
              have SZ41 : h0.size ≤ T41.heap.size := Nat.le_trans SZ38 Kq41.1
              have S0_41 := own_Sta_keep S0_38 Kq41 all0
              have bd41_c41_T38_heap_size : T38.heap.size ≤ c41 := Nat.le_trans (Nat.le_refl T38.heap.size) fq0_41
              have ne_c38_c41 : c38 ≠ c41 := Nat.ne_of_lt (Nat.lt_of_lt_of_le (str38).lt fq0_41)
              have ge_c41 : n0 ≤ c41 := Nat.le_trans Z38 fq0_41
              have sz_c41 : h0.size ≤ c41 := Nat.le_trans SZ38 fq0_41
              have str41 := fq1_41
              have fe41 := str41.exa
              have hC41 := hC38.trans hr41
              have hZ := own_warm hZ hS41
              have hown := own_find hown hS41
              have hS := foldS hS (by exact hk) hS41 gr41
              have hk := Nat.le_refl T41.heap.size
              refine own_trans st41 ?_
              show own_Ends p e below F (T41.setTop (mkF m 209 A39 [(.ref c41)]))
              obtain ⟨A42, hA42⟩ : ∃ z : Array Slot, z = #[.val (.int p1), .val (.int p2), .val (.int p3), .val (.int p4), .val (.long p5), .second, .val (.long p6), .second, .val (.int v2), .val (.int v4), .val (.int z6), .val (.int z11), .val (.int z16), .val (.int z21), .val (.int v26), .val (.int v28), .val (.int v30), .val (.int z32), .val (.int z33), .val (.int z34), .val (.ref c38), .val (.ref c41), .unset, .unset, .unset, .unset, .unset] := ⟨_, rfl⟩
              refine own_step (fun _ k => XS.astore X41.here hx rfl (hb hby at_209) rfl rfl (l' := A42) (by rw [hA39, hA42]; exact rfl) k) ?_
              show own_Ends p e below F (T41.setTop (mkF m 211 A42 []))
              refine own_step (fun _ k => XS.iloadN X41.here hx rfl (hb hby at_211) (by rw [hA42]; rfl) k) ?_
              show own_Ends p e below F (T41.setTop (mkF m 212 A42 [(.int p4)]))
              refine own_step (fun _ k => XS.sipush X41.here hx rfl (hb hby at_212) k) ?_
              show own_Ends p e below F (T41.setTop (mkF m 215 A42 [(.int (255 : Int32)), (.int p4)]))
              refine own_step (fun _ k => XS.iand X41.here hx rfl (hb hby at_215) rfl k) ?_
              show own_Ends p e below F (T41.setTop (mkF m 216 A42 [(.int (p4 &&& (255 : Int32)))]))
              refine own_step (fun _ k => XS.i2c X41.here hx rfl (hb hby at_216) rfl k) ?_
              show own_Ends p e below F (T41.setTop (mkF m 217 A42 [(.int ((p4 &&& (255 : Int32)).toUInt32.toUInt16.toUInt32.toInt32))]))
              obtain ⟨v43, ev43⟩ : ∃ z : Int32, z = ((p4 &&& (255 : Int32)).toUInt32.toUInt16.toUInt32.toInt32) := ⟨_, rfl⟩
              rw [← ev43]
              show own_Ends p e below F (T41.setTop (mkF m 217 A42 [(.int v43)]))
              have ch217 := own_c8 ev43
              obtain ⟨_, _, ⟨T44, L44, k44, n44⟩, -, X44, ⟨Lc44, hQ44, l44, y44, z44⟩, st44⟩ := Jvm.LawKit.callS X41 hx (y := (⟨"java/lang/String", "valueOf", "(C)Ljava/lang/String;"⟩ : MethodName)) hown (mvT hZ (own_g hw 37 rfl)) (mvT hZ (own_g hw 38 rfl)) (mvT hZ (own_g hw 6 rfl)) (mvT hZ (own_g hw 39 rfl)) (by decide) (backOf (W := 0) (rm8 l Z a0 hw [] v43 zc T41.heap n0 Z41 S0_41 hz ch217) hZ (own_g hw 39 rfl) (own_g hw 6 rfl) (by decide) (by decide)) (g := (mkF m 217 A42 [(.int v43)])) rfl (by rw [hml]; show A42.size = _; rw [hA42]; rfl) (argsL := [(.int v43)]) (rest := []) (lenOf pd__28C_29Ljava_2flang_2fString_3b rfl) rfl (by show 2 * 0 + _ ≤ _; exact Nat.le_of_eq rfl) (hb hby at_217) (fun _ _ => ⟨rfl, rfl, (by decide : 12 + 2 ≤ _), (by decide : 24 + 5 ≤ _)⟩)
              dsimp only [Pt.U, Pt.locs, Pt.cells, Pt.slots] at X44 l44 y44 z44 st44 hQ44
              subst l44 y44 z44
              obtain ⟨c44, rfl, Nq44, Kq44, fq0_44, fq1_44⟩ := hQ44
              have N44 := Fr.app N41 Nq44
              have Z44 : n0 ≤ T44.heap.size := Nat.le_trans Z41 Kq44.1
              have SZ44 : h0.size ≤ T44.heap.size := Nat.le_trans SZ41 Kq44.1
              have S0_44 := own_Sta_keep S0_41 Kq44 all0
              have bd44_c44_T38_heap_size : T38.heap.size ≤ c44 := Nat.le_trans (Nat.le_trans (Nat.le_refl T38.heap.size) Kq41.1) fq0_44
              have bd44_c44_T41_heap_size : T41.heap.size ≤ c44 := Nat.le_trans (Nat.le_refl T41.heap.size) fq0_44
              have ne_c38_c44 : c38 ≠ c44 := Nat.ne_of_lt (Nat.lt_of_lt_of_le ((own_Str.keep str38 Kq41 all0)).lt fq0_44)
              have ne_c41_c44 : c41 ≠ c44 := Nat.ne_of_lt (Nat.lt_of_lt_of_le (str41).lt fq0_44)
              have ge_c44 : n0 ≤ c44 := Nat.le_trans Z41 fq0_44
              have sz_c44 : h0.size ≤ c44 := Nat.le_trans SZ41 fq0_44
              have str44 := fq1_44
              have fe44 := str44.exa
              have hr44 := CHr.keep Kq44 sf0 hC41.1
              have hC44 := hC41.trans hr44
              have hk := Nat.le_trans hk Kq44.1
              refine own_step st44 ?_
              show own_Ends p e below F (T44.setTop (mkF m 220 A42 [(.ref c44)]))
              obtain ⟨A45, hA45⟩ : ∃ z : Array Slot, z = #[.val (.int p1), .val (.int p2), .val (.int p3), .val (.int p4), .val (.long p5), .second, .val (.long p6), .second, .val (.int v2), .val (.int v4), .val (.int z6), .val (.int z11), .val (.int z16), .val (.int z21), .val (.int v26), .val (.int v28), .val (.int v30), .val (.int z32), .val (.int z33), .val (.int z34), .val (.ref c38), .val (.ref c41), .val (.ref c44), .unset, .unset, .unset, .unset] := ⟨_, rfl⟩
              refine own_step (fun _ k => XS.astore X44.here hx rfl (hb hby at_220) rfl rfl (l' := A45) (by rw [hA42, hA45]; exact rfl) k) ?_
              show own_Ends p e below F (T44.setTop (mkF m 222 A45 []))
              obtain ⟨T46, h46, X46, e46, E46, A46, D46, -, st46⟩ := newO X44 hx hZ hown (own_g hw 51 rfl) (own_g hw 52 rfl) (own_g hw 53 rfl) rfl (g := (mkF m 222 A45 [])) rfl (hb hby at_222) (by decide) (by decide)
              obtain ⟨a46, g46⟩ : ∃ z, z = T44.heap.size := ⟨_, rfl⟩
              rw [← g46] at A46 D46 st46
              have ge_a46 : n0 ≤ a46 := Nat.le_trans Z44 (Nat.le_of_eq g46.symm)
              have sz_a46 : h0.size ≤ a46 := Nat.le_trans SZ44 (Nat.le_of_eq g46.symm)
              have ne_c38_a46 : c38 ≠ a46 := Nat.ne_of_lt (by rw [g46]; exact (own_Str.keep (own_Str.keep str38 Kq41 all0) Kq44 all0).lt)
              have ne_c41_a46 : c41 ≠ a46 := Nat.ne_of_lt (by rw [g46]; exact (own_Str.keep str41 Kq44 all0).lt)
              have ne_c44_a46 : c44 ≠ a46 := Nat.ne_of_lt (by rw [g46]; exact str44.lt)
              have bd46_T38_heap_size : T38.heap.size ≤ a46 := by rw [g46]; exact (Nat.le_trans (Nat.le_trans (Nat.le_refl T38.heap.size) Kq41.1) Kq44.1)
              have bd46_T41_heap_size : T41.heap.size ≤ a46 := by rw [g46]; exact (Nat.le_trans (Nat.le_refl T41.heap.size) Kq44.1)
              have bd46_T44_heap_size : T44.heap.size ≤ a46 := by rw [g46]; exact (Nat.le_refl T44.heap.size)
              have Z46 : n0 ≤ h46.size := Nat.le_trans Z44 E46.1
              have SZ46 : h0.size ≤ h46.size := Nat.le_trans SZ44 E46.1
              have hk := Nat.le_trans hk E46.1
              have hr46 := CHr.ext E46 hC44.1
              have hC46 := hC44.trans hr46
              have F46_id : Fld Z h46 a46 "com/example/pledger/pledger/model/Account" "id" "Ljava/lang/String;" .null := D46 (Or.inr (own_g hw 64 rfl)) (ty := (.object "java/lang/String")) (by decide)
              have F46_currency : Fld Z h46 a46 "com/example/pledger/pledger/model/Account" "currency" "Ljava/lang/String;" .null := D46 (Or.inr (own_g hw 66 rfl)) (ty := (.object "java/lang/String")) (by decide)
              have F46_allowNegative : Fld Z h46 a46 "com/example/pledger/pledger/model/Account" "allowNegative" "Z" (.int (0 : Int32)) := D46 (Or.inr (own_g hw 68 rfl)) (ty := .boolean) (by decide)
              have F46_balance : Fld Z h46 a46 "com/example/pledger/pledger/model/Account" "balance" "J" (.long (0 : Int64)) := D46 (Or.inr (own_g hw 70 rfl)) (ty := .long) (by decide)
              have F46_reserved : Fld Z h46 a46 "com/example/pledger/pledger/model/Account" "reserved" "J" (.long (0 : Int64)) := D46 (Or.inr (own_g hw 72 rfl)) (ty := .long) (by decide)
              have sf_a46 : own_SL Z own_EL T41.vm h46 a46 := own_SL.born hC44.1 E46 g46 A46.lt
              refine own_step st46 ?_
              show own_Ends p e below F (T46.setTop (mkF m 225 A45 [(.ref a46)]))
              refine own_step (fun _ k => XS.dup X46.here hx rfl (hb hby at_225) rfl rfl k) ?_
              show own_Ends p e below F (T46.setTop (mkF m 226 A45 [(.ref a46), (.ref a46)]))
              refine own_step (fun _ k => XS.aload X46.here hx rfl (hb hby at_226) (by rw [hA45]; rfl) rfl k) ?_
              show own_Ends p e below F (T46.setTop (mkF m 228 A45 [(.ref c44), (.ref a46), (.ref a46)]))
              refine own_step (fun _ k => XS.aload X46.here hx rfl (hb hby at_228) (by rw [hA45]; rfl) rfl k) ?_
              show own_Ends p e below F (T46.setTop (mkF m 230 A45 [(.ref c38), (.ref c44), (.ref a46), (.ref a46)]))
              refine own_step (fun _ k => XS.iload X46.here hx rfl (hb hby at_230) (by rw [hA45]; rfl) k) ?_
              show own_Ends p e below F (T46.setTop (mkF m 232 A45 [(.int z11), (.ref c38), (.ref c44), (.ref a46), (.ref a46)]))
              refine own_step (fun _ k => XS.lload X46.here hx rfl (hb hby at_232) (by rw [hA45]; rfl) k) ?_
              show own_Ends p e below F (T46.setTop (mkF m 234 A45 [(.long p5), (.int z11), (.ref c38), (.ref c44), (.ref a46), (.ref a46)]))
              refine own_step (fun _ k => XS.lload X46.here hx rfl (hb hby at_234) (by rw [hA45]; rfl) k) ?_
              show own_Ends p e below F (T46.setTop (mkF m 236 A45 [(.long p6), (.long p5), (.int z11), (.ref c38), (.ref c44), (.ref a46), (.ref a46)]))
              obtain ⟨_, _, ⟨T47, L47, k47, n47⟩, -, X47, ⟨Lc47, hQ47, l47, y47, z47⟩, st47⟩ := X46.specialBack hx (y := (⟨"com/example/pledger/pledger/model/Account", "<init>", "(Ljava/lang/String;Ljava/lang/String;ZJJ)V"⟩ : MethodName)) rfl hown (mvT hZ (own_g hw 54 rfl)) (mvT hZ (own_g hw 55 rfl)) (mvT hZ (own_g hw 56 rfl)) (by decide) (backOf (W := 1) (rm12 l Z a0 hw [] a46 c44 c38 z11 p5 p6 h46 n0 Z46 A46 ge_a46 F46_id F46_currency F46_allowNegative F46_balance F46_reserved) hZ (own_g hw 56 rfl) (own_g hw 53 rfl) (by decide) (by decide)) (g := (mkF m 236 A45 [(.long p6), (.long p5), (.int z11), (.ref c38), (.ref c44), (.ref a46), (.ref a46)])) rfl (by rw [hml]; show A45.size = _; rw [hA45]; rfl) (Steps.refl _) (a := a46) (argsL := [(.ref c44), (.ref c38), (.int z11), (.long p5), (.long p6)]) (rest := [(.ref a46)]) (lenOf pd__28Ljava_2flang_2fString_3bLjava_2flang_2fString_3bZJJ_29V rfl) rfl (by show 2 * 0 + _ ≤ _; exact Nat.le_of_eq rfl) (hb hby at_236) (fun _ _ => ⟨rfl, e46, (by decide : 15 + 0 ≤ _), (by decide : 34 + 0 ≤ _)⟩)
              dsimp only [Pt.U, Pt.locs, Pt.cells, Pt.slots] at X47 l47 y47 z47 st47 hQ47
              subst l47 y47 z47
              obtain ⟨rfl, Nq47, Kq47, fq0_47, fq1_47, fq2_47, fq3_47, fq4_47, fq5_47⟩ := hQ47
              have N47 := Fr.app N44 Nq47
              have Z47 : n0 ≤ T47.heap.size := Nat.le_trans Z46 Kq47.1
              have SZ47 : h0.size ≤ T47.heap.size := Nat.le_trans SZ46 Kq47.1
              have S0_47 := own_Sta_keep (Sta.ext E46 S0_44) Kq47 (allS (own_ns_exa A46) all0)
              have hr47 := CHr.keep Kq47 (sfS sf_a46.2 sf0) hC46.1
              have hC47 := hC46.trans hr47
              have hk := Nat.le_trans hk Kq47.1
              refine own_trans st47 ?_
              show own_Ends p e below F (T47.setTop (mkF m 239 A45 [(.ref a46)]))
              obtain ⟨A48, hA48⟩ : ∃ z : Array Slot, z = #[.val (.int p1), .val (.int p2), .val (.int p3), .val (.int p4), .val (.long p5), .second, .val (.long p6), .second, .val (.int v2), .val (.int v4), .val (.int z6), .val (.int z11), .val (.int z16), .val (.int z21), .val (.int v26), .val (.int v28), .val (.int v30), .val (.int z32), .val (.int z33), .val (.int z34), .val (.ref c38), .val (.ref c41), .val (.ref c44), .val (.ref a46), .unset, .unset, .unset] := ⟨_, rfl⟩
              refine own_step (fun _ k => XS.astore X47.here hx rfl (hb hby at_239) rfl rfl (l' := A48) (by rw [hA45, hA48]; exact rfl) k) ?_
              show own_Ends p e below F (T47.setTop (mkF m 241 A48 []))
              refine own_step (fun _ k => XS.aload X47.here hx rfl (hb hby at_241) (by rw [hA48]; rfl) rfl k) ?_
              show own_Ends p e below F (T47.setTop (mkF m 243 A48 [(.ref a46)]))
              refine own_step (fun _ k => XS.aload X47.here hx rfl (hb hby at_243) (by rw [hA48]; rfl) rfl k) ?_
              show own_Ends p e below F (T47.setTop (mkF m 245 A48 [(.ref c41), (.ref a46)]))
              refine own_step (fun _ k => XS.iload X47.here hx rfl (hb hby at_245) (by rw [hA48]; rfl) k) ?_
              show own_Ends p e below F (T47.setTop (mkF m 247 A48 [(.int z16), (.ref c41), (.ref a46)]))
              obtain ⟨cq49, kq49, qa49, qb49, qc49⟩ := isOf hZ rfl fq0_47
              obtain ⟨_, _, ⟨T49, L49, k49, n49⟩, -, X49, ⟨Lc49, hQ49, l49, y49, z49⟩, st49⟩ := X47.virtualBack hx (y := (⟨"com/example/pledger/pledger/model/Account", "isOpenedAs", "(Ljava/lang/String;Z)Z"⟩ : MethodName)) (z := (⟨"com/example/pledger/pledger/model/Account", "isOpenedAs", "(Ljava/lang/String;Z)Z"⟩ : MethodName)) hown (mvT hZ (own_g hw 73 rfl)) (mvT hZ (own_g hw 74 rfl)) (notFace_of_selects (args := #[]) (mvT hZ (own_g hw 76 rfl))) (mvT hZ (own_g hw 76 rfl)) (mvT hZ (own_g hw 75 rfl)) (by decide) (backOf (W := 0) (rm14s l Z a0 hw [] a46 c38 c41 (nar .boolean z11) z16 (own_cs v2 v26 v28 v30) (own_cs v4 z32 z33 z34) T47.heap.size zc T47.heap n0 Z47 S0_47 hz fq2_47 fq3_47 (own_Str.top (own_Str.keep ((own_Str.keep (own_Str.keep str38 Kq41 all0) Kq44 all0).ext E46) Kq47 (allS bd46_T38_heap_size all0))) (own_cslen _ _ _ _) (own_Str.top (own_Str.keep ((own_Str.keep str41 Kq44 all0).ext E46) Kq47 (allS bd46_T41_heap_size all0))) (own_cslen _ _ _ _)) hZ (own_g hw 77 rfl) (own_g hw 53 rfl) (by decide) (by decide)) qa49 qc49 (g := (mkF m 247 A48 [(.int z16), (.ref c41), (.ref a46)])) rfl (by rw [hml]; show A48.size = _; rw [hA48]; rfl) (Steps.refl _) (argsL := [(.ref c41), (.int z16)]) (rest := []) (lenOf pd__28Ljava_2flang_2fString_3bZ_29Z rfl) rfl (by show 2 * 0 + _ ≤ _; exact Nat.le_of_eq rfl) (hb hby at_247) (fun _ _ => ⟨rfl, rfl, (by decide : 15 + 0 ≤ _), (by decide : 34 + 0 ≤ _)⟩)
              dsimp only [Pt.U, Pt.locs, Pt.cells, Pt.slots] at X49 l49 y49 z49 st49 hQ49
              subst l49 y49 z49
              obtain ⟨rfl, Nq49, eq49⟩ := hQ49
              have N49 := Fr.app N47 Nq49
              refine own_trans st49 ?_
              show own_Ends p e below F (T49.setTop (mkF m 250 A48 [(.int (own_op (own_cs v2 v26 v28 v30) (own_cs v4 z32 z33 z34) (nar .boolean z11) z16))]))
              obtain ⟨A50, hA50⟩ : ∃ z : Array Slot, z = #[.val (.int p1), .val (.int p2), .val (.int p3), .val (.int p4), .val (.long p5), .second, .val (.long p6), .second, .val (.int v2), .val (.int v4), .val (.int z6), .val (.int z11), .val (.int z16), .val (.int z21), .val (.int v26), .val (.int v28), .val (.int v30), .val (.int z32), .val (.int z33), .val (.int z34), .val (.ref c38), .val (.ref c41), .val (.ref c44), .val (.ref a46), .val (.int (own_op (own_cs v2 v26 v28 v30) (own_cs v4 z32 z33 z34) (nar .boolean z11) z16)), .unset, .unset] := ⟨_, rfl⟩
              refine own_step (fun _ k => XS.istore X49.here hx rfl (hb hby at_250) rfl (l' := A50) (by rw [hA48, hA50]; exact rfl) k) ?_
              show own_Ends p e below F (T49.setTop (mkF m 252 A50 []))
              refine own_step (fun _ k => XS.iload X49.here hx rfl (hb hby at_252) (by rw [hA50]; rfl) k) ?_
              show own_Ends p e below F (T49.setTop (mkF m 254 A50 [(.int z21)]))
              refine own_step (fun _ k => XS.ifNo X49.here hx rfl (hb hby at_254) rfl ((if0 _ _).trans (teq c191_40).2) k) ?_
              show own_Ends p e below F (T49.setTop (mkF m 257 A50 []))
              refine own_step (fun _ k => XS.iload X49.here hx rfl (hb hby at_257) (by rw [hA50]; rfl) k) ?_
              show own_Ends p e below F (T49.setTop (mkF m 259 A50 [(.int v2)]))
              refine own_step (fun _ k => XS.iload X49.here hx rfl (hb hby at_259) (by rw [hA50]; rfl) k) ?_
              show own_Ends p e below F (T49.setTop (mkF m 261 A50 [(.int v4), (.int v2)]))
              have J261_52 : ∀ (z51 : Int32) (hz51 : z51 = (if v2 = v4 then (if v2 < (1 : Int32) then (if v2 < (2 : Int32) then (if v2 < (3 : Int32) then (1 : Int32) else (if v30 = z34 then (1 : Int32) else (0 : Int32))) else (if v28 = z33 then (if v2 < (3 : Int32) then (1 : Int32) else (if v30 = z34 then (1 : Int32) else (0 : Int32))) else (0 : Int32))) else (if v26 = z32 then (if v2 < (2 : Int32) then (if v2 < (3 : Int32) then (1 : Int32) else (if v30 = z34 then (1 : Int32) else (0 : Int32))) else (if v28 = z33 then (if v2 < (3 : Int32) then (1 : Int32) else (if v30 = z34 then (1 : Int32) else (0 : Int32))) else (0 : Int32))) else (0 : Int32))) else (0 : Int32))), own_Ends p e below F (T49.setTop (mkF m 308 #[.val (.int p1), .val (.int p2), .val (.int p3), .val (.int p4), .val (.long p5), .second, .val (.long p6), .second, .val (.int v2), .val (.int v4), .val (.int z6), .val (.int z11), .val (.int z16), .val (.int z21), .val (.int v26), .val (.int v28), .val (.int v30), .val (.int z32), .val (.int z33), .val (.int z34), .val (.ref c38), .val (.ref c41), .val (.ref c44), .val (.ref a46), .val (.int (own_op (own_cs v2 v26 v28 v30) (own_cs v4 z32 z33 z34) (nar .boolean z11) z16)), .unset, .unset] [(.int z51)])) := by
                intro z51 hz51
                obtain ⟨A54, hA54⟩ : ∃ z : Array Slot, z = #[.val (.int p1), .val (.int p2), .val (.int p3), .val (.int p4), .val (.long p5), .second, .val (.long p6), .second, .val (.int v2), .val (.int v4), .val (.int z6), .val (.int z11), .val (.int z16), .val (.int z21), .val (.int v26), .val (.int v28), .val (.int v30), .val (.int z32), .val (.int z33), .val (.int z34), .val (.ref c38), .val (.ref c41), .val (.ref c44), .val (.ref a46), .val (.int (own_op (own_cs v2 v26 v28 v30) (own_cs v4 z32 z33 z34) (nar .boolean z11) z16)), .unset, .unset] := ⟨_, rfl⟩
                rw [← hA54]
                show own_Ends p e below F (T49.setTop (mkF m 308 A54 [(.int z51)]))
                obtain ⟨A55, hA55⟩ : ∃ z : Array Slot, z = #[.val (.int p1), .val (.int p2), .val (.int p3), .val (.int p4), .val (.long p5), .second, .val (.long p6), .second, .val (.int v2), .val (.int v4), .val (.int z6), .val (.int z11), .val (.int z16), .val (.int z21), .val (.int v26), .val (.int v28), .val (.int v30), .val (.int z32), .val (.int z33), .val (.int z34), .val (.ref c38), .val (.ref c41), .val (.ref c44), .val (.ref a46), .val (.int (own_op (own_cs v2 v26 v28 v30) (own_cs v4 z32 z33 z34) (nar .boolean z11) z16)), .val (.int z51), .unset] := ⟨_, rfl⟩
                refine own_step (fun _ k => XS.istore X49.here hx rfl (hb hby at_308) rfl (l' := A55) (by rw [hA54, hA55]; exact rfl) k) ?_
                show own_Ends p e below F (T49.setTop (mkF m 310 A55 []))
                refine own_step (fun _ k => XS.iload X49.here hx rfl (hb hby at_310) (by rw [hA55]; rfl) k) ?_
                show own_Ends p e below F (T49.setTop (mkF m 312 A55 [(.int z51)]))
                have J312_57 : ∀ (z56 : Int32) (hz56 : z56 = (if z51 = (0 : Int32) then (0 : Int32) else (if z11 = z16 then (1 : Int32) else (0 : Int32)))), own_Ends p e below F (T49.setTop (mkF m 327 #[.val (.int p1), .val (.int p2), .val (.int p3), .val (.int p4), .val (.long p5), .second, .val (.long p6), .second, .val (.int v2), .val (.int v4), .val (.int z6), .val (.int z11), .val (.int z16), .val (.int z21), .val (.int v26), .val (.int v28), .val (.int v30), .val (.int z32), .val (.int z33), .val (.int z34), .val (.ref c38), .val (.ref c41), .val (.ref c44), .val (.ref a46), .val (.int (own_op (own_cs v2 v26 v28 v30) (own_cs v4 z32 z33 z34) (nar .boolean z11) z16)), .val (.int z51), .unset] [(.int z56)])) := by
                  intro z56 hz56
                  obtain ⟨A59, hA59⟩ : ∃ z : Array Slot, z = #[.val (.int p1), .val (.int p2), .val (.int p3), .val (.int p4), .val (.long p5), .second, .val (.long p6), .second, .val (.int v2), .val (.int v4), .val (.int z6), .val (.int z11), .val (.int z16), .val (.int z21), .val (.int v26), .val (.int v28), .val (.int v30), .val (.int z32), .val (.int z33), .val (.int z34), .val (.ref c38), .val (.ref c41), .val (.ref c44), .val (.ref a46), .val (.int (own_op (own_cs v2 v26 v28 v30) (own_cs v4 z32 z33 z34) (nar .boolean z11) z16)), .val (.int z51), .unset] := ⟨_, rfl⟩
                  rw [← hA59]
                  show own_Ends p e below F (T49.setTop (mkF m 327 A59 [(.int z56)]))
                  obtain ⟨A60, hA60⟩ : ∃ z : Array Slot, z = #[.val (.int p1), .val (.int p2), .val (.int p3), .val (.int p4), .val (.long p5), .second, .val (.long p6), .second, .val (.int v2), .val (.int v4), .val (.int z6), .val (.int z11), .val (.int z16), .val (.int z21), .val (.int v26), .val (.int v28), .val (.int v30), .val (.int z32), .val (.int z33), .val (.int z34), .val (.ref c38), .val (.ref c41), .val (.ref c44), .val (.ref a46), .val (.int (own_op (own_cs v2 v26 v28 v30) (own_cs v4 z32 z33 z34) (nar .boolean z11) z16)), .val (.int z51), .val (.int z56)] := ⟨_, rfl⟩
                  refine own_step (fun _ k => XS.istore X49.here hx rfl (hb hby at_327) rfl (l' := A60) (by rw [hA59, hA60]; exact rfl) k) ?_
                  show own_Ends p e below F (T49.setTop (mkF m 329 A60 []))
                  refine own_step (fun _ k => XS.iload X49.here hx rfl (hb hby at_329) (by rw [hA60]; rfl) k) ?_
                  show own_Ends p e below F (T49.setTop (mkF m 331 A60 [(.int (own_op (own_cs v2 v26 v28 v30) (own_cs v4 z32 z33 z34) (nar .boolean z11) z16))]))
                  refine own_step (fun _ k => XS.iload X49.here hx rfl (hb hby at_331) (by rw [hA60]; rfl) k) ?_
                  show own_Ends p e below F (T49.setTop (mkF m 333 A60 [(.int z56), (.int (own_op (own_cs v2 v26 v28 v30) (own_cs v4 z32 z33 z34) (nar .boolean z11) z16))]))
                  refine own_step (fun _ k => XS.icmpNo X49.here hx rfl (hb hby at_333) rfl (teq (own_main ev2 ev4 hz11 hz16 hz51 hz56 : (own_op (own_cs v2 v26 v28 v30) (own_cs v4 z32 z33 z34) (nar .boolean z11) z16) = z56)).2 k) ?_
                  show own_Ends p e below F (T49.setTop (mkF m 336 A60 []))
                  refine own_step (fun _ k => XS.iconst X49.here hx rfl (hb hby at_336) k) ?_
                  show own_Ends p e below F (T49.setTop (mkF m 337 A60 [(.int (1 : Int32))]))
                  refine own_step (fun _ k => XS.goto X49.here hx rfl (pc0 := 337) (pc' := 341) rfl (hb hby at_337) (by decide) (by decide) k) ?_
                  show own_Ends p e below F (T49.setTop (mkF m 341 A60 [(.int (1 : Int32))]))
                  rw [hF]
                  exact own_retH X49 hS (by rw [eq49]; exact hk) hh eq49 hZ (own_EW hw) hC47 (v := (some (.int (nar .boolean (1 : Int32))))) (fun h => by rw [Bd.returns] at h; cases h) Bd.notSynchronized (fun fs hr => retN X49 hx (t := .boolean) Bd.returns (by simp) (hb hby at_341) hr) (by decide) (by decide) (by rw [eq49]; exact ⟨rfl, N49⟩)
                by_cases c312_61 : z51 = (0 : Int32)
                · refine own_step (fun _ k => XS.ifYes X49.here hx rfl (pc0 := 312) (pc' := 326) rfl (hb hby at_312) rfl ((if0 _ _).trans (teq c312_61).1) (by decide) (by decide) k) ?_
                  show own_Ends p e below F (T49.setTop (mkF m 326 A55 []))
                  refine own_step (fun _ k => XS.iconst X49.here hx rfl (hb hby at_326) k) ?_
                  show own_Ends p e below F (T49.setTop (mkF m 327 A55 [(.int (0 : Int32))]))
                  rw [hA55]
                  exact J312_57 _ (by simp only [if_true, if_false, c312_61])
                · refine own_step (fun _ k => XS.ifNo X49.here hx rfl (hb hby at_312) rfl ((if0 _ _).trans (feq c312_61).1) k) ?_
                  show own_Ends p e below F (T49.setTop (mkF m 315 A55 []))
                  refine own_step (fun _ k => XS.iload X49.here hx rfl (hb hby at_315) (by rw [hA55]; rfl) k) ?_
                  show own_Ends p e below F (T49.setTop (mkF m 317 A55 [(.int z11)]))
                  refine own_step (fun _ k => XS.iload X49.here hx rfl (hb hby at_317) (by rw [hA55]; rfl) k) ?_
                  show own_Ends p e below F (T49.setTop (mkF m 319 A55 [(.int z16), (.int z11)]))
                  by_cases c319_62 : z11 = z16
                  · refine own_step (fun _ k => XS.icmpNo X49.here hx rfl (hb hby at_319) rfl (teq c319_62).2 k) ?_
                    show own_Ends p e below F (T49.setTop (mkF m 322 A55 []))
                    refine own_step (fun _ k => XS.iconst X49.here hx rfl (hb hby at_322) k) ?_
                    show own_Ends p e below F (T49.setTop (mkF m 323 A55 [(.int (1 : Int32))]))
                    refine own_step (fun _ k => XS.goto X49.here hx rfl (pc0 := 323) (pc' := 327) rfl (hb hby at_323) (by decide) (by decide) k) ?_
                    show own_Ends p e below F (T49.setTop (mkF m 327 A55 [(.int (1 : Int32))]))
                    rw [hA55]
                    exact J312_57 _ (by first | (simp only [if_true, if_false, c312_61, c319_62]; done) | ((first | rw [if_pos c312_61] | rw [if_neg c312_61] | skip); (first | rw [if_pos c319_62] | rw [if_neg c319_62] | skip)))
                  · refine own_step (fun _ k => XS.icmpYes X49.here hx rfl (pc0 := 319) (pc' := 326) rfl (hb hby at_319) rfl (feq c319_62).2 (by decide) (by decide) k) ?_
                    show own_Ends p e below F (T49.setTop (mkF m 326 A55 []))
                    refine own_step (fun _ k => XS.iconst X49.here hx rfl (hb hby at_326) k) ?_
                    show own_Ends p e below F (T49.setTop (mkF m 327 A55 [(.int (0 : Int32))]))
                    rw [hA55]
                    exact J312_57 _ (by first | (simp only [if_true, if_false, c312_61, c319_62]; done) | ((first | rw [if_pos c312_61] | rw [if_neg c312_61] | skip); (first | rw [if_pos c319_62] | rw [if_neg c319_62] | skip)))
              by_cases c261_63 : v2 = v4
              · refine own_step (fun _ k => XS.icmpNo X49.here hx rfl (hb hby at_261) rfl (teq c261_63).2 k) ?_
                show own_Ends p e below F (T49.setTop (mkF m 264 A50 []))
                refine own_step (fun _ k => XS.iload X49.here hx rfl (hb hby at_264) (by rw [hA50]; rfl) k) ?_
                show own_Ends p e below F (T49.setTop (mkF m 266 A50 [(.int v2)]))
                refine own_step (fun _ k => XS.iconst X49.here hx rfl (hb hby at_266) k) ?_
                show own_Ends p e below F (T49.setTop (mkF m 267 A50 [(.int (1 : Int32)), (.int v2)]))
                by_cases c267_64 : v2 < (1 : Int32)
                · refine own_step (fun _ k => XS.icmpYes X49.here hx rfl (pc0 := 267) (pc' := 277) rfl (hb hby at_267) rfl (tlt c267_64).1 (by decide) (by decide) k) ?_
                  show own_Ends p e below F (T49.setTop (mkF m 277 A50 []))
                  refine own_step (fun _ k => XS.iload X49.here hx rfl (hb hby at_277) (by rw [hA50]; rfl) k) ?_
                  show own_Ends p e below F (T49.setTop (mkF m 279 A50 [(.int v2)]))
                  refine own_step (fun _ k => XS.iconst X49.here hx rfl (hb hby at_279) k) ?_
                  show own_Ends p e below F (T49.setTop (mkF m 280 A50 [(.int (2 : Int32)), (.int v2)]))
                  by_cases c280_65 : v2 < (2 : Int32)
                  · refine own_step (fun _ k => XS.icmpYes X49.here hx rfl (pc0 := 280) (pc' := 290) rfl (hb hby at_280) rfl (tlt c280_65).1 (by decide) (by decide) k) ?_
                    show own_Ends p e below F (T49.setTop (mkF m 290 A50 []))
                    refine own_step (fun _ k => XS.iload X49.here hx rfl (hb hby at_290) (by rw [hA50]; rfl) k) ?_
                    show own_Ends p e below F (T49.setTop (mkF m 292 A50 [(.int v2)]))
                    refine own_step (fun _ k => XS.iconst X49.here hx rfl (hb hby at_292) k) ?_
                    show own_Ends p e below F (T49.setTop (mkF m 293 A50 [(.int (3 : Int32)), (.int v2)]))
                    by_cases c293_66 : v2 < (3 : Int32)
                    · refine own_step (fun _ k => XS.icmpYes X49.here hx rfl (pc0 := 293) (pc' := 303) rfl (hb hby at_293) rfl (tlt c293_66).1 (by decide) (by decide) k) ?_
                      show own_Ends p e below F (T49.setTop (mkF m 303 A50 []))
                      refine own_step (fun _ k => XS.iconst X49.here hx rfl (hb hby at_303) k) ?_
                      show own_Ends p e below F (T49.setTop (mkF m 304 A50 [(.int (1 : Int32))]))
                      refine own_step (fun _ k => XS.goto X49.here hx rfl (pc0 := 304) (pc' := 308) rfl (hb hby at_304) (by decide) (by decide) k) ?_
                      show own_Ends p e below F (T49.setTop (mkF m 308 A50 [(.int (1 : Int32))]))
                      rw [hA50]
                      exact J261_52 _ (by first | (simp only [if_true, if_false, c261_63, c267_64, c280_65, c293_66]; done) | ((first | rw [if_pos c261_63] | rw [if_neg c261_63] | skip); (first | rw [if_pos c267_64] | rw [if_neg c267_64] | skip); (first | rw [if_pos c280_65] | rw [if_neg c280_65] | skip); (first | rw [if_pos c293_66] | rw [if_neg c293_66] | skip)))
                    · refine own_step (fun _ k => XS.icmpNo X49.here hx rfl (hb hby at_293) rfl (flt c293_66).1 k) ?_
                      show own_Ends p e below F (T49.setTop (mkF m 296 A50 []))
                      refine own_step (fun _ k => XS.iload X49.here hx rfl (hb hby at_296) (by rw [hA50]; rfl) k) ?_
                      show own_Ends p e below F (T49.setTop (mkF m 298 A50 [(.int v30)]))
                      refine own_step (fun _ k => XS.iload X49.here hx rfl (hb hby at_298) (by rw [hA50]; rfl) k) ?_
                      show own_Ends p e below F (T49.setTop (mkF m 300 A50 [(.int z34), (.int v30)]))
                      by_cases c300_67 : v30 = z34
                      · refine own_step (fun _ k => XS.icmpNo X49.here hx rfl (hb hby at_300) rfl (teq c300_67).2 k) ?_
                        show own_Ends p e below F (T49.setTop (mkF m 303 A50 []))
                        refine own_step (fun _ k => XS.iconst X49.here hx rfl (hb hby at_303) k) ?_
                        show own_Ends p e below F (T49.setTop (mkF m 304 A50 [(.int (1 : Int32))]))
                        refine own_step (fun _ k => XS.goto X49.here hx rfl (pc0 := 304) (pc' := 308) rfl (hb hby at_304) (by decide) (by decide) k) ?_
                        show own_Ends p e below F (T49.setTop (mkF m 308 A50 [(.int (1 : Int32))]))
                        rw [hA50]
                        exact J261_52 _ (by first | (simp only [if_true, if_false, c261_63, c267_64, c280_65, c293_66, c300_67]; done) | ((first | rw [if_pos c261_63] | rw [if_neg c261_63] | skip); (first | rw [if_pos c267_64] | rw [if_neg c267_64] | skip); (first | rw [if_pos c280_65] | rw [if_neg c280_65] | skip); (first | rw [if_pos c293_66] | rw [if_neg c293_66] | skip); (first | rw [if_pos c300_67] | rw [if_neg c300_67] | skip)))
                      · refine own_step (fun _ k => XS.icmpYes X49.here hx rfl (pc0 := 300) (pc' := 307) rfl (hb hby at_300) rfl (feq c300_67).2 (by decide) (by decide) k) ?_
                        show own_Ends p e below F (T49.setTop (mkF m 307 A50 []))
                        refine own_step (fun _ k => XS.iconst X49.here hx rfl (hb hby at_307) k) ?_
                        show own_Ends p e below F (T49.setTop (mkF m 308 A50 [(.int (0 : Int32))]))
                        rw [hA50]
                        exact J261_52 _ (by first | (simp only [if_true, if_false, c261_63, c267_64, c280_65, c293_66, c300_67]; done) | ((first | rw [if_pos c261_63] | rw [if_neg c261_63] | skip); (first | rw [if_pos c267_64] | rw [if_neg c267_64] | skip); (first | rw [if_pos c280_65] | rw [if_neg c280_65] | skip); (first | rw [if_pos c293_66] | rw [if_neg c293_66] | skip); (first | rw [if_pos c300_67] | rw [if_neg c300_67] | skip)))
                  · refine own_step (fun _ k => XS.icmpNo X49.here hx rfl (hb hby at_280) rfl (flt c280_65).1 k) ?_
                    show own_Ends p e below F (T49.setTop (mkF m 283 A50 []))
                    refine own_step (fun _ k => XS.iload X49.here hx rfl (hb hby at_283) (by rw [hA50]; rfl) k) ?_
                    show own_Ends p e below F (T49.setTop (mkF m 285 A50 [(.int v28)]))
                    refine own_step (fun _ k => XS.iload X49.here hx rfl (hb hby at_285) (by rw [hA50]; rfl) k) ?_
                    show own_Ends p e below F (T49.setTop (mkF m 287 A50 [(.int z33), (.int v28)]))
                    by_cases c287_68 : v28 = z33
                    · refine own_step (fun _ k => XS.icmpNo X49.here hx rfl (hb hby at_287) rfl (teq c287_68).2 k) ?_
                      show own_Ends p e below F (T49.setTop (mkF m 290 A50 []))
                      refine own_step (fun _ k => XS.iload X49.here hx rfl (hb hby at_290) (by rw [hA50]; rfl) k) ?_
                      show own_Ends p e below F (T49.setTop (mkF m 292 A50 [(.int v2)]))
                      refine own_step (fun _ k => XS.iconst X49.here hx rfl (hb hby at_292) k) ?_
                      show own_Ends p e below F (T49.setTop (mkF m 293 A50 [(.int (3 : Int32)), (.int v2)]))
                      by_cases c293_69 : v2 < (3 : Int32)
                      · refine own_step (fun _ k => XS.icmpYes X49.here hx rfl (pc0 := 293) (pc' := 303) rfl (hb hby at_293) rfl (tlt c293_69).1 (by decide) (by decide) k) ?_
                        show own_Ends p e below F (T49.setTop (mkF m 303 A50 []))
                        refine own_step (fun _ k => XS.iconst X49.here hx rfl (hb hby at_303) k) ?_
                        show own_Ends p e below F (T49.setTop (mkF m 304 A50 [(.int (1 : Int32))]))
                        refine own_step (fun _ k => XS.goto X49.here hx rfl (pc0 := 304) (pc' := 308) rfl (hb hby at_304) (by decide) (by decide) k) ?_
                        show own_Ends p e below F (T49.setTop (mkF m 308 A50 [(.int (1 : Int32))]))
                        rw [hA50]
                        exact J261_52 _ (by first | (simp only [if_true, if_false, c261_63, c267_64, c280_65, c287_68, c293_69]; done) | ((first | rw [if_pos c261_63] | rw [if_neg c261_63] | skip); (first | rw [if_pos c267_64] | rw [if_neg c267_64] | skip); (first | rw [if_pos c280_65] | rw [if_neg c280_65] | skip); (first | rw [if_pos c287_68] | rw [if_neg c287_68] | skip); (first | rw [if_pos c293_69] | rw [if_neg c293_69] | skip)))
                      · refine own_step (fun _ k => XS.icmpNo X49.here hx rfl (hb hby at_293) rfl (flt c293_69).1 k) ?_
                        show own_Ends p e below F (T49.setTop (mkF m 296 A50 []))
                        refine own_step (fun _ k => XS.iload X49.here hx rfl (hb hby at_296) (by rw [hA50]; rfl) k) ?_
                        show own_Ends p e below F (T49.setTop (mkF m 298 A50 [(.int v30)]))
                        refine own_step (fun _ k => XS.iload X49.here hx rfl (hb hby at_298) (by rw [hA50]; rfl) k) ?_
                        show own_Ends p e below F (T49.setTop (mkF m 300 A50 [(.int z34), (.int v30)]))
                        by_cases c300_70 : v30 = z34
                        · refine own_step (fun _ k => XS.icmpNo X49.here hx rfl (hb hby at_300) rfl (teq c300_70).2 k) ?_
                          show own_Ends p e below F (T49.setTop (mkF m 303 A50 []))
                          refine own_step (fun _ k => XS.iconst X49.here hx rfl (hb hby at_303) k) ?_
                          show own_Ends p e below F (T49.setTop (mkF m 304 A50 [(.int (1 : Int32))]))
                          refine own_step (fun _ k => XS.goto X49.here hx rfl (pc0 := 304) (pc' := 308) rfl (hb hby at_304) (by decide) (by decide) k) ?_
                          show own_Ends p e below F (T49.setTop (mkF m 308 A50 [(.int (1 : Int32))]))
                          rw [hA50]
                          exact J261_52 _ (by first | (simp only [if_true, if_false, c261_63, c267_64, c280_65, c287_68, c293_69, c300_70]; done) | ((first | rw [if_pos c261_63] | rw [if_neg c261_63] | skip); (first | rw [if_pos c267_64] | rw [if_neg c267_64] | skip); (first | rw [if_pos c280_65] | rw [if_neg c280_65] | skip); (first | rw [if_pos c287_68] | rw [if_neg c287_68] | skip); (first | rw [if_pos c293_69] | rw [if_neg c293_69] | skip); (first | rw [if_pos c300_70] | rw [if_neg c300_70] | skip)))
                        · refine own_step (fun _ k => XS.icmpYes X49.here hx rfl (pc0 := 300) (pc' := 307) rfl (hb hby at_300) rfl (feq c300_70).2 (by decide) (by decide) k) ?_
                          show own_Ends p e below F (T49.setTop (mkF m 307 A50 []))
                          refine own_step (fun _ k => XS.iconst X49.here hx rfl (hb hby at_307) k) ?_
                          show own_Ends p e below F (T49.setTop (mkF m 308 A50 [(.int (0 : Int32))]))
                          rw [hA50]
                          exact J261_52 _ (by first | (simp only [if_true, if_false, c261_63, c267_64, c280_65, c287_68, c293_69, c300_70]; done) | ((first | rw [if_pos c261_63] | rw [if_neg c261_63] | skip); (first | rw [if_pos c267_64] | rw [if_neg c267_64] | skip); (first | rw [if_pos c280_65] | rw [if_neg c280_65] | skip); (first | rw [if_pos c287_68] | rw [if_neg c287_68] | skip); (first | rw [if_pos c293_69] | rw [if_neg c293_69] | skip); (first | rw [if_pos c300_70] | rw [if_neg c300_70] | skip)))
                    · refine own_step (fun _ k => XS.icmpYes X49.here hx rfl (pc0 := 287) (pc' := 307) rfl (hb hby at_287) rfl (feq c287_68).2 (by decide) (by decide) k) ?_
                      show own_Ends p e below F (T49.setTop (mkF m 307 A50 []))
                      refine own_step (fun _ k => XS.iconst X49.here hx rfl (hb hby at_307) k) ?_
                      show own_Ends p e below F (T49.setTop (mkF m 308 A50 [(.int (0 : Int32))]))
                      rw [hA50]
                      exact J261_52 _ (by first | (simp only [if_true, if_false, c261_63, c267_64, c280_65, c287_68]; done) | ((first | rw [if_pos c261_63] | rw [if_neg c261_63] | skip); (first | rw [if_pos c267_64] | rw [if_neg c267_64] | skip); (first | rw [if_pos c280_65] | rw [if_neg c280_65] | skip); (first | rw [if_pos c287_68] | rw [if_neg c287_68] | skip)))
                · refine own_step (fun _ k => XS.icmpNo X49.here hx rfl (hb hby at_267) rfl (flt c267_64).1 k) ?_
                  show own_Ends p e below F (T49.setTop (mkF m 270 A50 []))
                  refine own_step (fun _ k => XS.iload X49.here hx rfl (hb hby at_270) (by rw [hA50]; rfl) k) ?_
                  show own_Ends p e below F (T49.setTop (mkF m 272 A50 [(.int v26)]))
                  refine own_step (fun _ k => XS.iload X49.here hx rfl (hb hby at_272) (by rw [hA50]; rfl) k) ?_
                  show own_Ends p e below F (T49.setTop (mkF m 274 A50 [(.int z32), (.int v26)]))
                  by_cases c274_71 : v26 = z32
                  · refine own_step (fun _ k => XS.icmpNo X49.here hx rfl (hb hby at_274) rfl (teq c274_71).2 k) ?_
                    show own_Ends p e below F (T49.setTop (mkF m 277 A50 []))
                    refine own_step (fun _ k => XS.iload X49.here hx rfl (hb hby at_277) (by rw [hA50]; rfl) k) ?_
                    show own_Ends p e below F (T49.setTop (mkF m 279 A50 [(.int v2)]))
                    refine own_step (fun _ k => XS.iconst X49.here hx rfl (hb hby at_279) k) ?_
                    show own_Ends p e below F (T49.setTop (mkF m 280 A50 [(.int (2 : Int32)), (.int v2)]))
                    by_cases c280_72 : v2 < (2 : Int32)
                    · refine own_step (fun _ k => XS.icmpYes X49.here hx rfl (pc0 := 280) (pc' := 290) rfl (hb hby at_280) rfl (tlt c280_72).1 (by decide) (by decide) k) ?_
                      show own_Ends p e below F (T49.setTop (mkF m 290 A50 []))
                      refine own_step (fun _ k => XS.iload X49.here hx rfl (hb hby at_290) (by rw [hA50]; rfl) k) ?_
                      show own_Ends p e below F (T49.setTop (mkF m 292 A50 [(.int v2)]))
                      refine own_step (fun _ k => XS.iconst X49.here hx rfl (hb hby at_292) k) ?_
                      show own_Ends p e below F (T49.setTop (mkF m 293 A50 [(.int (3 : Int32)), (.int v2)]))
                      by_cases c293_73 : v2 < (3 : Int32)
                      · refine own_step (fun _ k => XS.icmpYes X49.here hx rfl (pc0 := 293) (pc' := 303) rfl (hb hby at_293) rfl (tlt c293_73).1 (by decide) (by decide) k) ?_
                        show own_Ends p e below F (T49.setTop (mkF m 303 A50 []))
                        refine own_step (fun _ k => XS.iconst X49.here hx rfl (hb hby at_303) k) ?_
                        show own_Ends p e below F (T49.setTop (mkF m 304 A50 [(.int (1 : Int32))]))
                        refine own_step (fun _ k => XS.goto X49.here hx rfl (pc0 := 304) (pc' := 308) rfl (hb hby at_304) (by decide) (by decide) k) ?_
                        show own_Ends p e below F (T49.setTop (mkF m 308 A50 [(.int (1 : Int32))]))
                        rw [hA50]
                        exact J261_52 _ (by first | (simp only [if_true, if_false, c261_63, c267_64, c274_71, c280_72, c293_73]; done) | ((first | rw [if_pos c261_63] | rw [if_neg c261_63] | skip); (first | rw [if_pos c267_64] | rw [if_neg c267_64] | skip); (first | rw [if_pos c274_71] | rw [if_neg c274_71] | skip); (first | rw [if_pos c280_72] | rw [if_neg c280_72] | skip); (first | rw [if_pos c293_73] | rw [if_neg c293_73] | skip)))
                      · refine own_step (fun _ k => XS.icmpNo X49.here hx rfl (hb hby at_293) rfl (flt c293_73).1 k) ?_
                        show own_Ends p e below F (T49.setTop (mkF m 296 A50 []))
                        refine own_step (fun _ k => XS.iload X49.here hx rfl (hb hby at_296) (by rw [hA50]; rfl) k) ?_
                        show own_Ends p e below F (T49.setTop (mkF m 298 A50 [(.int v30)]))
                        refine own_step (fun _ k => XS.iload X49.here hx rfl (hb hby at_298) (by rw [hA50]; rfl) k) ?_
                        show own_Ends p e below F (T49.setTop (mkF m 300 A50 [(.int z34), (.int v30)]))
                        by_cases c300_74 : v30 = z34
                        · refine own_step (fun _ k => XS.icmpNo X49.here hx rfl (hb hby at_300) rfl (teq c300_74).2 k) ?_
                          show own_Ends p e below F (T49.setTop (mkF m 303 A50 []))
                          refine own_step (fun _ k => XS.iconst X49.here hx rfl (hb hby at_303) k) ?_
                          show own_Ends p e below F (T49.setTop (mkF m 304 A50 [(.int (1 : Int32))]))
                          refine own_step (fun _ k => XS.goto X49.here hx rfl (pc0 := 304) (pc' := 308) rfl (hb hby at_304) (by decide) (by decide) k) ?_
                          show own_Ends p e below F (T49.setTop (mkF m 308 A50 [(.int (1 : Int32))]))
                          rw [hA50]
                          exact J261_52 _ (by first | (simp only [if_true, if_false, c261_63, c267_64, c274_71, c280_72, c293_73, c300_74]; done) | ((first | rw [if_pos c261_63] | rw [if_neg c261_63] | skip); (first | rw [if_pos c267_64] | rw [if_neg c267_64] | skip); (first | rw [if_pos c274_71] | rw [if_neg c274_71] | skip); (first | rw [if_pos c280_72] | rw [if_neg c280_72] | skip); (first | rw [if_pos c293_73] | rw [if_neg c293_73] | skip); (first | rw [if_pos c300_74] | rw [if_neg c300_74] | skip)))
                        · refine own_step (fun _ k => XS.icmpYes X49.here hx rfl (pc0 := 300) (pc' := 307) rfl (hb hby at_300) rfl (feq c300_74).2 (by decide) (by decide) k) ?_
                          show own_Ends p e below F (T49.setTop (mkF m 307 A50 []))
                          refine own_step (fun _ k => XS.iconst X49.here hx rfl (hb hby at_307) k) ?_
                          show own_Ends p e below F (T49.setTop (mkF m 308 A50 [(.int (0 : Int32))]))
                          rw [hA50]
                          exact J261_52 _ (by first | (simp only [if_true, if_false, c261_63, c267_64, c274_71, c280_72, c293_73, c300_74]; done) | ((first | rw [if_pos c261_63] | rw [if_neg c261_63] | skip); (first | rw [if_pos c267_64] | rw [if_neg c267_64] | skip); (first | rw [if_pos c274_71] | rw [if_neg c274_71] | skip); (first | rw [if_pos c280_72] | rw [if_neg c280_72] | skip); (first | rw [if_pos c293_73] | rw [if_neg c293_73] | skip); (first | rw [if_pos c300_74] | rw [if_neg c300_74] | skip)))
                    · refine own_step (fun _ k => XS.icmpNo X49.here hx rfl (hb hby at_280) rfl (flt c280_72).1 k) ?_
                      show own_Ends p e below F (T49.setTop (mkF m 283 A50 []))
                      refine own_step (fun _ k => XS.iload X49.here hx rfl (hb hby at_283) (by rw [hA50]; rfl) k) ?_
                      show own_Ends p e below F (T49.setTop (mkF m 285 A50 [(.int v28)]))
                      refine own_step (fun _ k => XS.iload X49.here hx rfl (hb hby at_285) (by rw [hA50]; rfl) k) ?_
                      show own_Ends p e below F (T49.setTop (mkF m 287 A50 [(.int z33), (.int v28)]))
                      by_cases c287_75 : v28 = z33
                      · refine own_step (fun _ k => XS.icmpNo X49.here hx rfl (hb hby at_287) rfl (teq c287_75).2 k) ?_
                        show own_Ends p e below F (T49.setTop (mkF m 290 A50 []))
                        refine own_step (fun _ k => XS.iload X49.here hx rfl (hb hby at_290) (by rw [hA50]; rfl) k) ?_
                        show own_Ends p e below F (T49.setTop (mkF m 292 A50 [(.int v2)]))
                        refine own_step (fun _ k => XS.iconst X49.here hx rfl (hb hby at_292) k) ?_
                        show own_Ends p e below F (T49.setTop (mkF m 293 A50 [(.int (3 : Int32)), (.int v2)]))
                        by_cases c293_76 : v2 < (3 : Int32)
                        · refine own_step (fun _ k => XS.icmpYes X49.here hx rfl (pc0 := 293) (pc' := 303) rfl (hb hby at_293) rfl (tlt c293_76).1 (by decide) (by decide) k) ?_
                          show own_Ends p e below F (T49.setTop (mkF m 303 A50 []))
                          refine own_step (fun _ k => XS.iconst X49.here hx rfl (hb hby at_303) k) ?_
                          show own_Ends p e below F (T49.setTop (mkF m 304 A50 [(.int (1 : Int32))]))
                          refine own_step (fun _ k => XS.goto X49.here hx rfl (pc0 := 304) (pc' := 308) rfl (hb hby at_304) (by decide) (by decide) k) ?_
                          show own_Ends p e below F (T49.setTop (mkF m 308 A50 [(.int (1 : Int32))]))
                          rw [hA50]
                          exact J261_52 _ (by first | (simp only [if_true, if_false, c261_63, c267_64, c274_71, c280_72, c287_75, c293_76]; done) | ((first | rw [if_pos c261_63] | rw [if_neg c261_63] | skip); (first | rw [if_pos c267_64] | rw [if_neg c267_64] | skip); (first | rw [if_pos c274_71] | rw [if_neg c274_71] | skip); (first | rw [if_pos c280_72] | rw [if_neg c280_72] | skip); (first | rw [if_pos c287_75] | rw [if_neg c287_75] | skip); (first | rw [if_pos c293_76] | rw [if_neg c293_76] | skip)))
                        · refine own_step (fun _ k => XS.icmpNo X49.here hx rfl (hb hby at_293) rfl (flt c293_76).1 k) ?_
                          show own_Ends p e below F (T49.setTop (mkF m 296 A50 []))
                          refine own_step (fun _ k => XS.iload X49.here hx rfl (hb hby at_296) (by rw [hA50]; rfl) k) ?_
                          show own_Ends p e below F (T49.setTop (mkF m 298 A50 [(.int v30)]))
                          refine own_step (fun _ k => XS.iload X49.here hx rfl (hb hby at_298) (by rw [hA50]; rfl) k) ?_
                          show own_Ends p e below F (T49.setTop (mkF m 300 A50 [(.int z34), (.int v30)]))
                          by_cases c300_77 : v30 = z34
                          · refine own_step (fun _ k => XS.icmpNo X49.here hx rfl (hb hby at_300) rfl (teq c300_77).2 k) ?_
                            show own_Ends p e below F (T49.setTop (mkF m 303 A50 []))
                            refine own_step (fun _ k => XS.iconst X49.here hx rfl (hb hby at_303) k) ?_
                            show own_Ends p e below F (T49.setTop (mkF m 304 A50 [(.int (1 : Int32))]))
                            refine own_step (fun _ k => XS.goto X49.here hx rfl (pc0 := 304) (pc' := 308) rfl (hb hby at_304) (by decide) (by decide) k) ?_
                            show own_Ends p e below F (T49.setTop (mkF m 308 A50 [(.int (1 : Int32))]))
                            rw [hA50]
                            exact J261_52 _ (by first | (simp only [if_true, if_false, c261_63, c267_64, c274_71, c280_72, c287_75, c293_76, c300_77]; done) | ((first | rw [if_pos c261_63] | rw [if_neg c261_63] | skip); (first | rw [if_pos c267_64] | rw [if_neg c267_64] | skip); (first | rw [if_pos c274_71] | rw [if_neg c274_71] | skip); (first | rw [if_pos c280_72] | rw [if_neg c280_72] | skip); (first | rw [if_pos c287_75] | rw [if_neg c287_75] | skip); (first | rw [if_pos c293_76] | rw [if_neg c293_76] | skip); (first | rw [if_pos c300_77] | rw [if_neg c300_77] | skip)))
                          · refine own_step (fun _ k => XS.icmpYes X49.here hx rfl (pc0 := 300) (pc' := 307) rfl (hb hby at_300) rfl (feq c300_77).2 (by decide) (by decide) k) ?_
                            show own_Ends p e below F (T49.setTop (mkF m 307 A50 []))
                            refine own_step (fun _ k => XS.iconst X49.here hx rfl (hb hby at_307) k) ?_
                            show own_Ends p e below F (T49.setTop (mkF m 308 A50 [(.int (0 : Int32))]))
                            rw [hA50]
                            exact J261_52 _ (by first | (simp only [if_true, if_false, c261_63, c267_64, c274_71, c280_72, c287_75, c293_76, c300_77]; done) | ((first | rw [if_pos c261_63] | rw [if_neg c261_63] | skip); (first | rw [if_pos c267_64] | rw [if_neg c267_64] | skip); (first | rw [if_pos c274_71] | rw [if_neg c274_71] | skip); (first | rw [if_pos c280_72] | rw [if_neg c280_72] | skip); (first | rw [if_pos c287_75] | rw [if_neg c287_75] | skip); (first | rw [if_pos c293_76] | rw [if_neg c293_76] | skip); (first | rw [if_pos c300_77] | rw [if_neg c300_77] | skip)))
                      · refine own_step (fun _ k => XS.icmpYes X49.here hx rfl (pc0 := 287) (pc' := 307) rfl (hb hby at_287) rfl (feq c287_75).2 (by decide) (by decide) k) ?_
                        show own_Ends p e below F (T49.setTop (mkF m 307 A50 []))
                        refine own_step (fun _ k => XS.iconst X49.here hx rfl (hb hby at_307) k) ?_
                        show own_Ends p e below F (T49.setTop (mkF m 308 A50 [(.int (0 : Int32))]))
                        rw [hA50]
                        exact J261_52 _ (by first | (simp only [if_true, if_false, c261_63, c267_64, c274_71, c280_72, c287_75]; done) | ((first | rw [if_pos c261_63] | rw [if_neg c261_63] | skip); (first | rw [if_pos c267_64] | rw [if_neg c267_64] | skip); (first | rw [if_pos c274_71] | rw [if_neg c274_71] | skip); (first | rw [if_pos c280_72] | rw [if_neg c280_72] | skip); (first | rw [if_pos c287_75] | rw [if_neg c287_75] | skip)))
                  · refine own_step (fun _ k => XS.icmpYes X49.here hx rfl (pc0 := 274) (pc' := 307) rfl (hb hby at_274) rfl (feq c274_71).2 (by decide) (by decide) k) ?_
                    show own_Ends p e below F (T49.setTop (mkF m 307 A50 []))
                    refine own_step (fun _ k => XS.iconst X49.here hx rfl (hb hby at_307) k) ?_
                    show own_Ends p e below F (T49.setTop (mkF m 308 A50 [(.int (0 : Int32))]))
                    rw [hA50]
                    exact J261_52 _ (by first | (simp only [if_true, if_false, c261_63, c267_64, c274_71]; done) | ((first | rw [if_pos c261_63] | rw [if_neg c261_63] | skip); (first | rw [if_pos c267_64] | rw [if_neg c267_64] | skip); (first | rw [if_pos c274_71] | rw [if_neg c274_71] | skip)))
              · refine own_step (fun _ k => XS.icmpYes X49.here hx rfl (pc0 := 261) (pc' := 307) rfl (hb hby at_261) rfl (feq c261_63).2 (by decide) (by decide) k) ?_
                show own_Ends p e below F (T49.setTop (mkF m 307 A50 []))
                refine own_step (fun _ k => XS.iconst X49.here hx rfl (hb hby at_307) k) ?_
                show own_Ends p e below F (T49.setTop (mkF m 308 A50 [(.int (0 : Int32))]))
                rw [hA50]
                exact J261_52 _ (by simp only [if_true, if_false, c261_63])
            · refine own_step (fun _ k => XS.ifNo X38.here hx rfl (hb hby at_191) rfl ((if0 _ _).trans (feq c191_40).1) k) ?_
              show own_Ends p e below F (T38.setTop (mkF m 194 A39 []))
              refine own_step (fun _ k => XS.aconstNull X38.here hx rfl (hb hby at_194) k) ?_
              show own_Ends p e below F (T38.setTop (mkF m 195 A39 [.null]))
              refine own_step (fun _ k => XS.goto X38.here hx rfl (pc0 := 195) (pc' := 209) rfl (hb hby at_195) (by decide) (by decide) k) ?_
              show own_Ends p e below F (T38.setTop (mkF m 209 A39 [.null]))
              obtain ⟨A78, hA78⟩ : ∃ z : Array Slot, z = #[.val (.int p1), .val (.int p2), .val (.int p3), .val (.int p4), .val (.long p5), .second, .val (.long p6), .second, .val (.int v2), .val (.int v4), .val (.int z6), .val (.int z11), .val (.int z16), .val (.int z21), .val (.int v26), .val (.int v28), .val (.int v30), .val (.int z32), .val (.int z33), .val (.int z34), .val (.ref c38), .val .null, .unset, .unset, .unset, .unset, .unset] := ⟨_, rfl⟩
              refine own_step (fun _ k => XS.astore X38.here hx rfl (hb hby at_209) rfl rfl (l' := A78) (by rw [hA39, hA78]; exact rfl) k) ?_
              show own_Ends p e below F (T38.setTop (mkF m 211 A78 []))
              refine own_step (fun _ k => XS.iloadN X38.here hx rfl (hb hby at_211) (by rw [hA78]; rfl) k) ?_
              show own_Ends p e below F (T38.setTop (mkF m 212 A78 [(.int p4)]))
              refine own_step (fun _ k => XS.sipush X38.here hx rfl (hb hby at_212) k) ?_
              show own_Ends p e below F (T38.setTop (mkF m 215 A78 [(.int (255 : Int32)), (.int p4)]))
              refine own_step (fun _ k => XS.iand X38.here hx rfl (hb hby at_215) rfl k) ?_
              show own_Ends p e below F (T38.setTop (mkF m 216 A78 [(.int (p4 &&& (255 : Int32)))]))
              refine own_step (fun _ k => XS.i2c X38.here hx rfl (hb hby at_216) rfl k) ?_
              show own_Ends p e below F (T38.setTop (mkF m 217 A78 [(.int ((p4 &&& (255 : Int32)).toUInt32.toUInt16.toUInt32.toInt32))]))
              obtain ⟨v79, ev79⟩ : ∃ z : Int32, z = ((p4 &&& (255 : Int32)).toUInt32.toUInt16.toUInt32.toInt32) := ⟨_, rfl⟩
              rw [← ev79]
              show own_Ends p e below F (T38.setTop (mkF m 217 A78 [(.int v79)]))
              have ch217 := own_c8 ev79
              obtain ⟨_, _, ⟨T80, L80, k80, n80⟩, -, X80, ⟨Lc80, hQ80, l80, y80, z80⟩, st80⟩ := Jvm.LawKit.callS X38 hx (y := (⟨"java/lang/String", "valueOf", "(C)Ljava/lang/String;"⟩ : MethodName)) hown (mvT hZ (own_g hw 37 rfl)) (mvT hZ (own_g hw 38 rfl)) (mvT hZ (own_g hw 6 rfl)) (mvT hZ (own_g hw 39 rfl)) (by decide) (backOf (W := 0) (rm8 l Z a0 hw [] v79 zc T38.heap n0 Z38 S0_38 hz ch217) hZ (own_g hw 39 rfl) (own_g hw 6 rfl) (by decide) (by decide)) (g := (mkF m 217 A78 [(.int v79)])) rfl (by rw [hml]; show A78.size = _; rw [hA78]; rfl) (argsL := [(.int v79)]) (rest := []) (lenOf pd__28C_29Ljava_2flang_2fString_3b rfl) rfl (by show 2 * 0 + _ ≤ _; exact Nat.le_of_eq rfl) (hb hby at_217) (fun _ _ => ⟨rfl, rfl, (by decide : 6 + 2 ≤ _), (by decide : 12 + 5 ≤ _)⟩)
              dsimp only [Pt.U, Pt.locs, Pt.cells, Pt.slots] at X80 l80 y80 z80 st80 hQ80
              subst l80 y80 z80
              obtain ⟨c80, rfl, Nq80, Kq80, fq0_80, fq1_80⟩ := hQ80
              have N80 := Fr.app N38 Nq80
              have Z80 : n0 ≤ T80.heap.size := Nat.le_trans Z38 Kq80.1
              have SZ80 : h0.size ≤ T80.heap.size := Nat.le_trans SZ38 Kq80.1
              have S0_80 := own_Sta_keep S0_38 Kq80 all0
              have bd80_c80_T38_heap_size : T38.heap.size ≤ c80 := Nat.le_trans (Nat.le_refl T38.heap.size) fq0_80
              have ne_c38_c80 : c38 ≠ c80 := Nat.ne_of_lt (Nat.lt_of_lt_of_le (str38).lt fq0_80)
              have ge_c80 : n0 ≤ c80 := Nat.le_trans Z38 fq0_80
              have sz_c80 : h0.size ≤ c80 := Nat.le_trans SZ38 fq0_80
              have str80 := fq1_80
              have fe80 := str80.exa
              have hr80 := CHr.keep Kq80 sf0 hC38.1
              have hC80 := hC38.trans hr80
              have hk := Nat.le_trans hk Kq80.1
              refine own_step st80 ?_
              show own_Ends p e below F (T80.setTop (mkF m 220 A78 [(.ref c80)]))
              obtain ⟨A81, hA81⟩ : ∃ z : Array Slot, z = #[.val (.int p1), .val (.int p2), .val (.int p3), .val (.int p4), .val (.long p5), .second, .val (.long p6), .second, .val (.int v2), .val (.int v4), .val (.int z6), .val (.int z11), .val (.int z16), .val (.int z21), .val (.int v26), .val (.int v28), .val (.int v30), .val (.int z32), .val (.int z33), .val (.int z34), .val (.ref c38), .val .null, .val (.ref c80), .unset, .unset, .unset, .unset] := ⟨_, rfl⟩
              refine own_step (fun _ k => XS.astore X80.here hx rfl (hb hby at_220) rfl rfl (l' := A81) (by rw [hA78, hA81]; exact rfl) k) ?_
              show own_Ends p e below F (T80.setTop (mkF m 222 A81 []))
              obtain ⟨T82, h82, X82, e82, E82, A82, D82, -, st82⟩ := newO X80 hx hZ hown (own_g hw 51 rfl) (own_g hw 52 rfl) (own_g hw 53 rfl) rfl (g := (mkF m 222 A81 [])) rfl (hb hby at_222) (by decide) (by decide)
              obtain ⟨a82, g82⟩ : ∃ z, z = T80.heap.size := ⟨_, rfl⟩
              rw [← g82] at A82 D82 st82
              have ge_a82 : n0 ≤ a82 := Nat.le_trans Z80 (Nat.le_of_eq g82.symm)
              have sz_a82 : h0.size ≤ a82 := Nat.le_trans SZ80 (Nat.le_of_eq g82.symm)
              have ne_c38_a82 : c38 ≠ a82 := Nat.ne_of_lt (by rw [g82]; exact (own_Str.keep str38 Kq80 all0).lt)
              have ne_c80_a82 : c80 ≠ a82 := Nat.ne_of_lt (by rw [g82]; exact str80.lt)
              have bd82_T38_heap_size : T38.heap.size ≤ a82 := by rw [g82]; exact (Nat.le_trans (Nat.le_refl T38.heap.size) Kq80.1)
              have bd82_T80_heap_size : T80.heap.size ≤ a82 := by rw [g82]; exact (Nat.le_refl T80.heap.size)
              have Z82 : n0 ≤ h82.size := Nat.le_trans Z80 E82.1
              have SZ82 : h0.size ≤ h82.size := Nat.le_trans SZ80 E82.1
              have hk := Nat.le_trans hk E82.1
              have hr82 := CHr.ext E82 hC80.1
              have hC82 := hC80.trans hr82
              have F82_id : Fld Z h82 a82 "com/example/pledger/pledger/model/Account" "id" "Ljava/lang/String;" .null := D82 (Or.inr (own_g hw 64 rfl)) (ty := (.object "java/lang/String")) (by decide)
              have F82_currency : Fld Z h82 a82 "com/example/pledger/pledger/model/Account" "currency" "Ljava/lang/String;" .null := D82 (Or.inr (own_g hw 66 rfl)) (ty := (.object "java/lang/String")) (by decide)
              have F82_allowNegative : Fld Z h82 a82 "com/example/pledger/pledger/model/Account" "allowNegative" "Z" (.int (0 : Int32)) := D82 (Or.inr (own_g hw 68 rfl)) (ty := .boolean) (by decide)
              have F82_balance : Fld Z h82 a82 "com/example/pledger/pledger/model/Account" "balance" "J" (.long (0 : Int64)) := D82 (Or.inr (own_g hw 70 rfl)) (ty := .long) (by decide)
              have F82_reserved : Fld Z h82 a82 "com/example/pledger/pledger/model/Account" "reserved" "J" (.long (0 : Int64)) := D82 (Or.inr (own_g hw 72 rfl)) (ty := .long) (by decide)
              have sf_a82 : own_SL Z own_EL T38.vm h82 a82 := own_SL.born hC80.1 E82 g82 A82.lt
              refine own_step st82 ?_
              show own_Ends p e below F (T82.setTop (mkF m 225 A81 [(.ref a82)]))
              refine own_step (fun _ k => XS.dup X82.here hx rfl (hb hby at_225) rfl rfl k) ?_
              show own_Ends p e below F (T82.setTop (mkF m 226 A81 [(.ref a82), (.ref a82)]))
              refine own_step (fun _ k => XS.aload X82.here hx rfl (hb hby at_226) (by rw [hA81]; rfl) rfl k) ?_
              show own_Ends p e below F (T82.setTop (mkF m 228 A81 [(.ref c80), (.ref a82), (.ref a82)]))
              refine own_step (fun _ k => XS.aload X82.here hx rfl (hb hby at_228) (by rw [hA81]; rfl) rfl k) ?_
              show own_Ends p e below F (T82.setTop (mkF m 230 A81 [(.ref c38), (.ref c80), (.ref a82), (.ref a82)]))
              refine own_step (fun _ k => XS.iload X82.here hx rfl (hb hby at_230) (by rw [hA81]; rfl) k) ?_
              show own_Ends p e below F (T82.setTop (mkF m 232 A81 [(.int z11), (.ref c38), (.ref c80), (.ref a82), (.ref a82)]))
              refine own_step (fun _ k => XS.lload X82.here hx rfl (hb hby at_232) (by rw [hA81]; rfl) k) ?_
              show own_Ends p e below F (T82.setTop (mkF m 234 A81 [(.long p5), (.int z11), (.ref c38), (.ref c80), (.ref a82), (.ref a82)]))
              refine own_step (fun _ k => XS.lload X82.here hx rfl (hb hby at_234) (by rw [hA81]; rfl) k) ?_
              show own_Ends p e below F (T82.setTop (mkF m 236 A81 [(.long p6), (.long p5), (.int z11), (.ref c38), (.ref c80), (.ref a82), (.ref a82)]))
              obtain ⟨_, _, ⟨T83, L83, k83, n83⟩, -, X83, ⟨Lc83, hQ83, l83, y83, z83⟩, st83⟩ := X82.specialBack hx (y := (⟨"com/example/pledger/pledger/model/Account", "<init>", "(Ljava/lang/String;Ljava/lang/String;ZJJ)V"⟩ : MethodName)) rfl hown (mvT hZ (own_g hw 54 rfl)) (mvT hZ (own_g hw 55 rfl)) (mvT hZ (own_g hw 56 rfl)) (by decide) (backOf (W := 1) (rm12 l Z a0 hw [] a82 c80 c38 z11 p5 p6 h82 n0 Z82 A82 ge_a82 F82_id F82_currency F82_allowNegative F82_balance F82_reserved) hZ (own_g hw 56 rfl) (own_g hw 53 rfl) (by decide) (by decide)) (g := (mkF m 236 A81 [(.long p6), (.long p5), (.int z11), (.ref c38), (.ref c80), (.ref a82), (.ref a82)])) rfl (by rw [hml]; show A81.size = _; rw [hA81]; rfl) (Steps.refl _) (a := a82) (argsL := [(.ref c80), (.ref c38), (.int z11), (.long p5), (.long p6)]) (rest := [(.ref a82)]) (lenOf pd__28Ljava_2flang_2fString_3bLjava_2flang_2fString_3bZJJ_29V rfl) rfl (by show 2 * 0 + _ ≤ _; exact Nat.le_of_eq rfl) (hb hby at_236) (fun _ _ => ⟨rfl, e82, (by decide : 9 + 0 ≤ _), (by decide : 22 + 0 ≤ _)⟩)
              dsimp only [Pt.U, Pt.locs, Pt.cells, Pt.slots] at X83 l83 y83 z83 st83 hQ83
              subst l83 y83 z83
              obtain ⟨rfl, Nq83, Kq83, fq0_83, fq1_83, fq2_83, fq3_83, fq4_83, fq5_83⟩ := hQ83
              have N83 := Fr.app N80 Nq83
              have Z83 : n0 ≤ T83.heap.size := Nat.le_trans Z82 Kq83.1
              have SZ83 : h0.size ≤ T83.heap.size := Nat.le_trans SZ82 Kq83.1
              have S0_83 := own_Sta_keep (Sta.ext E82 S0_80) Kq83 (allS (own_ns_exa A82) all0)
              have hr83 := CHr.keep Kq83 (sfS sf_a82.2 sf0) hC82.1
              have hC83 := hC82.trans hr83
              have hk := Nat.le_trans hk Kq83.1
              refine own_trans st83 ?_
              show own_Ends p e below F (T83.setTop (mkF m 239 A81 [(.ref a82)]))
              obtain ⟨A84, hA84⟩ : ∃ z : Array Slot, z = #[.val (.int p1), .val (.int p2), .val (.int p3), .val (.int p4), .val (.long p5), .second, .val (.long p6), .second, .val (.int v2), .val (.int v4), .val (.int z6), .val (.int z11), .val (.int z16), .val (.int z21), .val (.int v26), .val (.int v28), .val (.int v30), .val (.int z32), .val (.int z33), .val (.int z34), .val (.ref c38), .val .null, .val (.ref c80), .val (.ref a82), .unset, .unset, .unset] := ⟨_, rfl⟩
              refine own_step (fun _ k => XS.astore X83.here hx rfl (hb hby at_239) rfl rfl (l' := A84) (by rw [hA81, hA84]; exact rfl) k) ?_
              show own_Ends p e below F (T83.setTop (mkF m 241 A84 []))
              refine own_step (fun _ k => XS.aload X83.here hx rfl (hb hby at_241) (by rw [hA84]; rfl) rfl k) ?_
              show own_Ends p e below F (T83.setTop (mkF m 243 A84 [(.ref a82)]))
              refine own_step (fun _ k => XS.aload X83.here hx rfl (hb hby at_243) (by rw [hA84]; rfl) rfl k) ?_
              show own_Ends p e below F (T83.setTop (mkF m 245 A84 [.null, (.ref a82)]))
              refine own_step (fun _ k => XS.iload X83.here hx rfl (hb hby at_245) (by rw [hA84]; rfl) k) ?_
              show own_Ends p e below F (T83.setTop (mkF m 247 A84 [(.int z16), .null, (.ref a82)]))
              obtain ⟨cq85, kq85, qa85, qb85, qc85⟩ := isOf hZ rfl fq0_83
              obtain ⟨_, _, ⟨T85, L85, k85, n85⟩, -, X85, ⟨Lc85, hQ85, l85, y85, z85⟩, st85⟩ := X83.virtualBack hx (y := (⟨"com/example/pledger/pledger/model/Account", "isOpenedAs", "(Ljava/lang/String;Z)Z"⟩ : MethodName)) (z := (⟨"com/example/pledger/pledger/model/Account", "isOpenedAs", "(Ljava/lang/String;Z)Z"⟩ : MethodName)) hown (mvT hZ (own_g hw 73 rfl)) (mvT hZ (own_g hw 74 rfl)) (notFace_of_selects (args := #[]) (mvT hZ (own_g hw 76 rfl))) (mvT hZ (own_g hw 76 rfl)) (mvT hZ (own_g hw 75 rfl)) (by decide) (backOf (W := 0) (rm14a l Z a0 hw [] a82 c38 (nar .boolean z11) z16 T83.heap n0 Z83 fq2_83 fq3_83 (((fe38.keep Kq80).ext E82).keep Kq83)) hZ (own_g hw 77 rfl) (own_g hw 53 rfl) (by decide) (by decide)) qa85 qc85 (g := (mkF m 247 A84 [(.int z16), .null, (.ref a82)])) rfl (by rw [hml]; show A84.size = _; rw [hA84]; rfl) (Steps.refl _) (argsL := [.null, (.int z16)]) (rest := []) (lenOf pd__28Ljava_2flang_2fString_3bZ_29Z rfl) rfl (by show 2 * 0 + _ ≤ _; exact Nat.le_of_eq rfl) (hb hby at_247) (fun _ _ => ⟨rfl, rfl, (by decide : 9 + 0 ≤ _), (by decide : 22 + 0 ≤ _)⟩)
              dsimp only [Pt.U, Pt.locs, Pt.cells, Pt.slots] at X85 l85 y85 z85 st85 hQ85
              subst l85 y85 z85
              obtain ⟨rfl, Nq85, eq85⟩ := hQ85
              have N85 := Fr.app N83 Nq85
              refine own_trans st85 ?_
              show own_Ends p e below F (T85.setTop (mkF m 250 A84 [(.int (0 : Int32))]))
              obtain ⟨A86, hA86⟩ : ∃ z : Array Slot, z = #[.val (.int p1), .val (.int p2), .val (.int p3), .val (.int p4), .val (.long p5), .second, .val (.long p6), .second, .val (.int v2), .val (.int v4), .val (.int z6), .val (.int z11), .val (.int z16), .val (.int z21), .val (.int v26), .val (.int v28), .val (.int v30), .val (.int z32), .val (.int z33), .val (.int z34), .val (.ref c38), .val .null, .val (.ref c80), .val (.ref a82), .val (.int (0 : Int32)), .unset, .unset] := ⟨_, rfl⟩
              refine own_step (fun _ k => XS.istore X85.here hx rfl (hb hby at_250) rfl (l' := A86) (by rw [hA84, hA86]; exact rfl) k) ?_
              show own_Ends p e below F (T85.setTop (mkF m 252 A86 []))
              refine own_step (fun _ k => XS.iload X85.here hx rfl (hb hby at_252) (by rw [hA86]; rfl) k) ?_
              show own_Ends p e below F (T85.setTop (mkF m 254 A86 [(.int z21)]))
              refine own_step (fun _ k => XS.ifYes X85.here hx rfl (pc0 := 254) (pc' := 307) rfl (hb hby at_254) rfl ((if0 _ _).trans (feq c191_40).2) (by decide) (by decide) k) ?_
              show own_Ends p e below F (T85.setTop (mkF m 307 A86 []))
              refine own_step (fun _ k => XS.iconst X85.here hx rfl (hb hby at_307) k) ?_
              show own_Ends p e below F (T85.setTop (mkF m 308 A86 [(.int (0 : Int32))]))
              obtain ⟨A87, hA87⟩ : ∃ z : Array Slot, z = #[.val (.int p1), .val (.int p2), .val (.int p3), .val (.int p4), .val (.long p5), .second, .val (.long p6), .second, .val (.int v2), .val (.int v4), .val (.int z6), .val (.int z11), .val (.int z16), .val (.int z21), .val (.int v26), .val (.int v28), .val (.int v30), .val (.int z32), .val (.int z33), .val (.int z34), .val (.ref c38), .val .null, .val (.ref c80), .val (.ref a82), .val (.int (0 : Int32)), .val (.int (0 : Int32)), .unset] := ⟨_, rfl⟩
              refine own_step (fun _ k => XS.istore X85.here hx rfl (hb hby at_308) rfl (l' := A87) (by rw [hA86, hA87]; exact rfl) k) ?_
              show own_Ends p e below F (T85.setTop (mkF m 310 A87 []))
              refine own_step (fun _ k => XS.iload X85.here hx rfl (hb hby at_310) (by rw [hA87]; rfl) k) ?_
              show own_Ends p e below F (T85.setTop (mkF m 312 A87 [(.int (0 : Int32))]))
              refine own_step (fun _ k => XS.ifYes X85.here hx rfl (pc0 := 312) (pc' := 326) rfl (hb hby at_312) rfl ((if0 _ _).trans (teq (by decide : (0 : Int32) = (0 : Int32))).1) (by decide) (by decide) k) ?_
              show own_Ends p e below F (T85.setTop (mkF m 326 A87 []))
              refine own_step (fun _ k => XS.iconst X85.here hx rfl (hb hby at_326) k) ?_
              show own_Ends p e below F (T85.setTop (mkF m 327 A87 [(.int (0 : Int32))]))
              obtain ⟨A88, hA88⟩ : ∃ z : Array Slot, z = #[.val (.int p1), .val (.int p2), .val (.int p3), .val (.int p4), .val (.long p5), .second, .val (.long p6), .second, .val (.int v2), .val (.int v4), .val (.int z6), .val (.int z11), .val (.int z16), .val (.int z21), .val (.int v26), .val (.int v28), .val (.int v30), .val (.int z32), .val (.int z33), .val (.int z34), .val (.ref c38), .val .null, .val (.ref c80), .val (.ref a82), .val (.int (0 : Int32)), .val (.int (0 : Int32)), .val (.int (0 : Int32))] := ⟨_, rfl⟩
              refine own_step (fun _ k => XS.istore X85.here hx rfl (hb hby at_327) rfl (l' := A88) (by rw [hA87, hA88]; exact rfl) k) ?_
              show own_Ends p e below F (T85.setTop (mkF m 329 A88 []))
              refine own_step (fun _ k => XS.iload X85.here hx rfl (hb hby at_329) (by rw [hA88]; rfl) k) ?_
              show own_Ends p e below F (T85.setTop (mkF m 331 A88 [(.int (0 : Int32))]))
              refine own_step (fun _ k => XS.iload X85.here hx rfl (hb hby at_331) (by rw [hA88]; rfl) k) ?_
              show own_Ends p e below F (T85.setTop (mkF m 333 A88 [(.int (0 : Int32)), (.int (0 : Int32))]))
              refine own_step (fun _ k => XS.icmpNo X85.here hx rfl (hb hby at_333) rfl (teq (rfl : (0 : Int32) = (0 : Int32))).2 k) ?_
              show own_Ends p e below F (T85.setTop (mkF m 336 A88 []))
              refine own_step (fun _ k => XS.iconst X85.here hx rfl (hb hby at_336) k) ?_
              show own_Ends p e below F (T85.setTop (mkF m 337 A88 [(.int (1 : Int32))]))
              refine own_step (fun _ k => XS.goto X85.here hx rfl (pc0 := 337) (pc' := 341) rfl (hb hby at_337) (by decide) (by decide) k) ?_
              show own_Ends p e below F (T85.setTop (mkF m 341 A88 [(.int (1 : Int32))]))
              rw [hF]
              exact own_retH X85 hS (by rw [eq85]; exact hk) hh eq85 hZ (own_EW hw) hC83 (v := (some (.int (nar .boolean (1 : Int32))))) (fun h => by rw [Bd.returns] at h; cases h) Bd.notSynchronized (fun fs hr => retN X85 hx (t := .boolean) Bd.returns (by simp) (hb hby at_341) hr) (by decide) (by decide) (by rw [eq85]; exact ⟨rfl, N85⟩)
          by_cases c109_89 : z6 = (0 : Int32)
          · refine own_step (fun _ k => XS.ifYes X0.here hx rfl (pc0 := 109) (pc' := 146) rfl (hb hby at_109) rfl ((if0 _ _).trans (teq c109_89).1) (by decide) (by decide) k) ?_
            show own_Ends p e below F (s₁.setTop (mkF m 146 A31 []))
            refine own_step (fun _ k => XS.iloadN X0.here hx rfl (hb hby at_146) (by rw [hA31]; rfl) k) ?_
            show own_Ends p e below F (s₁.setTop (mkF m 147 A31 [(.int p2)]))
            refine own_step (fun _ k => XS.sipush X0.here hx rfl (hb hby at_147) k) ?_
            show own_Ends p e below F (s₁.setTop (mkF m 150 A31 [(.int (255 : Int32)), (.int p2)]))
            refine own_step (fun _ k => XS.iand X0.here hx rfl (hb hby at_150) rfl k) ?_
            show own_Ends p e below F (s₁.setTop (mkF m 151 A31 [(.int (p2 &&& (255 : Int32)))]))
            refine own_step (fun _ k => XS.i2c X0.here hx rfl (hb hby at_151) rfl k) ?_
            show own_Ends p e below F (s₁.setTop (mkF m 152 A31 [(.int ((p2 &&& (255 : Int32)).toUInt32.toUInt16.toUInt32.toInt32))]))
            obtain ⟨A90, hA90⟩ : ∃ z : Array Slot, z = #[.val (.int p1), .val (.int p2), .val (.int p3), .val (.int p4), .val (.long p5), .second, .val (.long p6), .second, .val (.int v2), .val (.int v4), .val (.int z6), .val (.int z11), .val (.int z16), .val (.int z21), .val (.int v26), .val (.int v28), .val (.int v30), .val (.int ((p2 &&& (255 : Int32)).toUInt32.toUInt16.toUInt32.toInt32)), .unset, .unset, .unset, .unset, .unset, .unset, .unset, .unset, .unset] := ⟨_, rfl⟩
            refine own_step (fun _ k => XS.istore X0.here hx rfl (hb hby at_152) rfl (l' := A90) (by rw [hA31, hA90]; exact rfl) k) ?_
            show own_Ends p e below F (s₁.setTop (mkF m 154 A90 []))
            refine own_step (fun _ k => XS.iloadN X0.here hx rfl (hb hby at_154) (by rw [hA90]; rfl) k) ?_
            show own_Ends p e below F (s₁.setTop (mkF m 155 A90 [(.int p2)]))
            refine own_step (fun _ k => XS.bipush X0.here hx rfl (hb hby at_155) k) ?_
            show own_Ends p e below F (s₁.setTop (mkF m 157 A90 [(.int (8 : Int32)), (.int p2)]))
            refine own_step (fun _ k => XS.ishr X0.here hx rfl (hb hby at_157) rfl k) ?_
            show own_Ends p e below F (s₁.setTop (mkF m 158 A90 [(.int (p2 >>> ((8 : Int32) &&& 31)))]))
            refine own_step (fun _ k => XS.sipush X0.here hx rfl (hb hby at_158) k) ?_
            show own_Ends p e below F (s₁.setTop (mkF m 161 A90 [(.int (255 : Int32)), (.int (p2 >>> ((8 : Int32) &&& 31)))]))
            refine own_step (fun _ k => XS.iand X0.here hx rfl (hb hby at_161) rfl k) ?_
            show own_Ends p e below F (s₁.setTop (mkF m 162 A90 [(.int ((p2 >>> ((8 : Int32) &&& 31)) &&& (255 : Int32)))]))
            refine own_step (fun _ k => XS.i2c X0.here hx rfl (hb hby at_162) rfl k) ?_
            show own_Ends p e below F (s₁.setTop (mkF m 163 A90 [(.int (((p2 >>> ((8 : Int32) &&& 31)) &&& (255 : Int32)).toUInt32.toUInt16.toUInt32.toInt32))]))
            obtain ⟨A91, hA91⟩ : ∃ z : Array Slot, z = #[.val (.int p1), .val (.int p2), .val (.int p3), .val (.int p4), .val (.long p5), .second, .val (.long p6), .second, .val (.int v2), .val (.int v4), .val (.int z6), .val (.int z11), .val (.int z16), .val (.int z21), .val (.int v26), .val (.int v28), .val (.int v30), .val (.int ((p2 &&& (255 : Int32)).toUInt32.toUInt16.toUInt32.toInt32)), .val (.int (((p2 >>> ((8 : Int32) &&& 31)) &&& (255 : Int32)).toUInt32.toUInt16.toUInt32.toInt32)), .unset, .unset, .unset, .unset, .unset, .unset, .unset, .unset] := ⟨_, rfl⟩
            refine own_step (fun _ k => XS.istore X0.here hx rfl (hb hby at_163) rfl (l' := A91) (by rw [hA90, hA91]; exact rfl) k) ?_
            show own_Ends p e below F (s₁.setTop (mkF m 165 A91 []))
            refine own_step (fun _ k => XS.iloadN X0.here hx rfl (hb hby at_165) (by rw [hA91]; rfl) k) ?_
            show own_Ends p e below F (s₁.setTop (mkF m 166 A91 [(.int p2)]))
            refine own_step (fun _ k => XS.bipush X0.here hx rfl (hb hby at_166) k) ?_
            show own_Ends p e below F (s₁.setTop (mkF m 168 A91 [(.int (16 : Int32)), (.int p2)]))
            refine own_step (fun _ k => XS.ishr X0.here hx rfl (hb hby at_168) rfl k) ?_
            show own_Ends p e below F (s₁.setTop (mkF m 169 A91 [(.int (p2 >>> ((16 : Int32) &&& 31)))]))
            refine own_step (fun _ k => XS.sipush X0.here hx rfl (hb hby at_169) k) ?_
            show own_Ends p e below F (s₁.setTop (mkF m 172 A91 [(.int (255 : Int32)), (.int (p2 >>> ((16 : Int32) &&& 31)))]))
            refine own_step (fun _ k => XS.iand X0.here hx rfl (hb hby at_172) rfl k) ?_
            show own_Ends p e below F (s₁.setTop (mkF m 173 A91 [(.int ((p2 >>> ((16 : Int32) &&& 31)) &&& (255 : Int32)))]))
            refine own_step (fun _ k => XS.i2c X0.here hx rfl (hb hby at_173) rfl k) ?_
            show own_Ends p e below F (s₁.setTop (mkF m 174 A91 [(.int (((p2 >>> ((16 : Int32) &&& 31)) &&& (255 : Int32)).toUInt32.toUInt16.toUInt32.toInt32))]))
            obtain ⟨A92, hA92⟩ : ∃ z : Array Slot, z = #[.val (.int p1), .val (.int p2), .val (.int p3), .val (.int p4), .val (.long p5), .second, .val (.long p6), .second, .val (.int v2), .val (.int v4), .val (.int z6), .val (.int z11), .val (.int z16), .val (.int z21), .val (.int v26), .val (.int v28), .val (.int v30), .val (.int ((p2 &&& (255 : Int32)).toUInt32.toUInt16.toUInt32.toInt32)), .val (.int (((p2 >>> ((8 : Int32) &&& 31)) &&& (255 : Int32)).toUInt32.toUInt16.toUInt32.toInt32)), .val (.int (((p2 >>> ((16 : Int32) &&& 31)) &&& (255 : Int32)).toUInt32.toUInt16.toUInt32.toInt32)), .unset, .unset, .unset, .unset, .unset, .unset, .unset] := ⟨_, rfl⟩
            refine own_step (fun _ k => XS.istore X0.here hx rfl (hb hby at_174) rfl (l' := A92) (by rw [hA91, hA92]; exact rfl) k) ?_
            show own_Ends p e below F (s₁.setTop (mkF m 176 A92 []))
            rw [hA92]
            exact J109_35 _ _ _ (by simp only [if_true, if_false, c109_89]) (by simp only [if_true, if_false, c109_89]) (by simp only [if_true, if_false, c109_89])
          · refine own_step (fun _ k => XS.ifNo X0.here hx rfl (hb hby at_109) rfl ((if0 _ _).trans (feq c109_89).1) k) ?_
            show own_Ends p e below F (s₁.setTop (mkF m 112 A31 []))
            refine own_step (fun _ k => XS.iload X0.here hx rfl (hb hby at_112) (by rw [hA31]; rfl) k) ?_
            show own_Ends p e below F (s₁.setTop (mkF m 114 A31 [(.int v26)]))
            refine own_step (fun _ k => XS.iloadN X0.here hx rfl (hb hby at_114) (by rw [hA31]; rfl) k) ?_
            show own_Ends p e below F (s₁.setTop (mkF m 115 A31 [(.int p2), (.int v26)]))
            refine own_step (fun _ k => XS.iconst X0.here hx rfl (hb hby at_115) k) ?_
            show own_Ends p e below F (s₁.setTop (mkF m 116 A31 [(.int (1 : Int32)), (.int p2), (.int v26)]))
            refine own_step (fun _ k => XS.iand X0.here hx rfl (hb hby at_116) rfl k) ?_
            show own_Ends p e below F (s₁.setTop (mkF m 117 A31 [(.int (p2 &&& (1 : Int32))), (.int v26)]))
            refine own_step (fun _ k => XS.ixor X0.here hx rfl (hb hby at_117) rfl k) ?_
            show own_Ends p e below F (s₁.setTop (mkF m 118 A31 [(.int (v26 ^^^ (p2 &&& (1 : Int32))))]))
            refine own_step (fun _ k => XS.i2c X0.here hx rfl (hb hby at_118) rfl k) ?_
            show own_Ends p e below F (s₁.setTop (mkF m 119 A31 [(.int ((v26 ^^^ (p2 &&& (1 : Int32))).toUInt32.toUInt16.toUInt32.toInt32))]))
            obtain ⟨A93, hA93⟩ : ∃ z : Array Slot, z = #[.val (.int p1), .val (.int p2), .val (.int p3), .val (.int p4), .val (.long p5), .second, .val (.long p6), .second, .val (.int v2), .val (.int v4), .val (.int z6), .val (.int z11), .val (.int z16), .val (.int z21), .val (.int v26), .val (.int v28), .val (.int v30), .val (.int ((v26 ^^^ (p2 &&& (1 : Int32))).toUInt32.toUInt16.toUInt32.toInt32)), .unset, .unset, .unset, .unset, .unset, .unset, .unset, .unset, .unset] := ⟨_, rfl⟩
            refine own_step (fun _ k => XS.istore X0.here hx rfl (hb hby at_119) rfl (l' := A93) (by rw [hA31, hA93]; exact rfl) k) ?_
            show own_Ends p e below F (s₁.setTop (mkF m 121 A93 []))
            refine own_step (fun _ k => XS.iload X0.here hx rfl (hb hby at_121) (by rw [hA93]; rfl) k) ?_
            show own_Ends p e below F (s₁.setTop (mkF m 123 A93 [(.int v28)]))
            refine own_step (fun _ k => XS.iloadN X0.here hx rfl (hb hby at_123) (by rw [hA93]; rfl) k) ?_
            show own_Ends p e below F (s₁.setTop (mkF m 124 A93 [(.int p2), (.int v28)]))
            refine own_step (fun _ k => XS.iconst X0.here hx rfl (hb hby at_124) k) ?_
            show own_Ends p e below F (s₁.setTop (mkF m 125 A93 [(.int (1 : Int32)), (.int p2), (.int v28)]))
            refine own_step (fun _ k => XS.ishr X0.here hx rfl (hb hby at_125) rfl k) ?_
            show own_Ends p e below F (s₁.setTop (mkF m 126 A93 [(.int (p2 >>> ((1 : Int32) &&& 31))), (.int v28)]))
            refine own_step (fun _ k => XS.iconst X0.here hx rfl (hb hby at_126) k) ?_
            show own_Ends p e below F (s₁.setTop (mkF m 127 A93 [(.int (1 : Int32)), (.int (p2 >>> ((1 : Int32) &&& 31))), (.int v28)]))
            refine own_step (fun _ k => XS.iand X0.here hx rfl (hb hby at_127) rfl k) ?_
            show own_Ends p e below F (s₁.setTop (mkF m 128 A93 [(.int ((p2 >>> ((1 : Int32) &&& 31)) &&& (1 : Int32))), (.int v28)]))
            refine own_step (fun _ k => XS.ixor X0.here hx rfl (hb hby at_128) rfl k) ?_
            show own_Ends p e below F (s₁.setTop (mkF m 129 A93 [(.int (v28 ^^^ ((p2 >>> ((1 : Int32) &&& 31)) &&& (1 : Int32))))]))
            refine own_step (fun _ k => XS.i2c X0.here hx rfl (hb hby at_129) rfl k) ?_
            show own_Ends p e below F (s₁.setTop (mkF m 130 A93 [(.int ((v28 ^^^ ((p2 >>> ((1 : Int32) &&& 31)) &&& (1 : Int32))).toUInt32.toUInt16.toUInt32.toInt32))]))
            obtain ⟨A94, hA94⟩ : ∃ z : Array Slot, z = #[.val (.int p1), .val (.int p2), .val (.int p3), .val (.int p4), .val (.long p5), .second, .val (.long p6), .second, .val (.int v2), .val (.int v4), .val (.int z6), .val (.int z11), .val (.int z16), .val (.int z21), .val (.int v26), .val (.int v28), .val (.int v30), .val (.int ((v26 ^^^ (p2 &&& (1 : Int32))).toUInt32.toUInt16.toUInt32.toInt32)), .val (.int ((v28 ^^^ ((p2 >>> ((1 : Int32) &&& 31)) &&& (1 : Int32))).toUInt32.toUInt16.toUInt32.toInt32)), .unset, .unset, .unset, .unset, .unset, .unset, .unset, .unset] := ⟨_, rfl⟩
            refine own_step (fun _ k => XS.istore X0.here hx rfl (hb hby at_130) rfl (l' := A94) (by rw [hA93, hA94]; exact rfl) k) ?_
            show own_Ends p e below F (s₁.setTop (mkF m 132 A94 []))
            refine own_step (fun _ k => XS.iload X0.here hx rfl (hb hby at_132) (by rw [hA94]; rfl) k) ?_
            show own_Ends p e below F (s₁.setTop (mkF m 134 A94 [(.int v30)]))
            refine own_step (fun _ k => XS.iloadN X0.here hx rfl (hb hby at_134) (by rw [hA94]; rfl) k) ?_
            show own_Ends p e below F (s₁.setTop (mkF m 135 A94 [(.int p2), (.int v30)]))
            refine own_step (fun _ k => XS.iconst X0.here hx rfl (hb hby at_135) k) ?_
            show own_Ends p e below F (s₁.setTop (mkF m 136 A94 [(.int (2 : Int32)), (.int p2), (.int v30)]))
            refine own_step (fun _ k => XS.ishr X0.here hx rfl (hb hby at_136) rfl k) ?_
            show own_Ends p e below F (s₁.setTop (mkF m 137 A94 [(.int (p2 >>> ((2 : Int32) &&& 31))), (.int v30)]))
            refine own_step (fun _ k => XS.iconst X0.here hx rfl (hb hby at_137) k) ?_
            show own_Ends p e below F (s₁.setTop (mkF m 138 A94 [(.int (1 : Int32)), (.int (p2 >>> ((2 : Int32) &&& 31))), (.int v30)]))
            refine own_step (fun _ k => XS.iand X0.here hx rfl (hb hby at_138) rfl k) ?_
            show own_Ends p e below F (s₁.setTop (mkF m 139 A94 [(.int ((p2 >>> ((2 : Int32) &&& 31)) &&& (1 : Int32))), (.int v30)]))
            refine own_step (fun _ k => XS.ixor X0.here hx rfl (hb hby at_139) rfl k) ?_
            show own_Ends p e below F (s₁.setTop (mkF m 140 A94 [(.int (v30 ^^^ ((p2 >>> ((2 : Int32) &&& 31)) &&& (1 : Int32))))]))
            refine own_step (fun _ k => XS.i2c X0.here hx rfl (hb hby at_140) rfl k) ?_
            show own_Ends p e below F (s₁.setTop (mkF m 141 A94 [(.int ((v30 ^^^ ((p2 >>> ((2 : Int32) &&& 31)) &&& (1 : Int32))).toUInt32.toUInt16.toUInt32.toInt32))]))
            obtain ⟨A95, hA95⟩ : ∃ z : Array Slot, z = #[.val (.int p1), .val (.int p2), .val (.int p3), .val (.int p4), .val (.long p5), .second, .val (.long p6), .second, .val (.int v2), .val (.int v4), .val (.int z6), .val (.int z11), .val (.int z16), .val (.int z21), .val (.int v26), .val (.int v28), .val (.int v30), .val (.int ((v26 ^^^ (p2 &&& (1 : Int32))).toUInt32.toUInt16.toUInt32.toInt32)), .val (.int ((v28 ^^^ ((p2 >>> ((1 : Int32) &&& 31)) &&& (1 : Int32))).toUInt32.toUInt16.toUInt32.toInt32)), .val (.int ((v30 ^^^ ((p2 >>> ((2 : Int32) &&& 31)) &&& (1 : Int32))).toUInt32.toUInt16.toUInt32.toInt32)), .unset, .unset, .unset, .unset, .unset, .unset, .unset] := ⟨_, rfl⟩
            refine own_step (fun _ k => XS.istore X0.here hx rfl (hb hby at_141) rfl (l' := A95) (by rw [hA94, hA95]; exact rfl) k) ?_
            show own_Ends p e below F (s₁.setTop (mkF m 143 A95 []))
            refine own_step (fun _ k => XS.goto X0.here hx rfl (pc0 := 143) (pc' := 176) rfl (hb hby at_143) (by decide) (by decide) k) ?_
            show own_Ends p e below F (s₁.setTop (mkF m 176 A95 []))
            rw [hA95]
            exact J109_35 _ _ _ (by simp only [if_true, if_false, c109_89]) (by simp only [if_true, if_false, c109_89]) (by simp only [if_true, if_false, c109_89])
        by_cases c67_96 : ((p3 >>> ((7 : Int32) &&& 31)) &&& (7 : Int32)) = (7 : Int32)
        · refine own_step (fun _ k => XS.icmpNo X0.here hx rfl (hb hby at_67) rfl (teq c67_96).2 k) ?_
          show own_Ends p e below F (s₁.setTop (mkF m 70 A20 []))
          refine own_step (fun _ k => XS.iconst X0.here hx rfl (hb hby at_70) k) ?_
          show own_Ends p e below F (s₁.setTop (mkF m 71 A20 [(.int (1 : Int32))]))
          refine own_step (fun _ k => XS.goto X0.here hx rfl (pc0 := 71) (pc' := 75) rfl (hb hby at_71) (by decide) (by decide) k) ?_
          show own_Ends p e below F (s₁.setTop (mkF m 75 A20 [(.int (1 : Int32))]))
          rw [hA20]
          exact J67_22 _ (by simp only [if_true, if_false, c67_96])
        · refine own_step (fun _ k => XS.icmpYes X0.here hx rfl (pc0 := 67) (pc' := 74) rfl (hb hby at_67) rfl (feq c67_96).2 (by decide) (by decide) k) ?_
          show own_Ends p e below F (s₁.setTop (mkF m 74 A20 []))
          refine own_step (fun _ k => XS.iconst X0.here hx rfl (hb hby at_74) k) ?_
          show own_Ends p e below F (s₁.setTop (mkF m 75 A20 [(.int (0 : Int32))]))
          rw [hA20]
          exact J67_22 _ (by simp only [if_true, if_false, c67_96])
      by_cases c48_97 : ((p3 >>> ((6 : Int32) &&& 31)) &&& (1 : Int32)) = (0 : Int32)
      · refine own_step (fun _ k => XS.ifYes X0.here hx rfl (pc0 := 48) (pc' := 55) rfl (hb hby at_48) rfl ((if0 _ _).trans (teq c48_97).1) (by decide) (by decide) k) ?_
        show own_Ends p e below F (s₁.setTop (mkF m 55 A15 []))
        refine own_step (fun _ k => XS.iconst X0.here hx rfl (hb hby at_55) k) ?_
        show own_Ends p e below F (s₁.setTop (mkF m 56 A15 [(.int (0 : Int32))]))
        rw [hA15]
        exact J48_17 _ (by simp only [if_true, if_false, c48_97])
      · refine own_step (fun _ k => XS.ifNo X0.here hx rfl (hb hby at_48) rfl ((if0 _ _).trans (feq c48_97).1) k) ?_
        show own_Ends p e below F (s₁.setTop (mkF m 51 A15 []))
        refine own_step (fun _ k => XS.iconst X0.here hx rfl (hb hby at_51) k) ?_
        show own_Ends p e below F (s₁.setTop (mkF m 52 A15 [(.int (1 : Int32))]))
        refine own_step (fun _ k => XS.goto X0.here hx rfl (pc0 := 52) (pc' := 56) rfl (hb hby at_52) (by decide) (by decide) k) ?_
        show own_Ends p e below F (s₁.setTop (mkF m 56 A15 [(.int (1 : Int32))]))
        rw [hA15]
        exact J48_17 _ (by simp only [if_true, if_false, c48_97])
    by_cases c32_98 : ((p3 >>> ((5 : Int32) &&& 31)) &&& (1 : Int32)) = (0 : Int32)
    · refine own_step (fun _ k => XS.ifYes X0.here hx rfl (pc0 := 32) (pc' := 39) rfl (hb hby at_32) rfl ((if0 _ _).trans (teq c32_98).1) (by decide) (by decide) k) ?_
      show own_Ends p e below F (s₁.setTop (mkF m 39 A10 []))
      refine own_step (fun _ k => XS.iconst X0.here hx rfl (hb hby at_39) k) ?_
      show own_Ends p e below F (s₁.setTop (mkF m 40 A10 [(.int (0 : Int32))]))
      rw [hA10]
      exact J32_12 _ (by simp only [if_true, if_false, c32_98])
    · refine own_step (fun _ k => XS.ifNo X0.here hx rfl (hb hby at_32) rfl ((if0 _ _).trans (feq c32_98).1) k) ?_
      show own_Ends p e below F (s₁.setTop (mkF m 35 A10 []))
      refine own_step (fun _ k => XS.iconst X0.here hx rfl (hb hby at_35) k) ?_
      show own_Ends p e below F (s₁.setTop (mkF m 36 A10 [(.int (1 : Int32))]))
      refine own_step (fun _ k => XS.goto X0.here hx rfl (pc0 := 36) (pc' := 40) rfl (hb hby at_36) (by decide) (by decide) k) ?_
      show own_Ends p e below F (s₁.setTop (mkF m 40 A10 [(.int (1 : Int32))]))
      rw [hA10]
      exact J32_12 _ (by simp only [if_true, if_false, c32_98])
  by_cases c17_99 : ((p3 >>> ((4 : Int32) &&& 31)) &&& (1 : Int32)) = (0 : Int32)
  · refine own_step (fun _ k => XS.ifYes X0.here hx rfl (pc0 := 17) (pc' := 24) rfl (hb hby at_17) rfl ((if0 _ _).trans (teq c17_99).1) (by decide) (by decide) k) ?_
    show own_Ends p e below F (s₁.setTop (mkF m 24 A5 []))
    refine own_step (fun _ k => XS.iconst X0.here hx rfl (hb hby at_24) k) ?_
    show own_Ends p e below F (s₁.setTop (mkF m 25 A5 [(.int (0 : Int32))]))
    rw [hA5]
    exact J17_7 _ (by simp only [if_true, if_false, c17_99])
  · refine own_step (fun _ k => XS.ifNo X0.here hx rfl (hb hby at_17) rfl ((if0 _ _).trans (feq c17_99).1) k) ?_
    show own_Ends p e below F (s₁.setTop (mkF m 20 A5 []))
    refine own_step (fun _ k => XS.iconst X0.here hx rfl (hb hby at_20) k) ?_
    show own_Ends p e below F (s₁.setTop (mkF m 21 A5 [(.int (1 : Int32))]))
    refine own_step (fun _ k => XS.goto X0.here hx rfl (pc0 := 21) (pc' := 25) rfl (hb hby at_21) (by decide) (by decide) k) ?_
    show own_Ends p e below F (s₁.setTop (mkF m 25 A5 [(.int (1 : Int32))]))
    rw [hA5]
    exact J17_7 _ (by simp only [if_true, if_false, c17_99])

theorem own_scstart {Z : State} {args : Array Value} (h1 : (Jvm.Cond.initializedFor "java/lang/String" "COMPACT_STRINGS" "Z").before args Z = true) (h2 : (Jvm.Cond.isInt (Jvm.Term.static "java/lang/String" "COMPACT_STRINGS" "Z")).before args Z = true) (h3 : (Jvm.Cond.not (Jvm.Cond.eq (Jvm.Term.static "java/lang/String" "COMPACT_STRINGS" "Z") (Jvm.Term.int (0 : Int32)))).before args Z = true) : ∃ z : Int32, Sta Z Z.heap "java/lang/String" "COMPACT_STRINGS" "Z" (.int z) ∧ ¬ z = 0 := by
  obtain ⟨z, e⟩ := is_v (Cond.before_iff.mp h2)
  refine ⟨z, Sta.start e (Or.inl h1), ?_⟩
  have q := not_v (Cond.before_iff.mp h3)
  have q2 : (Jvm.Cond.eq (Jvm.Term.static "java/lang/String" "COMPACT_STRINGS" "Z") (Jvm.Term.int (0 : Int32))).value args Z none Z [] = some (decide (z = 0)) := by simp only [Cond.value, e]; first | done | rfl
  exact gotF q2 q

set_option maxRecDepth 65536 in
set_option maxHeartbeats 40000000 in
theorem comes_1 {Post : Tables → Env → Array Value → State → Outcome → State → Prop} (hpost : ∀ tb e args s v u, (limb_1_1.after args s (.returned v) u = true ∧ limb_1_2.after args s (.returned v) u = true ∧ True) → ReturnedEndW s (.returned v) u (Jvm.fieldLocs frame_1_writes args s ++ Jvm.arrayLocs frame_1_arrays args s ++ Jvm.staticLocs frame_1_statics s) 32 1152 → Post tb e args s (.returned v) u) :
    ArmFor flags0 classFile x code maxLocals ret World_1 tables_1 room_1 Calls_1 rest_1 Pre_1 Post := by
  intro l hfl _ _ p e ha hc hk s m args below hf hA hF happ hP
  obtain ⟨hcalls, hrest, hpre⟩ := hP
  obtain ⟨-, -, -, hnamed, -, -, -, hat⟩ := (Spec.applies_iff hf).mp happ
  obtain ⟨hg, hn⟩ := and_e (Cond.before_iff.mp (show (Jvm.Cond.and given_1 narrow_1).before args s = true from hpre))
  obtain ⟨g0, r0⟩ := and_e hg
  obtain ⟨g1, r1⟩ := and_e r0
  obtain ⟨g2, r2⟩ := and_e r1
  obtain ⟨g3, r3⟩ := and_e r2
  obtain ⟨g4, r4⟩ := and_e r3
  obtain ⟨g5, r5⟩ := and_e r4
  have g6 := r5
  obtain ⟨w0, w1, w2, w3, w4, w5, rfl⟩ : ∃ w0 w1 w2 w3 w4 w5 : Value, args = #[w0, w1, w2, w3, w4, w5] := by
    have hs : args.size = 6 := by simpa [Cond.value, given_1] using g0
    obtain ⟨L⟩ := args
    match L, hs with
    | [w0, w1, w2, w3, w4, w5], _ => exact ⟨w0, w1, w2, w3, w4, w5, rfl⟩
  have hw := fun d (hd : d ∈ tables_1) => atoms_spec (ws := Jvm.Cond.code x code maxLocals ret :: tables_1) hat d (List.mem_cons_of_mem _ hd)
  have hfit : Fit s := fun {y c} hc i hi => by
    obtain ⟨ha, rfl⟩ := Array.getElem?_eq_some_iff.mp hc
    have q := List.all_eq_true.mp ((Array.all_eq_true_iff_forall_mem.mp hF) _ (Array.getElem_mem ha)) i (List.mem_range.mpr hi)
    simpa [Array.getElem?_eq_getElem hi] using q
  obtain ⟨i0, ei0⟩ := is_v g1
  obtain rfl : w0 = (.int i0) := Option.some.inj ei0
  obtain ⟨i1, ei1⟩ := is_v g2
  obtain rfl : w1 = (.int i1) := Option.some.inj ei1
  obtain ⟨i2, ei2⟩ := is_v g3
  obtain rfl : w2 = (.int i2) := Option.some.inj ei2
  obtain ⟨i3, ei3⟩ := is_v g4
  obtain rfl : w3 = (.int i3) := Option.some.inj ei3
  obtain ⟨i4, ei4⟩ := isL_v g5
  obtain rfl : w4 = (.long i4) := Option.some.inj ei4
  obtain ⟨i5, ei5⟩ := isL_v g6
  obtain rfl : w5 = (.long i5) := Option.some.inj ei5
  obtain ⟨hst, -⟩ := atoms_of (own := restOwn_1) jdkStatics_1 (by rw [← rest_1_c_eq]; exact hrest)
  obtain ⟨zc, SC, hz⟩ := own_scstart (hst _ (List.mem_of_getElem? (i := 0) rfl)) (hst _ (List.mem_of_getElem? (i := 1) rfl)) (hst _ (List.mem_of_getElem? (i := 2) rfl))
  have hCH : CHv s own_EL s.vm s.heap := CHv.start (own_EW hw) (fun p hp => hcalls.1 p hp) (hst _ (List.mem_of_getElem? (i := 2) rfl)) (own_g hw 23 rfl) (own_g hw 5 rfl)
  obtain ⟨n, o, h1, h2, h3, _, L, rfl, ⟨rfl, N⟩, -, hq⟩ := rm0 l s _ hw tables_1 i0 i1 i2 i3 i4 i5 zc s.heap s.heap.size (Nat.le_refl _) SC hz p e ha hc hk s m _ below hf ((Spec.applies_iff_loose hf).mp happ).1 ⟨rfl, State.Warmed39.refl s, rfl, hCH⟩ trivial
  refine ⟨n, _, h1, h2, h3, hpost _ _ _ _ _ _ ⟨Cond.after_iff.mpr rfl, Cond.after_iff.mpr (eq_i res_at (Term.int_eval (1)) rfl), trivial⟩ ⟨hq.1, hq.2.1, hq.2.2.1, (hq.2.2.2.sift fun y hy => Or.inr (N y hy)).mono (by decide) (by decide)⟩⟩
theorem main_1_1 : Claimed_1_1 := comes_1 fun _ _ _ _ _ _ h hF => ⟨h.1, hF⟩
theorem main_1_2 : Claimed_1_2 := comes_1 fun _ _ _ _ _ _ h hF => ⟨h.2.1, hF⟩

end Jvm.Pilot.@@N@@
namespace Jvm.Pilot.@@N@@
open Jvm Jvm.ClassFile Sem Op Lib Jvm.Free Jvm.Stand Jvm.Pilot.@@N@@.Jvm.D
/-! MADE BY PROGRAM (witnessworld.py) out of the Statement's table words and the real class files: 21 classes; the members and pool entries that the words name. The judged class is class 1, her method 2. -/
namespace start1
open Jvm.ClassFile
def u (s : String) : CpInfo := .utf8 (stringToUtf16 s)
/-- a pool by its gaps: so many unusable entries, then the entry; so many at the end -/
def gap : Nat → List CpInfo → List CpInfo
  | 0, r => r
  | n + 1, r => .unusable :: gap n r
def poolList (es : List (Nat × CpInfo)) (last : Nat) : List CpInfo := es.foldr (fun e r => gap e.1 (e.2 :: r)) (gap last [])
def pool (es : List (Nat × CpInfo)) (last : Nat) : Array CpInfo := ⟨poolList es last⟩
def fileOf (pool : Array CpInfo) (this : Nat) (attrs : Array Attribute := #[]) (ms : Array MethodInfo := #[]) (fl : Nat := 33) (sup : Nat := 0) (ifs : Array Nat := #[]) (fds : Array FieldInfo := #[]) : ClassFile where
  minorVersion := 0
  majorVersion := 65
  constantPool := pool
  accessFlags := fl
  thisClass := this
  superClass := sup
  interfaces := ifs
  fields := fds
  methods := ms
  attributes := attrs
def plain (name : String) (sup : Option ClassId) : Class where
  name := name
  kind := .ordinary
  loader := none
  accessFlags := 33
  super := sup
  interfaces := #[]
  cf := none
  fields := #[]
  methods := #[]
  instanceTypes := #[]
  staticTypes := #[]
  resolved := #[]
  callSites := []
  init := .initialized
  statics := none
  mirror := none

def pool0 : Array CpInfo := pool [(5, u "<init>"), (0, u "()V"), (1, .class_ 10), (1, u "java/lang/Object")] 113

def k0c0 : Code := { maxStack := 0, maxLocals := 1, code := object_method_1_code, exceptionTable := #[], attributes := #[] }
def k0m0 : Method := { name := "<init>", desc := "()V", sig := { parameters := [], returnType := none }, accessFlags := 1, code := some k0c0 }
/-- java/lang/Object -/
def k0 : Class := { plain "java/lang/Object" none with
  accessFlags := 33
  interfaces := #[]
  cf := some (fileOf pool0 8 #[] #[{ accessFlags := 1, nameIndex := 5, descriptorIndex := 6, attributes := #[] }] 33 0 #[] #[])
  fields := #[]
  methods := #[k0m0]
  instanceTypes := #[]
  staticTypes := #[]
  resolved := Array.replicate 124 none
  statics := none }

def pool1 : Array CpInfo := pool [(2, .class_ 4), (1, u "java/lang/Object"), (0, u "<init>"), (0, u "()V"), (0, .class_ 8), (0, u "java/lang/String"), (0, .methodref 7 10), (0, .nameAndType 5 11), (0, u "([C)V"), (0, .methodref 13 14), (0, .class_ 15), (0, .nameAndType 16 17), (0, u "com/example/pledger/pledger/model/AccountIsOpenedAsPinLaw"), (0, u "mk"), (0, u "(ICCC)Ljava/lang/String;"), (0, .methodref 7 19), (0, .nameAndType 20 21), (0, u "valueOf"), (0, u "(C)Ljava/lang/String;"), (0, .class_ 23), (0, u "com/example/pledger/pledger/model/Account"), (0, .methodref 22 25), (0, .nameAndType 5 26), (0, u "(Ljava/lang/String;Ljava/lang/String;ZJJ)V"), (0, .methodref 22 28), (0, .nameAndType 29 30), (0, u "isOpenedAs"), (0, u "(Ljava/lang/String;Z)Z"), (3, u "law"), (0, u "(IIIIJJ)Z")] 2

def k1m0 : Method := { name := "<init>", desc := "()V", sig := { parameters := [], returnType := none }, accessFlags := 1, code := none }
def k1c1 : Code := { maxStack := 6, maxLocals := 4, code := method_2_code, exceptionTable := #[], attributes := #[] }
def k1m1 : Method := { name := "mk", desc := "(ICCC)Ljava/lang/String;", sig := { parameters := [.int, .char, .char, .char], returnType := some (.object "java/lang/String") }, accessFlags := 10, code := some k1c1 }
def k1c2 : Code := { maxStack := 9, maxLocals := 27, code := code, exceptionTable := #[], attributes := #[] }
def k1m2 : Method := { name := "law", desc := "(IIIIJJ)Z", sig := { parameters := [.int, .int, .int, .int, .long, .long], returnType := some .boolean }, accessFlags := 9, code := some k1c2 }
/-- com/example/pledger/pledger/model/AccountIsOpenedAsPinLaw -/
def k1 : Class := { plain "com/example/pledger/pledger/model/AccountIsOpenedAsPinLaw" (some 0) with
  accessFlags := 49
  interfaces := #[]
  cf := some (fileOf pool1 13 #[] #[{ accessFlags := 1, nameIndex := 5, descriptorIndex := 6, attributes := #[] }, { accessFlags := 10, nameIndex := 16, descriptorIndex := 17, attributes := #[] }, { accessFlags := 9, nameIndex := 34, descriptorIndex := 35, attributes := #[] }] 49 2 #[] #[])
  fields := #[]
  methods := #[k1m0, k1m1, k1m2]
  instanceTypes := #[]
  staticTypes := #[]
  resolved := Array.replicate 38 none
  statics := none }

def pool2 : Array CpInfo := pool [(1, .class_ 2), (0, u "java/io/Serializable"), (0, .class_ 4), (0, u "java/lang/Object")] 2

/-- java/io/Serializable -/
def k2 : Class := { plain "java/io/Serializable" (some 0) with
  accessFlags := 1537
  interfaces := #[]
  cf := some (fileOf pool2 1 #[] #[] 1537 3 #[] #[])
  fields := #[]
  methods := #[]
  instanceTypes := #[]
  staticTypes := #[]
  resolved := Array.replicate 7 none
  statics := none }

def pool3 : Array CpInfo := pool [(1, .class_ 2), (0, u "java/lang/Comparable"), (0, .class_ 4), (0, u "java/lang/Object")] 7

/-- java/lang/Comparable -/
def k3 : Class := { plain "java/lang/Comparable" (some 0) with
  accessFlags := 1537
  interfaces := #[]
  cf := some (fileOf pool3 1 #[] #[] 1537 3 #[] #[])
  fields := #[]
  methods := #[]
  instanceTypes := #[]
  staticTypes := #[]
  resolved := Array.replicate 12 none
  statics := none }

def pool4 : Array CpInfo := pool [(2, .class_ 4), (1, u "java/lang/CharSequence"), (42, .class_ 48), (0, u "java/lang/CharSequence$1CodePointIterator"), (10, .class_ 60), (0, u "java/lang/CharSequence$1CharIterator"), (5, .class_ 67), (0, u "java/lang/Object")] 63

/-- java/lang/CharSequence -/
def k4 : Class := { plain "java/lang/CharSequence" (some 0) with
  accessFlags := 1537
  interfaces := #[]
  cf := some (fileOf pool4 2 #[.nestMembers #[47, 59]] #[] 1537 66 #[] #[])
  fields := #[]
  methods := #[]
  instanceTypes := #[]
  staticTypes := #[]
  resolved := Array.replicate 131 none
  statics := none }

def pool5 : Array CpInfo := pool [(1, .class_ 2), (0, u "java/lang/constant/Constable"), (0, .class_ 4), (0, u "java/lang/Object")] 6

/-- java/lang/constant/Constable -/
def k5 : Class := { plain "java/lang/constant/Constable" (some 0) with
  accessFlags := 1537
  interfaces := #[]
  cf := some (fileOf pool5 1 #[] #[] 1537 3 #[] #[])
  fields := #[]
  methods := #[]
  instanceTypes := #[]
  staticTypes := #[]
  resolved := Array.replicate 11 none
  statics := none }

def pool6 : Array CpInfo := pool [(1, .class_ 2), (0, u "java/lang/constant/ConstantDesc"), (0, .class_ 4), (0, u "java/lang/Object")] 32

/-- java/lang/constant/ConstantDesc -/
def k6 : Class := { plain "java/lang/constant/ConstantDesc" (some 0) with
  accessFlags := 1537
  interfaces := #[]
  cf := some (fileOf pool6 1 #[] #[] 1537 3 #[] #[])
  fields := #[]
  methods := #[]
  instanceTypes := #[]
  staticTypes := #[]
  resolved := Array.replicate 37 none
  statics := none }

def pool7 : Array CpInfo := pool [(1, .methodref 2 3), (0, .class_ 4), (0, .nameAndType 5 6), (0, u "java/lang/Object"), (0, u "<init>"), (0, u "()V"), (0, .string 8), (0, u ""), (0, .fieldref 10 11), (0, .class_ 12), (0, .nameAndType 13 14), (0, u "java/lang/String"), (0, u "value"), (0, u "[B"), (0, .fieldref 10 16), (0, .nameAndType 17 18), (0, u "coder"), (0, u "B"), (2, u "hash"), (0, u "I"), (2, u "hashIsZero"), (0, u "Z"), (0, .methodref 10 28), (0, .nameAndType 5 29), (0, u "([CIILjava/lang/Void;)V"), (8, .fieldref 10 39), (0, .nameAndType 40 26), (0, u "COMPACT_STRINGS"), (1, .class_ 44), (1, u "java/lang/StringUTF16"), (0, u "compress"), (1, .methodref 42 48), (0, .nameAndType 49 50), (0, u "coderFromArrayLen"), (0, u "([BI)B"), (2, u "toBytes"), (53, .class_ 109), (1, u "java/lang/StringLatin1"), (67, .methodref 42 178), (0, .nameAndType 45 179), (0, u "([CII)[B"), (29, .methodref 10 210), (0, .nameAndType 5 211), (0, u "([BB)V"), (157, u "(C)Z"), (171, .methodref 107 542), (0, .nameAndType 543 544), (0, u "equals"), (0, u "([B[B)Z"), (28, u "(Ljava/lang/Object;)Z"), (1, .class_ 576), (0, u "java/lang/CharSequence"), (22, u "CASE_INSENSITIVE_ORDER"), (0, u "Ljava/util/Comparator;"), (181, u "valueOf"), (0, u "(C)Ljava/lang/String;"), (226, u "([C)V"), (4, .methodref 107 1016), (0, .nameAndType 1017 369), (0, u "canEncode"), (0, .methodref 107 1019), (0, .nameAndType 53 1020), (0, u "(C)[B"), (80, u "serialPersistentFields"), (0, u "[Ljava/io/ObjectStreamField;"), (0, .class_ 1104), (0, u "java/lang/String$CaseInsensitiveComparator"), (1, .class_ 1107), (0, u "java/io/Serializable"), (0, .class_ 1109), (0, u "java/lang/Comparable"), (0, .class_ 1111), (0, u "java/lang/constant/Constable"), (0, .class_ 1113), (0, u "java/lang/constant/ConstantDesc"), (2, u "serialVersionUID"), (0, u "J"), (3, u "REPL"), (0, u "C"), (2, u "LATIN1"), (1, u "UTF16")] 323

def k7m0 : Method := { name := "<init>", desc := "()V", sig := { parameters := [], returnType := none }, accessFlags := 1, code := none }
def k7c1 : Code := { maxStack := 5, maxLocals := 2, code := jdk_42_method_3_code, exceptionTable := #[], attributes := #[] }
def k7m1 : Method := { name := "<init>", desc := "([C)V", sig := { parameters := [(.array .char)], returnType := none }, accessFlags := 1, code := some k7c1 }
def k7c2 : Code := { maxStack := 2, maxLocals := 3, code := jdk_42_method_66_code, exceptionTable := #[], attributes := #[] }
def k7m2 : Method := { name := "equals", desc := "(Ljava/lang/Object;)Z", sig := { parameters := [(.object "java/lang/Object")], returnType := some .boolean }, accessFlags := 1, code := some k7c2 }
def k7c3 : Code := { maxStack := 4, maxLocals := 1, code := jdk_42_method_139_code, exceptionTable := #[], attributes := #[] }
def k7m3 : Method := { name := "valueOf", desc := "(C)Ljava/lang/String;", sig := { parameters := [.char], returnType := some (.object "java/lang/String") }, accessFlags := 9, code := some k7c3 }
def k7c4 : Code := { maxStack := 4, maxLocals := 6, code := jdk_42_method_149_code, exceptionTable := #[], attributes := #[] }
def k7m4 : Method := { name := "<init>", desc := "([CIILjava/lang/Void;)V", sig := { parameters := [(.array .char), .int, .int, (.object "java/lang/Void")], returnType := none }, accessFlags := 2, code := some k7c4 }
def k7c5 : Code := { maxStack := 2, maxLocals := 3, code := jdk_42_method_151_code, exceptionTable := #[], attributes := #[] }
def k7m5 : Method := { name := "<init>", desc := "([BB)V", sig := { parameters := [(.array .byte), .byte], returnType := none }, accessFlags := 0, code := some k7c5 }
/-- java/lang/String -/
def k7 : Class := { plain "java/lang/String" (some 0) with
  accessFlags := 49
  interfaces := #[2, 3, 4, 5, 6]
  cf := some (fileOf pool7 10 #[.nestMembers #[1103]] #[{ accessFlags := 1, nameIndex := 5, descriptorIndex := 6, attributes := #[] }, { accessFlags := 1, nameIndex := 5, descriptorIndex := 1010, attributes := #[] }, { accessFlags := 1, nameIndex := 543, descriptorIndex := 573, attributes := #[] }, { accessFlags := 9, nameIndex := 782, descriptorIndex := 783, attributes := #[] }, { accessFlags := 2, nameIndex := 5, descriptorIndex := 29, attributes := #[] }, { accessFlags := 0, nameIndex := 5, descriptorIndex := 211, attributes := #[] }] 49 2 #[1106, 1108, 575, 1110, 1112] #[{ accessFlags := 18, nameIndex := 13, descriptorIndex := 14, attributes := #[] }, { accessFlags := 18, nameIndex := 17, descriptorIndex := 18, attributes := #[] }, { accessFlags := 2, nameIndex := 21, descriptorIndex := 22, attributes := #[] }, { accessFlags := 2, nameIndex := 25, descriptorIndex := 26, attributes := #[] }, { accessFlags := 26, nameIndex := 1116, descriptorIndex := 1117, attributes := #[] }, { accessFlags := 24, nameIndex := 40, descriptorIndex := 26, attributes := #[] }, { accessFlags := 26, nameIndex := 1101, descriptorIndex := 1102, attributes := #[] }, { accessFlags := 26, nameIndex := 1121, descriptorIndex := 1122, attributes := #[] }, { accessFlags := 25, nameIndex := 599, descriptorIndex := 600, attributes := #[] }, { accessFlags := 24, nameIndex := 1125, descriptorIndex := 18, attributes := #[] }, { accessFlags := 24, nameIndex := 1127, descriptorIndex := 18, attributes := #[] }])
  fields := #[{ name := "value", type := (.array .byte), accessFlags := 18, slot := 0, constantValue := 0 }, { name := "coder", type := .byte, accessFlags := 18, slot := 1, constantValue := 0 }, { name := "hash", type := .int, accessFlags := 2, slot := 2, constantValue := 0 }, { name := "hashIsZero", type := .boolean, accessFlags := 2, slot := 3, constantValue := 0 }, { name := "serialVersionUID", type := .long, accessFlags := 26, slot := 0, constantValue := 0 }, { name := "COMPACT_STRINGS", type := .boolean, accessFlags := 24, slot := 1, constantValue := 0 }, { name := "serialPersistentFields", type := (.array (.object "java/io/ObjectStreamField")), accessFlags := 26, slot := 2, constantValue := 0 }, { name := "REPL", type := .char, accessFlags := 26, slot := 3, constantValue := 0 }, { name := "CASE_INSENSITIVE_ORDER", type := (.object "java/util/Comparator"), accessFlags := 25, slot := 4, constantValue := 0 }, { name := "LATIN1", type := .byte, accessFlags := 24, slot := 5, constantValue := 0 }, { name := "UTF16", type := .byte, accessFlags := 24, slot := 6, constantValue := 0 }]
  methods := #[k7m0, k7m1, k7m2, k7m3, k7m4, k7m5]
  instanceTypes := #[(.array .byte), .byte, .int, .boolean]
  staticTypes := #[.long, .boolean, (.array (.object "java/io/ObjectStreamField")), .char, (.object "java/util/Comparator"), .byte, .byte]
  resolved := Array.replicate 1451 none
  statics := some 0 }

def pool8 : Array CpInfo := pool [(6, .class_ 8), (1, u "java/lang/Object"), (0, u "<init>"), (0, u "()V"), (1, .class_ 14), (1, u "java/lang/StringUTF16"), (31, u "$assertionsDisabled"), (0, u "Z"), (13, u "HI_BYTE_SHIFT"), (0, u "I"), (2, u "LO_BYTE_SHIFT"), (49, .methodref 12 116), (0, .nameAndType 117 118), (0, u "compress"), (0, u "([CI[BII)I"), (3, u "([CII)[B"), (138, u "coderFromArrayLen"), (0, u "([BI)B"), (106, .class_ 371), (1, u "java/lang/StringUTF16$LinesSpliterator"), (58, u "MAX_LENGTH"), (196, .class_ 628), (0, u "java/lang/StringUTF16$CodePointsSpliterator"), (0, .class_ 630), (0, u "java/lang/StringUTF16$CharsSpliterator")] 4

def k8m0 : Method := { name := "<init>", desc := "()V", sig := { parameters := [], returnType := none }, accessFlags := 0, code := none }
def k8c1 : Code := { maxStack := 2, maxLocals := 2, code := jdk_52_method_15_code, exceptionTable := #[], attributes := #[] }
def k8m1 : Method := { name := "coderFromArrayLen", desc := "([BI)B", sig := { parameters := [(.array .byte), .int], returnType := some .byte }, accessFlags := 8, code := some k8c1 }
def k8c2 : Code := { maxStack := 5, maxLocals := 6, code := jdk_52_method_16_code, exceptionTable := #[], attributes := #[] }
def k8m2 : Method := { name := "compress", desc := "([CII)[B", sig := { parameters := [(.array .char), .int, .int], returnType := some (.array .byte) }, accessFlags := 9, code := some k8c2 }
def k8c3 : Code := { maxStack := 3, maxLocals := 7, code := jdk_52_method_21_code, exceptionTable := #[], attributes := #[] }
def k8m3 : Method := { name := "compress", desc := "([CI[BII)I", sig := { parameters := [(.array .char), .int, (.array .byte), .int, .int], returnType := some .int }, accessFlags := 9, code := some k8c3 }
/-- java/lang/StringUTF16 -/
def k8 : Class := { plain "java/lang/StringUTF16" (some 0) with
  accessFlags := 48
  interfaces := #[]
  cf := some (fileOf pool8 12 #[.nestMembers #[627, 629, 369]] #[{ accessFlags := 0, nameIndex := 9, descriptorIndex := 10, attributes := #[] }, { accessFlags := 8, nameIndex := 261, descriptorIndex := 262, attributes := #[] }, { accessFlags := 9, nameIndex := 117, descriptorIndex := 122, attributes := #[] }, { accessFlags := 9, nameIndex := 117, descriptorIndex := 118, attributes := #[] }] 48 6 #[] #[{ accessFlags := 26, nameIndex := 61, descriptorIndex := 62, attributes := #[] }, { accessFlags := 26, nameIndex := 65, descriptorIndex := 62, attributes := #[] }, { accessFlags := 24, nameIndex := 430, descriptorIndex := 62, attributes := #[] }, { accessFlags := 4120, nameIndex := 46, descriptorIndex := 47, attributes := #[] }])
  fields := #[{ name := "HI_BYTE_SHIFT", type := .int, accessFlags := 26, slot := 0, constantValue := 0 }, { name := "LO_BYTE_SHIFT", type := .int, accessFlags := 26, slot := 1, constantValue := 0 }, { name := "MAX_LENGTH", type := .int, accessFlags := 24, slot := 2, constantValue := 0 }, { name := "$assertionsDisabled", type := .boolean, accessFlags := 4120, slot := 3, constantValue := 0 }]
  methods := #[k8m0, k8m1, k8m2, k8m3]
  instanceTypes := #[]
  staticTypes := #[.int, .int, .int, .boolean]
  resolved := Array.replicate 635 none
  statics := none }

def pool9 : Array CpInfo := pool [(4, .class_ 6), (1, u "java/lang/Object"), (0, u "<init>"), (0, u "()V"), (5, .class_ 16), (1, u "java/lang/StringLatin1"), (73, u "canEncode"), (14, u "(C)Z"), (15, u "$assertionsDisabled"), (0, u "Z"), (98, .class_ 223), (1, u "java/lang/StringLatin1$LinesSpliterator"), (57, u "equals"), (0, u "([B[B)Z"), (97, u "toBytes"), (1, u "(C)[B"), (7, .class_ 391), (0, u "java/lang/StringLatin1$CharsSpliterator")] 3

def k9m0 : Method := { name := "<init>", desc := "()V", sig := { parameters := [], returnType := none }, accessFlags := 0, code := none }
def k9c1 : Code := { maxStack := 2, maxLocals := 1, code := jdk_43_method_3_code, exceptionTable := #[], attributes := #[] }
def k9m1 : Method := { name := "canEncode", desc := "(C)Z", sig := { parameters := [.char], returnType := some .boolean }, accessFlags := 9, code := some k9c1 }
def k9c2 : Code := { maxStack := 3, maxLocals := 3, code := jdk_43_method_13_code, exceptionTable := #[], attributes := #[] }
def k9m2 : Method := { name := "equals", desc := "([B[B)Z", sig := { parameters := [(.array .byte), (.array .byte)], returnType := some .boolean }, accessFlags := 9, code := some k9c2 }
def k9c3 : Code := { maxStack := 4, maxLocals := 1, code := jdk_43_method_46_code, exceptionTable := #[], attributes := #[] }
def k9m3 : Method := { name := "toBytes", desc := "(C)[B", sig := { parameters := [.char], returnType := some (.array .byte) }, accessFlags := 9, code := some k9c3 }
/-- java/lang/StringLatin1 -/
def k9 : Class := { plain "java/lang/StringLatin1" (some 0) with
  accessFlags := 48
  interfaces := #[]
  cf := some (fileOf pool9 14 #[.nestMembers #[390, 221]] #[{ accessFlags := 0, nameIndex := 7, descriptorIndex := 8, attributes := #[] }, { accessFlags := 9, nameIndex := 90, descriptorIndex := 105, attributes := #[] }, { accessFlags := 9, nameIndex := 281, descriptorIndex := 282, attributes := #[] }, { accessFlags := 9, nameIndex := 380, descriptorIndex := 382, attributes := #[] }] 48 4 #[] #[{ accessFlags := 4120, nameIndex := 121, descriptorIndex := 122, attributes := #[] }])
  fields := #[{ name := "$assertionsDisabled", type := .boolean, accessFlags := 4120, slot := 0, constantValue := 0 }]
  methods := #[k9m0, k9m1, k9m2, k9m3]
  instanceTypes := #[]
  staticTypes := #[.boolean]
  resolved := Array.replicate 395 none
  statics := none }

def pool10 : Array CpInfo := pool [(1, .methodref 2 3), (0, .class_ 4), (0, .nameAndType 5 6), (0, u "java/lang/Object"), (0, u "<init>"), (0, u "()V"), (0, .class_ 8), (0, u "java/lang/Record")] 13

def k10c0 : Code := { maxStack := 1, maxLocals := 1, code := jdk_30_method_1_code, exceptionTable := #[], attributes := #[] }
def k10m0 : Method := { name := "<init>", desc := "()V", sig := { parameters := [], returnType := none }, accessFlags := 4, code := some k10c0 }
/-- java/lang/Record -/
def k10 : Class := { plain "java/lang/Record" (some 0) with
  accessFlags := 1057
  interfaces := #[]
  cf := some (fileOf pool10 7 #[] #[{ accessFlags := 4, nameIndex := 5, descriptorIndex := 6, attributes := #[] }] 1057 2 #[] #[])
  fields := #[]
  methods := #[k10m0]
  instanceTypes := #[]
  staticTypes := #[]
  resolved := Array.replicate 22 none
  statics := none }

def pool11 : Array CpInfo := pool [(1, .methodref 2 3), (0, .class_ 4), (0, .nameAndType 5 6), (0, u "java/lang/Record"), (0, u "<init>"), (0, u "()V"), (0, .fieldref 8 9), (0, .class_ 10), (0, .nameAndType 11 12), (0, u "com/example/pledger/pledger/model/Account"), (0, u "id"), (0, u "Ljava/lang/String;"), (0, .fieldref 8 14), (0, .nameAndType 15 12), (0, u "currency"), (0, .fieldref 8 17), (0, .nameAndType 18 19), (0, u "allowNegative"), (0, u "Z"), (0, .fieldref 8 21), (0, .nameAndType 22 23), (0, u "balance"), (0, u "J"), (0, .fieldref 8 25), (0, .nameAndType 26 23), (0, u "reserved"), (0, .methodref 28 29), (0, .class_ 30), (0, .nameAndType 31 32), (0, u "java/lang/String"), (0, u "equals"), (0, u "(Ljava/lang/Object;)Z"), (11, u "(Ljava/lang/String;Ljava/lang/String;ZJJ)V"), (3, u "isOpenedAs"), (0, u "(Ljava/lang/String;Z)Z")] 30

def k11c0 : Code := { maxStack := 3, maxLocals := 8, code := prog_5_method_1_code, exceptionTable := #[], attributes := #[] }
def k11m0 : Method := { name := "<init>", desc := "(Ljava/lang/String;Ljava/lang/String;ZJJ)V", sig := { parameters := [(.object "java/lang/String"), (.object "java/lang/String"), .boolean, .long, .long], returnType := none }, accessFlags := 1, code := some k11c0 }
def k11c1 : Code := { maxStack := 2, maxLocals := 3, code := prog_5_method_2_code, exceptionTable := #[], attributes := #[] }
def k11m1 : Method := { name := "isOpenedAs", desc := "(Ljava/lang/String;Z)Z", sig := { parameters := [(.object "java/lang/String"), .boolean], returnType := some .boolean }, accessFlags := 1, code := some k11c1 }
/-- com/example/pledger/pledger/model/Account -/
def k11 : Class := { plain "com/example/pledger/pledger/model/Account" (some 10) with
  accessFlags := 49
  interfaces := #[]
  cf := some (fileOf pool11 8 #[] #[{ accessFlags := 1, nameIndex := 5, descriptorIndex := 44, attributes := #[] }, { accessFlags := 1, nameIndex := 48, descriptorIndex := 49, attributes := #[] }] 49 2 #[] #[{ accessFlags := 18, nameIndex := 11, descriptorIndex := 12, attributes := #[] }, { accessFlags := 18, nameIndex := 15, descriptorIndex := 12, attributes := #[] }, { accessFlags := 18, nameIndex := 18, descriptorIndex := 19, attributes := #[] }, { accessFlags := 18, nameIndex := 22, descriptorIndex := 23, attributes := #[] }, { accessFlags := 18, nameIndex := 26, descriptorIndex := 23, attributes := #[] }])
  fields := #[{ name := "id", type := (.object "java/lang/String"), accessFlags := 18, slot := 0, constantValue := 0 }, { name := "currency", type := (.object "java/lang/String"), accessFlags := 18, slot := 1, constantValue := 0 }, { name := "allowNegative", type := .boolean, accessFlags := 18, slot := 2, constantValue := 0 }, { name := "balance", type := .long, accessFlags := 18, slot := 3, constantValue := 0 }, { name := "reserved", type := .long, accessFlags := 18, slot := 4, constantValue := 0 }]
  methods := #[k11m0, k11m1]
  instanceTypes := #[(.object "java/lang/String"), (.object "java/lang/String"), .boolean, .long, .long]
  staticTypes := #[]
  resolved := Array.replicate 80 none
  statics := none }

def pool12 : Array CpInfo := pool [(2, .class_ 4), (1, u "java/lang/Object"), (0, u "<init>"), (0, u "()V"), (17, .class_ 26), (1, u "jdk/internal/util/Preconditions"), (28, .class_ 56), (0, u "jdk/internal/util/Preconditions$4"), (57, .class_ 115), (0, u "jdk/internal/util/Preconditions$1"), (7, u "SIOOBE_FORMATTER"), (0, u "Ljava/util/function/BiFunction;"), (0, .class_ 126), (0, u "jdk/internal/util/Preconditions$2"), (3, u "AIOOBE_FORMATTER"), (0, .class_ 132), (0, u "jdk/internal/util/Preconditions$3"), (3, u "IOOBE_FORMATTER")] 57

def k12m0 : Method := { name := "<init>", desc := "()V", sig := { parameters := [], returnType := none }, accessFlags := 1, code := none }
/-- jdk/internal/util/Preconditions -/
def k12 : Class := { plain "jdk/internal/util/Preconditions" (some 0) with
  accessFlags := 33
  interfaces := #[]
  cf := some (fileOf pool12 24 #[.nestMembers #[55, 131, 125, 114]] #[{ accessFlags := 1, nameIndex := 5, descriptorIndex := 6, attributes := #[] }] 33 2 #[] #[{ accessFlags := 25, nameIndex := 123, descriptorIndex := 124, attributes := #[] }, { accessFlags := 25, nameIndex := 130, descriptorIndex := 124, attributes := #[] }, { accessFlags := 25, nameIndex := 136, descriptorIndex := 124, attributes := #[] }])
  fields := #[{ name := "SIOOBE_FORMATTER", type := (.object "java/util/function/BiFunction"), accessFlags := 25, slot := 0, constantValue := 0 }, { name := "AIOOBE_FORMATTER", type := (.object "java/util/function/BiFunction"), accessFlags := 25, slot := 1, constantValue := 0 }, { name := "IOOBE_FORMATTER", type := (.object "java/util/function/BiFunction"), accessFlags := 25, slot := 2, constantValue := 0 }]
  methods := #[k12m0]
  instanceTypes := #[]
  staticTypes := #[(.object "java/util/function/BiFunction"), (.object "java/util/function/BiFunction"), (.object "java/util/function/BiFunction")]
  resolved := Array.replicate 194 none
  statics := some 1 }

def pool13 : Array CpInfo := pool [(9, u "<init>"), (6, .class_ 18), (1, u "java/lang/Object"), (0, u "()V"), (1, .class_ 23), (1, u "jdk/internal/util/ArraysSupport"), (0, u "LOG2_ARRAY_LONG_INDEX_SCALE"), (0, u "I"), (2, u "U"), (0, u "Ljdk/internal/misc/Unsafe;"), (8, u "BIG_ENDIAN"), (0, u "Z"), (8, u "LOG2_BYTE_BIT_SIZE"), (4, u "LOG2_ARRAY_INT_INDEX_SCALE"), (54, u "JLA"), (0, u "Ljdk/internal/access/JavaLangAccess;"), (11, u "LOG2_ARRAY_BOOLEAN_INDEX_SCALE"), (9, u "LOG2_ARRAY_BYTE_INDEX_SCALE"), (5, u "LOG2_ARRAY_CHAR_INDEX_SCALE"), (5, u "LOG2_ARRAY_SHORT_INDEX_SCALE"), (18, u "LOG2_ARRAY_FLOAT_INDEX_SCALE"), (24, u "LOG2_ARRAY_DOUBLE_INDEX_SCALE"), (89, u "T_BOOLEAN"), (2, u "T_CHAR"), (1, u "T_FLOAT"), (1, u "T_DOUBLE"), (1, u "T_BYTE"), (1, u "T_SHORT"), (1, u "T_INT"), (1, u "T_LONG"), (1, u "SOFT_MAX_ARRAY_LENGTH")] 83

def k13m0 : Method := { name := "<init>", desc := "()V", sig := { parameters := [], returnType := none }, accessFlags := 2, code := none }
/-- jdk/internal/util/ArraysSupport -/
def k13 : Class := { plain "jdk/internal/util/ArraysSupport" (some 0) with
  accessFlags := 33
  interfaces := #[]
  cf := some (fileOf pool13 21 #[] #[{ accessFlags := 2, nameIndex := 9, descriptorIndex := 19, attributes := #[] }] 33 16 #[] #[{ accessFlags := 24, nameIndex := 28, descriptorIndex := 29, attributes := #[] }, { accessFlags := 26, nameIndex := 38, descriptorIndex := 39, attributes := #[] }, { accessFlags := 25, nameIndex := 121, descriptorIndex := 25, attributes := #[] }, { accessFlags := 25, nameIndex := 131, descriptorIndex := 25, attributes := #[] }, { accessFlags := 25, nameIndex := 137, descriptorIndex := 25, attributes := #[] }, { accessFlags := 25, nameIndex := 143, descriptorIndex := 25, attributes := #[] }, { accessFlags := 25, nameIndex := 53, descriptorIndex := 25, attributes := #[] }, { accessFlags := 25, nameIndex := 24, descriptorIndex := 25, attributes := #[] }, { accessFlags := 25, nameIndex := 162, descriptorIndex := 25, attributes := #[] }, { accessFlags := 25, nameIndex := 187, descriptorIndex := 25, attributes := #[] }, { accessFlags := 26, nameIndex := 48, descriptorIndex := 25, attributes := #[] }, { accessFlags := 25, nameIndex := 277, descriptorIndex := 25, attributes := #[] }, { accessFlags := 25, nameIndex := 280, descriptorIndex := 25, attributes := #[] }, { accessFlags := 25, nameIndex := 282, descriptorIndex := 25, attributes := #[] }, { accessFlags := 25, nameIndex := 284, descriptorIndex := 25, attributes := #[] }, { accessFlags := 25, nameIndex := 286, descriptorIndex := 25, attributes := #[] }, { accessFlags := 25, nameIndex := 288, descriptorIndex := 25, attributes := #[] }, { accessFlags := 25, nameIndex := 290, descriptorIndex := 25, attributes := #[] }, { accessFlags := 25, nameIndex := 292, descriptorIndex := 25, attributes := #[] }, { accessFlags := 26, nameIndex := 108, descriptorIndex := 109, attributes := #[] }, { accessFlags := 25, nameIndex := 294, descriptorIndex := 25, attributes := #[] }])
  fields := #[{ name := "U", type := (.object "jdk/internal/misc/Unsafe"), accessFlags := 24, slot := 0, constantValue := 0 }, { name := "BIG_ENDIAN", type := .boolean, accessFlags := 26, slot := 1, constantValue := 0 }, { name := "LOG2_ARRAY_BOOLEAN_INDEX_SCALE", type := .int, accessFlags := 25, slot := 2, constantValue := 0 }, { name := "LOG2_ARRAY_BYTE_INDEX_SCALE", type := .int, accessFlags := 25, slot := 3, constantValue := 0 }, { name := "LOG2_ARRAY_CHAR_INDEX_SCALE", type := .int, accessFlags := 25, slot := 4, constantValue := 0 }, { name := "LOG2_ARRAY_SHORT_INDEX_SCALE", type := .int, accessFlags := 25, slot := 5, constantValue := 0 }, { name := "LOG2_ARRAY_INT_INDEX_SCALE", type := .int, accessFlags := 25, slot := 6, constantValue := 0 }, { name := "LOG2_ARRAY_LONG_INDEX_SCALE", type := .int, accessFlags := 25, slot := 7, constantValue := 0 }, { name := "LOG2_ARRAY_FLOAT_INDEX_SCALE", type := .int, accessFlags := 25, slot := 8, constantValue := 0 }, { name := "LOG2_ARRAY_DOUBLE_INDEX_SCALE", type := .int, accessFlags := 25, slot := 9, constantValue := 0 }, { name := "LOG2_BYTE_BIT_SIZE", type := .int, accessFlags := 26, slot := 10, constantValue := 0 }, { name := "T_BOOLEAN", type := .int, accessFlags := 25, slot := 11, constantValue := 0 }, { name := "T_CHAR", type := .int, accessFlags := 25, slot := 12, constantValue := 0 }, { name := "T_FLOAT", type := .int, accessFlags := 25, slot := 13, constantValue := 0 }, { name := "T_DOUBLE", type := .int, accessFlags := 25, slot := 14, constantValue := 0 }, { name := "T_BYTE", type := .int, accessFlags := 25, slot := 15, constantValue := 0 }, { name := "T_SHORT", type := .int, accessFlags := 25, slot := 16, constantValue := 0 }, { name := "T_INT", type := .int, accessFlags := 25, slot := 17, constantValue := 0 }, { name := "T_LONG", type := .int, accessFlags := 25, slot := 18, constantValue := 0 }, { name := "JLA", type := (.object "jdk/internal/access/JavaLangAccess"), accessFlags := 26, slot := 19, constantValue := 0 }, { name := "SOFT_MAX_ARRAY_LENGTH", type := .int, accessFlags := 25, slot := 20, constantValue := 0 }]
  methods := #[k13m0]
  instanceTypes := #[]
  staticTypes := #[(.object "jdk/internal/misc/Unsafe"), .boolean, .int, .int, .int, .int, .int, .int, .int, .int, .int, .int, .int, .int, .int, .int, .int, .int, .int, (.object "jdk/internal/access/JavaLangAccess"), .int]
  resolved := Array.replicate 378 none
  statics := none }

def pool14 : Array CpInfo := pool [(1, u "java/lang/Cloneable"), (0, .class_ 1), (0, u "java/lang/Object"), (0, .class_ 3)] 3

/-- java/lang/Cloneable -/
def k14 : Class := { plain "java/lang/Cloneable" (some 0) with
  accessFlags := 1537
  interfaces := #[]
  cf := some (fileOf pool14 2 #[] #[] 1537 4 #[] #[])
  fields := #[]
  methods := #[]
  instanceTypes := #[]
  staticTypes := #[]
  resolved := Array.replicate 8 none
  statics := none }

/-- the primitive byte -/
def k15 : Class := { plain "byte" none with kind := .primitive 'B', accessFlags := 0x411 }
/-- [B -/
def k16 : Class := { plain "[B" (some 0) with kind := .array 15 .byte, interfaces := #[14, 2], accessFlags := 1041 }

/-- the primitive char -/
def k17 : Class := { plain "char" none with kind := .primitive 'C', accessFlags := 0x411 }
/-- [C -/
def k18 : Class := { plain "[C" (some 0) with kind := .array 17 .char, interfaces := #[14, 2], accessFlags := 1041 }

/-- the primitive int -/
def k19 : Class := { plain "int" none with kind := .primitive 'I', accessFlags := 0x411 }
/-- [I -/
def k20 : Class := { plain "[I" (some 0) with kind := .array 19 .int, interfaces := #[14, 2], accessFlags := 1041 }

def heap : Heap := #[{ cls := 7, slots := #[.long 0, .int 1, .null, .int 0, .null, .int 0, .int 0], vm := .statics 7 },
  { cls := 12, slots := #[.null, .null, .null], vm := .statics 12 }]
def classes : Array Class := #[k0, k1, k2, k3, k4, k5, k6, k7, k8, k9, k10, k11, k12, k13, k14, k15, k16, k17, k18, k19, k20]
def interned : List (Array UInt16 × Addr) := []
def slotsUsed : Nat := 10
def theMethod : MethodId := ⟨1, 2⟩
def args0 : Array Value := #[.int 5, .int 6, .int 7, .int 8, .long 9, .long 10]
def aboutOver (below : List Frame) : State where
  vm := { classes := classes, interned := interned.toArray }
  heap := heap
  slotsUsed := slotsUsed
  threads := #[{ frames := .invoking theMethod args0 :: below }]
def below0 : List Frame := [.native { method := ⟨0, 0⟩, args := #[] }]
def about1 : State := aboutOver below0
def p0 : Program := .bare "" "" ""
def e0 : Env := launch0.env 0 0 0
theorem w_frames : about1.frames = Frame.invoking theMethod args0 :: below0 := rfl
set_option maxRecDepth 65536 in
theorem w_args : argsFit about1.vm theMethod args0 = true := by decide +kernel
set_option maxRecDepth 65536 in
theorem w_heap : heapFits about1 = true := by decide +kernel
set_option maxRecDepth 65536 in
theorem w_runnable : about1.curStatus? = some .runnable := by decide +kernel
set_option maxRecDepth 65536 in
theorem w_alone : about1.alone = true := by decide +kernel
set_option maxRecDepth 65536 in
theorem w_named : about1.methodNamed? x = some theMethod := by decide +kernel
set_option maxRecDepth 65536 in
theorem w_hears : about1.hears theMethod below0 = true := by decide +kernel
set_option maxRecDepth 65536 in
theorem w_ripe : about1.ripe theMethod args0 below0 = true := by decide +kernel
theorem w_running : about1.status = .running := rfl
set_option maxRecDepth 65536 in
theorem w_room : about1.hasRoom e0.platform room_1 = true :=
  launch0.hasRoom_least _ room_1 (by decide +kernel) (by decide +kernel) (by decide +kernel) (by decide +kernel) (by decide +kernel) (by decide +kernel)
theorem allAtoms_all (ts : List Jvm.Cond) (a : Array Jvm.Value) (st : Jvm.State) : (allAtoms ts).before a st = ts.all (fun c => c.before a st) := by
  induction ts with
  | nil => rfl
  | cons c t ih =>
    show (Jvm.Cond.and c (allAtoms t)).before a st = _
    rw [Jvm.Cond.before_and, ih, List.all_cons]
def words1 : List Jvm.Cond := Jvm.Cond.code x code maxLocals ret :: tables_1
/-- a 'code' word, met by the world's own term for the bytes: nothing is compared byte by byte -/
theorem code_word {y : MethodName} {bytes : ByteArray} {mx : Nat} {rt : Option FieldType} {a : Array Value} {s : State} {m : MethodId} {meth : Method} {c : Code} (h1 : s.methodNamed? y = some m) (h2 : s.vm.method? m = some meth) (h3 : meth.code = some c) (h4 : c.code = bytes)
    (h5 : (c.maxLocals == mx && c.exceptionTable.isEmpty && decide (c.maxStack ≤ mostOperands) && decide (meth.sig.returnType = rt) && !meth.locks && decide (parseMethodDescriptor y.desc = some meth.sig)) = true) : (Jvm.Cond.code y bytes mx rt).before a s = true := by
  simp only [Bool.and_eq_true, beq_iff_eq, Bool.not_eq_true', decide_eq_true_eq] at h5
  obtain ⟨⟨⟨⟨⟨g1, g2⟩, g3⟩, g4⟩, g5⟩, g6⟩ := h5
  simp [Cond.before, Cond.holds, Cond.value, h1, h2, h3, h4, g1, g2, g3, g4, g5, g6]
def isCode : Jvm.Cond → Bool
  | .code _ _ _ _ => true
  | _ => false
theorem all_split {L : List Jvm.Cond} {P : Jvm.Cond → Bool} (h1 : L.all (fun c => isCode c || P c) = true) (h2 : ∀ c ∈ L.filter isCode, P c = true) : L.all P = true := by
  refine List.all_eq_true.mpr fun c hc => ?_
  have h := List.all_eq_true.mp h1 c hc
  rcases Bool.eq_false_or_eq_true (isCode c) with hi | hi
  · exact h2 c (List.mem_filter.mpr ⟨hc, hi⟩)
  · simpa [hi] using h
set_option maxRecDepth 65536 in
theorem w_c0 : (Jvm.Cond.code x code maxLocals ret).before args0 about1 = true := code_word (m := ⟨1, 2⟩) (meth := k1m2) (c := k1c2) (by decide +kernel) rfl rfl rfl (by decide +kernel)
set_option maxRecDepth 65536 in
theorem w_c1 : (Jvm.Cond.code ({ cls := "com/example/pledger/pledger/model/AccountIsOpenedAsPinLaw", name := "mk", desc := "(ICCC)Ljava/lang/String;" } : Jvm.MethodName) method_2_code (4 : Nat) (Option.some (Jvm.ClassFile.FieldType.object "java/lang/String"))).before args0 about1 = true := code_word (m := ⟨1, 1⟩) (meth := k1m1) (c := k1c1) (by decide +kernel) rfl rfl rfl (by decide +kernel)
set_option maxRecDepth 65536 in
theorem w_c2 : (Jvm.Cond.code ({ cls := "java/lang/String", name := "<init>", desc := "([C)V" } : Jvm.MethodName) jdk_42_method_3_code (2 : Nat) (Option.none : Option Jvm.ClassFile.FieldType)).before args0 about1 = true := code_word (m := ⟨7, 1⟩) (meth := k7m1) (c := k7c1) (by decide +kernel) rfl rfl rfl (by decide +kernel)
set_option maxRecDepth 65536 in
theorem w_c3 : (Jvm.Cond.code ({ cls := "java/lang/String", name := "<init>", desc := "([CIILjava/lang/Void;)V" } : Jvm.MethodName) jdk_42_method_149_code (6 : Nat) (Option.none : Option Jvm.ClassFile.FieldType)).before args0 about1 = true := code_word (m := ⟨7, 4⟩) (meth := k7m4) (c := k7c4) (by decide +kernel) rfl rfl rfl (by decide +kernel)
set_option maxRecDepth 65536 in
theorem w_c4 : (Jvm.Cond.code ({ cls := "java/lang/Object", name := "<init>", desc := "()V" } : Jvm.MethodName) object_method_1_code (1 : Nat) (Option.none : Option Jvm.ClassFile.FieldType)).before args0 about1 = true := code_word (m := ⟨0, 0⟩) (meth := k0m0) (c := k0c0) (by decide +kernel) rfl rfl rfl (by decide +kernel)
set_option maxRecDepth 65536 in
theorem w_c5 : (Jvm.Cond.code ({ cls := "java/lang/StringUTF16", name := "compress", desc := "([CII)[B" } : Jvm.MethodName) jdk_52_method_16_code (6 : Nat) (Option.some (Jvm.ClassFile.FieldType.array Jvm.ClassFile.FieldType.byte))).before args0 about1 = true := code_word (m := ⟨8, 2⟩) (meth := k8m2) (c := k8c2) (by decide +kernel) rfl rfl rfl (by decide +kernel)
set_option maxRecDepth 65536 in
theorem w_c6 : (Jvm.Cond.code ({ cls := "java/lang/StringUTF16", name := "compress", desc := "([CI[BII)I" } : Jvm.MethodName) jdk_52_method_21_code (7 : Nat) (Option.some Jvm.ClassFile.FieldType.int)).before args0 about1 = true := code_word (m := ⟨8, 3⟩) (meth := k8m3) (c := k8c3) (by decide +kernel) rfl rfl rfl (by decide +kernel)
set_option maxRecDepth 65536 in
theorem w_c7 : (Jvm.Cond.code ({ cls := "java/lang/StringUTF16", name := "coderFromArrayLen", desc := "([BI)B" } : Jvm.MethodName) jdk_52_method_15_code (2 : Nat) (Option.some Jvm.ClassFile.FieldType.byte)).before args0 about1 = true := code_word (m := ⟨8, 1⟩) (meth := k8m1) (c := k8c1) (by decide +kernel) rfl rfl rfl (by decide +kernel)
set_option maxRecDepth 65536 in
theorem w_c8 : (Jvm.Cond.code ({ cls := "java/lang/String", name := "valueOf", desc := "(C)Ljava/lang/String;" } : Jvm.MethodName) jdk_42_method_139_code (1 : Nat) (Option.some (Jvm.ClassFile.FieldType.object "java/lang/String"))).before args0 about1 = true := code_word (m := ⟨7, 3⟩) (meth := k7m3) (c := k7c3) (by decide +kernel) rfl rfl rfl (by decide +kernel)
set_option maxRecDepth 65536 in
theorem w_c9 : (Jvm.Cond.code ({ cls := "java/lang/StringLatin1", name := "canEncode", desc := "(C)Z" } : Jvm.MethodName) jdk_43_method_3_code (1 : Nat) (Option.some Jvm.ClassFile.FieldType.boolean)).before args0 about1 = true := code_word (m := ⟨9, 1⟩) (meth := k9m1) (c := k9c1) (by decide +kernel) rfl rfl rfl (by decide +kernel)
set_option maxRecDepth 65536 in
theorem w_c10 : (Jvm.Cond.code ({ cls := "java/lang/StringLatin1", name := "toBytes", desc := "(C)[B" } : Jvm.MethodName) jdk_43_method_46_code (1 : Nat) (Option.some (Jvm.ClassFile.FieldType.array Jvm.ClassFile.FieldType.byte))).before args0 about1 = true := code_word (m := ⟨9, 3⟩) (meth := k9m3) (c := k9c3) (by decide +kernel) rfl rfl rfl (by decide +kernel)
set_option maxRecDepth 65536 in
theorem w_c11 : (Jvm.Cond.code ({ cls := "java/lang/String", name := "<init>", desc := "([BB)V" } : Jvm.MethodName) jdk_42_method_151_code (3 : Nat) (Option.none : Option Jvm.ClassFile.FieldType)).before args0 about1 = true := code_word (m := ⟨7, 5⟩) (meth := k7m5) (c := k7c5) (by decide +kernel) rfl rfl rfl (by decide +kernel)
set_option maxRecDepth 65536 in
theorem w_c12 : (Jvm.Cond.code ({ cls := "com/example/pledger/pledger/model/Account", name := "<init>", desc := "(Ljava/lang/String;Ljava/lang/String;ZJJ)V" } : Jvm.MethodName) prog_5_method_1_code (8 : Nat) (Option.none : Option Jvm.ClassFile.FieldType)).before args0 about1 = true := code_word (m := ⟨11, 0⟩) (meth := k11m0) (c := k11c0) (by decide +kernel) rfl rfl rfl (by decide +kernel)
set_option maxRecDepth 65536 in
theorem w_c13 : (Jvm.Cond.code ({ cls := "java/lang/Record", name := "<init>", desc := "()V" } : Jvm.MethodName) jdk_30_method_1_code (1 : Nat) (Option.none : Option Jvm.ClassFile.FieldType)).before args0 about1 = true := code_word (m := ⟨10, 0⟩) (meth := k10m0) (c := k10c0) (by decide +kernel) rfl rfl rfl (by decide +kernel)
set_option maxRecDepth 65536 in
theorem w_c14 : (Jvm.Cond.code ({ cls := "com/example/pledger/pledger/model/Account", name := "isOpenedAs", desc := "(Ljava/lang/String;Z)Z" } : Jvm.MethodName) prog_5_method_2_code (3 : Nat) (Option.some Jvm.ClassFile.FieldType.boolean)).before args0 about1 = true := code_word (m := ⟨11, 1⟩) (meth := k11m1) (c := k11c1) (by decide +kernel) rfl rfl rfl (by decide +kernel)
set_option maxRecDepth 65536 in
theorem w_c15 : (Jvm.Cond.code ({ cls := "java/lang/String", name := "equals", desc := "(Ljava/lang/Object;)Z" } : Jvm.MethodName) jdk_42_method_66_code (3 : Nat) (Option.some Jvm.ClassFile.FieldType.boolean)).before args0 about1 = true := code_word (m := ⟨7, 2⟩) (meth := k7m2) (c := k7c2) (by decide +kernel) rfl rfl rfl (by decide +kernel)
set_option maxRecDepth 65536 in
theorem w_c16 : (Jvm.Cond.code ({ cls := "java/lang/StringLatin1", name := "equals", desc := "([B[B)Z" } : Jvm.MethodName) jdk_43_method_13_code (3 : Nat) (Option.some Jvm.ClassFile.FieldType.boolean)).before args0 about1 = true := code_word (m := ⟨9, 2⟩) (meth := k9m2) (c := k9c2) (by decide +kernel) rfl rfl rfl (by decide +kernel)
def codes1 : List Jvm.Cond := [Jvm.Cond.code x code maxLocals ret, Jvm.Cond.code ({ cls := "com/example/pledger/pledger/model/AccountIsOpenedAsPinLaw", name := "mk", desc := "(ICCC)Ljava/lang/String;" } : Jvm.MethodName) method_2_code (4 : Nat) (Option.some (Jvm.ClassFile.FieldType.object "java/lang/String")), Jvm.Cond.code ({ cls := "java/lang/String", name := "<init>", desc := "([C)V" } : Jvm.MethodName) jdk_42_method_3_code (2 : Nat) (Option.none : Option Jvm.ClassFile.FieldType), Jvm.Cond.code ({ cls := "java/lang/String", name := "<init>", desc := "([CIILjava/lang/Void;)V" } : Jvm.MethodName) jdk_42_method_149_code (6 : Nat) (Option.none : Option Jvm.ClassFile.FieldType), Jvm.Cond.code ({ cls := "java/lang/Object", name := "<init>", desc := "()V" } : Jvm.MethodName) object_method_1_code (1 : Nat) (Option.none : Option Jvm.ClassFile.FieldType), Jvm.Cond.code ({ cls := "java/lang/StringUTF16", name := "compress", desc := "([CII)[B" } : Jvm.MethodName) jdk_52_method_16_code (6 : Nat) (Option.some (Jvm.ClassFile.FieldType.array Jvm.ClassFile.FieldType.byte)), Jvm.Cond.code ({ cls := "java/lang/StringUTF16", name := "compress", desc := "([CI[BII)I" } : Jvm.MethodName) jdk_52_method_21_code (7 : Nat) (Option.some Jvm.ClassFile.FieldType.int), Jvm.Cond.code ({ cls := "java/lang/StringUTF16", name := "coderFromArrayLen", desc := "([BI)B" } : Jvm.MethodName) jdk_52_method_15_code (2 : Nat) (Option.some Jvm.ClassFile.FieldType.byte), Jvm.Cond.code ({ cls := "java/lang/String", name := "valueOf", desc := "(C)Ljava/lang/String;" } : Jvm.MethodName) jdk_42_method_139_code (1 : Nat) (Option.some (Jvm.ClassFile.FieldType.object "java/lang/String")), Jvm.Cond.code ({ cls := "java/lang/StringLatin1", name := "canEncode", desc := "(C)Z" } : Jvm.MethodName) jdk_43_method_3_code (1 : Nat) (Option.some Jvm.ClassFile.FieldType.boolean), Jvm.Cond.code ({ cls := "java/lang/StringLatin1", name := "toBytes", desc := "(C)[B" } : Jvm.MethodName) jdk_43_method_46_code (1 : Nat) (Option.some (Jvm.ClassFile.FieldType.array Jvm.ClassFile.FieldType.byte)), Jvm.Cond.code ({ cls := "java/lang/String", name := "<init>", desc := "([BB)V" } : Jvm.MethodName) jdk_42_method_151_code (3 : Nat) (Option.none : Option Jvm.ClassFile.FieldType), Jvm.Cond.code ({ cls := "com/example/pledger/pledger/model/Account", name := "<init>", desc := "(Ljava/lang/String;Ljava/lang/String;ZJJ)V" } : Jvm.MethodName) prog_5_method_1_code (8 : Nat) (Option.none : Option Jvm.ClassFile.FieldType), Jvm.Cond.code ({ cls := "java/lang/Record", name := "<init>", desc := "()V" } : Jvm.MethodName) jdk_30_method_1_code (1 : Nat) (Option.none : Option Jvm.ClassFile.FieldType), Jvm.Cond.code ({ cls := "com/example/pledger/pledger/model/Account", name := "isOpenedAs", desc := "(Ljava/lang/String;Z)Z" } : Jvm.MethodName) prog_5_method_2_code (3 : Nat) (Option.some Jvm.ClassFile.FieldType.boolean), Jvm.Cond.code ({ cls := "java/lang/String", name := "equals", desc := "(Ljava/lang/Object;)Z" } : Jvm.MethodName) jdk_42_method_66_code (3 : Nat) (Option.some Jvm.ClassFile.FieldType.boolean), Jvm.Cond.code ({ cls := "java/lang/StringLatin1", name := "equals", desc := "([B[B)Z" } : Jvm.MethodName) jdk_43_method_13_code (3 : Nat) (Option.some Jvm.ClassFile.FieldType.boolean)]
set_option maxRecDepth 65536 in
theorem codes_eq : words1.filter isCode = codes1 := rfl
theorem w_codes : ∀ c ∈ words1.filter isCode, c.before args0 about1 = true := by
  rw [codes_eq]
  intro c hc
  simp only [codes1, List.mem_cons, List.not_mem_nil, or_false] at hc
  rcases hc with rfl | rfl | rfl | rfl | rfl | rfl | rfl | rfl | rfl | rfl | rfl | rfl | rfl | rfl | rfl | rfl | rfl
  · exact w_c0
  · exact w_c1
  · exact w_c2
  · exact w_c3
  · exact w_c4
  · exact w_c5
  · exact w_c6
  · exact w_c7
  · exact w_c8
  · exact w_c9
  · exact w_c10
  · exact w_c11
  · exact w_c12
  · exact w_c13
  · exact w_c14
  · exact w_c15
  · exact w_c16
set_option maxRecDepth 65536 in
theorem w_t1 : (words1.take 24).all (fun c => isCode c || c.before args0 about1) = true := by decide +kernel
set_option maxRecDepth 65536 in
theorem w_t2 : ((words1.drop 24).take 24).all (fun c => isCode c || c.before args0 about1) = true := by decide +kernel
set_option maxRecDepth 65536 in
theorem w_t3 : (((words1.drop 24).drop 24).take 24).all (fun c => isCode c || c.before args0 about1) = true := by decide +kernel
set_option maxRecDepth 65536 in
theorem w_t4 : (((words1.drop 24).drop 24).drop 24).all (fun c => isCode c || c.before args0 about1) = true := by decide +kernel
theorem w_tables : (allAtoms (Jvm.Cond.code x code maxLocals ret :: tables_1)).before args0 about1 = true := by
  rw [allAtoms_all]
  show words1.all (fun c => c.before args0 about1) = true
  refine all_split ?_ w_codes
  rw [← List.take_append_drop 24 words1, List.all_append, w_t1, ← List.take_append_drop 24 (words1.drop 24), List.all_append, w_t2, ← List.take_append_drop 24 ((words1.drop 24).drop 24), List.all_append, w_t3, w_t4]
  rfl
set_option maxRecDepth 65536 in
theorem w_rest : rest_1_c.before args0 about1 = true := by decide +kernel
set_option maxRecDepth 65536 in
theorem w_case : (Jvm.Cond.and given_1 narrow_1).before args0 about1 = true := by decide +kernel
set_option maxRecDepth 65536 in
theorem w_consts : constsHeld consts_1 about1 := Jvm.Lit.constsHeldB_iff.mp (by decide +kernel)
theorem w_applies : (headSpec (Jvm.Cond.code x code maxLocals ret :: tables_1) room_1).applies x e0.platform about1 = true :=
  (Spec.applies_iff w_frames).mpr ⟨w_running, w_runnable, w_alone, w_named, w_hears, w_ripe, w_room, w_tables⟩
theorem atStart : AtStart classFile x code maxLocals ret World_1 tables_1 room_1 Calls_1 rest_1 Pre_1 launch0 p0 e0 about1 theMethod args0 below0 :=
  ⟨lists_1, trivial, launch0.admits_env _ _ _, launch0.least_env, fairChoices_fair.cas, fairChoices_fair.clock, w_frames, w_args, w_heap, w_applies, ⟨w_consts, trivial⟩, w_rest, w_case⟩
end start1
theorem witness_1 : WitnessClaimed_1 := ⟨start1.p0, start1.e0, start1.about1, start1.theMethod, start1.args0, start1.below0, start1.atStart⟩
end Jvm.Pilot.@@N@@
