import JvmDerived
import JvmDerived.Pilot.@@N@@Statement
import JvmDerived.Pilot.@@N@@Code
set_option linter.unusedVariables false
set_option linter.unusedSimpArgs false
@@BLOCK:TracedD.lean.txt@@
/- laws to paste: Road.backV (cut by pick.py; bodies as the Statement names them) -/
namespace Jvm.Pilot.@@N@@
namespace StrChars
open Jvm Sem ClassFile Op Lib Jvm.Stand Jvm.Free.XT Jvm.Free.ALB Jvm.Free.JM Jvm.Free
open Jvm.Lib.Cold (StaticIs)
/-- a char array whose places are chars -/
def Ch (a : Addr) (A : Cell) (U : State) : Prop := Arr .char a A U ∧ Typed .char A
theorem Ch.mv {a : Addr} {A : Cell} {U U' : State} (h : Ch a A U) (hal : U.vm.Alike U'.vm) (hh : U'.heap = U.heap) : Ch a A U' := ⟨h.1.mv hal hh, h.2⟩
theorem Ch.keep {a : Addr} {A : Cell} {U U' : State} (h : Ch a A U) (hal : U.vm.Alike U'.vm) (hk : U'.heap[a]? = some A) : Ch a A U' := ⟨h.1.keep hal hk, h.2⟩
/-- what place i of a char[]'s cell holds -/
def cv (A : Cell) (i : Nat) : Int32 := match A.slots[i]? with | some (.int x) => x | _ => 0
theorem Ch.get {a : Addr} {A : Cell} {U : State} (h : Ch a A U) {i : Nat} (hi : i < A.slots.size) : A.slots[i]? = some (.int (cv A i)) := by
  have e := Array.getElem?_eq_getElem hi
  have f := h.2 i _ e
  unfold cv; rw [e]
  generalize A.slots[i] = v at f
  cases v <;> simp [fits] at f ⊢
/-- the byte that i2b leaves of a char -/
def lo8 (x : Int32) : Int32 := x.toInt8.toInt32
theorem fits_lo8 (y : Int32) : fits .byte (.int (lo8 y)) = true := by
  have h1 := y.toInt8.le_toInt
  have h2 := y.toInt8.toInt_lt
  simp only [lo8, fits, Bool.and_eq_true, decide_eq_true_eq, Int32.le_iff_toInt_le, Int8.toInt_toInt32, show (-128 : Int32).toInt = -128 from by decide, show (127 : Int32).toInt = 127 from by decide]
  omega
/-- A' is A but that each place j of lo .. hi - 1 holds f j -/
def Laid (A A' : Cell) (lo hi : Nat) (f : Nat → Value) : Prop := A'.cls = A.cls ∧ A'.vm = A.vm ∧ A'.slots.size = A.slots.size ∧ ∀ i, A'.slots[i]? = if lo ≤ i ∧ i < hi then some (f i) else A.slots[i]?
theorem Laid.zero (A : Cell) (lo : Nat) (f : Nat → Value) : Laid A A lo (lo + 0) f := ⟨rfl, rfl, rfl, fun i => by rw [if_neg (by omega)]⟩
theorem Laid.step {A Ak : Cell} {lo k : Nat} {f : Nat → Value} {v : Value} (h : Laid A Ak lo k f) (hlo : lo ≤ k) (hk : k < Ak.slots.size) (hv : v = f k) : Laid A (Ak.setSlot k v) lo (k + 1) f := by
  refine ⟨h.1, h.2.1, by simpa [Cell.setSlot] using h.2.2.1, fun i => ?_⟩
  by_cases e : k = i
  · subst e; rw [Cell.slots_setSlot_self v hk, if_pos (by omega), hv]
  · rw [Cell.slots_setSlot_ne v e, h.2.2.2 i]
    by_cases q : lo ≤ i ∧ i < k
    · rw [if_pos q, if_pos (by omega)]
    · rw [if_neg q, if_neg (by omega)]
def U16 : String := "java/lang/StringUTF16"
namespace Cmp5
def yN : MethodName := ⟨"java/lang/StringUTF16", "compress", "([CI[BII)I"⟩
abbrev yB : ByteArray := jdk_52_method_21_code
theorem d0 : decode yB 0 = .ok (.iconst 0, 1) := by decide +kernel
theorem d1 : decode yB 1 = .ok (.istore 5, 2) := by decide +kernel
theorem d3 : decode yB 3 = .ok (.iload 5, 2) := by decide +kernel
theorem d5 : decode yB 5 = .ok (.iload 4, 2) := by decide +kernel
theorem d7 : decode yB 7 = .ok (.if_icmp (.ge) 37, 3) := by decide +kernel
theorem d10 : decode yB 10 = .ok (.aload_n 0, 1) := by decide +kernel
theorem d11 : decode yB 11 = .ok (.iload_n 1, 1) := by decide +kernel
theorem d12 : decode yB 12 = .ok (.caload, 1) := by decide +kernel
theorem d13 : decode yB 13 = .ok (.istore 6, 2) := by decide +kernel
theorem d15 : decode yB 15 = .ok (.iload 6, 2) := by decide +kernel
theorem d17 : decode yB 17 = .ok (.sipush 255, 3) := by decide +kernel
theorem d20 : decode yB 20 = .ok (.if_icmp (.le) 6, 3) := by decide +kernel
theorem d26 : decode yB 26 = .ok (.aload_n 2, 1) := by decide +kernel
theorem d27 : decode yB 27 = .ok (.iload_n 3, 1) := by decide +kernel
theorem d28 : decode yB 28 = .ok (.iload 6, 2) := by decide +kernel
theorem d30 : decode yB 30 = .ok (.i2b, 1) := by decide +kernel
theorem d31 : decode yB 31 = .ok (.bastore, 1) := by decide +kernel
theorem d32 : decode yB 32 = .ok (.iinc 1 1, 3) := by decide +kernel
theorem d35 : decode yB 35 = .ok (.iinc 3 1, 3) := by decide +kernel
theorem d38 : decode yB 38 = .ok (.iinc 5 1, 3) := by decide +kernel
theorem d41 : decode yB 41 = .ok (.goto (-38), 3) := by decide +kernel
theorem d44 : decode yB 44 = .ok (.iload 4, 2) := by decide +kernel
theorem d46 : decode yB 46 = .ok (.ireturn, 1) := by decide +kernel
def site : List Cond := []
def tab : Cond := tabOf yN yB 7 (some .int) site
def P (b : Addr) (A : Cell) (d : Addr) (B : Cell) (o q len : Nat) (args : Array Value) (s : State) : Prop := args = #[.ref b, .int (Int32.ofNat o), .ref d, .int (Int32.ofNat q), .int (Int32.ofNat len)] ∧ Ch b A s ∧ Arr .byte d B s ∧ b ≠ d ∧ o + len ≤ A.slots.size ∧ q + len ≤ B.slots.size ∧ ∀ i, i < len → ¬ 255 < cv A (o + i)
def E (b : Addr) (A : Cell) (d : Addr) (B : Cell) (o q len : Nat) (r : Option Value) (s u : State) : Prop := r = some (.int (Int32.ofNat len)) ∧ ∃ B', Put d B' s u ∧ Laid B B' q (q + len) (fun j => Value.int (lo8 (cv A (o + (j - q)))))
/-- no char of the range above 255: len; the places written hold each char's low byte -/
theorem law (l : Launch) (b : Addr) (A : Cell) (d : Addr) (B : Cell) (o q len : Nat) : Law l yN 5 5 0 0 yB 7 (some .int) site (P b A d B o q len) (E b A d B o q len) (copyLocs d q len) 0 0 := by
  refine Law.of_walk (plainFor_of_name (by decide +kernel)) (by decide +kernel) (by decide +kernel) (by decide) (fun _ _ h => by rw [h.1]; rfl) (fun _ U U' hal hh h => ⟨h.1, h.2.1.mv hal hh, h.2.2.1.mv hal hh, h.2.2.2⟩) (fun r U U' V V' h1 hal h2 h => ⟨h.1, h.2.elim fun B' q => ⟨B', q.1.mv h1 h2, q.2⟩⟩) ?_
  intro p e s m args below meth c s₁ X0 hexec hbytes hml hret hlk hnm hown hh0 W hP
  obtain ⟨rfl, hA, hB, hne, l1, l2, hp⟩ := hP
  have c1 : Steps p.tables e below (s₁.setTop (entryFrame m #[.ref b, .int (Int32.ofNat o), .ref d, .int (Int32.ofNat q), .int (Int32.ofNat len)] 7)) (s₁.setTop (mkF m 0 #[.val (.ref b), .val (.int (Int32.ofNat o)), .val (.ref d), .val (.int (Int32.ofNat q)), .val (.int (Int32.ofNat len)), .unset, .unset] [])) := entry rfl
  have hA0 := hA.1.mv X0.warmed.alike hh0
  have hB0 := hB.mv X0.warmed.alike hh0
  have a31 := hA.1.2.2.2
  have c2 : Steps p.tables e below (s₁.setTop (entryFrame m #[.ref b, .int (Int32.ofNat o), .ref d, .int (Int32.ofNat q), .int (Int32.ofNat len)] 7)) (s₁.setTop (mkF m 3 #[.val (.ref b), .val (.int (Int32.ofNat o)), .val (.ref d), .val (.int (Int32.ofNat q)), .val (.int (Int32.ofNat len)), .val (.int 0), .unset] [])) := c1.trans (by
    refine iconstV X0.here hexec rfl 0 (hb hbytes d0) (by decide) ?_
    refine XS.istore X0.here hexec rfl (hb hbytes d1) rfl rfl ?_
    exact Steps.refl _)
  have loop : ∀ (r i : Nat), i + r = len → ∀ (z : Slot), (z = .unset ∨ ∃ w, z = .val w ∧ w.category = 1) → ∀ (Tl : State) (Bk : Cell), Stand p l e { frames := 0, locals := 0, cells := 0, slots := 0 } s m #[.ref b, .int (Int32.ofNat o), .ref d, .int (Int32.ofNat q), .int (Int32.ofNat len)] below meth c Tl ([] ++ copyLocs d q i) 0 0 → Put d Bk s₁ Tl → Laid B Bk q (q + i) (fun j => Value.int (lo8 (cv A (o + (j - q))))) →
      Steps p.tables e below (s₁.setTop (entryFrame m #[.ref b, .int (Int32.ofNat o), .ref d, .int (Int32.ofNat q), .int (Int32.ofNat len)] 7)) (Tl.setTop (mkF m 3 #[.val (.ref b), .val (.int (Int32.ofNat (o + i))), .val (.ref d), .val (.int (Int32.ofNat (q + i))), .val (.int (Int32.ofNat len)), .val (.int (Int32.ofNat i)), z] [])) → ∃ (T' : State) (B' : Cell) (z' : Slot), Stand p l e { frames := 0, locals := 0, cells := 0, slots := 0 } s m #[.ref b, .int (Int32.ofNat o), .ref d, .int (Int32.ofNat q), .int (Int32.ofNat len)] below meth c T' ([] ++ copyLocs d q len) 0 0 ∧ Put d B' s₁ T' ∧ Laid B B' q (q + len) (fun j => Value.int (lo8 (cv A (o + (j - q))))) ∧
      Steps p.tables e below (s₁.setTop (entryFrame m #[.ref b, .int (Int32.ofNat o), .ref d, .int (Int32.ofNat q), .int (Int32.ofNat len)] 7)) (T'.setTop (mkF m 3 #[.val (.ref b), .val (.int (Int32.ofNat (o + len))), .val (.ref d), .val (.int (Int32.ofNat (q + len))), .val (.int (Int32.ofNat len)), .val (.int (Int32.ofNat len)), z'] [])) := by
    intro r
    induction r with
    | zero =>
      intro i hi z hz Tl Bk Xl pl fl cl
      have hil : i = len := by omega
      rw [hil] at Xl fl cl
      exact ⟨Tl, Bk, z, Xl, pl, fl, cl⟩
    | succ r ih =>
      intro i hi z hz Tl Bk Xl pl fl cl
      have all := X0.warmed.alike.symm.trans Xl.warmed.alike
      have hAl := hA0.keep all (pl.other hne hA0.1)
      have hBk := hB0.like all pl.1 fl.1 fl.2.1 fl.2.2.1
      have hlt : q + i < Bk.slots.size := by rw [fl.2.2.1]; omega
      have c3 : Steps p.tables e below (s₁.setTop (entryFrame m #[.ref b, .int (Int32.ofNat o), .ref d, .int (Int32.ofNat q), .int (Int32.ofNat len)] 7)) (Tl.setTop (mkF m 12 #[.val (.ref b), .val (.int (Int32.ofNat (o + i))), .val (.ref d), .val (.int (Int32.ofNat (q + i))), .val (.int (Int32.ofNat len)), .val (.int (Int32.ofNat i)), z] [.int (Int32.ofNat (o + i)), .ref b])) := cl.trans (by
        refine XS.iload Xl.here hexec rfl (hb hbytes d3) rfl ?_
        refine XS.iload Xl.here hexec rfl (hb hbytes d5) rfl ?_
        refine XS.icmpNo Xl.here hexec rfl (hb hbytes d7) rfl (ii_ge_f (lt32 (by omega) (by omega))) ?_
        refine XS.aloadN Xl.here hexec rfl (hb hbytes d10) rfl rfl ?_
        refine XS.iloadN Xl.here hexec rfl (hb hbytes d11) rfl ?_
        exact Steps.refl _)
      have c4 : Steps p.tables e below (s₁.setTop (entryFrame m #[.ref b, .int (Int32.ofNat o), .ref d, .int (Int32.ofNat q), .int (Int32.ofNat len)] 7)) (Tl.setTop (mkF m 13 #[.val (.ref b), .val (.int (Int32.ofNat (o + i))), .val (.ref d), .val (.int (Int32.ofNat (q + i))), .val (.int (Int32.ofNat len)), .val (.int (Int32.ofNat i)), z] [.int (cv A (o + i))])) := c3.trans (by
        refine Xl.aget hexec hAl rfl (hA.get (i := o + i) (by omega)) rfl rfl (hb hbytes d12) ?_
        exact Steps.refl _)
      have c5 : Steps p.tables e below (s₁.setTop (entryFrame m #[.ref b, .int (Int32.ofNat o), .ref d, .int (Int32.ofNat q), .int (Int32.ofNat len)] 7)) (Tl.setTop (mkF m 15 #[.val (.ref b), .val (.int (Int32.ofNat (o + i))), .val (.ref d), .val (.int (Int32.ofNat (q + i))), .val (.int (Int32.ofNat len)), .val (.int (Int32.ofNat i)), .val (.int (cv A (o + i)))] [])) := c4.trans (by
        refine XS.istoreS Xl.here hexec rfl (hb hbytes d13) rfl rfl hz ?_
        exact Steps.refl _)
      have c6 : Steps p.tables e below (s₁.setTop (entryFrame m #[.ref b, .int (Int32.ofNat o), .ref d, .int (Int32.ofNat q), .int (Int32.ofNat len)] 7)) (Tl.setTop (mkF m 31 #[.val (.ref b), .val (.int (Int32.ofNat (o + i))), .val (.ref d), .val (.int (Int32.ofNat (q + i))), .val (.int (Int32.ofNat len)), .val (.int (Int32.ofNat i)), .val (.int (cv A (o + i)))] [.int (lo8 (cv A (o + i))), .int (Int32.ofNat (q + i)), .ref d])) := c5.trans (by
        refine XS.iload Xl.here hexec rfl (hb hbytes d15) rfl ?_
        refine sipushV Xl.here hexec rfl 255 (hb hbytes d17) (by decide) ?_
        refine XS.icmpYes Xl.here hexec rfl (pc0 := 20) rfl (hb hbytes d20) rfl (ii_le_t (hp i (by omega))) (by decide) rfl ?_
        refine XS.aloadN Xl.here hexec rfl (hb hbytes d26) rfl rfl ?_
        refine XS.iloadN Xl.here hexec rfl (hb hbytes d27) rfl ?_
        refine XS.iload Xl.here hexec rfl (hb hbytes d28) rfl ?_
        refine i2b Xl.here hexec rfl (hb hbytes d30) rfl ?_
        exact Steps.refl _)
      obtain ⟨T7, X7, p7, st7⟩ := Xl.aput hexec hBk rfl hlt rfl (fits_lo8 (cv A (o + i))) (g := (mkF m 31 #[.val (.ref b), .val (.int (Int32.ofNat (o + i))), .val (.ref d), .val (.int (Int32.ofNat (q + i))), .val (.int (Int32.ofNat len)), .val (.int (Int32.ofNat i)), .val (.int (cv A (o + i)))] [.int (lo8 (cv A (o + i))), .int (Int32.ofNat (q + i)), .ref d])) rfl (rest := []) rfl (hb hbytes d31)
      have c8 : Steps p.tables e below (s₁.setTop (entryFrame m #[.ref b, .int (Int32.ofNat o), .ref d, .int (Int32.ofNat q), .int (Int32.ofNat len)] 7)) (T7.setTop (mkF m 32 #[.val (.ref b), .val (.int (Int32.ofNat (o + i))), .val (.ref d), .val (.int (Int32.ofNat (q + i))), .val (.int (Int32.ofNat len)), .val (.int (Int32.ofNat i)), .val (.int (cv A (o + i)))] [])) := c6.trans (st7 _ (Steps.refl _))
      have c9 : Steps p.tables e below (s₁.setTop (entryFrame m #[.ref b, .int (Int32.ofNat o), .ref d, .int (Int32.ofNat q), .int (Int32.ofNat len)] 7)) (T7.setTop (mkF m 3 #[.val (.ref b), .val (.int (Int32.ofNat (o + i) + 1)), .val (.ref d), .val (.int (Int32.ofNat (q + i) + 1)), .val (.int (Int32.ofNat len)), .val (.int (Int32.ofNat i + 1)), .val (.int (cv A (o + i)))] [])) := c8.trans (by
        refine iincV X7.here hexec rfl 1 (hb hbytes d32) (by decide) rfl rfl ?_
        refine iincV X7.here hexec rfl 1 (hb hbytes d35) (by decide) rfl rfl ?_
        refine iincV X7.here hexec rfl 1 (hb hbytes d38) (by decide) rfl rfl ?_
        refine XS.goto X7.here hexec rfl (pc0 := 41) rfl (hb hbytes d41) (by decide) rfl ?_
        exact Steps.refl _)
      have c10 : Steps p.tables e below (s₁.setTop (entryFrame m #[.ref b, .int (Int32.ofNat o), .ref d, .int (Int32.ofNat q), .int (Int32.ofNat len)] 7)) (T7.setTop (mkF m 3 #[.val (.ref b), .val (.int (Int32.ofNat (o + (i + 1)))), .val (.ref d), .val (.int (Int32.ofNat (q + (i + 1)))), .val (.int (Int32.ofNat len)), .val (.int (Int32.ofNat (i + 1))), .val (.int (cv A (o + i)))] [])) := by
        have := c9
        rw [succ32, succ32, succ32] at this
        exact this
      exact ih (i + 1) (by omega) _ (Or.inr ⟨_, rfl, rfl⟩) T7 _ (by rw [copyLocs_step, ← List.append_assoc]; exact X7) (pl.trans p7) (fl.step (by omega) hlt (by simp)) c10
  obtain ⟨T9, B9, z9, X9, p9, f9, g9⟩ := loop len 0 (by omega) .unset (Or.inl rfl) s₁ B (by simpa [copyLocs] using X0) ⟨hB0.1, fun _ _ => rfl, rfl⟩ (Laid.zero _ _ _) c2
  have c11 : Steps p.tables e below (s₁.setTop (entryFrame m #[.ref b, .int (Int32.ofNat o), .ref d, .int (Int32.ofNat q), .int (Int32.ofNat len)] 7)) (T9.setTop (mkF m 46 #[.val (.ref b), .val (.int (Int32.ofNat (o + len))), .val (.ref d), .val (.int (Int32.ofNat (q + len))), .val (.int (Int32.ofNat len)), .val (.int (Int32.ofNat len)), z9] [.int (Int32.ofNat len)])) := g9.trans (by
    refine XS.iload X9.here hexec rfl (hb hbytes d3) rfl ?_
    refine XS.iload X9.here hexec rfl (hb hbytes d5) rfl ?_
    refine XS.icmpYes X9.here hexec rfl (pc0 := 7) rfl (hb hbytes d7) rfl (ii_ge_t (nlt32 (by omega) (Nat.le_refl _))) (by decide) rfl ?_
    refine XS.iload X9.here hexec rfl (hb hbytes d44) rfl ?_
    exact Steps.refl _)
  exact ⟨T9, some (.int (Int32.ofNat len)), _, _, _, X9, by simp, rfl, rfl, (fun h => by cases h), ⟨rfl, B9, p9.from hh0, f9⟩, fun fs hl => c11.trans (X9.ireturnOut hexec hret rfl (Or.inl rfl) (hb hbytes d46) hl)⟩
end Cmp5
namespace Cmp3
def yN : MethodName := ⟨"java/lang/StringUTF16", "compress", "([CII)[B"⟩
abbrev yB : ByteArray := jdk_52_method_16_code
theorem d0 : decode yB 0 = .ok (.iload_n 2, 1) := by decide +kernel
theorem d1 : decode yB 1 = .ok (.newarray .byte, 2) := by decide +kernel
theorem d3 : decode yB 3 = .ok (.astore_n 3, 1) := by decide +kernel
theorem d4 : decode yB 4 = .ok (.aload_n 0, 1) := by decide +kernel
theorem d5 : decode yB 5 = .ok (.iload_n 1, 1) := by decide +kernel
theorem d6 : decode yB 6 = .ok (.aload_n 3, 1) := by decide +kernel
theorem d7 : decode yB 7 = .ok (.iconst 0, 1) := by decide +kernel
theorem d8 : decode yB 8 = .ok (.iload_n 2, 1) := by decide +kernel
theorem d9 : decode yB 9 = .ok (.invokestatic 115, 3) := by decide +kernel
theorem d12 : decode yB 12 = .ok (.istore 4, 2) := by decide +kernel
theorem d14 : decode yB 14 = .ok (.iload 4, 2) := by decide +kernel
theorem d16 : decode yB 16 = .ok (.iload_n 2, 1) := by decide +kernel
theorem d17 : decode yB 17 = .ok (.if_icmp (.eq) 40, 3) := by decide +kernel
theorem d57 : decode yB 57 = .ok (.aload_n 3, 1) := by decide +kernel
theorem d58 : decode yB 58 = .ok (.areturn, 1) := by decide +kernel
def site : List Cond := [.arrayClass .byte, Cmp5.tab] ++ staticW U16 115 Cmp5.yN
def tab : Cond := tabOf yN yB 6 (some (.array .byte)) site
def P (b : Addr) (A : Cell) (o len : Nat) (args : Array Value) (s : State) : Prop := args = #[.ref b, .int (Int32.ofNat o), .int (Int32.ofNat len)] ∧ Ch b A s ∧ o + len ≤ A.slots.size ∧ len ≤ 536870912 ∧ ∀ i, i < len → ¬ 255 < cv A (o + i)
def E (b : Addr) (A : Cell) (o len : Nat) (r : Option Value) (s u : State) : Prop := NewArr .byte "[B" len (fun j => .int (lo8 (cv A (o + j)))) r s u ∧ u.heap.size = s.heap.size + 1
/-- no char of the range above 255: a new byte[] of their low bytes -/
theorem law (l : Launch) (b : Addr) (A : Cell) (o len : Nat) : Law l yN 3 3 1 18 yB 6 (some (.array .byte)) site (P b A o len) (E b A o len) [] 1 len := by
  refine Law.of_walk (plainFor_of_name (by decide +kernel)) (by decide +kernel) (by decide +kernel) (by decide) (fun _ _ h => by rw [h.1]; rfl) (fun _ U U' hal hh h => ⟨h.1, h.2.1.mv hal hh, h.2.2⟩) (fun r U U' V V' h1 hal h2 h => ⟨NewArr.mv r U U' V V' h1 hal h2 h.1, by rw [h1, h2]; exact h.2⟩) ?_
  intro p e s m args below meth c s₁ X0 hexec hbytes hml hret hlk hnm hown hh0 W hP
  obtain ⟨rfl, hA, l1, l2, hp⟩ := hP
  have a31 := hA.1.2.2.2
  have c1 : Steps p.tables e below (s₁.setTop (entryFrame m #[.ref b, .int (Int32.ofNat o), .int (Int32.ofNat len)] 6)) (s₁.setTop (mkF m 0 #[.val (.ref b), .val (.int (Int32.ofNat o)), .val (.int (Int32.ofNat len)), .unset, .unset, .unset] [])) := entry rfl
  have c2 : Steps p.tables e below (s₁.setTop (entryFrame m #[.ref b, .int (Int32.ofNat o), .int (Int32.ofNat len)] 6)) (s₁.setTop (mkF m 1 #[.val (.ref b), .val (.int (Int32.ofNat o)), .val (.int (Int32.ofNat len)), .unset, .unset, .unset] [.int (Int32.ofNat len)])) := c1.trans (by
    refine XS.iloadN X0.here hexec rfl (hb hbytes d0) rfl ?_
    exact Steps.refl _)
  obtain ⟨T3, B3, X3, ba3, bs3, bv3, bh3, bf3, st3⟩ := X0.anew hexec (atype := .byte) (wk W (.arrayClass .byte)) rfl (by show len * 1 ≤ _; omega) (by omega) (g := (mkF m 1 #[.val (.ref b), .val (.int (Int32.ofNat o)), .val (.int (Int32.ofNat len)), .unset, .unset, .unset] [.int (Int32.ofNat len)])) rfl (hb hbytes d1) (rest := []) rfl (Nat.le_refl _) (by show 0 + len ≤ len; omega)
  rw [hh0] at ba3 st3
  have kp3 : XT.Kept s T3 := (XT.Kept.of_eq hh0).push bh3
  have hA3 := hA.keep X3.warmed.alike (kp3 _ _ hA.1.1)
  have hne : b ≠ s.heap.size := hA.1.ne
  have c4 : Steps p.tables e below (s₁.setTop (entryFrame m #[.ref b, .int (Int32.ofNat o), .int (Int32.ofNat len)] 6)) (T3.setTop (mkF m 3 #[.val (.ref b), .val (.int (Int32.ofNat o)), .val (.int (Int32.ofNat len)), .unset, .unset, .unset] [.ref s.heap.size])) := c2.trans (st3 _ (Steps.refl _))
  have c5 : Steps p.tables e below (s₁.setTop (entryFrame m #[.ref b, .int (Int32.ofNat o), .int (Int32.ofNat len)] 6)) (T3.setTop (mkF m 9 #[.val (.ref b), .val (.int (Int32.ofNat o)), .val (.int (Int32.ofNat len)), .val (.ref s.heap.size), .unset, .unset] [.int (Int32.ofNat len), .int 0, .ref s.heap.size, .int (Int32.ofNat o), .ref b])) := c4.trans (by
    refine XS.astoreN X3.here hexec rfl (hb hbytes d3) rfl rfl rfl ?_
    refine XS.aloadN X3.here hexec rfl (hb hbytes d4) rfl rfl ?_
    refine XS.iloadN X3.here hexec rfl (hb hbytes d5) rfl ?_
    refine XS.aloadN X3.here hexec rfl (hb hbytes d6) rfl rfl ?_
    refine iconstV X3.here hexec rfl 0 (hb hbytes d7) (by decide) ?_
    refine XS.iloadN X3.here hexec rfl (hb hbytes d8) rfl ?_
    exact Steps.refl _)
  obtain ⟨v6, T6, X6, E6, g6⟩ := X3.callS hexec (Cmp5.law l b A s.heap.size B3 o 0 len) hown (wks W (staticW U16 115 Cmp5.yN)) (wk W Cmp5.tab) (W := 0) (Nat.le_of_ble_eq_true rfl) (Nat.le_of_ble_eq_true rfl) (Nat.le_refl _) (by show 0 + len + 0 ≤ len; omega) (g := (mkF m 9 #[.val (.ref b), .val (.int (Int32.ofNat o)), .val (.int (Int32.ofNat len)), .val (.ref s.heap.size), .unset, .unset] [.int (Int32.ofNat len), .int (Int32.ofNat 0), .ref s.heap.size, .int (Int32.ofNat o), .ref b])) rfl (by rw [hml]; rfl) c5 (argsL := [.ref b, .int (Int32.ofNat o), .ref s.heap.size, .int (Int32.ofNat 0), .int (Int32.ofNat len)]) (rest := []) rfl rfl (by show 2 * 0 + 0 ≤ _; decide) (hb hbytes d9) (⟨rfl, hA3, ba3, hne, l1, by rw [bs3]; simp, hp⟩)
  obtain ⟨rfl, B6, p6, f6⟩ := E6
  have c7 : Steps p.tables e below (s₁.setTop (entryFrame m #[.ref b, .int (Int32.ofNat o), .int (Int32.ofNat len)] 6)) (T6.setTop (mkF m 12 #[.val (.ref b), .val (.int (Int32.ofNat o)), .val (.int (Int32.ofNat len)), .val (.ref s.heap.size), .unset, .unset] [.int (Int32.ofNat len)])) := g6
  have c8 : Steps p.tables e below (s₁.setTop (entryFrame m #[.ref b, .int (Int32.ofNat o), .int (Int32.ofNat len)] 6)) (T6.setTop (mkF m 58 #[.val (.ref b), .val (.int (Int32.ofNat o)), .val (.int (Int32.ofNat len)), .val (.ref s.heap.size), .val (.int (Int32.ofNat len)), .unset] [.ref s.heap.size])) := c7.trans (by
    refine XS.istore X6.here hexec rfl (hb hbytes d12) rfl rfl ?_
    refine XS.iload X6.here hexec rfl (hb hbytes d14) rfl ?_
    refine XS.iloadN X6.here hexec rfl (hb hbytes d16) rfl ?_
    refine XS.icmpYes X6.here hexec rfl (pc0 := 17) rfl (hb hbytes d17) rfl (ii_eq_t rfl) (by decide) rfl ?_
    refine XS.aloadN X6.here hexec rfl (hb hbytes d57) rfl rfl ?_
    exact Steps.refl _)
  have X8 := X6.wide (L' := []) (cells' := 1) (slots' := len) (fun x hx hlt => by
    simp only [List.nil_append, copyLocs, List.mem_map, List.mem_range] at hx
    obtain ⟨i, -, rfl⟩ := hx
    exact absurd hlt (Nat.lt_irrefl _)) (Nat.le_refl _) (by omega)
  exact ⟨T6, some (.ref s.heap.size), _, _, _, X8, rfl, rfl, rfl, (fun h => by cases h), ⟨⟨rfl, B6, ba3.like (X3.warmed.alike.symm.trans X6.warmed.alike) p6.1 f6.1 f6.2.1 f6.2.2.1, f6.2.1.trans bv3, by rw [X6.warmed.alike.findClass, f6.1]; exact bf3, by rw [f6.2.2.1, bs3]; simp, fun j hj => by rw [f6.2.2.2 j, if_pos (by omega)]; rfl, kp3.put p6 (Nat.le_refl _)⟩, by rw [p6.2.2, bh3, hh0]; simp⟩, fun fs hl => c8.trans (X8.areturnOut hexec rfl hret rfl (hb hbytes d58) hl)⟩
end Cmp3
namespace CodL
def yN : MethodName := ⟨"java/lang/StringUTF16", "coderFromArrayLen", "([BI)B"⟩
abbrev yB : ByteArray := jdk_52_method_15_code
theorem d0 : decode yB 0 = .ok (.iload_n 1, 1) := by decide +kernel
theorem d1 : decode yB 1 = .ok (.aload_n 0, 1) := by decide +kernel
theorem d2 : decode yB 2 = .ok (.arraylength, 1) := by decide +kernel
theorem d3 : decode yB 3 = .ok (.isub, 1) := by decide +kernel
theorem d4 : decode yB 4 = .ok (.bipush 31, 2) := by decide +kernel
theorem d6 : decode yB 6 = .ok (.iushr, 1) := by decide +kernel
theorem d7 : decode yB 7 = .ok (.i2b, 1) := by decide +kernel
theorem d8 : decode yB 8 = .ok (.ireturn, 1) := by decide +kernel
def site : List Cond := []
def tab : Cond := tabOf yN yB 2 (some .byte) site
def P (d : Addr) (B : Cell) (args : Array Value) (s : State) : Prop := args = #[.ref d, .int (Int32.ofNat B.slots.size)] ∧ Arr .byte d B s
def E (r : Option Value) (s u : State) : Prop := XT.PureE (some (.int 0)) r s u
/-- an array as long as the number of chars: LATIN1 -/
theorem law (l : Launch) (d : Addr) (B : Cell) : Law l yN 2 2 0 0 yB 2 (some .byte) site (P d B) E [] 0 0 := by
  refine Law.of_walk (plainFor_of_name (by decide +kernel)) (by decide +kernel) (by decide +kernel) (by decide) (fun _ _ h => by rw [h.1]; rfl) (fun _ U U' hal hh h => ⟨h.1, h.2.mv hal hh⟩) (fun r U U' V V' h1 hal h2 h => XT.PureE.mv r U U' V V' h1 hal h2 h) ?_
  intro p e s m args below meth c s₁ X0 hexec hbytes hml hret hlk hnm hown hh0 W hP
  obtain ⟨rfl, hB⟩ := hP
  have hB0 := hB.mv X0.warmed.alike hh0
  have c1 : Steps p.tables e below (s₁.setTop (entryFrame m #[.ref d, .int (Int32.ofNat B.slots.size)] 2)) (s₁.setTop (mkF m 0 #[.val (.ref d), .val (.int (Int32.ofNat B.slots.size))] [])) := entry rfl
  have c2 : Steps p.tables e below (s₁.setTop (entryFrame m #[.ref d, .int (Int32.ofNat B.slots.size)] 2)) (s₁.setTop (mkF m 2 #[.val (.ref d), .val (.int (Int32.ofNat B.slots.size))] [.ref d, .int (Int32.ofNat B.slots.size)])) := c1.trans (by
    refine XS.iloadN X0.here hexec rfl (hb hbytes d0) rfl ?_
    refine XS.aloadN X0.here hexec rfl (hb hbytes d1) rfl rfl ?_
    exact Steps.refl _)
  have c3 : Steps p.tables e below (s₁.setTop (entryFrame m #[.ref d, .int (Int32.ofNat B.slots.size)] 2)) (s₁.setTop (mkF m 8 #[.val (.ref d), .val (.int (Int32.ofNat B.slots.size))] [.int (lo8 (ushr (Int32.ofNat B.slots.size - Int32.ofNat B.slots.size) 31))])) := c2.trans (by
    refine X0.alen hexec hB0 rfl rfl (hb hbytes d2) ?_
    refine XS.isub X0.here hexec rfl (hb hbytes d3) rfl ?_
    refine bipushV X0.here hexec rfl 31 (hb hbytes d4) (by decide) ?_
    refine iushr X0.here hexec rfl (hb hbytes d6) rfl ?_
    refine i2b X0.here hexec rfl (hb hbytes d7) rfl ?_
    exact Steps.refl _)
  have e0 : lo8 (ushr (Int32.ofNat B.slots.size - Int32.ofNat B.slots.size) 31) = 0 := by rw [Int32.sub_self]; decide
  rw [e0] at c3
  exact ⟨s₁, some (.int 0), _, _, _, X0, rfl, rfl, rfl, (fun h => by cases h), ⟨rfl, hh0⟩, fun fs hl => c3.trans (X0.ireturnOut hexec hret rfl (Or.inr (Or.inr (Or.inl rfl))) (hb hbytes d8) hl)⟩
end CodL
/-- the String at a is Latin-1 over a new byte[] (the heap's one new cell): the low bytes of the len chars of A from o on; every cell but a is kept -/
def Got (a : Addr) (D : Cell) (fV fC : Field) (A : Cell) (o len : Nat) (r : Option Value) (s u : State) : Prop := r = none ∧ ∃ D' V : Cell, Blank "java/lang/String" a D' u ∧ Same D D' [fV.slot, fC.slot] ∧ D'.slots[fV.slot]? = some (.ref s.heap.size) ∧ D'.slots[fC.slot]? = some (.int 0) ∧ Arr .byte s.heap.size V u ∧ V.vm = .none ∧ u.vm.findClass "[B" = some V.cls ∧ V.slots.size = len ∧ (∀ j, j < len → V.slots[j]? = some (.int (lo8 (cv A (o + j))))) ∧ (∀ (y : Addr) (c : Cell), y ≠ a → s.heap[y]? = some c → u.heap[y]? = some c) ∧ u.heap.size = s.heap.size + 1
theorem Got.mv {a : Addr} {D A : Cell} {fV fC : Field} {o len : Nat} : ∀ r (U U' V V' : State), U'.heap = U.heap → V.vm.Alike V'.vm → V'.heap = V.heap → Got a D fV fC A o len r U V → Got a D fV fC A o len r U' V' :=
  fun r U U' V V' h1 hal h2 ⟨e0, D', X, a1, a2, a3, a4, a5, a6, a7, a8, a9, a10, a11⟩ => ⟨e0, D', X, a1.mv hal h2, a2, by rw [h1]; exact a3, a4, by rw [h1]; exact a5.mv hal h2, a6, by rw [hal.findClass]; exact a7, a8, a9, by rw [h1, h2]; exact a10, by rw [h1, h2]; exact a11⟩
namespace New4
def yN : MethodName := ⟨"java/lang/String", "<init>", "([CIILjava/lang/Void;)V"⟩
abbrev yB : ByteArray := jdk_42_method_149_code
theorem d0 : decode yB 0 = .ok (.aload_n 0, 1) := by decide +kernel
theorem d1 : decode yB 1 = .ok (.invokespecial 1, 3) := by decide +kernel
theorem d4 : decode yB 4 = .ok (.iload_n 3, 1) := by decide +kernel
theorem d5 : decode yB 5 = .ok (.ifCond (.ne) 22, 3) := by decide +kernel
theorem d27 : decode yB 27 = .ok (.getstatic 38, 3) := by decide +kernel
theorem d30 : decode yB 30 = .ok (.ifCond (.eq) 28, 3) := by decide +kernel
theorem d33 : decode yB 33 = .ok (.aload_n 1, 1) := by decide +kernel
theorem d34 : decode yB 34 = .ok (.iload_n 2, 1) := by decide +kernel
theorem d35 : decode yB 35 = .ok (.iload_n 3, 1) := by decide +kernel
theorem d36 : decode yB 36 = .ok (.invokestatic 177, 3) := by decide +kernel
theorem d39 : decode yB 39 = .ok (.astore 5, 2) := by decide +kernel
theorem d41 : decode yB 41 = .ok (.aload_n 0, 1) := by decide +kernel
theorem d42 : decode yB 42 = .ok (.aload 5, 2) := by decide +kernel
theorem d44 : decode yB 44 = .ok (.iload_n 3, 1) := by decide +kernel
theorem d45 : decode yB 45 = .ok (.invokestatic 47, 3) := by decide +kernel
theorem d48 : decode yB 48 = .ok (.putfield 15, 3) := by decide +kernel
theorem d51 : decode yB 51 = .ok (.aload_n 0, 1) := by decide +kernel
theorem d52 : decode yB 52 = .ok (.aload 5, 2) := by decide +kernel
theorem d54 : decode yB 54 = .ok (.putfield 9, 3) := by decide +kernel
theorem d57 : decode yB 57 = .ok (.return_, 1) := by decide +kernel
def site : List Cond := [.fieldLink "java/lang/String" 38 "java/lang/String" "COMPACT_STRINGS" "Z", Cmp3.tab, CodL.tab, .laysFinal "java/lang/String" "java/lang/String" "value" "[B", .fieldLink "java/lang/String" 9 "java/lang/String" "value" "[B", .laysFinal "java/lang/String" "java/lang/String" "coder" "B", .fieldLink "java/lang/String" 15 "java/lang/String" "coder" "B"] ++ objW "java/lang/String" 1 ++ staticW "java/lang/String" 177 Cmp3.yN ++ staticW "java/lang/String" 47 CodL.yN
def tab : Cond := tabOf yN yB 6 none site
def P (a : Addr) (D : Cell) (fV fC : Field) (b : Addr) (A : Cell) (z : Int32) (o len : Nat) (args : Array Value) (s : State) : Prop := args = #[.ref a, .ref b, .int (Int32.ofNat o), .int (Int32.ofNat len), .null] ∧ Blank "java/lang/String" a D s ∧ Found "java/lang/String" "value" "[B" fV s ∧ Found "java/lang/String" "coder" "B" fC s ∧ Ch b A s ∧ StaticIs s "java/lang/String" "COMPACT_STRINGS" "Z" (.int z) ∧ ¬ z = 0 ∧ 0 < len ∧ o + len ≤ A.slots.size ∧ len ≤ 536870912 ∧ ∀ i, i < len → ¬ 255 < cv A (o + i)
def E (a : Addr) (D : Cell) (fV fC : Field) (A : Cell) (o len : Nat) (r : Option Value) (s u : State) : Prop := Got a D fV fC A o len r s u
/-- len > 0, no char of the range above 255: a Latin-1 String of their low bytes -/
theorem law (l : Launch) (a : Addr) (D : Cell) (fV fC : Field) (b : Addr) (A : Cell) (z : Int32) (o len : Nat) : Law l yN 5 4 2 35 yB 6 none site (P a D fV fC b A z o len) (E a D fV fC A o len) [⟨a, fC.slot⟩, ⟨a, fV.slot⟩] 1 len := by
  refine Law.of_walk (plainFor_of_name (by decide +kernel)) (by decide +kernel) (by decide +kernel) (by decide) (fun _ _ h => by rw [h.1]; rfl) (fun _ U U' hal hh h => ⟨h.1, h.2.1.mv hal hh, h.2.2.1.al hal, h.2.2.2.1.al hal, h.2.2.2.2.1.mv hal hh, h.2.2.2.2.2.1.there hal hh, h.2.2.2.2.2.2⟩) (fun r U U' V V' h1 hal h2 h => Got.mv r U U' V V' h1 hal h2 h) ?_
  intro p e s m args below meth c s₁ X0 hexec hbytes hml hret hlk hnm hown hh0 W hP
  obtain ⟨rfl, hB, f1, f2, hA, s1, hz, l0, l1, l2, hp⟩ := hP
  have a31 := hA.1.2.2.2
  have c1 : Steps p.tables e below (s₁.setTop (entryFrame m #[.ref a, .ref b, .int (Int32.ofNat o), .int (Int32.ofNat len), .null] 6)) (s₁.setTop (mkF m 0 #[.val (.ref a), .val (.ref b), .val (.int (Int32.ofNat o)), .val (.int (Int32.ofNat len)), .val .null, .unset] [])) := entry rfl
  have c2 : Steps p.tables e below (s₁.setTop (entryFrame m #[.ref a, .ref b, .int (Int32.ofNat o), .int (Int32.ofNat len), .null] 6)) (s₁.setTop (mkF m 1 #[.val (.ref a), .val (.ref b), .val (.int (Int32.ofNat o)), .val (.int (Int32.ofNat len)), .val .null, .unset] [.ref a])) := c1.trans (by
    refine XS.aloadN X0.here hexec rfl (hb hbytes d0) rfl rfl ?_
    exact Steps.refl _)
  obtain ⟨T3, X3, q3, st3⟩ := X0.oinit hexec hown (wks W (objW "java/lang/String" 1)) (g := (mkF m 1 #[.val (.ref a), .val (.ref b), .val (.int (Int32.ofNat o)), .val (.int (Int32.ofNat len)), .val .null, .unset] [.ref a])) rfl (by rw [hml]; rfl) (rest := []) rfl (hb hbytes d1) (W := 0) (by show 2 * 0 + 0 ≤ _; decide) (Nat.le_of_ble_eq_true rfl) (Nat.le_of_ble_eq_true rfl)
  have hh3 := q3.trans hh0
  have c4 : Steps p.tables e below (s₁.setTop (entryFrame m #[.ref a, .ref b, .int (Int32.ofNat o), .int (Int32.ofNat len), .null] 6)) (T3.setTop (mkF m 27 #[.val (.ref a), .val (.ref b), .val (.int (Int32.ofNat o)), .val (.int (Int32.ofNat len)), .val .null, .unset] [])) := (c2.trans (st3 _ (Steps.refl _))).trans (by
    refine XS.iloadN X3.here hexec rfl (hb hbytes d4) rfl ?_
    refine XS.ifYes X3.here hexec rfl (pc0 := 5) rfl (hb hbytes d5) rfl (i0_ne_t (nz32 (by omega) l0)) (by decide) rfl ?_
    exact Steps.refl _)
  obtain ⟨T5, X5, q5, st5⟩ := X3.sget hexec hown (wk W (.fieldLink "java/lang/String" 38 "java/lang/String" "COMPACT_STRINGS" "Z")) s1 (fun _ _ h => by rw [hh3]; exact h) (g := (mkF m 27 #[.val (.ref a), .val (.ref b), .val (.int (Int32.ofNat o)), .val (.int (Int32.ofNat len)), .val .null, .unset] [])) rfl (hb hbytes d27)
  have hh5 := q5.trans hh3
  have c6 : Steps p.tables e below (s₁.setTop (entryFrame m #[.ref a, .ref b, .int (Int32.ofNat o), .int (Int32.ofNat len), .null] 6)) (T5.setTop (mkF m 30 #[.val (.ref a), .val (.ref b), .val (.int (Int32.ofNat o)), .val (.int (Int32.ofNat len)), .val .null, .unset] [.int z])) := c4.trans (st5 _ (Steps.refl _))
  have c7 : Steps p.tables e below (s₁.setTop (entryFrame m #[.ref a, .ref b, .int (Int32.ofNat o), .int (Int32.ofNat len), .null] 6)) (T5.setTop (mkF m 36 #[.val (.ref a), .val (.ref b), .val (.int (Int32.ofNat o)), .val (.int (Int32.ofNat len)), .val .null, .unset] [.int (Int32.ofNat len), .int (Int32.ofNat o), .ref b])) := c6.trans (by
    refine XS.ifNo X5.here hexec rfl (hb hbytes d30) rfl (i0_eq_f hz) ?_
    refine XS.aloadN X5.here hexec rfl (hb hbytes d33) rfl rfl ?_
    refine XS.iloadN X5.here hexec rfl (hb hbytes d34) rfl ?_
    refine XS.iloadN X5.here hexec rfl (hb hbytes d35) rfl ?_
    exact Steps.refl _)
  obtain ⟨v8, T8, X8, E8, g8⟩ := X5.callS hexec (Cmp3.law l b A o len) hown (wks W (staticW "java/lang/String" 177 Cmp3.yN)) (wk W Cmp3.tab) (W := 0) (Nat.le_of_ble_eq_true rfl) (Nat.le_of_ble_eq_true rfl) (Nat.le_refl _) (by show 0 + len ≤ len; omega) (g := (mkF m 36 #[.val (.ref a), .val (.ref b), .val (.int (Int32.ofNat o)), .val (.int (Int32.ofNat len)), .val .null, .unset] [.int (Int32.ofNat len), .int (Int32.ofNat o), .ref b])) rfl (by rw [hml]; rfl) c7 (argsL := [.ref b, .int (Int32.ofNat o), .int (Int32.ofNat len)]) (rest := []) rfl rfl (by show 2 * 0 + 0 ≤ _; decide) (hb hbytes d36) (⟨rfl, hA.mv X5.warmed.alike hh5, l1, l2, hp⟩)
  obtain ⟨e8, z8⟩ := E8
  obtain ⟨rfl, N, n1, n2, n3, n4, n5, n6⟩ := NewArr.mv _ T5 s _ _ hh5.symm (Vm.Alike.refl _) rfl e8
  rw [hh5] at z8
  have hB1 := hB.keep X8.warmed.alike (n6 _ _ hB.1)
  have hne : s.heap.size ≠ a := (Nat.ne_of_lt (Array.getElem?_eq_some_iff.mp hB.1).1).symm
  have c9 : Steps p.tables e below (s₁.setTop (entryFrame m #[.ref a, .ref b, .int (Int32.ofNat o), .int (Int32.ofNat len), .null] 6)) (T8.setTop (mkF m 39 #[.val (.ref a), .val (.ref b), .val (.int (Int32.ofNat o)), .val (.int (Int32.ofNat len)), .val .null, .unset] [.ref s.heap.size])) := g8
  have c10 : Steps p.tables e below (s₁.setTop (entryFrame m #[.ref a, .ref b, .int (Int32.ofNat o), .int (Int32.ofNat len), .null] 6)) (T8.setTop (mkF m 45 #[.val (.ref a), .val (.ref b), .val (.int (Int32.ofNat o)), .val (.int (Int32.ofNat len)), .val .null, .val (.ref s.heap.size)] [.int (Int32.ofNat N.slots.size), .ref s.heap.size, .ref a])) := by
    have hc : Steps p.tables e below (s₁.setTop (entryFrame m #[.ref a, .ref b, .int (Int32.ofNat o), .int (Int32.ofNat len), .null] 6)) (T8.setTop (mkF m 45 #[.val (.ref a), .val (.ref b), .val (.int (Int32.ofNat o)), .val (.int (Int32.ofNat len)), .val .null, .val (.ref s.heap.size)] [.int (Int32.ofNat len), .ref s.heap.size, .ref a])) := c9.trans (by
      refine XS.astore X8.here hexec rfl (hb hbytes d39) rfl rfl rfl ?_
      refine XS.aloadN X8.here hexec rfl (hb hbytes d41) rfl rfl ?_
      refine XS.aload X8.here hexec rfl (hb hbytes d42) rfl rfl ?_
      refine XS.iloadN X8.here hexec rfl (hb hbytes d44) rfl ?_
      exact Steps.refl _)
    rw [n4]; exact hc
  obtain ⟨v11, T11, X11, E11, g11⟩ := X8.callS hexec (CodL.law l s.heap.size N) hown (wks W (staticW "java/lang/String" 47 CodL.yN)) (wk W CodL.tab) (W := 1) (Nat.le_of_ble_eq_true rfl) (Nat.le_of_ble_eq_true rfl) (Nat.le_refl _) (by show 0 + len + 0 ≤ len; omega) (g := (mkF m 45 #[.val (.ref a), .val (.ref b), .val (.int (Int32.ofNat o)), .val (.int (Int32.ofNat len)), .val .null, .val (.ref s.heap.size)] [.int (Int32.ofNat N.slots.size), .ref s.heap.size, .ref a])) rfl (by rw [hml]; rfl) c10 (argsL := [.ref s.heap.size, .int (Int32.ofNat N.slots.size)]) (rest := [.ref a]) rfl rfl (by show 2 * 0 + (1 + 0) ≤ _; decide) (hb hbytes d45) (⟨rfl, n1⟩)
  obtain ⟨rfl, q11⟩ := E11
  have hB11 := hB1.mv (X8.warmed.alike.symm.trans X11.warmed.alike) q11
  have c12 : Steps p.tables e below (s₁.setTop (entryFrame m #[.ref a, .ref b, .int (Int32.ofNat o), .int (Int32.ofNat len), .null] 6)) (T11.setTop (mkF m 48 #[.val (.ref a), .val (.ref b), .val (.int (Int32.ofNat o)), .val (.int (Int32.ofNat len)), .val .null, .val (.ref s.heap.size)] [.int 0, .ref a])) := g11
  obtain ⟨T13, X13, p13, bl13, sl13, st13⟩ := X11.finit hexec hown (wk W (.fieldLink "java/lang/String" 15 "java/lang/String" "coder" "B")) (Or.inr ⟨_, (wk W (.laysFinal "java/lang/String" "java/lang/String" "coder" "B"))⟩) (Or.inl ⟨rfl, hnm⟩) f2 (Or.inl rfl) hB11 (t := .byte) (by decide +kernel) rfl (g := (mkF m 48 #[.val (.ref a), .val (.ref b), .val (.int (Int32.ofNat o)), .val (.int (Int32.ofNat len)), .val .null, .val (.ref s.heap.size)] [.int 0, .ref a])) rfl (rest := []) rfl (hb hbytes d48)
  have c14 : Steps p.tables e below (s₁.setTop (entryFrame m #[.ref a, .ref b, .int (Int32.ofNat o), .int (Int32.ofNat len), .null] 6)) (T13.setTop (mkF m 54 #[.val (.ref a), .val (.ref b), .val (.int (Int32.ofNat o)), .val (.int (Int32.ofNat len)), .val .null, .val (.ref s.heap.size)] [.ref s.heap.size, .ref a])) := (c12.trans (st13 _ (Steps.refl _))).trans (by
    refine XS.aloadN X13.here hexec rfl (hb hbytes d51) rfl rfl ?_
    refine XS.aload X13.here hexec rfl (hb hbytes d52) rfl rfl ?_
    exact Steps.refl _)
  obtain ⟨T15, X15, p15, bl15, sl15, st15⟩ := X13.finit hexec hown (wk W (.fieldLink "java/lang/String" 9 "java/lang/String" "value" "[B")) (Or.inr ⟨_, (wk W (.laysFinal "java/lang/String" "java/lang/String" "value" "[B"))⟩) (Or.inl ⟨rfl, hnm⟩) f1 (Or.inl rfl) bl13 (t := (.array .byte)) (by decide +kernel) rfl (g := (mkF m 54 #[.val (.ref a), .val (.ref b), .val (.int (Int32.ofNat o)), .val (.int (Int32.ofNat len)), .val .null, .val (.ref s.heap.size)] [.ref s.heap.size, .ref a])) rfl (rest := []) rfl (hb hbytes d54)
  have c16 : Steps p.tables e below (s₁.setTop (entryFrame m #[.ref a, .ref b, .int (Int32.ofNat o), .int (Int32.ofNat len), .null] 6)) (T15.setTop (mkF m 57 #[.val (.ref a), .val (.ref b), .val (.int (Int32.ofNat o)), .val (.int (Int32.ofNat len)), .val .null, .val (.ref s.heap.size)] [])) := c14.trans (st15 _ (Steps.refl _))
  have ap := apart (Or.inr ⟨_, (wk W (.laysFinal "java/lang/String" "java/lang/String" "value" "[B"))⟩) (Or.inr ⟨_, (wk W (.laysFinal "java/lang/String" "java/lang/String" "coder" "B"))⟩) f1 f2 (t₁ := .array .byte) (t₂ := .byte) (by decide +kernel) (by decide +kernel) (by decide)
  have al := X8.warmed.alike.symm.trans X15.warmed.alike
  have n7 : T11.heap[s.heap.size]? = some N := by rw [q11]; exact n1.1
  exact ⟨T15, none, _, _, _, X15, by simp, rfl, by omega, (fun _ => rfl), ⟨rfl, _, N, bl15, ((Same.refl D _).set _ (by simp)).set _ (by simp), sl15, (Cell.slots_setSlot_ne _ ap).trans sl13, n1.keep al (p15.other hne (p13.other hne n7)), n2, by rw [al.findClass]; exact n3, n4, n5, fun y c h1 h2 => p15.other h1 (p13.other h1 (by rw [q11]; exact n6 y c h2)), by rw [p15.2.2, p13.2.2, q11]; exact z8⟩, fun fs hl => c16.trans (X15.returnOut hexec hret (hb hbytes d57) hl)⟩
end New4
namespace New1
def yN : MethodName := ⟨"java/lang/String", "<init>", "([C)V"⟩
abbrev yB : ByteArray := jdk_42_method_3_code
theorem d0 : decode yB 0 = .ok (.aload_n 0, 1) := by decide +kernel
theorem d1 : decode yB 1 = .ok (.aload_n 1, 1) := by decide +kernel
theorem d2 : decode yB 2 = .ok (.iconst 0, 1) := by decide +kernel
theorem d3 : decode yB 3 = .ok (.aload_n 1, 1) := by decide +kernel
theorem d4 : decode yB 4 = .ok (.arraylength, 1) := by decide +kernel
theorem d5 : decode yB 5 = .ok (.aconst_null, 1) := by decide +kernel
theorem d6 : decode yB 6 = .ok (.invokespecial 27, 3) := by decide +kernel
theorem d9 : decode yB 9 = .ok (.return_, 1) := by decide +kernel
def site : List Cond := [New4.tab] ++ initW "java/lang/String" 27 New4.yN
def tab : Cond := tabOf yN yB 2 none site
def P (a : Addr) (D : Cell) (fV fC : Field) (b : Addr) (A : Cell) (z : Int32) (args : Array Value) (s : State) : Prop := args = #[.ref a, .ref b] ∧ Blank "java/lang/String" a D s ∧ Found "java/lang/String" "value" "[B" fV s ∧ Found "java/lang/String" "coder" "B" fC s ∧ Ch b A s ∧ StaticIs s "java/lang/String" "COMPACT_STRINGS" "Z" (.int z) ∧ ¬ z = 0 ∧ 0 < A.slots.size ∧ A.slots.size ≤ 536870912 ∧ ∀ i, i < A.slots.size → ¬ 255 < cv A i
def E (a : Addr) (D : Cell) (fV fC : Field) (A : Cell) (r : Option Value) (s u : State) : Prop := Got a D fV fC A 0 A.slots.size r s u
/-- new String(chars), not empty, no char above 255: a Latin-1 String of their low bytes -/
theorem law (l : Launch) (a : Addr) (D : Cell) (fV fC : Field) (b : Addr) (A : Cell) (z : Int32) : Law l yN 2 1 3 52 yB 2 none site (P a D fV fC b A z) (E a D fV fC A) [⟨a, fC.slot⟩, ⟨a, fV.slot⟩] 1 A.slots.size := by
  refine Law.of_walk (plainFor_of_name (by decide +kernel)) (by decide +kernel) (by decide +kernel) (by decide) (fun _ _ h => by rw [h.1]; rfl) (fun _ U U' hal hh h => ⟨h.1, h.2.1.mv hal hh, h.2.2.1.al hal, h.2.2.2.1.al hal, h.2.2.2.2.1.mv hal hh, h.2.2.2.2.2.1.there hal hh, h.2.2.2.2.2.2⟩) (fun r U U' V V' h1 hal h2 h => Got.mv r U U' V V' h1 hal h2 h) ?_
  intro p e s m args below meth c s₁ X0 hexec hbytes hml hret hlk hnm hown hh0 W hP
  obtain ⟨rfl, hB, f1, f2, hA, s1, hz, l0, l2, hp⟩ := hP
  have c1 : Steps p.tables e below (s₁.setTop (entryFrame m #[.ref a, .ref b] 2)) (s₁.setTop (mkF m 0 #[.val (.ref a), .val (.ref b)] [])) := entry rfl
  have c2 : Steps p.tables e below (s₁.setTop (entryFrame m #[.ref a, .ref b] 2)) (s₁.setTop (mkF m 6 #[.val (.ref a), .val (.ref b)] [.null, .int (Int32.ofNat A.slots.size), .int 0, .ref b, .ref a])) := c1.trans (by
    refine XS.aloadN X0.here hexec rfl (hb hbytes d0) rfl rfl ?_
    refine XS.aloadN X0.here hexec rfl (hb hbytes d1) rfl rfl ?_
    refine iconstV X0.here hexec rfl 0 (hb hbytes d2) (by decide) ?_
    refine XS.aloadN X0.here hexec rfl (hb hbytes d3) rfl rfl ?_
    refine X0.alen hexec (hA.1.mv X0.warmed.alike hh0) rfl rfl (hb hbytes d4) ?_
    refine XS.aconstNull X0.here hexec rfl (hb hbytes d5) ?_
    exact Steps.refl _)
  obtain ⟨v3, T3, X3, E3, g3⟩ := X0.callN hexec (New4.law l a D fV fC b A z 0 A.slots.size) rfl hown (wks W (initW "java/lang/String" 27 New4.yN)) (W New4.tab (by simp only [site, List.mem_cons, List.mem_append, true_or, or_true])) (W := 0) (Nat.le_of_ble_eq_true rfl) (Nat.le_of_ble_eq_true rfl) (Nat.le_refl _) (by show 0 + A.slots.size ≤ A.slots.size; omega) (g := (mkF m 6 #[.val (.ref a), .val (.ref b)] [.null, .int (Int32.ofNat A.slots.size), .int (Int32.ofNat 0), .ref b, .ref a])) rfl (by rw [hml]; rfl) c2 (argsL := [.ref b, .int (Int32.ofNat 0), .int (Int32.ofNat A.slots.size), .null]) (rest := []) rfl rfl (by show 2 * 0 + 0 ≤ _; decide) (hb hbytes d6) (⟨rfl, hB.mv X0.warmed.alike hh0, f1.al X0.warmed.alike, f2.al X0.warmed.alike, hA.mv X0.warmed.alike hh0, s1.there X0.warmed.alike hh0, hz, l0, by omega, l2, fun i hi => by rw [Nat.zero_add]; exact hp i hi⟩)
  have e0 := Got.mv _ s₁ s _ _ hh0.symm (Vm.Alike.refl _) rfl E3
  obtain rfl := e0.1
  have c4 : Steps p.tables e below (s₁.setTop (entryFrame m #[.ref a, .ref b] 2)) (T3.setTop (mkF m 9 #[.val (.ref a), .val (.ref b)] [])) := g3
  exact ⟨T3, none, _, _, _, X3, by simp, rfl, by omega, (fun _ => rfl), e0, fun fs hl => c4.trans (X3.returnOut hexec hret (hb hbytes d9) hl)⟩
theorem pays {l : Launch} {R : Room} {p : Program} {e : Env} {below : List Frame} {s : State} {sargs : Array Value} {len W : Nat} (a : Addr) (D : Cell) (fV fC : Field) (b : Addr) (A : Cell) (z : Int32) (htab : tab.before sargs s = true) (hfr : 4 ≤ R.frames) (hlo : W + 65 ≤ R.locals) :
    Back l R p e below s sargs yN len W (fun A₁ a₁ => A₁.cells + 1 ≤ R.cells ∧ A₁.slots + A.slots.size ≤ R.slots ∧ P a D fV fC b A z a₁ A₁.U) (fun A₁ _ v₁ B₁ => E a D fV fC A v₁ A₁.U B₁.U ∧ B₁.locs = A₁.locs ++ [⟨a, fC.slot⟩, ⟨a, fV.slot⟩] ∧ B₁.cells = A₁.cells + 1 ∧ B₁.slots = A₁.slots + A.slots.size) :=
  (law l a D fV fC b A z).pays htab hfr (by omega)
end New1
end StrChars
namespace StrChars.Road
open Jvm Sem ClassFile Op Lib Jvm.Stand Jvm.Free Jvm.Free.XT
open Jvm.Lib.Cold (StaticIs)
abbrev ST : String := "java/lang/String"
/-- every table word that New1's law asks, flat -/
abbrev words : List Jvm.Cond := [.code New1.yN New1.yB 2 none, .initialized ST, .methodLink ST 27 New4.yN, .instanceMethod New4.yN,
  .code New4.yN New4.yB 6 none, .fieldLink ST 38 ST "COMPACT_STRINGS" "Z", .laysFinal ST ST "value" "[B", .fieldLink ST 9 ST "value" "[B", .laysFinal ST ST "coder" "B", .fieldLink ST 15 ST "coder" "B",
  .methodLink ST 1 Lib.objectInit, .instanceMethod Lib.objectInit, .code Lib.objectInit ⟨#[0xb1]⟩ 1 none, .methodLink ST 177 Cmp3.yN, .static Cmp3.yN, .methodLink ST 47 CodL.yN, .static CodL.yN,
  .code Cmp3.yN Cmp3.yB 6 (some (.array .byte)), .initialized U16, .arrayClass .byte, .methodLink U16 115 Cmp5.yN, .static Cmp5.yN, .code Cmp5.yN Cmp5.yB 7 (some .int), .code CodL.yN CodL.yB 2 (some .byte)]
theorem tab_of {a : Array Value} {s : State} (h : ∀ w ∈ words, w.before a s = true) : New1.tab.before a s = true := by
  have h5 : Cmp5.tab.before a s = true := unparts (wk h (.code Cmp5.yN Cmp5.yB 7 (some .int))) (wks h (.initialized Cmp5.yN.cls :: Cmp5.site))
  have hc : CodL.tab.before a s = true := unparts (wk h (.code CodL.yN CodL.yB 2 (some .byte))) (wks h (.initialized CodL.yN.cls :: CodL.site))
  have q5 : ∀ w ∈ Cmp5.tab :: words, w.before a s = true := fun w hw => (List.mem_cons.mp hw).elim (fun e => e ▸ h5) (h w)
  have h3 : Cmp3.tab.before a s = true := unparts (wk q5 (.code Cmp3.yN Cmp3.yB 6 (some (.array .byte)))) (wks q5 (.initialized Cmp3.yN.cls :: Cmp3.site))
  have q3 : ∀ w ∈ Cmp3.tab :: CodL.tab :: words, w.before a s = true := fun w hw => (List.mem_cons.mp hw).elim (fun e => e ▸ h3) fun hw => (List.mem_cons.mp hw).elim (fun e => e ▸ hc) (h w)
  have h4 : New4.tab.before a s = true := unparts (wk q3 (.code New4.yN New4.yB 6 none)) (wks q3 (.initialized New4.yN.cls :: New4.site))
  have q4 : ∀ w ∈ New4.tab :: words, w.before a s = true := fun w hw => (List.mem_cons.mp hw).elim (fun e => e ▸ h4) (h w)
  exact unparts (wk q4 (.code New1.yN New1.yB 2 none)) (wks q4 (.initialized New1.yN.cls :: New1.site))
/-- the words ride from the start Z to the walk's own state -/
theorem moved {Z s : State} {a0 args : Array Value} (hZ : Z.Warmed39 s.vm) (hw : ∀ d ∈ words, d.before a0 Z = true) : ∀ d ∈ words, d.before args s = true := fun d hd => by
  have q := hw d hd
  have t : ∀ d ∈ words, d = .arrayClass .byte ∨ (d.onTables && d.keepsFace) = true := by decide +kernel
  rcases t d hd with rfl | t
  · exact RoadKit.mvA hZ q
  · exact RoadKit.mv hZ q t
/-- WHAT COMES BACK, over the tables of the start Z: h the heap at the call, h' behind it -/
def Q (Z : State) (x : Addr) (A : Cell) (h : Heap) (v : Option Value) (h' : Heap) (L : List Loc) : Prop := v = none ∧ (∀ y ∈ L, y.base = x) ∧ RoadKit.Keep h h' [x] ∧ h'.size = h.size + 1 ∧ RoadKit.Exa Z h' x ST ∧ RoadKit.Fld Z h' x ST "value" "[B" (.ref h.size) ∧ RoadKit.Fld Z h' x ST "coder" "B" (.int 0) ∧
  (∃ V : Cell, RoadKit.Arr Z h' h.size V .byte ∧ V.vm = .none ∧ Z.vm.findClass "[B" = some V.cls ∧ V.slots.size = A.slots.size ∧ ∀ j, j < A.slots.size → V.slots[j]? = some (.int (lo8 (cv A j)))) ∧
  ∀ (O n d : String) (w : Value), RoadKit.Fld Z h x O n d w → RoadKit.slotOf Z O n d ≠ RoadKit.slotOf Z ST "value" "[B" → RoadKit.slotOf Z O n d ≠ RoadKit.slotOf Z ST "coder" "B" → RoadKit.Fld Z h' x O n d w
/-- **new String(chars) AT A CALL, IN THE ROAD'S FORM**: for specialBack behind newO: x the fresh String, b the char[] with the cell A -/
theorem back {p : Program} {l : Launch} {e : Env} {R : Room} {s : State} {args : Array Value} {below : List Frame} {len W : Nat} {Z : State} {a0 : Array Value} {h : Heap} (hZ : Z.Warmed39 s.vm) (hw : ∀ d ∈ words, d.before a0 Z = true) {kI : Nat} (wi : (Jvm.Cond.instantiable ST kI).before a0 Z = true)
    {x b : Addr} {A : Cell} {z : Int32} {v0 c0 : Value} (E : RoadKit.Exa Z h x ST) (V : RoadKit.Fld Z h x ST "value" "[B" v0) (C : RoadKit.Fld Z h x ST "coder" "B" c0) (K : RoadKit.Arr Z h b A .char) (hty : Typed .char A) (S : RoadKit.Sta Z h ST "COMPACT_STRINGS" "Z" (.int z)) (hz : ¬ z = 0)
    (l0 : 0 < A.slots.size) (l2 : A.slots.size ≤ 536870912) (hp : ∀ i, i < A.slots.size → ¬ 255 < cv A i) (hfr : 4 ≤ R.frames) (hlo : W + 65 ≤ R.locals) :
    Back l R p e below s args New1.yN len W (fun P a => a = #[.ref x, .ref b] ∧ P.U.heap = h ∧ P.cells + 1 ≤ R.cells ∧ P.slots + A.slots.size ≤ R.slots)
      (fun P _ v B => ∃ L, Q Z x A h v B.U.heap L ∧ B.locs = P.locs ++ L ∧ B.cells = P.cells + 1 ∧ B.slots = P.slots + A.slots.size) := by
  intro m meth c P g ig mk a X hg hsize hdg hW hn hp'
  obtain ⟨rfl, rfl, r1, r2⟩ := hp'
  have al : Z.vm.Alike P.U.vm := hZ.alike.trans X.warmed.alike
  obtain ⟨D, cfV, kV, iV, fV, hD, gV, stV, knV, obV, asV, slV⟩ := id V
  obtain ⟨D', cfC, kC, iC, fC, hD', gC, stC, -, -, asC, slC⟩ := id C
  cases hD.symm.trans hD'
  obtain ⟨D2, kD, e1, e2, e3, e4, e5⟩ := id E
  cases hD.symm.trans e1
  obtain ⟨c2, k2, i1, i2, i3, -⟩ := Cond.instantiable_spec wi
  cases e2.symm.trans i1
  cases e3.symm.trans i2
  obtain ⟨kU, u1, u2⟩ := al.2.2 _ _ e3
  have hB : Blank ST x D P.U := ⟨hD, ⟨knV, fun q hq => by rw [hq] at obV; cases obV⟩, by rw [al.findClass]; exact e2, kU, u1, by rw [u2]; exact i3, by rw [u2]; exact e5 i3⟩
  have F1 : Found ST "value" "[B" fV P.U := ⟨SBG.found_only al ⟨cfV, kV, iV, gV⟩, stV⟩
  have F2 : Found ST "coder" "B" fC P.U := ⟨SBG.found_only al ⟨cfC, kC, iC, gC⟩, stC⟩
  have hA : Ch b A P.U := ⟨⟨K.1, State.isArrayOf_alike al K.2.1, K.2.2, by omega⟩, hty⟩
  have hS : StaticIs P.U ST "COMPACT_STRINGS" "Z" (.int z) := by
    obtain ⟨cfS, iS, kS, fS, st, cS, t1, t2, t3, t4, t5, t6, t7⟩ := S
    exact StaticIs.there (s := { Z with heap := P.U.heap }) ⟨cfS, iS, kS, fS, st, cS, t1, t2, t3, t4, t5, (fun q => by rw [q] at t6; cases t6), t7⟩ al rfl
  obtain ⟨v, B, X', ⟨⟨hv, E', V', q1, q2, q3, q4, q5, q6, q7, q8, q9, q10, q11⟩, hl, hc, hs⟩, st⟩ := New1.pays x D fV fC b A z (tab_of (moved hZ hw)) hfr hlo m meth c P g ig mk _ X hg hsize hdg hW hn ⟨r1, r2, rfl, hB, F1, F2, hA, hS, hz, l0, l2, hp⟩
  have al' : Z.vm.Alike B.U.vm := hZ.alike.trans X'.warmed.alike
  have hsz : E'.slots.size = D.slots.size := by
    obtain ⟨-, -, -, kB, w1, w2, w3⟩ := q1
    obtain ⟨kB', y1, y2⟩ := al'.2.2 _ _ e3
    rw [q2.2.1] at w1
    cases w1.symm.trans y1
    rw [w3, e5 i3, y2]
  refine ⟨v, B, X', ⟨_, ⟨hv, ?_, ⟨by omega, fun y cy hy hn' => q10 y cy (by simpa using hn') hy, fun y cy hy => ?_⟩, q11, ⟨E', _, q1.1, by rw [q2.2.1]; exact e2, by rw [q2.2.1]; exact e3, by rw [q2.1]; exact obV, fun _ => by rw [hsz]; exact e5 i3⟩,
    ⟨E', cfV, kV, iV, fV, q1.1, gV, stV, by rw [q2.1]; exact knV, by rw [q2.1]; exact obV, by rw [q2.2.1]; exact asV, q3⟩, ⟨E', cfC, kC, iC, fC, q1.1, gC, stC, by rw [q2.1]; exact knV, by rw [q2.1]; exact obV, by rw [q2.2.1]; exact asC, q4⟩,
    ⟨V', ⟨q5.1, State.isArrayOf_alike al'.symm q5.2.1, q5.2.2.1⟩, q6, by rw [← al'.findClass]; exact q7, q8, fun j hj => by have := q9 j hj; rwa [Nat.zero_add] at this⟩, fun O n d w F n1 n2 => ?_⟩, hl, hc, hs⟩, st⟩
  · intro y hy
    simp only [List.mem_cons, List.not_mem_nil, or_false] at hy
    rcases hy with rfl | rfl <;> rfl
  · by_cases q : y = x
    · subst q
      cases hD.symm.trans hy
      exact ⟨E', q1.1, q2.2.1, q2.1, hsz⟩
    · exact ⟨cy, q10 y cy q hy, rfl, rfl, rfl⟩
  · obtain ⟨D3, cf, k, i, f, g1, g2, g3, g4, g5, g6, g7⟩ := F
    cases hD.symm.trans g1
    simp only [RoadKit.slotOf, g2, gV, gC, Option.map_some, Option.getD_some] at n1 n2
    exact ⟨E', cf, k, i, f, q1.1, g2, g3, by rw [q2.1]; exact g4, by rw [q2.1]; exact g5, by rw [q2.2.1]; exact g6, by rw [q2.2.2 f.slot (by simp [n1, n2])]; exact g7⟩
end StrChars.Road
namespace StrChars.Road
open Jvm Sem ClassFile Op Lib Jvm.Stand Jvm.Free Jvm.Free.XT
/-- WHAT COMES BACK, the byte[] as a list of values -/
def QA (Z : State) (x : Addr) (zn : Int32) (cs : List Int32) (h : Heap) (v : Option Value) (h' : Heap) (L : List Loc) : Prop := v = none ∧ (∀ y ∈ L, y.base = x) ∧ RoadKit.Keep h h' [x] ∧ h'.size = h.size + 1 ∧ RoadKit.Exa Z h' x ST ∧ RoadKit.Fld Z h' x ST "value" "[B" (.ref h.size) ∧ RoadKit.Fld Z h' x ST "coder" "B" (.int 0) ∧
  (∃ kb, Z.vm.findClass "[B" = some kb ∧ RoadKit.Arv Z h' h.size kb .byte zn (cs.map fun c => .int (lo8 c)) (.int 0)) ∧
  ∀ (O n d : String) (w : Value), RoadKit.Fld Z h x O n d w → RoadKit.slotOf Z O n d ≠ RoadKit.slotOf Z ST "value" "[B" → RoadKit.slotOf Z O n d ≠ RoadKit.slotOf Z ST "coder" "B" → RoadKit.Fld Z h' x O n d w
/-- **new String(chars) AT A CALL, THE ARRAYS AS LISTS**: the char[] at b holds cs, not empty, no char above 255 -/
theorem backArv {p : Program} {l : Launch} {e : Env} {R : Room} {s : State} {args : Array Value} {below : List Frame} {len W : Nat} {Z : State} {a0 : Array Value} {h : Heap} (hZ : Z.Warmed39 s.vm) (hw : ∀ d ∈ words, d.before a0 Z = true) {kI : Nat} (wi : (Jvm.Cond.instantiable ST kI).before a0 Z = true)
    {x b : Addr} {k : ClassId} {zn z : Int32} {cs : List Int32} {dv v0 c0 : Value} (E : RoadKit.Exa Z h x ST) (V : RoadKit.Fld Z h x ST "value" "[B" v0) (C : RoadKit.Fld Z h x ST "coder" "B" c0) (K : RoadKit.Arv Z h b k .char zn (cs.map Value.int) dv) (S : RoadKit.Sta Z h ST "COMPACT_STRINGS" "Z" (.int z)) (hz : ¬ z = 0)
    (hlen : zn.toNatClampNeg = cs.length) (h0 : 0 < cs.length) (hbig : cs.length ≤ 536870912) (hall : ∀ c ∈ cs, ¬ 255 < c) (hfr : 4 ≤ R.frames) (hlo : W + 65 ≤ R.locals) :
    Back l R p e below s args New1.yN len W (fun P a => a = #[.ref x, .ref b] ∧ P.U.heap = h ∧ P.cells + 1 ≤ R.cells ∧ P.slots + cs.length ≤ R.slots)
      (fun P _ v B => ∃ L, QA Z x zn cs h v B.U.heap L ∧ B.locs = P.locs ++ L ∧ B.cells = P.cells + 1 ∧ B.slots = P.slots + cs.length) := by
  obtain ⟨A, K1, K2, K3, K4, K5, K6⟩ := K
  have e : A.slots.size = cs.length := K3.trans hlen
  have hat : ∀ (i : Nat) (hi : i < cs.length), A.slots[i]? = some (.int cs[i]) := fun i hi => by rw [K5 i (by omega)]; simp [List.getD_eq_getElem?_getD, hi]
  have hcv : ∀ (i : Nat) (hi : i < cs.length), cv A i = cs[i] := fun i hi => by unfold cv; rw [hat i hi]
  have hty : Typed .char A := fun i v hv => by
    have hi : i < A.slots.size := (Array.getElem?_eq_some_iff.mp hv).1
    have q := K5 i hi
    rw [hv] at q
    rw [Option.some.inj q]
    exact K6 i hi
  refine Back.mono (back hZ hw wi E V C K1 hty S hz (by omega) (by omega) (fun i hi => by rw [hcv i (by omega)]; exact hall _ (List.getElem_mem _)) hfr hlo) (fun P a hp => ⟨hp.1, hp.2.1, hp.2.2.1, by rw [e]; exact hp.2.2.2⟩) (fun P a v B hp hq => ?_)
  obtain ⟨L, ⟨q1, q2, q3, q4, q5, q6, q7, ⟨V', v1, v2, v3, v4, v5⟩, q9⟩, hl, hc, hs⟩ := hq
  refine ⟨L, ⟨q1, q2, q3, q4, q5, q6, q7, ⟨V'.cls, v3, V', v1, rfl, by rw [v4, e, hlen], K4, fun i hi => ?_, fun i hi => ?_⟩, q9⟩, hl, hc, by rw [hs, e]⟩
  · have hi' : i < cs.length := by omega
    rw [v5 i (by omega), hcv i hi']; simp [List.getD_eq_getElem?_getD, hi']
  · have hi' : i < cs.length := by omega
    simp only [List.getD_eq_getElem?_getD, List.getElem?_map, List.getElem?_eq_getElem hi', Option.map_some, Option.getD_some]
    exact fits_lo8 _
end StrChars.Road
namespace StrChars.Road
open Jvm Sem ClassFile Op Lib Jvm.Stand Jvm.Free Jvm.Free.XT
/-- WHAT COMES BACK, in the writer's own shape -/
def QV (Z : State) (x : Addr) (N : Int32) (bs : List Int32) (h : Heap) (n0 : Nat) (v : Option Value) (h' : Heap) (L : List Loc) : Prop := v = none ∧ RoadKit.Fr n0 L ∧ RoadKit.Keep h h' [x] ∧ RoadKit.Exa Z h' x ST ∧ RoadKit.Fld Z h' x ST "coder" "B" (.int 0) ∧
  ∃ (t : Addr) (kb : ClassId), n0 ≤ t ∧ h.size ≤ t ∧ ¬ t = x ∧ RoadKit.Fld Z h' x ST "value" "[B" (.ref t) ∧ RoadKit.Arv Z h' t kb .byte N (bs.map Value.int) (.int 0)
/-- **new String(chars) AT A CALL, FOR THE WRITER**: a char[] of n known ints, each 0 to 255 -/
theorem backV {p : Program} {l : Launch} {e : Env} {R : Room} {s : State} {args : Array Value} {below : List Frame} {len W : Nat} {Z : State} {a0 : Array Value} {h : Heap} (hZ : Z.Warmed39 s.vm) (hw : ∀ d ∈ words, d.before a0 Z = true) {kI : Nat} (wi : (Jvm.Cond.instantiable ST kI).before a0 Z = true)
    {x b : Addr} {kC : ClassId} {cs bs : List Int32} {d v0 c0 : Value} {z N : Int32} {n n0 : Nat} (hx0 : n0 ≤ x) (hh0 : n0 ≤ h.size) (E : RoadKit.Exa Z h x ST) (V : RoadKit.Fld Z h x ST "value" "[B" v0) (C : RoadKit.Fld Z h x ST "coder" "B" c0) (K : RoadKit.Arv Z h b kC .char N (cs.map Value.int) d) (S : RoadKit.Sta Z h ST "COMPACT_STRINGS" "Z" (.int z)) (hz : ¬ z = 0)
    (hn : cs.length = n) (hN : N = Int32.ofNat n) (l0 : 0 < n) (l2 : n ≤ 4000) (hp : ∀ c ∈ cs, ¬ c < 0 ∧ ¬ (255 : Int32) < c) (hb : bs = cs.map (fun c => c.toInt8.toInt32)) (hfr : 4 ≤ R.frames) (hlo : W + 65 ≤ R.locals) :
    Back l R p e below s args (⟨"java/lang/String", "<init>", "([C)V"⟩ : MethodName) len W (fun P a => a = #[.ref x, .ref b] ∧ P.U.heap = h ∧ P.cells + 1 ≤ R.cells ∧ P.slots + n ≤ R.slots)
      (fun P _ v B => ∃ L, QV Z x N bs h n0 v B.U.heap L ∧ B.locs = P.locs ++ L ∧ B.cells = P.cells + 1 ∧ B.slots = P.slots + n) := by
  subst hn hN hb
  refine Back.mono (backArv hZ hw wi E V C K S hz (n32 (by omega)) l0 (by omega) (fun c hc => (hp c hc).2) hfr hlo) (fun P a hp => hp) (fun P a v B hp hq => ?_)
  obtain ⟨L, ⟨q1, q2, q3, q4, q5, q6, q7, ⟨kb, v1, v2⟩, q9⟩, hl, hc, hs⟩ := hq
  exact ⟨L, ⟨q1, fun y hy => by rw [q2 y hy]; exact hx0, q3, q5, q7, h.size, kb, hh0, Nat.le_refl _, Nat.ne_of_gt E.lt, q6, by rw [List.map_map]; exact v2⟩, hl, hc, hs⟩
end StrChars.Road
end Jvm.Pilot.@@N@@

namespace Jvm.OwnW
open Jvm Jvm.ClassFile Sem Op Lib Jvm.Free Jvm.Stand Jvm.LawKit Jvm.RoadKit Bundle
/-! OwnW: a walk told forwards. Wk: where the walk stands (tables that may have interned, fresh places alone written, the held constants kept). Fi: from here the body comes to its end as its contract says. One law a step: what is left to show is Fi of the next state. -/
def Wk (p : Program) (l : Launch) (e : Env) (R : Room) (s : State) (m : MethodId) (args : Array Value) (below : List Frame) (meth : Method) (c : Code) (Z : State) (a0 : Array Value) (EL : List (String × Nat)) (own : String) (n0 : Nat) (T : State) (h : Heap) (cells slots : Nat) : Prop :=
  ∃ (vm0 : Vm) (k0 : Nat) (locs : List Loc), Stand p l e R (s.setVm vm0) m args below meth c T locs cells slots ∧ T.heap = h ∧ s.Since vm0 k0 ∧ k0 ≤ h.size ∧ Z.Warmed39 vm0 ∧ vm0.findClass own = some m.cls ∧ Fr n0 locs ∧ CHr Z EL s.vm s.heap vm0 h ∧ EW Z a0 EL
def Fi (p : Program) (e : Env) (below : List Frame) (s : State) (Z : State) (EL : List (String × Nat)) (n0 : Nat) (Q : Option Value → Heap → Prop) (kc ks : Nat) (st : State) : Prop :=
  ∃ s₂ o, Steps p.tables e below st s₂ ∧ s₂.status = .running ∧ Ended s₂ below o ∧ ∃ v L, o = .returned v ∧ (Fr n0 L ∧ Q v s₂.heap) ∧ CHr Z EL s.vm s.heap s₂.vm s₂.heap ∧ ReturnedEndW s o s₂ L kc ks
/-- a body's contract: called with as' over the heap h0 -/
def Con (l : Launch) (Z : State) (EL : List (String × Nat)) (y : MethodName) (bytes : ByteArray) (maxL : Nat) (ret : Option FieldType) (ws : List Jvm.Cond) (rm : Room) (as' : Array Value) (h0 : Heap) (n0 : Nat) (Q : Option Value → Heap → Prop) : Prop :=
  MetFree l y (head1 (Jvm.Cond.code y bytes maxL ret :: ws) rm) (fun a U => a = as' ∧ Z.Warmed39 U.vm ∧ U.heap = h0 ∧ CHv Z EL U.vm h0) (fun _ _ _ _ _ => True)
    (fun _ U o U' => ∃ v L, o = .returned v ∧ (Fr n0 L ∧ Q v U'.heap) ∧ CHr Z EL U.vm U.heap U'.vm U'.heap ∧ ReturnedEndW U o U' L rm.cells rm.slots)
/-- a call that is paid for: by a contract, or by a law of the library -/
def Pay (l : Launch) (R : Room) (p : Program) (e : Env) (below : List Frame) (s : State) (args : Array Value) (Z : State) (EL : List (String × Nat)) (n0 : Nat) (y : MethodName) (Wd : Nat) (as' : Array Value) (h : Heap) (Q : Option Value → Heap → Prop) (k n : Nat) : Prop :=
  ∀ vm0 : Vm, Z.Warmed39 vm0 → CHv Z EL vm0 h →
    BackS l R p e below (s.setVm vm0) args y 3 Wd (fun A a => a = as' ∧ A.U.heap = h ∧ A.cells + k ≤ R.cells ∧ A.slots + n ≤ R.slots)
      (fun A _ v B => ∃ L, (Fr n0 L ∧ Q v B.U.heap) ∧ B.locs = A.locs ++ L ∧ B.cells = A.cells + k ∧ B.slots = A.slots + n ∧ CHr Z EL vm0 h B.U.vm B.U.heap)
section Base
variable {p : Program} {l : Launch} {e : Env} {R : Room} {s : State} {m : MethodId} {args : Array Value} {below : List Frame} {meth : Method} {c : Code} {Z : State} {a0 : Array Value} {EL EF : List (String × Nat)} {own : String} {n0 : Nat} {T : State} {h h' h1 h2 : Heap} {cells slots : Nat} {Q : Option Value → Heap → Prop} {kc ks : Nat}
theorem Fi.via {st st' : State} (f : Fi p e below s Z EF n0 Q kc ks st') (k : ∀ t, Steps p.tables e below st' t → Steps p.tables e below st t) : Fi p e below s Z EF n0 Q kc ks st := by
  obtain ⟨s₂, o, h1, r⟩ := f
  exact ⟨s₂, o, k _ h1, r⟩
theorem Fi.by' {st st' : State} (k : ∀ t, Steps p.tables e below st' t → Steps p.tables e below st t) (f : Fi p e below s Z EF n0 Q kc ks st') : Fi p e below s Z EF n0 Q kc ks st := f.via k
theorem Fi.cast {g g' : JFrame} (q : g = g') (f : Fi p e below s Z EF n0 Q kc ks (T.setTop g')) : Fi p e below s Z EF n0 Q kc ks (T.setTop g) := q ▸ f
theorem Wk.here (W : Wk p l e R s m args below meth c Z a0 EL own n0 T h cells slots) : At T m c below := by
  obtain ⟨_, _, _, X, -⟩ := W
  exact X.here
theorem Wk.mono (W : Wk p l e R s m args below meth c Z a0 EL own n0 T h cells slots) {k n : Nat} (h1 : cells ≤ k) (h2 : slots ≤ n) : Wk p l e R s m args below meth c Z a0 EL own n0 T h k n := by
  obtain ⟨vm0, k0, locs, X, r⟩ := W
  exact ⟨vm0, k0, locs, X.mono h1 h2, r⟩
theorem Con.intro {y : MethodName} {bytes : ByteArray} {maxL : Nat} {ret : Option FieldType} {ws : List Jvm.Cond} {rm : Room} {as' : Array Value} {h0 : Heap} (ho : y.cls = own) (hpl : plainFor y = true) (hEL : EW Z a0 EL)
    (body : ∀ (p : Program) (e : Env) (s : State) (m : MethodId) (below : List Frame) (meth : Method) (c : Code) (s₁ : State), p.tables.exec = Jvm.exec → c.code = bytes → c.maxLocals = maxL → meth.sig.returnType = ret → meth.locks = false → meth.name = y.name →
      Wk p l e rm s m as' below meth c Z a0 EL own n0 s₁ h0 0 0 → Fi p e below s Z EL n0 Q rm.cells rm.slots (s₁.setTop (entryFrame m as' maxL))) :
    Con l Z EL y bytes maxL ret ws rm as' h0 n0 Q := by
  refine MetFree.of_bodySF hpl hisR ?_
  intro p e s m args below meth c s₁ Bd hml0 hP hK
  obtain ⟨ha, hZ, hh, hC⟩ := hP
  subst ha
  have X0 : Stand p l e rm s m args below meth c s₁ [] 0 0 := Stand.of_body Bd
  have e0 : s₁.heap = h0 := by rw [← hh, Bd.state]; rfl
  have hown : s.vm.findClass own = some m.cls := by rw [← ho]; exact findClass_of_methodNamed Bd.named
  exact body p e s m below meth c s₁ Bd.exec Bd.bytes hml0 Bd.returns Bd.notSynchronized (name_of_methodNamed Bd.named Bd.method).1
    ⟨s.vm, 0, [], X0, e0, (State.WarmedH.refl s).since 0, Nat.zero_le _, hZ, hown, Fr.nil n0, by rw [hh]; exact CHr.refl hC, hEL⟩
theorem Wk.leave (W : Wk p l e R s m args below meth c Z a0 EL own n0 T h cells slots) (hlk : meth.locks = false) {v : Option Value} (hv : meth.sig.returnType = none → v = none) (hq : Q v h) (h1 : cells ≤ kc) (h2 : slots ≤ ks) {g : JFrame}
    (st : ∀ (vm0 : Vm) (locs : List Loc) (_ : Stand p l e R (s.setVm vm0) m args below meth c T locs cells slots) (fs : List Frame), (∀ (f : JFrame) (acts : List Action), f.method = m → f.locked = none → f.entered = [] → (doReturn e (T.setTop f) acts v).1 = T.setFrames fs) → Steps p.tables e below (T.setTop g) (T.setFrames fs)) :
    Fi p e below s Z EL n0 Q kc ks (T.setTop g) := by
  obtain ⟨vm0, k0, locs, X, eT, hS, hk, hZ, ho, N, C, hE⟩ := W
  obtain ⟨fs, hr, hrun, hended, hEnd⟩ := X.leaveW hS (by rw [eT]; exact hk) hv hlk
  have D := C.trans (CHv.at X hZ hE C.1)
  refine ⟨T.setFrames fs, _, st vm0 locs X fs hr, hrun, hended, v, locs, rfl, ⟨N, ?_⟩, ?_, ⟨hEnd.1, hEnd.2.1, hEnd.2.2.1, hEnd.2.2.2.mono h1 h2⟩⟩
  · show Q v T.heap
    rw [eT]; exact hq
  · show CHr Z EL s.vm s.heap T.vm T.heap
    rw [eT]; exact D
theorem Wk.aret (W : Wk p l e R s m args below meth c Z a0 EL own n0 T h cells slots) (hx : p.tables.exec = Jvm.exec) (hlk : meth.locks = false) {t : FieldType} (hret : meth.sig.returnType = some t) (ht : t.isReference = true) {pc : Nat} {Ls : Array Slot} {w : Value} (hw : w.isRef = true)
    (hd : decode c.code pc = .ok (.areturn, 1)) (hq : Q (some w) h) (h1 : cells ≤ kc) (h2 : slots ≤ ks) : Fi p e below s Z EL n0 Q kc ks (T.setTop (mkF m pc Ls [w])) :=
  W.leave hlk (fun q => by rw [hret] at q; cases q) hq h1 h2 fun vm0 locs X fs hl => X.areturnOut hx hw hret ht hd hl
theorem Wk.iret (W : Wk p l e R s m args below meth c Z a0 EL own n0 T h cells slots) (hx : p.tables.exec = Jvm.exec) (hlk : meth.locks = false) {t : FieldType} (hret : meth.sig.returnType = some t) (hti : t = .int ∨ t = .boolean ∨ t = .byte ∨ t = .char ∨ t = .short) {pc : Nat} {Ls : Array Slot} {w : Int32} (hn : narrow t (.int w) = .int w)
    (hd : decode c.code pc = .ok (.ireturn, 1)) (hq : Q (some (.int w)) h) (h1 : cells ≤ kc) (h2 : slots ≤ ks) : Fi p e below s Z EL n0 Q kc ks (T.setTop (mkF m pc Ls [.int w])) :=
  W.leave hlk (fun q => by rw [hret] at q; cases q) hq h1 h2 fun vm0 locs X fs hl => X.ireturnOut hx hret hn hti hd hl
theorem Wk.vret (W : Wk p l e R s m args below meth c Z a0 EL own n0 T h cells slots) (hx : p.tables.exec = Jvm.exec) (hlk : meth.locks = false) (hret : meth.sig.returnType = none) {pc : Nat} {Ls : Array Slot}
    (hd : decode c.code pc = .ok (.return_, 1)) (hq : Q none h) (h1 : cells ≤ kc) (h2 : slots ≤ ks) : Fi p e below s Z EL n0 Q kc ks (T.setTop (mkF m pc Ls [])) :=
  W.leave hlk (fun _ => rfl) hq h1 h2 fun vm0 locs X fs hl => X.returnOut hx hret hd hl
theorem Wk.new (W : Wk p l e R s m args below meth c Z a0 EL own n0 T h cells slots) (hx : p.tables.exec = Jvm.exec) {C : String} {index n : Nat} (w : (Jvm.Cond.classLink own index C).before a0 Z = true) (wi : (Jvm.Cond.instantiable C n).before a0 Z = true) (wz : (Jvm.Cond.initialized C).before a0 Z = true)
    {g : JFrame} (hg : g.method = m) (hd : decode c.code g.pc = .ok (.new index, 3)) (hc : cells + 1 ≤ R.cells) (hl : slots + n ≤ R.slots)
    (k : ∀ (T' : State) (h' : Heap) (a : Addr), @Eq Nat a h.size → Wk p l e R s m args below meth c Z a0 EL own n0 T' h' (cells + 1) (slots + n) → Ext h h' → Exa Z h' a C → (∀ {O nm d : String} {ty : FieldType}, Laid Z a0 C O nm d → parseFieldDescriptor d = some ty → Fld Z h' a O nm d (defaultValue ty)) →
      Fi p e below s Z EF n0 Q kc ks (T'.setTop { g with pc := g.pc + 3, stack := .ref a :: g.stack })) : Fi p e below s Z EF n0 Q kc ks (T.setTop g) := by
  obtain ⟨vm0, k0, locs, X, eT, hS, hk, hZ, ho, N, CC, hE⟩ := W
  obtain ⟨T', h', X', e', E, A, D, -, st⟩ := newO X hx hZ ho w wi wz eT hg hd hc hl
  exact (k T' h' _ rfl ⟨vm0, k0, locs, X', e', hS, Nat.le_trans hk E.1, hZ, ho, N, CC.trans (CHr.ext E CC.1), hE⟩ E A D).via st
theorem Wk.newP (W : Wk p l e R s m args below meth c Z a0 EL own n0 T h cells slots) (hx : p.tables.exec = Jvm.exec) {aty : ArrayType} (w : (Jvm.Cond.arrayClass (newarray.typeOf aty)).before a0 Z = true)
    {g : JFrame} (hg : g.method = m) (hd : decode c.code g.pc = .ok (.newarray aty, 2)) {n : Int32} {rest : List Value} (hs : g.stack = .int n :: rest) (hn : ¬ n < 0) {cap : Nat} (hcap : n.toNatClampNeg ≤ cap) (hb : cap * 8 ≤ 536870912) (hc : cells + 1 ≤ R.cells) (hl : slots + cap ≤ R.slots)
    (k : ∀ (T' : State) (h' : Heap) (a : Addr) (cA : ClassId), @Eq Nat a h.size → Wk p l e R s m args below meth c Z a0 EL own n0 T' h' (cells + 1) (slots + cap) → Ext h h' → Arv Z h' a cA (newarray.typeOf aty) n [] (defaultValue (newarray.typeOf aty)) →
      Fi p e below s Z EF n0 Q kc ks (T'.setTop { g with pc := g.pc + 2, stack := .ref a :: rest })) : Fi p e below s Z EF n0 Q kc ks (T.setTop g) := by
  obtain ⟨vm0, k0, locs, X, eT, hS, hk, hZ, ho, N, CC, hE⟩ := W
  obtain ⟨T', h', cA, X', e', E, A, st⟩ := Jvm.RoadKit.newP X hx hZ w eT hg hd hs hn hcap hb hc hl
  exact (k T' h' _ cA rfl ⟨vm0, k0, locs, X', e', hS, Nat.le_trans hk E.1, hZ, ho, N, CC.trans (CHr.ext E CC.1), hE⟩ E (Arv.new A hn)).via st
theorem Wk.getF (W : Wk p l e R s m args below meth c Z a0 EL own n0 T h cells slots) (hx : p.tables.exec = Jvm.exec) {O n d : String} {index : Nat} (w : (Jvm.Cond.fieldLink own index O n d).before a0 Z = true) {a : Addr} {v : Value} (F : Fld Z h a O n d v)
    {g : JFrame} (hg : g.method = m) {rest : List Value} (hs : g.stack = .ref a :: rest) (hd : decode c.code g.pc = .ok (.getfield index, 3))
    (k : ∀ T' : State, Wk p l e R s m args below meth c Z a0 EL own n0 T' h cells slots → Fi p e below s Z EF n0 Q kc ks (T'.setTop { g with pc := g.pc + 3, stack := v :: rest })) : Fi p e below s Z EF n0 Q kc ks (T.setTop g) := by
  obtain ⟨vm0, k0, locs, X, eT, hS, hk, hZ, ho, N, CC, hE⟩ := W
  obtain ⟨T', X', e', st⟩ := Jvm.RoadKit.getF X hx hZ ho (host := "") (Or.inl w) Via.refl eT F hg hs hd
  exact (k T' ⟨vm0, k0, locs, X', e', hS, hk, hZ, ho, N, CC, hE⟩).via st
theorem Wk.getS (W : Wk p l e R s m args below meth c Z a0 EL own n0 T h cells slots) (hx : p.tables.exec = Jvm.exec) {O n d : String} {index : Nat} (w : (Jvm.Cond.fieldLink own index O n d).before a0 Z = true) {v : Value} (F : Sta Z h O n d v)
    {g : JFrame} (hg : g.method = m) (hd : decode c.code g.pc = .ok (.getstatic index, 3))
    (k : ∀ T' : State, Wk p l e R s m args below meth c Z a0 EL own n0 T' h cells slots → Fi p e below s Z EF n0 Q kc ks (T'.setTop { g with pc := g.pc + 3, stack := v :: g.stack })) : Fi p e below s Z EF n0 Q kc ks (T.setTop g) := by
  obtain ⟨vm0, k0, locs, X, eT, hS, hk, hZ, ho, N, CC, hE⟩ := W
  obtain ⟨T', X', e', st⟩ := Jvm.RoadKit.getS (host := "") X hx hZ ho w Via.refl eT F hg hd
  exact (k T' ⟨vm0, k0, locs, X', e', hS, hk, hZ, ho, N, CC, hE⟩).via st
theorem Wk.putF (W : Wk p l e R s m args below meth c Z a0 EL own n0 T h cells slots) (hx : p.tables.exec = Jvm.exec) {O n d C : String} {index kk : Nat} {ty : FieldType} (w : (Jvm.Cond.fieldLink own index O n d).before a0 Z = true) {a : Addr} {v old : Value} (F : Fld Z h a O n d old) (E : Exa Z h a C)
    (L : (Jvm.Cond.lays C O n d).before a0 Z = true ∨ ((Jvm.Cond.laysFinal C O n d).before a0 Z = true ∧ own = O ∧ meth.name = "<init>")) (wi : (Jvm.Cond.instantiable C kk).before a0 Z = true) (hty : parseFieldDescriptor d = some ty) (hn : narrow ty v = v) (hf : fits ty v = true)
    {g : JFrame} (hg : g.method = m) {rest : List Value} (hs : g.stack = v :: .ref a :: rest) (hd : decode c.code g.pc = .ok (.putfield index, 3)) (ha : n0 ≤ a) (S : ∀ vm : Vm, Z.Warmed39 vm → CHv Z EL vm h → Safe Z EL vm h a)
    (k : ∀ (T' : State) (h' : Heap), Wk p l e R s m args below meth c Z a0 EL own n0 T' h' cells slots → Wr h h' a (Jvm.RoadKit.slotOf Z O n d) v → Fi p e below s Z EF n0 Q kc ks (T'.setTop { g with pc := g.pc + 3, stack := rest })) : Fi p e below s Z EF n0 Q kc ks (T.setTop g) := by
  obtain ⟨vm0, k0, locs, X, eT, hS, hk, hZ, ho, N, CC, hE⟩ := W
  obtain ⟨T', h', X', e', Wr', st⟩ := Jvm.RoadKit.putF X hx hZ ho (host := "") (Or.inl w) Via.refl eT F E L wi hty hn hf hg hs hd
  exact (k T' h' ⟨vm0, k0, _, X', e', hS, by rw [Wr'.size]; exact hk, hZ, ho, Fr.snoc X' N ha, CC.trans (CHr.wr Wr' (S vm0 hZ CC.1) CC.1), hE⟩ Wr').via st
theorem safe_exa {a : Addr} {C : String} (E : Exa Z h a C) (h1 : C ≠ "java/lang/String") (h2 : C ≠ "[B") : ∀ vm : Vm, Z.Warmed39 vm → CHv Z EL vm h → Safe Z EL vm h a := fun vm hZ _ => Safe.exa hZ.alike E h1 h2
theorem Wk.initO (W : Wk p l e R s m args below meth c Z a0 EL own n0 T h cells slots) (hx : p.tables.exec = Jvm.exec) {idx : Nat} (w1 : (Jvm.Cond.methodLink own idx Lib.objectInit).before a0 Z = true) (w2 : (Jvm.Cond.instanceMethod Lib.objectInit).before a0 Z = true) (w3 : (Jvm.Cond.code Lib.objectInit ⟨#[0xb1]⟩ 1 none).before a0 Z = true)
    {g : JFrame} (hg : g.method = m) (hsize : g.locals.size = c.maxLocals) {a : Addr} {rest : List Value} (hs : g.stack = .ref a :: rest) (hd : decode c.code g.pc = .ok (.invokespecial idx, 3)) (hf : 1 ≤ R.frames) {Wd : Nat} (hW : 2 * g.monitorRoom + (rest.map fun v => v.category).sum ≤ Wd) (hl : Wd + 12 ≤ R.locals)
    (k : ∀ T' : State, Wk p l e R s m args below meth c Z a0 EL own n0 T' h cells slots → Fi p e below s Z EF n0 Q kc ks (T'.setTop { g with pc := g.pc + 3, stack := rest })) : Fi p e below s Z EF n0 Q kc ks (T.setTop g) := by
  obtain ⟨vm0, k0, locs, X, eT, hS, hk, hZ, ho, N, CC, hE⟩ := W
  obtain ⟨T', X', e', st⟩ := Jvm.RoadKit.initO X hx hZ ho w1 w2 w3 eT hg hsize hs hd hf hW hl
  exact (k T' ⟨vm0, k0, locs, X', e', hS, hk, hZ, ho, N, CC, hE⟩).via st
/-! ## calls -/
theorem Pay.of_con {y : MethodName} {bytes : ByteArray} {maxL Wd : Nat} {ret : Option FieldType} {rm : Room} {as' : Array Value} (hM : Con l Z EL y bytes maxL ret [] rm as' h n0 Q) (wc : (Jvm.Cond.code y bytes maxL ret).before a0 Z = true) (wz : (Jvm.Cond.initialized y.cls).before a0 Z = true) (hEL : EW Z a0 EL)
    (hf : rm.frames + 1 ≤ R.frames) (hl : Wd + (maxL + 11) + rm.locals ≤ R.locals) : Pay l R p e below s args Z EL n0 y Wd as' h Q rm.cells rm.slots :=
  fun vm0 hZ hC => backOfSH (Q := fun v h L => Fr n0 L ∧ Q v h) hM hZ wc wz hf hl hEL hC
theorem Pay.of_back {y : MethodName} {Wd k n : Nat} {as' : Array Value} {ws : List Addr} (hEL : EW Z a0 EL)
    (hB : ∀ vm0 : Vm, Z.Warmed39 vm0 → Back l R p e below (s.setVm vm0) args y 3 Wd (fun A a => a = as' ∧ A.U.heap = h ∧ A.cells + k ≤ R.cells ∧ A.slots + n ≤ R.slots) (fun A _ v B => ∃ L, (Fr n0 L ∧ Keep h B.U.heap ws ∧ Q v B.U.heap) ∧ B.locs = A.locs ++ L ∧ B.cells = A.cells + k ∧ B.slots = A.slots + n))
    (S : ∀ vm : Vm, Z.Warmed39 vm → CHv Z EL vm h → ∀ x ∈ ws, Safe Z EL vm h x) : Pay l R p e below s args Z EL n0 y Wd as' h Q k n := by
  intro vm0 hZ hC m meth c A g ig mk a X hg hsize hdg hW hn hp
  obtain ⟨v, B, X', ⟨L, ⟨NL, K, hq⟩, l1, l2, l3⟩, hsteps⟩ := hB vm0 hZ m meth c A g ig mk a X hg hsize hdg hW hn hp
  have C1 := CHr.keep K (S vm0 hZ hC) hC
  exact ⟨v, B, X'.retabled X'.warmed.wide, X'.warmed.since _, by rw [hp.2.1]; exact K.1, ⟨L, ⟨NL, hq⟩, l1, l2, l3, C1.trans (CHv.at X' hZ hEL C1.1)⟩, hsteps⟩
theorem Wk.callS (W : Wk p l e R s m args below meth c Z a0 EL own n0 T h cells slots) (hx : p.tables.exec = Jvm.exec) {index : Nat} {y : MethodName} {bytes : ByteArray} {maxL : Nat} {ret : Option FieldType}
    (w1 : (Jvm.Cond.methodLink own index y).before a0 Z = true) (w2 : (Jvm.Cond.static y).before a0 Z = true) (w3 : (Jvm.Cond.initialized y.cls).before a0 Z = true) (w4 : (Jvm.Cond.code y bytes maxL ret).before a0 Z = true) (hy : y.cls ≠ "java/lang/invoke/MethodHandle" ∧ y.cls ≠ "java/lang/invoke/VarHandle")
    {Wd k n : Nat} {as' : Array Value} {Qy : Option Value → Heap → Prop} (P : Pay l R p e below s args Z EL n0 y Wd as' h Qy k n)
    {g : JFrame} (hg : g.method = m) (hsize : g.locals.size = c.maxLocals) {argsL rest : List Value} (hlen : ∀ sig, parseMethodDescriptor y.desc = some sig → argsL.length = sig.parameters.length) (hstack : g.stack = argsL.reverse ++ rest) (has : argsL.toArray = as') (hW : 2 * g.monitorRoom + (rest.map fun v => v.category).sum ≤ Wd)
    (hd : decode c.code g.pc = .ok (.invokestatic index, 3)) (hc : cells + k ≤ R.cells) (hl : slots + n ≤ R.slots)
    (kk : ∀ (v : Option Value) (T' : State) (h' : Heap), Wk p l e R s m args below meth c Z a0 EL own n0 T' h' (cells + k) (slots + n) → h.size ≤ h'.size → Qy v h' → Fi p e below s Z EF n0 Q kc ks (T'.setTop { g with pc := g.pc + 3, stack := v.toList ++ rest })) : Fi p e below s Z EF n0 Q kc ks (T.setTop g) := by
  obtain ⟨vm0, k0, locs, X, eT, hS, hk, hZ, ho, N, CC, hE⟩ := W
  obtain ⟨v, vm1, ⟨U, L', k', n'⟩, -, X', hS', hgr, ⟨L, ⟨NL, hq⟩, l1, l2, l3, hC⟩, st⟩ := callSS X hx ho (mvT hZ w1) (mvT hZ w2) (mvT hZ w3) (mvT hZ w4) hy (P vm0 hZ CC.1) hg hsize hlen hstack hW hd (fun _ _ => ⟨has, eT, hc, hl⟩)
  dsimp only [Pt.U, Pt.locs, Pt.cells, Pt.slots] at X' hS' hgr hq l1 l2 l3 hC st
  subst l1 l2 l3
  rw [eT] at hgr
  obtain ⟨Y1, Y2, Y3, Y4⟩ := rebS hS hk X' hS' hgr hZ ho
  exact (kk v U U.heap ⟨U.vm, _, _, Y1, rfl, Y2, Nat.le_refl _, Y3, Y4, N.app NL, CC.trans hC, hE⟩ hgr hq).via fun t ht => st.trans ht
theorem Wk.callI (W : Wk p l e R s m args below meth c Z a0 EL own n0 T h cells slots) (hx : p.tables.exec = Jvm.exec) {index : Nat} {y : MethodName} {bytes : ByteArray} {maxL : Nat} (hy1 : y.name = "<init>")
    (w1 : (Jvm.Cond.methodLink own index y).before a0 Z = true) (w2 : (Jvm.Cond.instanceMethod y).before a0 Z = true) (w4 : (Jvm.Cond.code y bytes maxL none).before a0 Z = true) (hy : y.cls ≠ "java/lang/invoke/MethodHandle" ∧ y.cls ≠ "java/lang/invoke/VarHandle")
    {Wd k n : Nat} {as' : Array Value} {Qy : Option Value → Heap → Prop} (P : Pay l R p e below s args Z EL n0 y Wd as' h Qy k n)
    {g : JFrame} (hg : g.method = m) (hsize : g.locals.size = c.maxLocals) {a : Addr} {argsL rest : List Value} (hlen : ∀ sig, parseMethodDescriptor y.desc = some sig → argsL.length = sig.parameters.length) (hstack : g.stack = argsL.reverse ++ .ref a :: rest) (has : (Value.ref a :: argsL).toArray = as') (hW : 2 * g.monitorRoom + (rest.map fun v => v.category).sum ≤ Wd)
    (hd : decode c.code g.pc = .ok (.invokespecial index, 3)) (hc : cells + k ≤ R.cells) (hl : slots + n ≤ R.slots)
    (kk : ∀ (v : Option Value) (T' : State) (h' : Heap), Wk p l e R s m args below meth c Z a0 EL own n0 T' h' (cells + k) (slots + n) → h.size ≤ h'.size → Qy v h' → Fi p e below s Z EF n0 Q kc ks (T'.setTop { g with pc := g.pc + 3, stack := v.toList ++ rest })) : Fi p e below s Z EF n0 Q kc ks (T.setTop g) := by
  obtain ⟨vm0, k0, locs, X, eT, hS, hk, hZ, ho, N, CC, hE⟩ := W
  obtain ⟨v, vm1, ⟨U, L', k', n'⟩, -, X', hS', hgr, ⟨L, ⟨NL, hq⟩, l1, l2, l3, hC⟩, st⟩ := X.specialBackS hx hy1 ho (mvT hZ w1) (mvT hZ w2) (mvT hZ w4) hy (P vm0 hZ CC.1) hg hsize (Steps.refl _) hlen hstack hW hd (fun _ _ => ⟨has, eT, hc, hl⟩)
  dsimp only [Pt.U, Pt.locs, Pt.cells, Pt.slots] at X' hS' hgr hq l1 l2 l3 hC st
  subst l1 l2 l3
  rw [eT] at hgr
  obtain ⟨Y1, Y2, Y3, Y4⟩ := rebS hS hk X' hS' hgr hZ ho
  exact (kk v U U.heap ⟨U.vm, _, _, Y1, rfl, Y2, Nat.le_refl _, Y3, Y4, N.app NL, CC.trans hC, hE⟩ hgr hq).via fun t ht => st.trans ht
theorem Wk.callV (W : Wk p l e R s m args below meth c Z a0 EL own n0 T h cells slots) (hx : p.tables.exec = Jvm.exec) {index : Nat} {y : MethodName} {C : String}
    (w1 : (Jvm.Cond.methodLink own index y).before a0 Z = true) (w2 : (Jvm.Cond.declares y).before a0 Z = true) (w3 : (Jvm.Cond.selects C y y).before a0 Z = true) (w4 : (Jvm.Cond.instanceMethod y).before a0 Z = true) (hy : y.cls ≠ "java/lang/invoke/MethodHandle" ∧ y.cls ≠ "java/lang/invoke/VarHandle")
    {Wd k n : Nat} {as' : Array Value} {Qy : Option Value → Heap → Prop} (P : Pay l R p e below s args Z EL n0 y Wd as' h Qy k n) {a : Addr} (E : Exa Z h a C)
    {g : JFrame} (hg : g.method = m) (hsize : g.locals.size = c.maxLocals) {argsL rest : List Value} (hlen : ∀ sig, parseMethodDescriptor y.desc = some sig → argsL.length = sig.parameters.length) (hstack : g.stack = argsL.reverse ++ .ref a :: rest) (has : (Value.ref a :: argsL).toArray = as') (hW : 2 * g.monitorRoom + (rest.map fun v => v.category).sum ≤ Wd)
    (hd : decode c.code g.pc = .ok (.invokevirtual index, 3)) (hc : cells + k ≤ R.cells) (hl : slots + n ≤ R.slots)
    (kk : ∀ (v : Option Value) (T' : State) (h' : Heap), Wk p l e R s m args below meth c Z a0 EL own n0 T' h' (cells + k) (slots + n) → h.size ≤ h'.size → Qy v h' → Fi p e below s Z EF n0 Q kc ks (T'.setTop { g with pc := g.pc + 3, stack := v.toList ++ rest })) : Fi p e below s Z EF n0 Q kc ks (T.setTop g) := by
  obtain ⟨vm0, k0, locs, X, eT, hS, hk, hZ, ho, N, CC, hE⟩ := W
  have hZ' : Z.Warmed39 (s.setVm vm0).vm := hZ
  obtain ⟨cq, kq, qa, qb, qc⟩ := isOf hZ' eT E
  obtain ⟨v, vm1, ⟨U, L', k', n'⟩, -, X', hS', hgr, ⟨L, ⟨NL, hq⟩, l1, l2, l3, hC⟩, st⟩ := X.virtualBackS hx ho (mvT hZ' w1) (mvT hZ' w2) (notFace_of_selects (args := #[]) (mvT hZ' w3)) (mvT hZ' w3) (mvT hZ' w4) hy (P vm0 hZ CC.1) qa qc hg hsize (Steps.refl _) hlen hstack hW hd (fun _ _ => ⟨has, eT, hc, hl⟩)
  dsimp only [Pt.U, Pt.locs, Pt.cells, Pt.slots] at X' hS' hgr hq l1 l2 l3 hC st
  subst l1 l2 l3
  rw [eT] at hgr
  obtain ⟨Y1, Y2, Y3, Y4⟩ := rebS hS hk X' hS' hgr hZ ho
  exact (kk v U U.heap ⟨U.vm, _, _, Y1, rfl, Y2, Nat.le_refl _, Y3, Y4, N.app NL, CC.trans hC, hE⟩ hgr hq).via fun t ht => st.trans ht
/-! ## heaps that grow -/
theorem ext_refl (h : Heap) : Ext h h := ⟨Nat.le_refl _, fun _ _ q => q⟩
theorem ext_trans (E : Ext h h1) (F : Ext h1 h2) : Ext h h2 := ⟨Nat.le_trans E.1 F.1, fun a c q => F.2 a c (E.2 a c q)⟩
theorem ext_keep (E : Ext h h1) {ws : List Addr} (K : Keep h1 h2 ws) (q : ∀ x ∈ ws, h.size ≤ x) : Ext h h2 := ⟨Nat.le_trans E.1 K.1, fun a c r => K.2.1 a c (E.2 a c r) fun z => absurd (Array.getElem?_eq_some_iff.mp r).1 (Nat.not_lt.mpr (q a z))⟩
theorem ext_keep1 (E : Ext h h1) {x : Addr} (K : Keep h1 h2 [x]) (q : h.size ≤ x) : Ext h h2 := ext_keep E K fun y hy => by cases List.mem_singleton.mp hy; exact q
theorem ext_wr (E : Ext h h1) {a : Addr} {sl : Nat} {v : Value} (W : Wr h1 h2 a sl v) (q : h.size ≤ a) : Ext h h2 := ext_keep1 E (Keep.of_wr W) q
/-! ## Strings of known chars below 256 -/
def low8 (x : Int32) : Int32 := x.toInt8.toInt32
def StrL (Z : State) (h : Heap) (x : Addr) (cs : List Int32) : Prop := ∃ (t : Addr) (kb : ClassId), Exa Z h x "java/lang/String" ∧ Fld Z h x "java/lang/String" "value" "[B" (.ref t) ∧ Fld Z h x "java/lang/String" "coder" "B" (.int 0) ∧ Arv Z h t kb .byte (Int32.ofNat cs.length) ((cs.map low8).map Value.int) (.int 0) ∧
  (∀ c ∈ cs, ¬ c < 0 ∧ ¬ (255 : Int32) < c) ∧ cs.length ≤ 4000
theorem StrL.ext {x : Addr} {cs : List Int32} (F : StrL Z h x cs) (E : Ext h h') : StrL Z h' x cs := by
  obtain ⟨t, kb, a1, a2, a3, a4, r⟩ := F
  exact ⟨t, kb, a1.ext E, a2.ext E, a3.ext E, a4.ext E, r⟩
theorem StrL.exa {x : Addr} {cs : List Int32} (F : StrL Z h x cs) : Exa Z h x "java/lang/String" := by
  obtain ⟨_, _, a1, -⟩ := F
  exact a1
theorem StrL.lt {x : Addr} {cs : List Int32} (F : StrL Z h x cs) : x < h.size := F.exa.lt
/-- a String whose value is still null is no booked one -/
theorem safe_null {x : Addr} (E : Exa Z h x "java/lang/String") (V : Fld Z h x "java/lang/String" "value" "[B" .null) {k : Nat} (wi : (Jvm.Cond.instantiable "java/lang/String" k).before a0 Z = true) : ∀ vm : Vm, Z.Warmed39 vm → CHv Z EL vm h → Safe Z EL vm h x := fun vm hZ _ B => by
  have hal : Z.vm.Alike vm := hZ.alike
  obtain ⟨p, -, u, a, -, q, -, F, hy⟩ := B
  obtain ⟨cS, ⟨⟨s1, s2, s3, ⟨cv, kv, iv, s4, s4'⟩, -, s6, s7, s8, s9, s10, s11, -⟩, hfS, hcS⟩, ⟨kS, k1, k2, k3⟩, hB, hbyt⟩ := F
  rcases hy with rfl | rfl
  · obtain ⟨cell, cf, k', i, f, h1, h2, h3, -, -, -, h7⟩ := V
    obtain ⟨k9, e9, -⟩ := State.fieldFound?_setVm (s := { Z with heap := h }) hal h2
    have e1 := (show (Wst Z vm h).fieldFound? "java/lang/String" "value" "[B" = _ from e9).symm.trans s4
    simp only [Option.some.injEq, Prod.mk.injEq] at e1
    have e2 : h[q.sa]? = some q.sC := s1
    cases h1.symm.trans e2
    rw [e1.2.2.2, s8] at h7
    cases h7
  · obtain ⟨cell, k', e1, e2, e3, -, -⟩ := E
    have e4 : h[q.sd]? = some q.SA := s10
    cases e1.symm.trans e4
    have e5 : vm.findClass "[B" = some q.SA.cls := hB
    rw [hal.findClass] at e5
    obtain ⟨k1', q1, q2⟩ := Vm.findClass_spec e5
    obtain ⟨k2', q3, q4⟩ := Vm.findClass_spec e2
    cases q1.symm.trans q3
    exact absurd (q2.symm.trans q4) (by decide)
/-- the chars of a constant's text -/
def lits (t : String) : List Int32 := t.toList.map fun c => Int32.ofNat c.toNat
theorem StrL.keep {x t : Addr} {cs : List Int32} {C : String} {k : Nat} (F : StrL Z h t cs) (K : Keep h h' [x]) (E : Exa Z h x C) (hC : C ≠ "java/lang/String") (wi : (Jvm.Cond.instantiable C k).before a0 Z = true) : StrL Z h' t cs := by
  obtain ⟨b, kb, a1, a2, a3, a4, r⟩ := F
  have n1 : t ∉ [x] := fun q => Exa.ne a1 E (Ne.symm hC) (List.mem_singleton.mp q)
  have n2 : b ∉ [x] := fun q => Exa.neArv E a4 wi (List.mem_singleton.mp q).symm
  exact ⟨b, kb, a1.keep K, a2.keep K n1, a3.keep K n1, a4.keep K n2, r⟩
theorem Wk.ldc (W : Wk p l e R s m args below meth c Z a0 EL own n0 T h cells slots) (hx : p.tables.exec = Jvm.exec) {text : String} {index : Nat} (w : (Jvm.Cond.stringLink own index text).before a0 Z = true) (wS : ∀ a ∈ Bundle.stringAtoms, a.before a0 Z = true) (hmem : (own, index) ∈ EL) (cs : List Int32)
    (ht' : (∀ c ∈ text.toList, c.toNat < 256) ∧ text.toList.map (fun c => Jvm.Lit.byteI c.toNat.toUInt16) = cs.map low8) (hcs : (∀ c ∈ cs, ¬ c < 0 ∧ ¬ (255 : Int32) < c) ∧ cs.length ≤ 4000)
    {g : JFrame} (hg : g.method = m) (hd : decode c.code g.pc = .ok (.ldc index, 2)) {n : Nat} (hn : 4 * text.toList.length ≤ n) (hbig : n ≤ 536870912) (hc : cells + 2 ≤ R.cells) (hl : slots + (n + 4) ≤ R.slots)
    (k : ∀ (T' : State) (h' : Heap) (a : Addr), Wk p l e R s m args below meth c Z a0 EL own n0 T' h' (cells + 2) (slots + (n + 4)) → Ext h h' → StrL Z h' a cs → Fi p e below s Z EF n0 Q kc ks (T'.setTop { g with pc := g.pc + 2, stack := .ref a :: g.stack })) : Fi p e below s Z EF n0 Q kc ks (T.setTop g) := by
  obtain ⟨vm0, k0, locs, X, eT, hS, hk, hZ, ho, N, CC, hE⟩ := W
  have ht : (∀ c ∈ text.toList, c.toNat < 256) ∧ text.toList.map (fun c => Value.int (Jvm.Lit.byteI c.toNat.toUInt16)) = (cs.map low8).map Value.int := ⟨ht'.1, by rw [← ht'.2, List.map_map]; rfl⟩
  have hz : (Int32.ofNat cs.length).toInt = cs.length := len_toInt (by have := hcs.2; omega)
  obtain ⟨a, T', h', k1, b, kb, X', e', E, hS', hk1, hZ', ho', A1, A2, A3, A4, -, -, hC, -, -, st⟩ := ldcCH X hx hZ ho w wS eT hS hk hE hmem CC.1 ht (z := Int32.ofNat cs.length) (by rw [Int32.lt_iff_toInt_lt, hz, show (0 : Int32).toInt = 0 from rfl]; omega) (by simp only [Int32.toNatClampNeg, hz, List.length_map]; omega) hg hd hn hbig hc hl
  exact (k T' h' a ⟨T'.vm, k1, locs, X', e', hS', hk1, hZ', ho', N, CC.trans hC, hE⟩ E ⟨b, kb, A1, A3, A2, A4, hcs.1, hcs.2⟩).via st
theorem all_nil {P : Int32 → Prop} : ∀ c ∈ ([] : List Int32), P c := fun _ q => (nomatch q)
theorem all_cons {P : Int32 → Prop} {a : Int32} {L : List Int32} (q : P a) (r : ∀ c ∈ L, P c) : ∀ c ∈ a :: L, P c := fun c hc => (List.mem_cons.mp hc).elim (fun e => e ▸ q) (r c)
theorem ch_ok {x : Int32} (q : ¬ x < 0 ∧ ¬ (255 : Int32) < x) : nar .char x = x ∧ fits .char (.int x) = true := by
  obtain ⟨h0, h1⟩ := q
  rw [Int32.lt_iff_toInt_lt] at h0 h1
  have e0 : (0 : Int32).toInt = 0 := rfl
  have e1 : (255 : Int32).toInt = 255 := rfl
  obtain ⟨k, hk⟩ : ∃ k : Nat, x.toInt = k := ⟨x.toInt.toNat, by omega⟩
  have hx : x = Int32.ofNat k := Int32.toInt_inj.mp (by rw [hk, Int32.toInt_ofNat_small (by omega)])
  have t : ∀ k : Fin 256, nar .char (Int32.ofNat k.val) = Int32.ofNat k.val ∧ fits .char (.int (Int32.ofNat k.val)) = true := by decide +kernel
  rw [hx]
  exact t ⟨k, by omega⟩
theorem big_ch {x : Int32} (q : ¬ (255 : Int32) < x) : ¬ (65535 : Int32) < x := by
  rw [Int32.lt_iff_toInt_lt] at q ⊢
  rw [show (255 : Int32).toInt = 255 from rfl] at q
  rw [show (65535 : Int32).toInt = 65535 from rfl]
  omega
theorem bnar {x : Int32} (q : x = 0 ∨ x = 1) : narrow .boolean (.int x) = .int x := by rcases q with rfl | rfl <;> rfl
theorem bfit {x : Int32} (q : x = 0 ∨ x = 1) : fits .boolean (.int x) = true := by rcases q with rfl | rfl <;> rfl
theorem and255 (x : Int32) : ¬ (x &&& 255) < 0 ∧ ¬ (255 : Int32) < (x &&& 255) := by
  have h : (x &&& 255).toBitVec.toNat < 256 := by
    simp only [Int32.toBitVec_and, BitVec.toNat_and]
    exact Nat.lt_succ_of_le Nat.and_le_right
  have e : (x &&& 255).toInt = ((x &&& 255).toBitVec.toNat : Int) := by
    show (x &&& 255).toBitVec.toInt = _
    rw [BitVec.toInt_eq_toNat_cond]
    split <;> omega
  rw [Int32.lt_iff_toInt_lt, Int32.lt_iff_toInt_lt, e, show (0 : Int32).toInt = 0 from rfl, show (255 : Int32).toInt = 255 from rfl]
  omega
theorem rng_nat {x : Int32} : (¬ x < 0 ∧ ¬ (255 : Int32) < x) ↔ x.toBitVec.toNat < 256 := by
  have e : x.toInt = x.toBitVec.toInt := rfl
  rw [Int32.lt_iff_toInt_lt, Int32.lt_iff_toInt_lt, e, show (0 : Int32).toInt = 0 from rfl, show (255 : Int32).toInt = 255 from rfl, BitVec.toInt_eq_toNat_cond]
  have := x.toBitVec.isLt
  split <;> omega
theorem xor255 {x y : Int32} (a : ¬ x < 0 ∧ ¬ (255 : Int32) < x) (b : ¬ y < 0 ∧ ¬ (255 : Int32) < y) : ¬ (x ^^^ y) < 0 ∧ ¬ (255 : Int32) < (x ^^^ y) := by
  rw [rng_nat] at a b ⊢
  rw [Int32.toBitVec_xor, BitVec.toNat_xor]
  exact Nat.xor_lt_two_pow (n := 8) a b
theorem b01 {v : Int32} {P : Prop} (q : (P ∧ v = 0) ∨ (¬ P ∧ v = 1)) : v = 0 ∨ v = 1 := q.elim (fun u => Or.inl u.2) (fun u => Or.inr u.2)
theorem r01 {r : Int32} {P : Prop} (q : (r = 1 ∧ P) ∨ (r = 0 ∧ ¬ P)) : r = 0 ∨ r = 1 := q.elim (fun u => Or.inr u.1) (fun u => Or.inl u.1)
theorem and3 (y : Int32) : y &&& 3 = 0 ∨ y &&& 3 = 1 ∨ y &&& 3 = 2 ∨ y &&& 3 = 3 := by
  have h : (y &&& 3).toBitVec.toNat < 4 := by
    simp only [Int32.toBitVec_and, BitVec.toNat_and]
    exact Nat.lt_succ_of_le Nat.and_le_right
  obtain ⟨k, hk⟩ : ∃ k, k = (y &&& 3).toBitVec.toNat := ⟨_, rfl⟩
  rw [← hk] at h
  have e : y &&& 3 = Int32.ofNat k := by
    apply Int32.toBitVec_inj.mp
    apply BitVec.eq_of_toNat_eq
    rw [← hk]
    show k = (BitVec.ofNat 32 k).toNat
    rw [BitVec.toNat_ofNat, Nat.mod_eq_of_lt (by omega)]
  rw [e]
  have : k = 0 ∨ k = 1 ∨ k = 2 ∨ k = 3 := by omega
  rcases this with rfl | rfl | rfl | rfl <;> decide
theorem rem3 {y z : Int32} (q : z = (y &&& 3) - ((y &&& 3) / 3) * 3) : z = 0 ∨ z = 1 ∨ z = 2 := by
  subst q
  rcases and3 y with e | e | e | e <;> rw [e] <;> decide
theorem Wk.castore (W : Wk p l e R s m args below meth c Z a0 EL own n0 T h cells slots) (hx : p.tables.exec = Jvm.exec) {a : Addr} {k : ClassId} {N : Int32} {cs : List Int32} {d : Value} (A : Arv Z h a k .char N (cs.map Value.int) d) {i : Nat} (hi : i < cs.length) {j x : Int32} (hj : j.toNatClampNeg = i) (hj0 : ¬ j < 0) (hN : N.toNatClampNeg = cs.length) (hc : nar .char x = x ∧ fits .char (.int x) = true)
    {g : JFrame} (hg : g.method = m) {rest : List Value} (hs : g.stack = .int x :: .int j :: .ref a :: rest) (hd : decode c.code g.pc = .ok (.castore, 1)) (ha : n0 ≤ a)
    (kk : ∀ (T' : State) (h' : Heap), Wk p l e R s m args below meth c Z a0 EL own n0 T' h' cells slots → Wr h h' a j.toNatClampNeg (.int x) → Arv Z h' a k .char N ((cs.set i x).map Value.int) d → Fi p e below s Z EF n0 Q kc ks (T'.setTop { g with pc := g.pc + 1, stack := rest })) : Fi p e below s Z EF n0 Q kc ks (T.setTop g) := by
  obtain ⟨vm0, k0, locs, X, eT, hS, hk, hZ, ho, N0, CC, hE⟩ := W
  obtain ⟨cl, A1, A2, A3, A4, A5, A6⟩ := id A
  obtain ⟨T', h', X', e', Wr', st⟩ := stC X hx hZ eT A1 (j := j) (x := x) (by rw [A3, hN, hj]; exact fun q => q.elim hj0 (fun q => absurd hi (Nat.not_lt.mpr q))) hg hs hd
  rw [hc.1] at Wr'
  have V := Arv.set A1 A2 A3 A4 A5 A6 hc.2 Wr' i hj (by simpa using hi)
  refine (kk T' h' ⟨vm0, k0, _, X', e', hS, by rw [Wr'.size]; exact hk, hZ, ho, Fr.snoc X' N0 ha, CC.trans (CHr.wr Wr' (Safe.arr hZ.alike A1 (by decide)) CC.1), hE⟩ Wr' ?_).via st
  rw [List.map_set]; exact V
theorem Wk.alen (W : Wk p l e R s m args below meth c Z a0 EL own n0 T h cells slots) (hx : p.tables.exec = Jvm.exec) {a : Addr} {k : ClassId} {ty : FieldType} {N : Int32} {vs : List Value} {d : Value} (A : Arv Z h a k ty N vs d)
    {g : JFrame} (hg : g.method = m) {rest : List Value} (hs : g.stack = .ref a :: rest) (hd : decode c.code g.pc = .ok (.arraylength, 1)) (f : Fi p e below s Z EF n0 Q kc ks (T.setTop { g with pc := g.pc + 1, stack := .int N :: rest })) : Fi p e below s Z EF n0 Q kc ks (T.setTop g) := by
  obtain ⟨vm0, k0, locs, X, eT, hS, hk, hZ, ho, N0, CC, hE⟩ := W
  obtain ⟨cl, A1, A2, A3, A4, A5, A6⟩ := A
  exact f.via fun t ht => X.arraylength hx (by rw [eT]; exact A1.1) (State.isArrayOf_alike (s := Z) hZ.alike A1.2.1) hg hs hd t (by rw [len_of A3 A4]; exact ht)
theorem set_same {α : Type} {A : Array α} {i : Nat} {v : α} (q : A[i]? = some v) : A.setIfInBounds i v = A := by
  apply Array.ext_getElem?
  intro j
  rw [Array.getElem?_setIfInBounds]
  split
  · next e => subst e; rw [if_pos (Array.getElem?_eq_some_iff.mp q).1]; exact q.symm
  · rfl
/-- a field is written with what it holds already: the heap stays -/
theorem Wk.putSame (W : Wk p l e R s m args below meth c Z a0 EL own n0 T h cells slots) (hx : p.tables.exec = Jvm.exec) {O n d C : String} {index kk : Nat} {ty : FieldType} (w : (Jvm.Cond.fieldLink own index O n d).before a0 Z = true) {a : Addr} {v : Value} (F : Fld Z h a O n d v) (E : Exa Z h a C)
    (L : (Jvm.Cond.lays C O n d).before a0 Z = true ∨ ((Jvm.Cond.laysFinal C O n d).before a0 Z = true ∧ own = O ∧ meth.name = "<init>")) (wi : (Jvm.Cond.instantiable C kk).before a0 Z = true) (hty : parseFieldDescriptor d = some ty) (hn : narrow ty v = v) (hf : fits ty v = true)
    {g : JFrame} (hg : g.method = m) {rest : List Value} (hs : g.stack = v :: .ref a :: rest) (hd : decode c.code g.pc = .ok (.putfield index, 3)) (ha : n0 ≤ a)
    (k : ∀ (T' : State), Wk p l e R s m args below meth c Z a0 EL own n0 T' h cells slots → Fi p e below s Z EF n0 Q kc ks (T'.setTop { g with pc := g.pc + 3, stack := rest })) : Fi p e below s Z EF n0 Q kc ks (T.setTop g) := by
  obtain ⟨vm0, k0, locs, X, eT, hS, hk, hZ, ho, N, CC, hE⟩ := W
  obtain ⟨T', h', X', e', Wr', st⟩ := Jvm.RoadKit.putF X hx hZ ho (host := "") (Or.inl w) Via.refl eT F E L wi hty hn hf hg hs hd
  have eh : h' = h := by
    obtain ⟨cell, w1, w2, w3, rfl⟩ := Wr'
    obtain ⟨cell', cf, k', i, f, h1, h2, -, -, -, -, h7⟩ := F
    cases w1.symm.trans h1
    have es : Jvm.RoadKit.slotOf Z O n d = f.slot := by simp [Jvm.RoadKit.slotOf, h2]
    rw [es]
    have ec : cell.setSlot f.slot v = cell := by
      have hb := (Array.getElem?_eq_some_iff.mp h7)
      obtain ⟨hb1, hb2⟩ := hb
      have : cell.slots.setIfInBounds f.slot v = cell.slots := set_same h7
      simp [Cell.setSlot, this]
    rw [ec]
    exact set_same w1
  subst eh
  exact (k T' ⟨vm0, k0, _, X', e', hS, hk, hZ, ho, Fr.snoc X' N ha, CC, hE⟩).via st
end Base
/-! ## plain steps, the value said as it is wanted -/
section Plain
variable {tb : Tables} [Ours tb] {e : Env} {below : List Frame} {T target : State} {m : MethodId} {c : Code} {g : JFrame}
theorem iconstZ (h : At T m c below) (hx : tb.exec = Jvm.exec) (hg : g.method = m) {i : Int} {z : Int32} (hd : decode c.code g.pc = .ok (.iconst i, 1)) (q : Int32.ofInt i = z) (hr : Steps tb e below (T.setTop { g with pc := g.pc + 1, stack := .int z :: g.stack }) target) : Steps tb e below (T.setTop g) target := by
  subst q; exact XS.iconst h hx hg hd hr
theorem bipushZ (h : At T m c below) (hx : tb.exec = Jvm.exec) (hg : g.method = m) {i : Int} {z : Int32} (hd : decode c.code g.pc = .ok (.bipush i, 2)) (q : (Int8.ofInt i).toInt32 = z) (hr : Steps tb e below (T.setTop { g with pc := g.pc + 2, stack := .int z :: g.stack }) target) : Steps tb e below (T.setTop g) target := by
  subst q; exact XS.bipush h hx hg hd hr
theorem sipushZ (h : At T m c below) (hx : tb.exec = Jvm.exec) (hg : g.method = m) {i : Int} {z : Int32} (hd : decode c.code g.pc = .ok (.sipush i, 3)) (q : (Int16.ofInt i).toInt32 = z) (hr : Steps tb e below (T.setTop { g with pc := g.pc + 3, stack := .int z :: g.stack }) target) : Steps tb e below (T.setTop g) target := by
  subst q; exact XS.sipush h hx hg hd hr
theorem i2cZ (h : At T m c below) (hx : tb.exec = Jvm.exec) (hg : g.method = m) {v z : Int32} {rest : List Value} (hd : decode c.code g.pc = .ok (.i2c, 1)) (hs : g.stack = .int v :: rest) (q : v.toUInt32.toUInt16.toUInt32.toInt32 = z) (hr : Steps tb e below (T.setTop { g with pc := g.pc + 1, stack := .int z :: rest }) target) : Steps tb e below (T.setTop g) target := by
  subst q; exact XS.i2c h hx hg hd hs hr
theorem acmpTEq {a b : Addr} (q : a = b) : if_acmp.holds .eq (some a) (some b) = true := by subst q; simp [if_acmp.holds]
theorem acmpTNe {a b : Addr} (q : a = b) : if_acmp.holds .ne (some a) (some b) = false := by subst q; simp [if_acmp.holds]
theorem acmpFEq {a b : Addr} (q : ¬ a = b) : if_acmp.holds .eq (some a) (some b) = false := by simp [if_acmp.holds, q]
theorem acmpFNe {a b : Addr} (q : ¬ a = b) : if_acmp.holds .ne (some a) (some b) = true := by simp [if_acmp.holds, q]
end Plain
end Jvm.OwnW
namespace Jvm.OwnW
open Jvm Jvm.ClassFile Sem Op Lib Jvm.Free Jvm.Stand Jvm.LawKit Jvm.RoadKit Bundle
section Base2
variable {p : Program} {l : Launch} {e : Env} {R : Room} {s : State} {m : MethodId} {args : Array Value} {below : List Frame} {meth : Method} {c : Code} {Z : State} {a0 : Array Value} {EL EF : List (String × Nat)} {own : String} {n0 : Nat} {T : State} {h h' h1 h2 : Heap} {cells slots : Nat} {Q : Option Value → Heap → Prop} {kc ks : Nat}
/-- the walk stands here, and nothing that is held lies at x -/
def WkS (p : Program) (l : Launch) (e : Env) (R : Room) (s : State) (m : MethodId) (args : Array Value) (below : List Frame) (meth : Method) (c : Code) (Z : State) (a0 : Array Value) (EL : List (String × Nat)) (own : String) (n0 : Nat) (T : State) (h : Heap) (cells slots : Nat) (x : Addr) : Prop :=
  ∃ (vm0 : Vm) (k0 : Nat) (locs : List Loc), (Stand p l e R (s.setVm vm0) m args below meth c T locs cells slots ∧ T.heap = h ∧ s.Since vm0 k0 ∧ k0 ≤ h.size ∧ Z.Warmed39 vm0 ∧ vm0.findClass own = some m.cls ∧ Fr n0 locs ∧ CHr Z EL s.vm s.heap vm0 h ∧ EW Z a0 EL) ∧ Safe Z EL vm0 h x
theorem WkS.wk {x : Addr} (W : WkS p l e R s m args below meth c Z a0 EL own n0 T h cells slots x) : Wk p l e R s m args below meth c Z a0 EL own n0 T h cells slots := by
  obtain ⟨vm0, k0, locs, r, -⟩ := W
  exact ⟨vm0, k0, locs, r⟩
theorem Wk.newPS (W : Wk p l e R s m args below meth c Z a0 EL own n0 T h cells slots) (hx : p.tables.exec = Jvm.exec) {aty : ArrayType} (w : (Jvm.Cond.arrayClass (newarray.typeOf aty)).before a0 Z = true)
    {g : JFrame} (hg : g.method = m) (hd : decode c.code g.pc = .ok (.newarray aty, 2)) {n : Int32} {rest : List Value} (hs : g.stack = .int n :: rest) (hn : ¬ n < 0) {cap : Nat} (hcap : n.toNatClampNeg ≤ cap) (hb : cap * 8 ≤ 536870912) (hc : cells + 1 ≤ R.cells) (hl : slots + cap ≤ R.slots)
    (k : ∀ (T' : State) (h' : Heap) (a : Addr) (cA : ClassId), @Eq Nat a h.size → WkS p l e R s m args below meth c Z a0 EL own n0 T' h' (cells + 1) (slots + cap) a → Ext h h' → Arv Z h' a cA (newarray.typeOf aty) n [] (defaultValue (newarray.typeOf aty)) →
      Fi p e below s Z EF n0 Q kc ks (T'.setTop { g with pc := g.pc + 2, stack := .ref a :: rest })) : Fi p e below s Z EF n0 Q kc ks (T.setTop g) := by
  obtain ⟨vm0, k0, locs, X, eT, hS, hk, hZ, ho, N, CC, hE⟩ := W
  obtain ⟨T', h', cA, X', e', E, A, st⟩ := Jvm.RoadKit.newP X hx hZ w eT hg hd hs hn hcap hb hc hl
  exact (k T' h' _ cA rfl ⟨vm0, k0, locs, ⟨X', e', hS, Nat.le_trans hk E.1, hZ, ho, N, CC.trans (CHr.ext E CC.1), hE⟩, Safe.ext E CC.1 (Safe.new (Nat.le_refl _))⟩ E (Arv.new A hn)).via st
theorem WkS.bastore {a : Addr} (W : WkS p l e R s m args below meth c Z a0 EL own n0 T h cells slots a) (hx : p.tables.exec = Jvm.exec) {k : ClassId} {N : Int32} {cs : List Int32} {d : Value} (A : Arv Z h a k .byte N (cs.map Value.int) d) {i : Nat} (hi : i < cs.length) {j x : Int32} (hj : j.toNatClampNeg = i) (hj0 : ¬ j < 0) (hN : N.toNatClampNeg = cs.length) (hc : nar .byte x = x ∧ fits .byte (.int x) = true)
    {g : JFrame} (hg : g.method = m) {rest : List Value} (hs : g.stack = .int x :: .int j :: .ref a :: rest) (hd : decode c.code g.pc = .ok (.bastore, 1)) (ha : n0 ≤ a)
    (kk : ∀ (T' : State) (h' : Heap), WkS p l e R s m args below meth c Z a0 EL own n0 T' h' cells slots a → Wr h h' a j.toNatClampNeg (.int x) → Arv Z h' a k .byte N ((cs.set i x).map Value.int) d → Fi p e below s Z EF n0 Q kc ks (T'.setTop { g with pc := g.pc + 1, stack := rest })) : Fi p e below s Z EF n0 Q kc ks (T.setTop g) := by
  obtain ⟨vm0, k0, locs, ⟨X, eT, hS, hk, hZ, ho, N0, CC, hE⟩, SA⟩ := W
  obtain ⟨cl, A1, A2, A3, A4, A5, A6⟩ := id A
  obtain ⟨T', h', X', e', Wr', st⟩ := stB X hx hZ eT A1 (j := j) (x := x) (by rw [A3, hN, hj]; exact fun q => q.elim hj0 (fun q => absurd hi (Nat.not_lt.mpr q))) hg hs hd
  rw [hc.1] at Wr'
  have V := Arv.set A1 A2 A3 A4 A5 A6 hc.2 Wr' i hj (by simpa using hi)
  refine (kk T' h' ⟨vm0, k0, _, ⟨X', e', hS, by rw [Wr'.size]; exact hk, hZ, ho, Fr.snoc X' N0 ha, CC.trans (CHr.wr Wr' SA CC.1), hE⟩, Safe.wr Wr' SA CC.1 SA⟩ Wr' ?_).via st
  rw [List.map_set]; exact V
theorem low_ok (x : Int32) : nar .byte (low8 x) = low8 x ∧ fits .byte (.int (low8 x)) = true := by
  refine ⟨?_, ?_⟩
  · show x.toInt8.toInt32.toInt8.toInt32 = x.toInt8.toInt32
    simp
  · show (decide ((-128 : Int32) ≤ x.toInt8.toInt32) && decide (x.toInt8.toInt32 ≤ 127)) = true
    simp only [Bool.and_eq_true, decide_eq_true_eq, Int32.le_iff_toInt_le, Int8.toInt_toInt32, show (-128 : Int32).toInt = -128 from by decide, show (127 : Int32).toInt = 127 from by decide]
    have h1 := Int8.le_toInt x.toInt8
    have h2 := Int8.toInt_lt x.toInt8
    omega
theorem Wk.ldcI (W : Wk p l e R s m args below meth c Z a0 EL own n0 T h cells slots) (hx : p.tables.exec = Jvm.exec) {index : Nat} {v : Int32} (w : (Jvm.Cond.constant own index v).before a0 Z = true) {g : JFrame} (hg : g.method = m) (hd : decode c.code g.pc = .ok (.ldc index, 2))
    (f : Fi p e below s Z EF n0 Q kc ks (T.setTop { g with pc := g.pc + 2, stack := .int v :: g.stack })) : Fi p e below s Z EF n0 Q kc ks (T.setTop g) := by
  obtain ⟨vm0, k0, locs, X, eT, hS, hk, hZ, ho, N, CC, hE⟩ := W
  have hZ' : Z.Warmed39 (s.setVm vm0).vm := hZ
  exact f.via (X.ldcInt hx ho (mvT hZ' w) hg hd)
/-- invokevirtual of a private method of the object's own class -/
theorem Wk.callP (W : Wk p l e R s m args below meth c Z a0 EL own n0 T h cells slots) (hx : p.tables.exec = Jvm.exec) {index : Nat} {y : MethodName} {bytes : ByteArray} {maxL nI : Nat} {ret : Option FieldType}
    (w1 : (Jvm.Cond.methodLink own index y).before a0 Z = true) (w2 : (Jvm.Cond.instanceMethod y).before a0 Z = true) (w3 : (Jvm.Cond.privateMethod y).before a0 Z = true) (w4 : (Jvm.Cond.code y bytes maxL ret).before a0 Z = true) (w5 : (Jvm.Cond.instantiable y.cls nI).before a0 Z = true) (hy : y.cls ≠ "java/lang/invoke/MethodHandle" ∧ y.cls ≠ "java/lang/invoke/VarHandle")
    {Wd k n : Nat} {as' : Array Value} {Qy : Option Value → Heap → Prop} (P : Pay l R p e below s args Z EL n0 y Wd as' h Qy k n) {a : Addr} {C : String} (E : Exa Z h a C)
    {g : JFrame} (hg : g.method = m) (hsize : g.locals.size = c.maxLocals) {argsL rest : List Value} (hlen : ∀ sig, parseMethodDescriptor y.desc = some sig → argsL.length = sig.parameters.length) (hstack : g.stack = argsL.reverse ++ .ref a :: rest) (has : (Value.ref a :: argsL).toArray = as') (hW : 2 * g.monitorRoom + (rest.map fun v => v.category).sum ≤ Wd)
    (hd : decode c.code g.pc = .ok (.invokevirtual index, 3)) (hc : cells + k ≤ R.cells) (hl : slots + n ≤ R.slots)
    (kk : ∀ (v : Option Value) (T' : State) (h' : Heap), Wk p l e R s m args below meth c Z a0 EL own n0 T' h' (cells + k) (slots + n) → h.size ≤ h'.size → Qy v h' → Fi p e below s Z EF n0 Q kc ks (T'.setTop { g with pc := g.pc + 3, stack := v.toList ++ rest })) : Fi p e below s Z EF n0 Q kc ks (T.setTop g) := by
  obtain ⟨vm0, k0, locs, X, eT, hS, hk, hZ, ho, N, CC, hE⟩ := W
  have hZ' : Z.Warmed39 (s.setVm vm0).vm := hZ
  obtain ⟨cell, hcell, hobj⟩ := E.cell
  obtain ⟨mk, methM, hnamed, hmethM, hstM, habM⟩ := Cond.instanceMethod_spec (mvT (args := args) hZ' w2)
  obtain ⟨methM', cM, hmethM', -, -, -, -, -, -, hsigM⟩ := Cond.code_spec hnamed (mvT (args := args) hZ' w4)
  cases hmethM.symm.trans hmethM'
  obtain ⟨cI, kI, i1, i2, i3, i4, -⟩ := Cond.instantiable_spec (mvT (args := args) hZ' w5)
  have hfc := findClass_of_methodNamed hnamed
  cases hfc.symm.trans i1
  have hni : kI.isInterface = false := by
    cases hq : kI.isInterface with
    | false => rfl
    | true => simp [hq] at i4
  have hselP : selectMethod e.platform (s.setVm vm0).vm cell.cls mk = .method mk := selectMethod_private hmethM (Cond.privateMethod_at (mvP (args := args) hZ' w3) mk methM hnamed hmethM)
  obtain ⟨vm₁, X₁, hstep₁⟩ := X.invokevirtual hx ho (mvT hZ' w1) hnamed hmethM hstM i2 hni hy (a := a) (cell := cell) (by rw [eT]; exact hcell) hobj hselP hmethM habM i2 hni (g := g) hg (argsL := argsL) (rest := rest) (hlen _ hsigM) hstack hd
  have hW₁ : (s.setVm vm0).WarmedH vm₁ := X₁.warmed
  obtain ⟨v, ⟨U, L', k', n'⟩, X', hS', hgr, ⟨L, ⟨NL, hq⟩, l1, l2, l3, hC⟩, hsteps⟩ := P vm0 hZ CC.1 m meth c ⟨T.setVm vm₁, locs, cells, slots⟩ { g with stack := rest } (.invokevirtual index) mk (.ref a :: argsL).toArray X₁ hg hsize hd hW (X₁.named hnamed) ⟨has, eT, hc, hl⟩
  dsimp only [Pt.U, Pt.locs, Pt.cells, Pt.slots] at X' hS' hgr hq l1 l2 l3 hC hsteps
  subst l1 l2 l3
  have hgr : h.size ≤ U.heap.size := by rw [← eT]; exact hgr
  obtain ⟨Y1, Y2, Y3, Y4⟩ := rebS hS hk X' hS' hgr hZ ho
  exact (kk v U U.heap ⟨U.vm, _, _, Y1, rfl, Y2, Nat.le_refl _, Y3, Y4, N.app NL, CC.trans hC, hE⟩ hgr hq).via fun t ht => ((hstep₁ _ fun acts => by rw [doInvoke_state]; exact Steps.refl _).trans hsteps).trans ht
end Base2
end Jvm.OwnW
namespace Jvm.OwnW
open Jvm Jvm.ClassFile Sem Op Lib Jvm.Free Jvm.Stand Jvm.LawKit Jvm.RoadKit Bundle Jvm.Free.Exc
section Exc
variable {p : Program} {l : Launch} {e : Env} {R : Room} {s : State} {m : MethodId} {args : Array Value} {below : List Frame} {meth : Method} {c : Code} {Z : State} {a0 : Array Value} {EL EF : List (String × Nat)} {own : String} {n0 : Nat} {T : State} {h h' h1 h2 : Heap} {cells slots : Nat} {Q : Option Value → Heap → Prop} {kc ks : Nat}
/-- Con, the tables' methods and the frames beneath known (a stack trace is filled in) -/
def ConK (l : Launch) (Z : State) (EL : List (String × Nat)) (y : MethodName) (bytes : ByteArray) (maxL : Nat) (ret : Option FieldType) (ws : List Jvm.Cond) (rm : Room) (as' : Array Value) (h0 : Heap) (n0 : Nat) (Q : Option Value → Heap → Prop) : Prop :=
  MetFree l y (head1 (Jvm.Cond.code y bytes maxL ret :: ws) rm) (fun a U => a = as' ∧ Z.Warmed39 U.vm ∧ U.heap = h0 ∧ CHv Z EL U.vm h0) (fun _ _ bl s _ => s.vm.MethodsKnown ∧ s.vm.FramesKnown bl)
    (fun _ U o U' => ∃ v L, o = .returned v ∧ (Fr n0 L ∧ Q v U'.heap) ∧ CHr Z EL U.vm U.heap U'.vm U'.heap ∧ ReturnedEndW U o U' L rm.cells rm.slots)
theorem ConK.intro {y : MethodName} {bytes : ByteArray} {maxL : Nat} {ret : Option FieldType} {ws : List Jvm.Cond} {rm : Room} {as' : Array Value} {h0 : Heap} (ho : y.cls = own) (hpl : plainFor y = true) (hEL : EW Z a0 EL)
    (body : ∀ (p : Program) (e : Env) (s : State) (m : MethodId) (below : List Frame) (meth : Method) (c : Code) (s₁ : State), p.tables.exec = Jvm.exec → c.code = bytes → c.maxLocals = maxL → meth.sig.returnType = ret → meth.locks = false → meth.name = y.name → Z.Warmed39 s.vm → s.heap = h0 → s.vm.FramesKnown below →
      Wk p l e rm s m as' below meth c Z a0 EL own n0 s₁ h0 0 0 → Fi p e below s Z EL n0 Q rm.cells rm.slots (s₁.setTop (entryFrame m as' maxL))) :
    ConK l Z EL y bytes maxL ret ws rm as' h0 n0 Q := by
  refine MetFree.of_bodySF hpl hisR ?_
  intro p e s m args below meth c s₁ Bd hml0 hP hK
  obtain ⟨ha, hZ, hh, hC⟩ := hP
  subst ha
  have X0 : Stand p l e rm s m args below meth c s₁ [] 0 0 := Stand.of_body Bd
  have e0 : s₁.heap = h0 := by rw [← hh, Bd.state]; rfl
  have hown : s.vm.findClass own = some m.cls := by rw [← ho]; exact findClass_of_methodNamed Bd.named
  exact body p e s m below meth c s₁ Bd.exec Bd.bytes hml0 Bd.returns Bd.notSynchronized (name_of_methodNamed Bd.named Bd.method).1 hZ hh hK.2
    ⟨s.vm, 0, [], X0, e0, (State.WarmedH.refl s).since 0, Nat.zero_le _, hZ, hown, Fr.nil n0, by rw [hh]; exact CHr.refl hC, hEL⟩
theorem Pay.of_conK {y : MethodName} {bytes : ByteArray} {maxL Wd : Nat} {ret : Option FieldType} {rm : Room} {as' : Array Value} (hM : ConK l Z EL y bytes maxL ret [] rm as' h n0 Q) (wc : (Jvm.Cond.code y bytes maxL ret).before a0 Z = true) (wz : (Jvm.Cond.initialized y.cls).before a0 Z = true) (hEL : EW Z a0 EL)
    (hTK : Z.vm.MethodsKnown) (hZs : Z.Warmed39 s.vm) (hB : s.vm.FramesKnown below) (hf : rm.frames + 1 ≤ R.frames) (hl : Wd + (maxL + 11) + rm.locals ≤ R.locals) : Pay l R p e below s args Z EL n0 y Wd as' h Q rm.cells rm.slots :=
  fun vm0 hZ hC => backOfSKH (Q := fun v h L => Fr n0 L ∧ Q v h) hM hZ wc wz hf hl hEL hC (Vm.MethodsKnown.alikeC hZ.alike hTK) (Vm.FramesKnown.alikeC (hZs.alike.symm.trans hZ.alike) hB)
theorem Wk.newU (W : Wk p l e R s m args below meth c Z a0 EL own n0 T h cells slots) (hx : p.tables.exec = Jvm.exec) {C : String} {index n : Nat} (w : (Jvm.Cond.classLink own index C).before a0 Z = true) (wi : (Jvm.Cond.instantiable C n).before a0 Z = true) (wz : (Jvm.Cond.initialized C).before a0 Z = true)
    {g : JFrame} (hg : g.method = m) (hd : decode c.code g.pc = .ok (.new index, 3)) (hc : cells + 1 ≤ R.cells) (hl : slots + n ≤ R.slots)
    (k : ∀ (T' : State) (h' : Heap) (a : Addr), @Eq Nat a h.size → Wk p l e R s m args below meth c Z a0 EL own n0 T' h' (cells + 1) (slots + n) → Ext h h' → Exa Z h' a C → (∀ {O nm d : String} {ty : FieldType}, Laid Z a0 C O nm d → parseFieldDescriptor d = some ty → Fld Z h' a O nm d (defaultValue ty)) → Unt h' a →
      Fi p e below s Z EF n0 Q kc ks (T'.setTop { g with pc := g.pc + 3, stack := .ref a :: g.stack })) : Fi p e below s Z EF n0 Q kc ks (T.setTop g) := by
  obtain ⟨vm0, k0, locs, X, eT, hS, hk, hZ, ho, N, CC, hE⟩ := W
  obtain ⟨T', h', X', e', E, A, D, U, st⟩ := newO X hx hZ ho w wi wz eT hg hd hc hl
  exact (k T' h' _ rfl ⟨vm0, k0, locs, X', e', hS, Nat.le_trans hk E.1, hZ, ho, N, CC.trans (CHr.ext E CC.1), hE⟩ E A D U).via st
/-- super(message, cause) of a Throwable that the walk has made -/
theorem Wk.exc2 (W : Wk p l e R s m args below meth c Z a0 EL own n0 T h cells slots) (hx : p.tables.exec = Jvm.exec) (hl : l.stackTraces = true) {rc : String} {links : List Link} {ic n : Nat} (hok : linksOk 2 links = true)
    (w1 : (Jvm.Cond.methodLink own ic (ctor 2 (headName links))).before a0 Z = true) (w2 : (Jvm.Cond.instanceMethod (ctor 2 (headName links))).before a0 Z = true) (wT : (chainTab 2 rc links).before a0 Z = true) (wi : (Jvm.Cond.instantiable rc n).before a0 Z = true) (r : ∀ d ∈ twoRefs, d.before a0 Z = true)
    (hT0 : ThS Z s.heap) (hT : ThS Z h) (hTK : Z.vm.MethodsKnown) (hZs : Z.Warmed39 s.vm) (hB : s.vm.FramesKnown below) {a : Addr} (E : Exa Z h a rc) (hrc : rc ≠ "java/lang/String" ∧ rc ≠ "[B") (N : Unt h a) (B : Fld Z h a tN "backtrace" obD .null) (B2 : Fld Z h a tN "detailMessage" msgD .null) {msg : Value} (hmsg : msg.isRef = true) {cz : Value} (hcz : cz.isRef = true)
    {g : JFrame} (hg : g.method = m) (hsize : g.locals.size = c.maxLocals) {rest : List Value} (hs : g.stack = cz :: msg :: .ref a :: rest) (hd : decode c.code g.pc = .ok (.invokespecial ic, 3))
    (hf : 4 + links.length ≤ R.frames) (hlo : 2 * g.monitorRoom + (rest.map fun v => v.category).sum + (56 + 14 * links.length) ≤ R.locals) (hc : cells + 1 ≤ R.cells) (hsl : slots + 2752 ≤ R.slots) (ha : n0 ≤ a)
    (k : ∀ (T' : State) (h' : Heap), Wk p l e R s m args below meth c Z a0 EL own n0 T' h' (cells + 1) (slots + 2752) → Kp Z h h' a → Exa Z h' a rc → Unt h' a → Fld Z h' a tN "detailMessage" msgD msg → Fld Z h' a tN "cause" thD cz → ThS Z h' →
      Fi p e below s Z EF n0 Q kc ks (T'.setTop { g with pc := g.pc + 3, stack := rest })) : Fi p e below s Z EF n0 Q kc ks (T.setTop g) := by
  obtain ⟨vm0, k0, locs, X, eT, hS, hk, hZ, ho, N0, CC, hE⟩ := W
  obtain ⟨T', h', X', e', K, E', N', F1, F2, hT', st⟩ := excL2 X hx hl hZ ho hok w1 w2 wT wi r hT0 hT (Vm.MethodsKnown.alikeC hZ.alike hTK) (Vm.FramesKnown.alikeC (hZs.alike.symm.trans hZ.alike) hB) eT E N B B2 hmsg hcz hg hsize hs hd hf hlo hc hsl
  have K1 := keep_of_kp K
  refine (k T' h' ⟨vm0, k0, _, X', e', hS, Nat.le_trans hk K1.1, hZ, ho, Fr.six N0 ha, CC.trans (CHr.keep K1 (fun y hy => ?_) CC.1), hE⟩ K E' N' F1 F2 hT').via st
  cases List.mem_singleton.mp hy
  exact Safe.exa hZ.alike E hrc.1 hrc.2
/-- a field of the object that is none of Throwable's six, over that -/
theorem Fld.six {a b : Addr} {O nm d : String} {v : Value} (K : Kp Z h h' a) (F : Fld Z h b O nm d v) (q : ∀ nd ∈ sixNames, Jvm.RoadKit.slotOf Z tN nd.1 nd.2 ≠ Jvm.RoadKit.slotOf Z O nm d) : Fld Z h' b O nm d v := by
  obtain ⟨cell, cf, k, i, f, h1, h2, h3, h4, h5, h6, h7⟩ := F
  obtain ⟨c', q1, q2, q3, q4, q5⟩ := K.2 _ _ h1
  have es : Jvm.RoadKit.slotOf Z O nm d = f.slot := by
    show ((Z.fieldFound? O nm d).map (·.2.2.2.slot)).getD 0 = f.slot
    rw [h2]; rfl
  have e1 : c'.cls = cell.cls := by rw [q2]
  have e2 : c'.vm = cell.vm := by rw [q2]
  exact ⟨c', cf, k, i, f, q1, h2, h3, by rw [e2]; exact h4, by rw [e2]; exact h5, by rw [e1]; exact h6, by rw [q5 f.slot (fun nd hnd => by rw [← es]; exact q nd hnd)]; exact h7⟩
/-- invokevirtual through a subclass's entry of a method that its superclass declares -/
theorem Wk.callVU (W : Wk p l e R s m args below meth c Z a0 EL own n0 T h cells slots) (hx : p.tables.exec = Jvm.exec) {index : Nat} {x y : MethodName} {C owner : String}
    (w1 : (Jvm.Cond.methodLink own index x).before a0 Z = true) (w2 : (Jvm.Cond.sameMethod x.cls owner x.name x.desc).before a0 Z = true) (w3 : (Jvm.Cond.declares ⟨owner, x.name, x.desc⟩).before a0 Z = true) (hy : owner ≠ "java/lang/invoke/MethodHandle" ∧ owner ≠ "java/lang/invoke/VarHandle") (w4 : (Jvm.Cond.selects C x y).before a0 Z = true) (w5 : (Jvm.Cond.instanceMethod y).before a0 Z = true)
    {Wd k n : Nat} {as' : Array Value} {Qy : Option Value → Heap → Prop} (P : Pay l R p e below s args Z EL n0 y Wd as' h Qy k n) {a : Addr} (E : Exa Z h a C)
    {g : JFrame} (hg : g.method = m) (hsize : g.locals.size = c.maxLocals) {argsL rest : List Value} (hlen : ∀ sig, parseMethodDescriptor x.desc = some sig → argsL.length = sig.parameters.length) (hstack : g.stack = argsL.reverse ++ .ref a :: rest) (has : (Value.ref a :: argsL).toArray = as') (hW : 2 * g.monitorRoom + (rest.map fun v => v.category).sum ≤ Wd)
    (hd : decode c.code g.pc = .ok (.invokevirtual index, 3)) (hc : cells + k ≤ R.cells) (hl : slots + n ≤ R.slots)
    (kk : ∀ (v : Option Value) (T' : State) (h' : Heap), Wk p l e R s m args below meth c Z a0 EL own n0 T' h' (cells + k) (slots + n) → h.size ≤ h'.size → Qy v h' → Fi p e below s Z EF n0 Q kc ks (T'.setTop { g with pc := g.pc + 3, stack := v.toList ++ rest })) : Fi p e below s Z EF n0 Q kc ks (T.setTop g) := by
  obtain ⟨vm0, k0, locs, X, eT, hS, hk, hZ, ho, N, CC, hE⟩ := W
  have hZ' : Z.Warmed39 (s.setVm vm0).vm := hZ
  obtain ⟨cq, kq, qa, qb, qc⟩ := isOf hZ' eT E
  obtain ⟨v, vm1, ⟨U, L', k', n'⟩, -, X', hS', hgr, ⟨L, ⟨NL, hq⟩, l1, l2, l3, hC⟩, st⟩ := X.virtualBackUpS hx ho (mvT hZ' w1) (mvT hZ' w2) (mvT hZ' w3) hy (mvT hZ' w4) (mvT hZ' w5) (P vm0 hZ CC.1) qa qc hg hsize (Steps.refl _) hlen hstack hW hd (fun _ _ => ⟨has, eT, hc, hl⟩)
  dsimp only [Pt.U, Pt.locs, Pt.cells, Pt.slots] at X' hS' hgr hq l1 l2 l3 hC st
  subst l1 l2 l3
  rw [eT] at hgr
  obtain ⟨Y1, Y2, Y3, Y4⟩ := rebS hS hk X' hS' hgr hZ ho
  exact (kk v U U.heap ⟨U.vm, _, _, Y1, rfl, Y2, Nat.le_refl _, Y3, Y4, N.app NL, CC.trans hC, hE⟩ hgr hq).via fun t ht => st.trans ht
/-- Throwable.getCause() of an object whose monitor nobody has touched -/
theorem payGC {Wd : Nat} {a : Addr} {c0 : Value} (hEL : EW Z a0 EL) (wc : (Jvm.Cond.codeSync Jvm.RoadKit.gcN Jvm.RoadKit.gcB 1 (some (.object tN))).before a0 Z = true) (wi : (Jvm.Cond.instanceMethod Jvm.RoadKit.gcN).before a0 Z = true) (wz : (Jvm.Cond.initialized tN).before a0 Z = true) (wf : (Jvm.Cond.fieldLink tN 7 tN "cause" thD).before a0 Z = true)
    (N : Unt h a) (F : Fld Z h a tN "cause" thD c0) (hc0 : c0.isRef = true) (hf : 1 ≤ R.frames) (hl : Wd + 12 ≤ R.locals) : Pay l R p e below s args Z EL n0 Jvm.RoadKit.gcN Wd #[.ref a] h (fun v h' => v = some (Jvm.RoadKit.gcV a c0) ∧ h = h') 0 0 :=
  Pay.of_back (ws := []) hEL (fun vm0 hZ => Back.mono (gcBackPure (rm := { frames := 0, cells := 0, slots := 0, locals := 0 }) (s := s.setVm vm0) hZ wc wi wz wf N F hc0 hf hl) (fun _ _ q => q) (fun A _ v B _ q => by
    obtain ⟨q1, q2, q3, q4, q5⟩ := q
    exact ⟨[], ⟨Fr.nil _, by rw [q2]; exact Keep.refl _ _, q1, q2.symm⟩, by rw [q3, List.append_nil], q4, q5⟩)) (fun _ _ _ _ q => (nomatch q))
end Exc
end Jvm.OwnW
namespace Jvm.OwnX
open Jvm Jvm.ClassFile Sem Op Lib Jvm.Free Jvm.Stand Jvm.LawKit Jvm.RoadKit Bundle Jvm.Free.Exc Jvm.OwnW LibCode.Throwable
/-! fillInStackTrace() on an object of the class X that a law has made, where Throwable's own fields are told of X's layout alone -/
def fillW (X : String) : List Jvm.Cond := [.initialized tN, .superclass tN "java/lang/Object", .instanceMethod tFill, .codeSync tFill Fill.code 1 (some (.object tN)), .instanceMethod tFill0, .native tFill0, .instanceMethod oInit, .code oInit ⟨#[0xb1]⟩ 1 none, .methodLink tN 1 oInit, .methodLink tN 27 tFill, .methodLink tN 202 tFill0,
  .fieldLink tN 7 tN "cause" thD, .lays X tN "cause" thD, .fieldLink tN 17 tN "stackTrace" steD, .lays X tN "stackTrace" steD, .fieldLink tN 24 tN "suppressedExceptions" listD, .lays X tN "suppressedExceptions" listD, .fieldLink tN 13 tN "UNASSIGNED_STACK" steD, .laysStatic tN "UNASSIGNED_STACK" steD, .fieldLink tN 20 tN "SUPPRESSED_SENTINEL" listD, .laysStatic tN "SUPPRESSED_SENTINEL" listD,
  .fieldLink tN 198 tN "backtrace" obD, .lays X tN "backtrace" obD, .lays X tN "depth" "I", .soleField tN "backtrace", .soleField tN "depth", .arrayOver (.object "java/lang/Object"), .selects X tFill0 tFill0, .selects X tFill tFill, .declares tFill]
theorem fill_ok {X : String} : (fillW X).all xOk = true := rfl
section A
variable {args : Array Value} {s : State} {pl : Platform} {X : String}
theorem own_links (hm : pl.frameOwnsMonitors = true) (hz : pl.finalization = false) (hpl : pl.magicAccessors = ({} : Platform).magicAccessors) (w : ∀ d ∈ fillW X, d.before args s = true) :
    ∃ T : ThrowableC, T.Links pl s ∧ s.vm.findClass tN = some T.cT ∧ s.methodNamed? tFill = some T.fill ∧ s.methodNamed? tFill0 = some T.fill0 ∧ s.fieldFound? tN "stackTrace" steD = some (T.cT, T.kT, T.i17, T.fStack) ∧ s.fieldFound? tN "UNASSIGNED_STACK" steD = some (T.cT, T.kT, T.i13, T.fUnassigned) ∧
      T.fStack.name = "stackTrace" ∧ T.fStack.type = .array (.object "java/lang/StackTraceElement") := by
  have q : ∀ d, d ∈ fillW X → d.holds args s none s [] = true := fun d hd => w d hd
  obtain ⟨⟨c, j0⟩, N0, b1, b2, b3, b4, b5, b6⟩ := Cond.native_spec (q (.native tFill0) (by simp [fillW]))
  have hc : s.vm.findClass tN = some c := findClass_of_methodNamed b1
  obtain ⟨k, hk, hnm⟩ := Vm.findClass_spec hc
  obtain ⟨sup, k1, ks, -, s2, -, -, s5, -, s7⟩ := Cond.superclass_spec hc (q (.superclass tN "java/lang/Object") (by simp [fillW]))
  cases hk.symm.trans s2
  -- the three methods
  obtain ⟨i1, F, f1, f2, f3, f4, f5, -, -⟩ := Cond.ownMethod (x := tFill) hc hk (q (.instanceMethod tFill) (by simp [fillW]))
  obtain ⟨F', cF, f6, f7, f8, f9, f10, f11, -, f12⟩ := Cond.codeSync_spec f1 (q (.codeSync tFill Fill.code 1 (some (.object tN))) (by simp [fillW]))
  cases f2.symm.trans f6
  obtain ⟨i2, G, g1, g2, g3, g4, g5, g6, g7⟩ := Cond.ownMethod (x := tFill0) hc hk (q (.instanceMethod tFill0) (by simp [fillW]))
  cases b1.symm.trans g1
  cases b2.symm.trans g2
  obtain ⟨mO, O, o1, o2, o3, o4⟩ := Cond.instanceMethod_spec (q (.instanceMethod oInit) (by simp [fillW]))
  obtain ⟨O', cO, o5, o6, o7, o8, -, o9, -, o10⟩ := Cond.code_spec o1 (q (.code oInit ⟨#[0xb1]⟩ 1 none) (by simp [fillW]))
  cases o2.symm.trans o5
  obtain ⟨kO, hkO, hnO⟩ := Vm.findClass_spec (findClass_of_methodNamed o1)
  obtain ⟨o11, o12⟩ := name_of_methodNamed o1 o2
  have pF : F.sig.parameters = [] := by
    have z : (parseMethodDescriptor tFill.desc).map (·.parameters) = some [] := by decide +kernel
    rw [f12] at z; simpa using z
  have pG : N0.sig.parameters = [.int] := by
    have z : (parseMethodDescriptor tFill0.desc).map (·.parameters) = some [.int] := by decide +kernel
    rw [b6] at z; simpa using z
  have pO : O.sig.parameters = [] := by
    have z : (parseMethodDescriptor oInit.desc).map (·.parameters) = some [] := by decide +kernel
    rw [o10] at z; simpa using z
  -- the entries of its pool
  obtain ⟨ca, na, cf, l1, l2, l3, l4⟩ := Cond.linkedMethod hc hk o1 (q (.methodLink tN 1 oInit) (by simp [fillW])) pl hpl
  obtain ⟨cb, nb, cf1, l5, l6, l7, l8⟩ := Cond.linkedMethod hc hk f1 (q (.methodLink tN 27 tFill) (by simp [fillW])) pl hpl
  obtain ⟨cc, nc, cf2, l9, l10, l11, l12⟩ := Cond.linkedMethod hc hk b1 (q (.methodLink tN 202 tFill0) (by simp [fillW])) pl hpl
  cases l3.symm.trans l7
  cases l3.symm.trans l11
  obtain ⟨c7, i7, u7, v1, v2, v3, v4, v5, -, -, -⟩ := Cond.ownField (t := .object tN) hc hk (by decide +kernel) (q (.fieldLink tN 7 tN "cause" thD) (by simp [fillW])) (q (.lays X tN "cause" thD) (by simp [fillW])) pl hpl
  obtain ⟨c17, i17, u17, x1, x2, x3, x4, x5, x6, x7, x8⟩ := Cond.ownField (t := .array (.object "java/lang/StackTraceElement")) hc hk (by decide +kernel) (q (.fieldLink tN 17 tN "stackTrace" steD) (by simp [fillW])) (q (.lays X tN "stackTrace" steD) (by simp [fillW])) pl hpl
  obtain ⟨c24, i24, u24, y1, y2, y3, y4, y5, y6, y7, y8⟩ := Cond.ownField (t := .object "java/util/List") hc hk (by decide +kernel) (q (.fieldLink tN 24 tN "suppressedExceptions" listD) (by simp [fillW])) (q (.lays X tN "suppressedExceptions" listD) (by simp [fillW])) pl hpl
  obtain ⟨c13, i13, u13, aS, _, z1, z2, z3, z4, -, -, z5, -, -, -, -, z6⟩ := Cond.ownStatic (t := .array (.object "java/lang/StackTraceElement")) hc hk (by decide +kernel) (q (.fieldLink tN 13 tN "UNASSIGNED_STACK" steD) (by simp [fillW])) (q (.laysStatic tN "UNASSIGNED_STACK" steD) (by simp [fillW])) pl hpl
  obtain ⟨c20, i20, u20, _, _, t1, t2, t3, t4, -⟩ := Cond.ownStatic (t := .object "java/util/List") hc hk (by decide +kernel) (q (.fieldLink tN 20 tN "SUPPRESSED_SENTINEL" listD) (by simp [fillW])) (q (.laysStatic tN "SUPPRESSED_SENTINEL" listD) (by simp [fillW])) pl hpl
  -- the two fields lie apart in X's layout
  obtain ⟨cX, kX, _, _, _, _, hX, hkX, -⟩ := Cond.lays_spec (q (.lays X tN "stackTrace" steD) (by simp [fillW]))
  obtain ⟨-, dS, d1, d2⟩ := Cond.laysAt hX hkX x8 (q (.lays X tN "stackTrace" steD) (by simp [fillW]))
  obtain ⟨-, dP, d3, d4⟩ := Cond.laysAt hX hkX y8 (q (.lays X tN "suppressedExceptions" listD) (by simp [fillW]))
  have ap := Cond.laysApart d1 d3 d2 d4 (by rw [x6, y6]; decide)
  refine ⟨{ cT := c, kT := k, cO := c, aS := aS, fillIdx := i1, fill0Idx := j0, initSIdx := 0, obj := mO, kObj := kO, methFill := F, methFill0 := N0, methInitS := F, methObj := O, codeFill := cF, codeInitS := cF, codeObj := cO, fBack := u7, fDepth := u7, fStack := u17, fCause := u7, fSupp := u24, fMsg := u7, fUnassigned := u13, fSentinel := u20, cfT := cf, ci1 := ca, n1 := na, ci27 := cb, n27 := nb, ci202 := cc, n202 := nc, ci7 := c7, i7 := i7, ci13 := c13, i13 := i13, ci17 := c17, i17 := i17, ci20 := c20, i20 := i20, ci24 := c24, i24 := i24 }, ?_, hc, f1, b1, x8, z6, x6, x7⟩
  constructor
  case owns => exact hm
  case noFinalization => exact hz
  case cls => exact hk
  case name => exact hnm
  case boot => exact Vm.findClass_boot hc hk
  case notInterface => exact s7
  case initialized => exact Cond.initialized_spec hc hk (q (.initialized tN) (by simp [fillW]))
  case statics => exact z5
  case fillAt => exact f3
  case fillCode => exact f7
  case fillBytes => exact f8
  case fillLocals => exact f9
  case fillLocks => exact f11
  case fillStatic => exact f4
  case fillAbstract => exact f5
  case fillReturns => exact f10
  case fillParams => exact pF
  case fill0At => exact g3
  case fill0Name => exact g6
  case fill0Desc => exact g7
  case fill0Params => exact pG
  case fill0Static => exact g4
  case fill0Native => exact b3
  case fill0Code => exact b4
  case fill0Locks => exact b5
  case fill0Abstract => exact g5
  case objClass => exact hkO
  case objClassName => exact hnO
  case objMethod => exact o2
  case objName => exact o11
  case objStatic => exact o3
  case objAbstract => exact o4
  case objFound => show lookupSpecial s.vm mO.cls "<init>" O.desc = _; rw [o12]; exact lookupSpecial_of_named o1 o2 o3
  case objParams => show O.sig.parameters.length = 0; rw [pO]; rfl
  case objCode => exact o6
  case objBytes => exact o7
  case objLocks => exact o9
  case stackInstance => exact x4
  case stackNotFinal => exact x5
  case unassignedStatic => exact z4
  case sentinelStatic => exact t4
  case causeInstance => exact v4
  case causeNotFinal => exact v5
  case suppInstance => exact y4
  case suppNotFinal => exact y5
  case msgInstance => exact v4
  case msgNotFinal => exact v5
  case stackApartSupp => exact ap
  case file => exact l3
  case mlink1 => exact l1
  case mright1 => exact l2
  case pool1 => exact l4
  case mlink27 => exact l5
  case mright27 => exact l6
  case pool27 => exact l8
  case mlink202 => exact l9
  case mright202 => exact l10
  case pool202 => exact l12
  case link7 => exact v1
  case right7 => exact v2
  case at7 => exact v3
  case link13 => exact z1
  case right13 => exact z2
  case at13 => exact z3
  case link17 => exact x1
  case right17 => exact x2
  case at17 => exact x3
  case link20 => exact t1
  case right20 => exact t2
  case at20 => exact t3
  case link24 => exact y1
  case right24 => exact y2
  case at24 => exact y3
end A
section B
variable {p : Program} {l : Launch} {e : Env} {R : Room} {s : State} {m : MethodId} {args : Array Value} {below : List Frame} {meth : Method} {c : Code} {Z : State} {a0 : Array Value} {EL EF : List (String × Nat)} {own : String} {n0 : Nat} {T : State} {h h' : Heap} {cells slots : Nat} {Q : Option Value → Heap → Prop} {kc ks : Nat}
theorem same_low {vm : Vm} {locs : List Loc} (S : s.sameButNew (T.setVm vm) locs cells slots) (N : Fr n0 locs) {y : Addr} {c : Cell} (hc : s.heap[y]? = some c) (hy : @LT.lt Nat _ y n0) : T.heap[y]? = some c := by
  obtain ⟨-, -, -, -, -, H⟩ := S
  obtain ⟨c', h1, h2, h3, h4⟩ := H y c hc
  have e : c'.slots = c.slots := Array.ext_getElem? fun i => h4 i (fun hm => absurd (N _ hm) (Nat.not_le.mpr hy))
  have h1' : T.heap[y]? = some c' := h1
  rw [h1', h2, e]
theorem same_mon {vm : Vm} {locs : List Loc} (S : s.sameButNew (T.setVm vm) locs cells slots) {y : Addr} {c c1 : Cell} (hc : s.heap[y]? = some c) (hy : T.heap[y]? = some c1) : c1.monitor = c.monitor := by
  obtain ⟨-, -, -, -, -, H⟩ := S
  obtain ⟨c', h1, h2, h3, h4⟩ := H y c hc
  have h1' : T.heap[y]? = some c' := h1
  cases h1'.symm.trans hy
  rw [h2]
theorem slot_found {C n d : String} {cf i : Nat} {k : Class} {f : Field} (q : Z.fieldFound? C n d = some (cf, k, i, f)) : Jvm.RoadKit.slotOf Z C n d = f.slot := by
  show ((Z.fieldFound? C n d).map (·.2.2.2.slot)).getD 0 = f.slot
  rw [q]; rfl
theorem Pay.low {y : MethodName} {Wd k n n1 : Nat} {as' : Array Value} (hle : n0 ≤ n1) (P : Pay l R p e below s args Z EL n1 y Wd as' h Q k n) : Pay l R p e below s args Z EL n0 y Wd as' h Q k n := by
  intro vm0 hZ hC m meth c A g ig mk a X hg hsize hdg hW hnm hp
  obtain ⟨v, B, X', r1, r2, ⟨L, ⟨q, q'⟩, l1, l2, l3, l4⟩, st⟩ := P vm0 hZ hC m meth c A g ig mk a X hg hsize hdg hW hnm hp
  exact ⟨v, B, X', r1, r2, ⟨L, ⟨fun z hz => Nat.le_trans hle (q z hz), q'⟩, l1, l2, l3, l4⟩, st⟩
theorem Wk.size_le (W : Wk p l e R s m args below meth c Z a0 EL own n0 T h cells slots) : h.size ≤ s.heap.size + cells := by
  obtain ⟨vm0, k0, locs, X, eT, -⟩ := W
  rw [← eT]; exact X.same.2.2.1
set_option maxHeartbeats 16000000 in
theorem Wk.fill (W : Wk p l e R s m args below meth c Z a0 EL tN n0 T h cells slots) (hx : p.tables.exec = Jvm.exec) (hl : l.stackTraces = true) {X : String} {n : Nat} (hrc : X ≠ "java/lang/String" ∧ X ≠ "[B") (w : ∀ d ∈ fillW X, d.before a0 Z = true) (wi : (Jvm.Cond.instantiable X n).before a0 Z = true)
    (hT0 : ThS Z s.heap) (hTK : Z.vm.MethodsKnown) (hZs : Z.Warmed39 s.vm) (hB : s.vm.FramesKnown below) {a : Addr} (hn : @Eq Nat a n0) (hsz : h.size = s.heap.size) (hla : @LE.le Nat _ s.heap.size (a + 1)) (E : Exa Z h a X) (N : Unt h a)
    {u : Value} (hu : u.isRef = true) (S : Sta Z h tN "UNASSIGNED_STACK" steD u) (FS : Fld Z h a tN "stackTrace" steD u) (FB : Fld Z h a tN "backtrace" obD .null)
    {g : JFrame} (hg : g.method = m) (hsize : g.locals.size = c.maxLocals) {rest : List Value} (hs : g.stack = .ref a :: rest) (hd : decode c.code g.pc = .ok (.invokevirtual 27, 3))
    (hf : 3 ≤ R.frames) {Wd : Nat} (hW : 2 * g.monitorRoom + (rest.map fun v => v.category).sum ≤ Wd) (hlo : Wd + 42 ≤ R.locals) (hc : cells + 1 ≤ R.cells) (hsl : slots + 2752 ≤ R.slots)
    (kk : ∀ (T' : State) (h' : Heap), Wk p l e R s m args below meth c Z a0 EL tN n0 T' h' (cells + 1) (slots + 2752) → Keep h h' [a] → Exa Z h' a X → Unt h' a →
      (∀ {O nm d : String} {v : Value}, Fld Z h a O nm d v → Jvm.RoadKit.slotOf Z tN "backtrace" obD ≠ Jvm.RoadKit.slotOf Z O nm d → Jvm.RoadKit.slotOf Z tN "depth" "I" ≠ Jvm.RoadKit.slotOf Z O nm d → Jvm.RoadKit.slotOf Z tN "stackTrace" steD ≠ Jvm.RoadKit.slotOf Z O nm d → Fld Z h' a O nm d v) →
      Fi p e below s Z EF n0 Q kc ks (T'.setTop { g with pc := g.pc + 3, stack := .ref a :: rest })) : Fi p e below s Z EF n0 Q kc ks (T.setTop g) := by
  subst hn
  obtain ⟨vm0, k0, locs, X0, eT, hS, hk, hZ, ho, N0, CC, hE⟩ := W
  have hZ' : Z.Warmed39 (s.setVm vm0).vm := hZ
  have wq : ∀ d ∈ fillW X, d.before args (s.setVm vm0) = true := fun d hd => mvX (s := s.setVm vm0) hT0 hZ' (List.all_eq_true.mp fill_ok d hd) (w d hd)
  have wh : ∀ d, d ∈ fillW X → d.holds args (s.setVm vm0) none (s.setVm vm0) [] = true := fun d hd => wq d hd
  have htr : e.platform.stackTraces = true := by rw [X0.admits.platform]; exact hl
  have hpl : e.platform.magicAccessors = ({} : Platform).magicAccessors := by rw [X0.admits.platform]
  obtain ⟨T0, L, yc, yf, yf0, ys, yu, ynm, yty⟩ := own_links (pl := e.platform) (by rw [X0.admits.platform]) (by rw [X0.admits.platform]) hpl wq
  -- the object
  obtain ⟨cell, kX, e1, e2, e3, e4, e5⟩ := id E
  obtain ⟨c2, u1, u2, u3⟩ := id N
  cases e1.symm.trans u1
  obtain ⟨kX', e3', ek⟩ := hZ'.alike.2.2 _ _ e3
  have f1 : (s.setVm vm0).vm.findClass X = some cell.cls := by rw [hZ'.alike.findClass]; exact e2
  obtain ⟨cI, kI, i1, i2, i3, -⟩ := Cond.instantiable_spec wi
  cases e2.symm.trans i1
  cases e3.symm.trans i2
  have ord : kX'.kind = .ordinary := by rw [ek]; exact i3
  have hsz' : cell.slots.size = kX'.instanceTypes.size := by rw [ek]; exact e5 i3
  have tk : ∀ {f : Field} {v : Value}, kX'.instanceTypes[f.slot]? = some f.type → fits f.type v = true → Jvm.Takes (s.setVm vm0) cell f v := fun {f v} h1 h2 => by
    obtain ⟨q1, q2⟩ := Takes.of_laid (s := s.setVm vm0) (v := v) e3' ord h1 h2
    exact ⟨by rw [hsz']; simpa using q1, by rw [u2]; exact q2⟩
  -- the statics
  obtain ⟨cf, iU, kU, fU, st, cellS, s1, s2, s3, s4, s5, s6, s7⟩ := S
  obtain ⟨kU', s1', eU⟩ := State.fieldFound?_setVm (s := Z) hZ'.alike s1
  cases s1'.symm.trans yu
  have s4' : T0.kT.statics = some st := by rw [eU]; exact s4
  cases s4'.symm.trans L.statics
  have hneS : T0.aS ≠ a := fun z => by
    rw [z] at s5
    cases s5.symm.trans e1
    rw [u2] at s6; cases s6
  -- the fields
  obtain ⟨cS, cfS, kS, iS, fS, t1, t2, t3, t4, t5, t6, t7⟩ := FS
  cases e1.symm.trans t1
  obtain ⟨kS', t2', eS⟩ := State.fieldFound?_setVm (s := Z) hZ'.alike t2
  cases t2'.symm.trans ys
  obtain ⟨cB, cfB, kB, iB, fB, b1, b2, b3, b4, b5, b6, b7⟩ := FB
  cases e1.symm.trans b1
  obtain ⟨kB', b2', eB⟩ := State.fieldFound?_setVm (s := Z) hZ'.alike b2
  obtain ⟨ci, i198, fB2, l1, l2, l3, l4, -, l5, l6, l7⟩ := Cond.ownField (t := .object "java/lang/Object") yc L.cls (by decide +kernel) (wh (.fieldLink tN 198 tN "backtrace" obD) (by simp [fillW])) (wh (.lays X tN "backtrace" obD) (by simp [fillW])) e.platform hpl
  cases b2'.symm.trans l7
  obtain ⟨_, _, cD0, kD0, iD0, fD, -, -, zD, -⟩ := Cond.lays_spec (show (Jvm.Cond.lays X tN "depth" "I").holds a0 Z none Z [] = true from w _ (by simp [fillW]))
  obtain ⟨kD', zD', eD⟩ := State.fieldFound?_setVm (s := Z) hZ'.alike zD
  obtain ⟨_, _, cD, kD, iD, fD2, -, -, ffD, sD, -⟩ := Cond.lays_spec (wh (.lays X tN "depth" "I") (by simp [fillW]))
  cases zD'.symm.trans ffD
  have ecD := Option.some.inj ((Cond.lays_declared (wh (.lays X tN "depth" "I") (by simp [fillW])) ffD).symm.trans yc)
  subst ecD
  obtain ⟨hkD, atD⟩ := State.fieldFound?_spec ffD
  have ekD := Option.some.inj (hkD.symm.trans L.cls)
  subst ekD
  obtain ⟨nD, tD⟩ := State.fieldFound?_type ffD (t := .int) (by decide +kernel)
  have hfb := Cond.soleField_find yc L.cls (wh (.soleField tN "backtrace") (by simp [fillW])) l3 l5 l4
  have hfd := Cond.soleField_find yc L.cls (wh (.soleField tN "depth") (by simp [fillW])) atD nD sD
  obtain ⟨comp, cO, kO, -, -, hkO, hkindO, hO⟩ := Cond.arrayOver_spec (wh (.arrayOver (.object "java/lang/Object")) (by simp [fillW]))
  have tyS := (Cond.laysAt f1 e3' ys (wh (.lays X tN "stackTrace" steD) (by simp [fillW]))).1
  have tyB := (Cond.laysAt f1 e3' l7 (wh (.lays X tN "backtrace" obD) (by simp [fillW]))).1
  have tyD := (Cond.laysAt f1 e3' ffD (wh (.lays X tN "depth" "I") (by simp [fillW]))).1
  have hsel0 : selectMethod e.platform (s.setVm vm0).vm cell.cls T0.fill0 = .method T0.fill0 := by
    obtain ⟨c3, r3, m3, q1, q2, q3, q4, -⟩ := Cond.selects_spec (wh (.selects X tFill0 tFill0) (by simp [fillW]))
    cases q1.symm.trans f1
    cases q2.symm.trans (State.methodFound?_of_named yf0 (by decide))
    cases q3.symm.trans yf0
    rw [Launch.admits_selectMethod X0.admits]; exact q4
  have hSE := wq (.selects X tFill tFill) (by simp [fillW])
  obtain ⟨v6, vm6, ⟨T6, L6, c6, n6⟩, hW6, X6, ⟨hv6, C6, nn, hnn, hD6, q1, q2, q3, q4, hL6, hc6, hn6⟩, come⟩ := X0.virtualBack hx (own := tN) (C := X) (index := 27) (y := tFill) (z := tFill) ho (wq (.methodLink tN 27 tFill) (by simp [fillW])) (wq (.declares tFill) (by simp [fillW])) (notFace_of_selects hSE) hSE (wq (.instanceMethod tFill) (by simp [fillW])) (by decide)
    (fillPaysAny (l := l) (R := R) (W := Wd) (sargs := args) hx htr T0 L yf (u0 := ⟨u, hu⟩) (self := a) (cell := cell) (cellS := cellS) (fun _ => by rw [u2]; simp) (by rw [u2]; simp) (by rw [u3]) (by rw [u3]) t7 hsel0 hneS (fun z => by rw [z] at s6; cases s6) s7 (tk tyS (by rw [yty]; exact fits_refV_array _ ⟨u, hu⟩))
      ⟨{ ci198 := ci, i198 := iB, fBack := fB }, ⟨l1, l2, l3, l4⟩, b7⟩ (Vm.MethodsKnown.alikeC hZ.alike hTK) (Vm.FramesKnown.alikeC (hZs.alike.symm.trans hZ.alike) hB) yc hO hkO hkindO hfb hfd (fun x => tk tyB (by rw [l6]; rfl)) (fun x => tk tyD (by rw [tD]; rfl)) hf hlo)
    (b := a) (cB := cell.cls) f1 ⟨cell, by rw [eT]; exact e1, rfl, by rw [u2]; rfl⟩ hg hsize (Steps.refl _) (argsL := []) (rest := rest)
    (fun sig h => by rw [show parseMethodDescriptor tFill.desc = some ⟨[], some (.object tN)⟩ from by decide +kernel] at h; rw [← Option.some.inj h]; rfl) hs hW hd
    (fun vmx hWx => ⟨rfl, hc, hsl, by show T.heap[a]? = some cell; rw [eT]; exact e1, by show T.heap[T0.aS]? = some cellS; rw [eT]; exact s5⟩)
  dsimp only [Pt.U, Pt.locs, Pt.cells, Pt.slots] at X6 hD6 hL6 hc6 hn6 come
  subst hv6 hL6 hc6 hn6
  have N6 : Fr a (locs ++ [⟨a, fB.slot⟩, ⟨a, fD.slot⟩, ⟨a, T0.fStack.slot⟩]) := N0.app fun y hy => by
    simp only [List.mem_cons, List.not_mem_nil, or_false] at hy
    rcases hy with rfl | rfl | rfl <;> exact Nat.le_refl _
  have haS : @LT.lt Nat _ a s.heap.size := by rw [← hsz]; exact (Array.getElem?_eq_some_iff.mp e1).1
  have low : ∀ (y : Addr) (cy : Cell), h[y]? = some cy → y ≠ a → T6.heap[y]? = some cy := fun y cy hy hne => by
    have hlt : @LT.lt Nat _ y s.heap.size := by rw [← hsz]; exact (Array.getElem?_eq_some_iff.mp hy).1
    have hya : @LT.lt Nat _ y a := Nat.lt_of_le_of_ne (Nat.le_of_lt_succ (Nat.lt_of_lt_of_le hlt hla)) hne
    have hq : (s.setVm vm0).heap[y]? = some s.heap[y] := Array.getElem?_eq_getElem hlt
    have r1 := same_low X0.same N0 hq hya
    rw [eT] at r1
    cases r1.symm.trans hy
    exact same_low X6.same N6 hq hya
  have K : Keep h T6.heap [a] := by
    refine ⟨by rw [hsz]; exact X6.same.2.1, fun y cy hy hne => low y cy hy fun z => hne (List.mem_singleton.mpr z), fun y cy hy => ?_⟩
    by_cases ha : y = a
    · subst ha
      cases e1.symm.trans hy
      exact ⟨C6, hD6, q1, q2, q3⟩
    · exact ⟨cy, low y cy hy ha, rfl, rfl, rfl⟩
  have hm : C6.monitor = {} := by
    have hq : (s.setVm vm0).heap[a]? = some s.heap[a] := Array.getElem?_eq_getElem haS
    have r1 := same_mon X6.same hq hD6
    have r2 := same_mon X0.same hq (by rw [eT]; exact e1)
    rw [r1, ← r2]; exact u3
  refine (kk T6 T6.heap ⟨vm0, k0, _, X6.mono (Nat.le_refl _) (Nat.add_le_add_left hnn _), rfl, hS, Nat.le_trans hk K.1, hZ, ho, N6, CC.trans (CHr.keep K (fun y hy => ?_) CC.1), hE⟩ K ⟨C6, kX, hD6, by rw [q1]; exact e2, by rw [q1]; exact e3, by rw [q2]; exact e4, fun o => by rw [q3]; exact e5 o⟩ ⟨C6, hD6, q2.trans u2, hm⟩ (fun {O nm d v} F n1 n2 n3 => ?_)).via fun t ht => come.trans ht
  · cases List.mem_singleton.mp hy
    exact Safe.exa hZ.alike E hrc.1 hrc.2
  · obtain ⟨c9, cf9, k9, i9, f9, g1, g2, g3, g4, g5, g6, g7⟩ := F
    cases e1.symm.trans g1
    rw [slot_found g2, slot_found b2] at n1
    rw [slot_found g2, slot_found zD] at n2
    rw [slot_found g2, slot_found t2] at n3
    exact ⟨C6, cf9, k9, i9, f9, hD6, g2, g3, by rw [q2]; exact g4, by rw [q2]; exact g5, by rw [q1]; exact g6, by rw [q4 _ (Ne.symm n1) (Ne.symm n2) (Ne.symm n3)]; exact g7⟩
end B
end Jvm.OwnX
namespace Jvm.Pilot.@@N@@
open Jvm Jvm.ClassFile Sem Op Lib Jvm.Free Jvm.Stand Jvm.LawKit Jvm.RoadKit Bundle Jvm.OwnW Jvm.Pilot.@@N@@.Jvm.D
theorem ww {a0 : Array Value} {Z : State} (hw : ∀ d ∈ tables_1, d.before a0 Z = true) (i : Nat) {d : Jvm.Cond} (q : tables_1[i]? = some d) : d.before a0 Z = true := hw _ (List.mem_of_getElem? q)
theorem wS {a0 : Array Value} {Z : State} (hw : ∀ d ∈ tables_1, d.before a0 Z = true) : ∀ a ∈ Bundle.stringAtoms, a.before a0 Z = true := fun a ha => hw a ((by decide +kernel : ∀ d ∈ Bundle.stringAtoms, d ∈ tables_1) a ha)
def textAt (i : Nat) : String := match tables_1[i]? with | some (Jvm.Cond.stringLink _ _ t) => t | _ => ""
def EL : List (String × Nat) := [("java/lang/String", 7)]
theorem hEL {a0 : Array Value} {Z : State} (hw : ∀ d ∈ tables_1, d.before a0 Z = true) : EW Z a0 EL := (EW.cons (ww hw (i := 14) rfl) (by decide +kernel) EW.nil)
abbrev y_0 : MethodName := ⟨"java/lang/Throwable", "<init>", "(Ljava/lang/String;Ljava/lang/Throwable;)V"⟩
abbrev y_1 : MethodName := ⟨"java/lang/Exception", "<init>", "(Ljava/lang/String;Ljava/lang/Throwable;)V"⟩
abbrev y_2 : MethodName := ⟨"com/example/exact_roles/exactroles/cli/CommandException", "<init>", "(IZLjava/lang/String;Ljava/lang/Throwable;)V"⟩
abbrev y_3 : MethodName := ⟨"com/example/exact_roles/exactroles/cli/CommandException", "usage", "(Ljava/lang/String;)Lcom/example/exact_roles/exactroles/cli/CommandException;"⟩
abbrev y_4 : MethodName := ⟨"com/example/exact_roles/exactroles/cli/CommandException", "getStatus", "()I"⟩
abbrev y_5 : MethodName := ⟨"com/example/exact_roles/exactroles/cli/CommandException", "showsUsage", "()Z"⟩
abbrev y_6 : MethodName := ⟨"java/lang/Throwable", "getMessage", "()Ljava/lang/String;"⟩
abbrev y_7 : MethodName := ⟨"java/lang/String", "<init>", "([C)V"⟩
abbrev y_8 : MethodName := ⟨"com/example/exact_roles/exactroles/cli/CommandException", "getMessage", "()Ljava/lang/String;"⟩
abbrev y_9 : MethodName := ⟨"com/example/exact_roles/exactroles/cli/CommandException", "getCause", "()Ljava/lang/Throwable;"⟩
abbrev y_10 : MethodName := ⟨"java/lang/Throwable", "getCause", "()Ljava/lang/Throwable;"⟩
abbrev y_11 : MethodName := ⟨"java/lang/String", "<init>", "([CIILjava/lang/Void;)V"⟩
theorem ble_ {a b : Nat} (h : Nat.ble a b = true) : a ≤ b := Nat.le_of_ble_eq_true h
theorem d7_0 : decode jdk_78_method_3_code 0 = .ok (.aload_n 0, 1) := by decide +kernel
theorem d7_1 : decode jdk_78_method_3_code 1 = .ok (.invokespecial 1, 3) := by decide +kernel
theorem d7_4 : decode jdk_78_method_3_code 4 = .ok (.aload_n 0, 1) := by decide +kernel
theorem d7_5 : decode jdk_78_method_3_code 5 = .ok (.aload_n 0, 1) := by decide +kernel
theorem d7_6 : decode jdk_78_method_3_code 6 = .ok (.putfield 7, 3) := by decide +kernel
theorem d7_9 : decode jdk_78_method_3_code 9 = .ok (.aload_n 0, 1) := by decide +kernel
theorem d7_10 : decode jdk_78_method_3_code 10 = .ok (.getstatic 13, 3) := by decide +kernel
theorem d7_13 : decode jdk_78_method_3_code 13 = .ok (.putfield 17, 3) := by decide +kernel
theorem d7_16 : decode jdk_78_method_3_code 16 = .ok (.aload_n 0, 1) := by decide +kernel
theorem d7_17 : decode jdk_78_method_3_code 17 = .ok (.getstatic 20, 3) := by decide +kernel
theorem d7_20 : decode jdk_78_method_3_code 20 = .ok (.putfield 24, 3) := by decide +kernel
theorem d7_23 : decode jdk_78_method_3_code 23 = .ok (.aload_n 0, 1) := by decide +kernel
theorem d7_24 : decode jdk_78_method_3_code 24 = .ok (.invokevirtual 27, 3) := by decide +kernel
theorem d7_27 : decode jdk_78_method_3_code 27 = .ok (.pop, 1) := by decide +kernel
theorem d7_28 : decode jdk_78_method_3_code 28 = .ok (.aload_n 0, 1) := by decide +kernel
theorem d7_29 : decode jdk_78_method_3_code 29 = .ok (.aload_n 1, 1) := by decide +kernel
theorem d7_30 : decode jdk_78_method_3_code 30 = .ok (.putfield 31, 3) := by decide +kernel
theorem d7_33 : decode jdk_78_method_3_code 33 = .ok (.aload_n 0, 1) := by decide +kernel
theorem d7_34 : decode jdk_78_method_3_code 34 = .ok (.aload_n 2, 1) := by decide +kernel
theorem d7_35 : decode jdk_78_method_3_code 35 = .ok (.putfield 7, 3) := by decide +kernel
theorem d7_38 : decode jdk_78_method_3_code 38 = .ok (.return_, 1) := by decide +kernel
theorem d6_0 : decode jdk_59_method_3_code 0 = .ok (.aload_n 0, 1) := by decide +kernel
theorem d6_1 : decode jdk_59_method_3_code 1 = .ok (.aload_n 1, 1) := by decide +kernel
theorem d6_2 : decode jdk_59_method_3_code 2 = .ok (.aload_n 2, 1) := by decide +kernel
theorem d6_3 : decode jdk_59_method_3_code 3 = .ok (.invokespecial 10, 3) := by decide +kernel
theorem d6_6 : decode jdk_59_method_3_code 6 = .ok (.return_, 1) := by decide +kernel
theorem d5_0 : decode prog_1_method_1_code 0 = .ok (.aload_n 0, 1) := by decide +kernel
theorem d5_1 : decode prog_1_method_1_code 1 = .ok (.aload_n 3, 1) := by decide +kernel
theorem d5_2 : decode prog_1_method_1_code 2 = .ok (.aload 4, 2) := by decide +kernel
theorem d5_4 : decode prog_1_method_1_code 4 = .ok (.invokespecial 1, 3) := by decide +kernel
theorem d5_7 : decode prog_1_method_1_code 7 = .ok (.aload_n 0, 1) := by decide +kernel
theorem d5_8 : decode prog_1_method_1_code 8 = .ok (.iload_n 1, 1) := by decide +kernel
theorem d5_9 : decode prog_1_method_1_code 9 = .ok (.putfield 7, 3) := by decide +kernel
theorem d5_12 : decode prog_1_method_1_code 12 = .ok (.aload_n 0, 1) := by decide +kernel
theorem d5_13 : decode prog_1_method_1_code 13 = .ok (.iload_n 2, 1) := by decide +kernel
theorem d5_14 : decode prog_1_method_1_code 14 = .ok (.putfield 13, 3) := by decide +kernel
theorem d5_17 : decode prog_1_method_1_code 17 = .ok (.return_, 1) := by decide +kernel
theorem d4_0 : decode prog_1_method_2_code 0 = .ok (.new 8, 3) := by decide +kernel
theorem d4_3 : decode prog_1_method_2_code 3 = .ok (.dup, 1) := by decide +kernel
theorem d4_4 : decode prog_1_method_2_code 4 = .ok (.iconst 2, 1) := by decide +kernel
theorem d4_5 : decode prog_1_method_2_code 5 = .ok (.iconst 1, 1) := by decide +kernel
theorem d4_6 : decode prog_1_method_2_code 6 = .ok (.aload_n 0, 1) := by decide +kernel
theorem d4_7 : decode prog_1_method_2_code 7 = .ok (.aconst_null, 1) := by decide +kernel
theorem d4_8 : decode prog_1_method_2_code 8 = .ok (.invokespecial 17, 3) := by decide +kernel
theorem d4_11 : decode prog_1_method_2_code 11 = .ok (.areturn, 1) := by decide +kernel
theorem d10_0 : decode prog_1_method_5_code 0 = .ok (.aload_n 0, 1) := by decide +kernel
theorem d10_1 : decode prog_1_method_5_code 1 = .ok (.getfield 7, 3) := by decide +kernel
theorem d10_4 : decode prog_1_method_5_code 4 = .ok (.ireturn, 1) := by decide +kernel
theorem d11_0 : decode prog_1_method_6_code 0 = .ok (.aload_n 0, 1) := by decide +kernel
theorem d11_1 : decode prog_1_method_6_code 1 = .ok (.getfield 13, 3) := by decide +kernel
theorem d11_4 : decode prog_1_method_6_code 4 = .ok (.ireturn, 1) := by decide +kernel
theorem d12_0 : decode jdk_78_method_6_code 0 = .ok (.aload_n 0, 1) := by decide +kernel
theorem d12_1 : decode jdk_78_method_6_code 1 = .ok (.getfield 31, 3) := by decide +kernel
theorem d12_4 : decode jdk_78_method_6_code 4 = .ok (.areturn, 1) := by decide +kernel
theorem d2_0 : decode jdk_42_method_149_code 0 = .ok (.aload_n 0, 1) := by decide +kernel
theorem d2_1 : decode jdk_42_method_149_code 1 = .ok (.invokespecial 1, 3) := by decide +kernel
theorem d2_4 : decode jdk_42_method_149_code 4 = .ok (.iload_n 3, 1) := by decide +kernel
theorem d2_5 : decode jdk_42_method_149_code 5 = .ok (.ifCond .ne 22, 3) := by decide +kernel
theorem d2_8 : decode jdk_42_method_149_code 8 = .ok (.aload_n 0, 1) := by decide +kernel
theorem d2_9 : decode jdk_42_method_149_code 9 = .ok (.ldc 7, 2) := by decide +kernel
theorem d2_11 : decode jdk_42_method_149_code 11 = .ok (.getfield 9, 3) := by decide +kernel
theorem d2_14 : decode jdk_42_method_149_code 14 = .ok (.putfield 9, 3) := by decide +kernel
theorem d2_17 : decode jdk_42_method_149_code 17 = .ok (.aload_n 0, 1) := by decide +kernel
theorem d2_18 : decode jdk_42_method_149_code 18 = .ok (.ldc 7, 2) := by decide +kernel
theorem d2_20 : decode jdk_42_method_149_code 20 = .ok (.getfield 15, 3) := by decide +kernel
theorem d2_23 : decode jdk_42_method_149_code 23 = .ok (.putfield 15, 3) := by decide +kernel
theorem d2_26 : decode jdk_42_method_149_code 26 = .ok (.return_, 1) := by decide +kernel
theorem d1_0 : decode jdk_42_method_3_code 0 = .ok (.aload_n 0, 1) := by decide +kernel
theorem d1_1 : decode jdk_42_method_3_code 1 = .ok (.aload_n 1, 1) := by decide +kernel
theorem d1_2 : decode jdk_42_method_3_code 2 = .ok (.iconst 0, 1) := by decide +kernel
theorem d1_3 : decode jdk_42_method_3_code 3 = .ok (.aload_n 1, 1) := by decide +kernel
theorem d1_4 : decode jdk_42_method_3_code 4 = .ok (.arraylength, 1) := by decide +kernel
theorem d1_5 : decode jdk_42_method_3_code 5 = .ok (.aconst_null, 1) := by decide +kernel
theorem d1_6 : decode jdk_42_method_3_code 6 = .ok (.invokespecial 27, 3) := by decide +kernel
theorem d1_9 : decode jdk_42_method_3_code 9 = .ok (.return_, 1) := by decide +kernel
theorem pd_0 : parseMethodDescriptor "(Ljava/lang/String;Ljava/lang/Throwable;)V" = some ⟨[(.object "java/lang/String"), (.object "java/lang/Throwable")], none⟩ := by decide +kernel
theorem pd_1 : parseMethodDescriptor "(IZLjava/lang/String;Ljava/lang/Throwable;)V" = some ⟨[.int, .boolean, (.object "java/lang/String"), (.object "java/lang/Throwable")], none⟩ := by decide +kernel
theorem pd_2 : parseMethodDescriptor "([C)V" = some ⟨[(.array .char)], none⟩ := by decide +kernel
theorem pd_3 : parseMethodDescriptor "(Ljava/lang/String;)Lcom/example/exact_roles/exactroles/cli/CommandException;" = some ⟨[(.object "java/lang/String")], some (.object "com/example/exact_roles/exactroles/cli/CommandException")⟩ := by decide +kernel
theorem pd_4 : parseMethodDescriptor "()I" = some ⟨[], some .int⟩ := by decide +kernel
theorem pd_5 : parseMethodDescriptor "()Z" = some ⟨[], some .boolean⟩ := by decide +kernel
theorem pd_6 : parseMethodDescriptor "()Ljava/lang/String;" = some ⟨[], some (.object "java/lang/String")⟩ := by decide +kernel
theorem pd_7 : parseMethodDescriptor "()Ljava/lang/Throwable;" = some ⟨[], some (.object "java/lang/Throwable")⟩ := by decide +kernel
theorem pd_8 : parseMethodDescriptor "([CIILjava/lang/Void;)V" = some ⟨[(.array .char), .int, .int, (.object "java/lang/Void")], none⟩ := by decide +kernel
theorem plain_java_lang_Throwable : plainName "java/lang/Throwable" = true := by first | (simp [plainName, overriddenIn]; done) | decide +kernel
theorem plain_java_lang_Exception : plainName "java/lang/Exception" = true := by first | (simp [plainName, overriddenIn]; done) | decide +kernel
theorem plain_com_example_exact_roles_exactroles_cli_CommandException : plainName "com/example/exact_roles/exactroles/cli/CommandException" = true := by first | (simp [plainName, overriddenIn]; done) | decide +kernel
theorem plain_com_example_exact_roles_exactroles_cli_CommandExceptionUsagePinLaw : plainName "com/example/exact_roles/exactroles/cli/CommandExceptionUsagePinLaw" = true := by first | (simp [plainName, overriddenIn]; done) | decide +kernel
theorem plain_java_lang_String : plainName "java/lang/String" = true := by first | (simp [plainName, overriddenIn]; done) | decide +kernel
set_option maxRecDepth 65536 in
set_option maxHeartbeats 40000000 in
theorem rmE4 (l : Launch) (Z : State) (a0 : Array Value) (hw : ∀ d ∈ tables_1, d.before a0 Z = true) (h0 : Heap) (n0 : Nat) (Z0 : n0 ≤ h0.size) (x b : Addr) (g0 : n0 ≤ x) (A0 : Exa Z h0 x "java/lang/String") (V0 : Fld Z h0 x "java/lang/String" "value" "[B" .null) (C0 : Fld Z h0 x "java/lang/String" "coder" "B" (.int (0 : Int32))) : Con l Z EL y_11 jdk_42_method_149_code 6 none [] ({ frames := 1, cells := 4, slots := 8, locals := 14 } : Room) #[.ref x, .ref b, .int (0 : Int32), .int (0 : Int32), .null] h0 n0 (fun v h => v = none ∧ Keep h0 h [x] ∧ StrL Z h x []) := by
 refine Con.intro (own := "java/lang/String") rfl (plainFor_of_name plain_java_lang_String) (hEL hw) ?_
 intro p e s m below meth c s₁ hx hby hml hret hlk hnm W0
 refine Fi.cast (show entryFrame m #[.ref x, .ref b, .int (0 : Int32), .int (0 : Int32), .null] 6 = mkF m 0 #[.val (.ref x), .val (.ref b), .val (.int (0 : Int32)), .val (.int (0 : Int32)), .val .null, .unset] [] from by first | (simp [entryFrame, mkF, argsToLocals, Value.category]; done) | rfl) ?_
 refine Fi.by' (st' := (s₁.setTop (mkF m 1 #[.val (.ref x), .val (.ref b), .val (.int (0 : Int32)), .val (.int (0 : Int32)), .val .null, .unset] [.ref x]))) (fun t k => XS.aloadN W0.here hx rfl (hb hby d2_0) rfl rfl k) ?_
 refine W0.initO hx (ww hw 11 rfl) (ww hw 12 rfl) (ww hw 13 rfl) (g := (mkF m 1 #[.val (.ref x), .val (.ref b), .val (.int (0 : Int32)), .val (.int (0 : Int32)), .val .null, .unset] [.ref x])) rfl (by rw [hml]; rfl) rfl (hb hby d2_1) (by decide) (Wd := 0) (ble_ rfl) (by decide) (fun T1 W1 => ?_)
 refine Fi.by' (st' := (T1.setTop (mkF m 9 #[.val (.ref x), .val (.ref b), .val (.int (0 : Int32)), .val (.int (0 : Int32)), .val .null, .unset] [.ref x]))) (fun t k => ?_) ?_
 ·refine XS.iloadN W1.here hx rfl (hb hby d2_4) rfl ?_
  refine XS.ifNo W1.here hx rfl (hb hby d2_5) rfl ((if0 _ _).trans (teq (rfl : (0 : Int32) = 0)).2) ?_
  refine XS.aloadN W1.here hx rfl (hb hby d2_8) rfl rfl ?_
  exact k
 refine W1.ldc hx (ww hw 14 rfl) (wS hw) (by decide) ([] : List Int32) (by decide +kernel) (by decide +kernel) (g := (mkF m 9 #[.val (.ref x), .val (.ref b), .val (.int (0 : Int32)), .val (.int (0 : Int32)), .val .null, .unset] [.ref x])) rfl (hb hby d2_9) (n := 0) (by decide) (by decide) (by decide) (by decide) (fun T2 h2 a2 W2 E2 F2 => ?_)
 obtain ⟨t2, k2, f1, f2, f3, f4, f5, f6⟩ := F2
 have A2 := Exa.ext E2 A0
 have V2 := Fld.ext E2 V0
 have C2 := Fld.ext E2 C0
 refine W2.getF hx (ww hw 20 rfl) f2 (g := (mkF m 11 #[.val (.ref x), .val (.ref b), .val (.int (0 : Int32)), .val (.int (0 : Int32)), .val .null, .unset] [.ref a2, .ref x])) rfl rfl (hb hby d2_11) (fun T3 W3 => ?_)
 refine W3.putF hx (ww hw 20 rfl) V2 A2 (Or.inr ⟨(ww hw 16 rfl), rfl, hnm⟩) (ww hw 2 rfl) (ty := .array .byte) (by decide) rfl rfl (g := (mkF m 14 #[.val (.ref x), .val (.ref b), .val (.int (0 : Int32)), .val (.int (0 : Int32)), .val .null, .unset] [.ref t2, .ref x])) rfl rfl (hb hby d2_14) g0 (safe_null A2 V2 (ww hw 2 rfl)) (fun T4 h4 W4 R4 => ?_)
 have A4 := Exa.wr R4 A2
 have V4 : Fld Z h4 x "java/lang/String" "value" "[B" (.ref t2) := Fld.same R4 V2
 have C4 : Fld Z h4 x "java/lang/String" "coder" "B" (.int (0 : Int32)) := Fld.other R4 C2 (Or.inr (slot_ne (Or.inr (ww hw 17 rfl)) (Or.inr (ww hw 16 rfl)) (by decide) (t := .byte) (t' := .array .byte) (by decide) (by decide)))
 have B4 := Arv.other f4 R4 (Ne.symm (Exa.neArv A2 f4 (ww hw 2 rfl)))
 refine Fi.by' (st' := (T4.setTop (mkF m 18 #[.val (.ref x), .val (.ref b), .val (.int (0 : Int32)), .val (.int (0 : Int32)), .val .null, .unset] [.ref x]))) (fun t k => XS.aloadN W4.here hx rfl (hb hby d2_17) rfl rfl k) ?_
 refine W4.ldc hx (ww hw 14 rfl) (wS hw) (by decide) ([] : List Int32) (by decide +kernel) (by decide +kernel) (g := (mkF m 18 #[.val (.ref x), .val (.ref b), .val (.int (0 : Int32)), .val (.int (0 : Int32)), .val .null, .unset] [.ref x])) rfl (hb hby d2_18) (n := 0) (by decide) (by decide) (by decide) (by decide) (fun T5 h5 a5 W5 E5 F5 => ?_)
 obtain ⟨t5, k5, j1, j2, j3, j4, j5, j6⟩ := F5
 have A5 := Exa.ext E5 A4
 have C5 := Fld.ext E5 C4
 refine W5.getF hx (ww hw 21 rfl) j3 (g := (mkF m 20 #[.val (.ref x), .val (.ref b), .val (.int (0 : Int32)), .val (.int (0 : Int32)), .val .null, .unset] [.ref a5, .ref x])) rfl rfl (hb hby d2_20) (fun T6 W6 => ?_)
 refine W6.putSame hx (ww hw 21 rfl) C5 A5 (Or.inr ⟨(ww hw 17 rfl), rfl, hnm⟩) (ww hw 2 rfl) (ty := .byte) (by decide) rfl rfl (g := (mkF m 23 #[.val (.ref x), .val (.ref b), .val (.int (0 : Int32)), .val (.int (0 : Int32)), .val .null, .unset] [.int (0 : Int32), .ref x])) rfl rfl (hb hby d2_23) g0 (fun T7 W7 => ?_)
 exact W7.vret hx hlk hret (hb hby d2_26) ⟨rfl, (((Keep.refl h0 [x]).ext E2).wr R4 (Or.inl (List.mem_singleton.mpr rfl))).ext E5, t2, k2, A5, Fld.ext E5 V4, C5, B4.ext E5, fun _ q => (nomatch q), by decide⟩ (by decide) (by decide)
set_option maxRecDepth 65536 in
set_option maxHeartbeats 40000000 in
theorem rmE1 (l : Launch) (Z : State) (a0 : Array Value) (hw : ∀ d ∈ tables_1, d.before a0 Z = true) (h0 : Heap) (n0 : Nat) (Z0 : n0 ≤ h0.size) (x b : Addr) (g0 : n0 ≤ x) (A0 : Exa Z h0 x "java/lang/String") (V0 : Fld Z h0 x "java/lang/String" "value" "[B" .null) (C0 : Fld Z h0 x "java/lang/String" "coder" "B" (.int (0 : Int32))) {kC : ClassId} {dv : Value} (B0 : Arv Z h0 b kC .char (0 : Int32) [] dv) : Con l Z EL y_7 jdk_42_method_3_code 2 none [] ({ frames := 2, cells := 4, slots := 8, locals := 33 } : Room) #[.ref x, .ref b] h0 n0 (fun v h => v = none ∧ Keep h0 h [x] ∧ StrL Z h x []) := by
 refine Con.intro (own := "java/lang/String") rfl (plainFor_of_name plain_java_lang_String) (hEL hw) ?_
 intro p e s m below meth c s₁ hx hby hml hret hlk hnm W0
 refine Fi.cast (show entryFrame m #[.ref x, .ref b] 2 = mkF m 0 #[.val (.ref x), .val (.ref b)] [] from by first | (simp [entryFrame, mkF, argsToLocals, Value.category]; done) | rfl) ?_
 refine Fi.by' (st' := s₁.setTop (mkF m 4 #[.val (.ref x), .val (.ref b)] [.ref b, .int (0 : Int32), .ref b, .ref x])) (fun t k => ?_) ?_
 ·refine XS.aloadN W0.here hx rfl (hb hby d1_0) rfl rfl ?_
  refine XS.aloadN W0.here hx rfl (hb hby d1_1) rfl rfl ?_
  refine iconstZ W0.here hx rfl (hb hby d1_2) rfl ?_
  refine XS.aloadN W0.here hx rfl (hb hby d1_3) rfl rfl ?_
  exact k
 refine W0.alen hx B0 (g := (mkF m 4 #[.val (.ref x), .val (.ref b)] [.ref b, .int (0 : Int32), .ref b, .ref x])) rfl rfl (hb hby d1_4) ?_
 refine Fi.by' (st' := s₁.setTop (mkF m 6 #[.val (.ref x), .val (.ref b)] [.null, .int (0 : Int32), .int (0 : Int32), .ref b, .ref x])) (fun t k => XS.aconstNull W0.here hx rfl (hb hby d1_5) k) ?_
 refine W0.callI hx (y := y_11) rfl (ww hw 7 rfl) (ww hw 8 rfl) (ww hw 10 rfl) (by decide) (Pay.of_con (Wd := 0) (rmE4 l Z a0 hw h0 n0 Z0 x b g0 A0 V0 C0) (ww hw 10 rfl) (ww hw 3 rfl) (hEL hw) (by decide) (by decide)) (g := (mkF m 6 #[.val (.ref x), .val (.ref b)] [.null, .int (0 : Int32), .int (0 : Int32), .ref b, .ref x])) rfl (by rw [hml]; rfl) (a := x) (argsL := [.ref b, .int (0 : Int32), .int (0 : Int32), .null]) (rest := []) (lenOf pd_8 rfl) rfl rfl (ble_ rfl) (hb hby d1_6) (by decide) (by decide) (fun v1 T1 h1 W1 s1 q1 => ?_)
 obtain ⟨rfl, q2, q3⟩ := q1
 exact W1.vret hx hlk hret (hb hby d1_9) ⟨rfl, q2, q3⟩ (by decide) (by decide)
section Paid
variable {p : Program} {l : Launch} {e : Env} {R : Room} {s : State} {args : Array Value} {below : List Frame} {Z : State} {a0 : Array Value} {n0 : Nat} {h : Heap}
theorem payE (hw : ∀ d ∈ tables_1, d.before a0 Z = true) {Wd : Nat} {x b : Addr} {kC : ClassId} {dv : Value} (Z0 : n0 ≤ h.size) (g0 : n0 ≤ x) (A0 : Exa Z h x "java/lang/String") (V0 : Fld Z h x "java/lang/String" "value" "[B" .null) (C0 : Fld Z h x "java/lang/String" "coder" "B" (.int (0 : Int32))) (B0 : Arv Z h b kC .char (0 : Int32) [] dv) (hf : 3 ≤ R.frames) (hl : Wd + 46 ≤ R.locals) :
  Pay l R p e below s args Z EL n0 y_7 Wd #[.ref x, .ref b] h (fun v h' => v = none ∧ Keep h h' [x] ∧ StrL Z h' x []) 4 8 :=
 Pay.of_con (rm := ({ frames := 2, cells := 4, slots := 8, locals := 33 } : Room)) (rmE1 l Z a0 hw h n0 Z0 x b g0 A0 V0 C0 B0) (ww hw 6 rfl) (ww hw 3 rfl) (hEL hw) hf hl
theorem wsV {a0 : Array Value} {Z : State} (hw : ∀ d ∈ tables_1, d.before a0 Z = true) : ∀ d ∈ StrChars.Road.words, d.before a0 Z = true := fun d hd => hw d ((by decide +kernel : ∀ d ∈ StrChars.Road.words, d ∈ tables_1) d hd)
theorem payS (hw : ∀ d ∈ tables_1, d.before a0 Z = true) {Wd n : Nat} {x b : Addr} {kC : ClassId} {dv : Value} {cs : List Int32} {N z : Int32} (Z0 : n0 ≤ h.size) (g0 : n0 ≤ x) (A0 : Exa Z h x "java/lang/String") (V0 : Fld Z h x "java/lang/String" "value" "[B" .null) (C0 : Fld Z h x "java/lang/String" "coder" "B" (.int (0 : Int32))) (B0 : Arv Z h b kC .char N (cs.map Value.int) dv) (S : Sta Z h "java/lang/String" "COMPACT_STRINGS" "Z" (.int z)) (hz : ¬ z = 0)
  (hn : cs.length = n) (hN : N = Int32.ofNat n) (l0 : 0 < n) (l2 : n ≤ 4000) (hp : ∀ c ∈ cs, ¬ c < 0 ∧ ¬ (255 : Int32) < c) (hf : 4 ≤ R.frames) (hl : Wd + 65 ≤ R.locals) :
  Pay l R p e below s args Z EL n0 y_7 Wd #[.ref x, .ref b] h (fun v h' => v = none ∧ Keep h h' [x] ∧ StrL Z h' x cs) 1 n :=
 Pay.of_back (ws := [x]) (hEL hw) (fun vm0 hZ => Back.mono (StrChars.Road.backV (s := s.setVm vm0) hZ (wsV hw) (ww hw 2 rfl) g0 Z0 A0 V0 C0 B0 S hz hn hN l0 l2 hp rfl hf hl) (fun _ _ q => q) (fun _ _ v B _ q => by
  obtain ⟨L, ⟨q1, q2, q3, q4, q5, t, kb, -, -, -, q6, q7⟩, r1, r2, r3⟩ := q
  exact ⟨L, ⟨q2, q3, q1, q3, t, kb, q4, q6, q5, by rw [hn, ← hN]; exact q7, hp, by rw [hn]; exact l2⟩, r1, r2, r3⟩))
  (fun vm hZ hC y hy => by cases List.mem_singleton.mp hy; exact safe_null A0 V0 (ww hw 2 rfl) vm hZ hC)
end Paid
theorem wFill {a0 : Array Value} {Z : State} (hw : ∀ d ∈ tables_1, d.before a0 Z = true) : ∀ d ∈ Jvm.OwnX.fillW "com/example/exact_roles/exactroles/cli/CommandException", d.before a0 Z = true := fun d hd => hw d ((by decide +kernel : ∀ d ∈ Jvm.OwnX.fillW "com/example/exact_roles/exactroles/cli/CommandException", d ∈ tables_1) d hd)
def Q_thi (Z : State) (x : Addr) (mv uu sn : Value) (h0 : Heap) (v : Option Value) (h : Heap) : Prop := v = none ∧ Keep h0 h [x] ∧ Exa Z h x "com/example/exact_roles/exactroles/cli/CommandException" ∧ Unt h x ∧ Fld Z h x "com/example/exact_roles/exactroles/cli/CommandException" "status" "I" (.int (0 : Int32)) ∧ Fld Z h x "com/example/exact_roles/exactroles/cli/CommandException" "showsUsage" "Z" (.int (0 : Int32)) ∧ Fld Z h x "java/lang/Throwable" "detailMessage" "Ljava/lang/String;" mv ∧ Fld Z h x "java/lang/Throwable" "cause" "Ljava/lang/Throwable;" .null
set_option maxRecDepth 65536 in
set_option maxHeartbeats 40000000 in
theorem rm_thi (l : Launch) (Z : State) (a0 : Array Value) (hw : ∀ d ∈ tables_1, d.before a0 Z = true) (hTK : Z.vm.MethodsKnown) (hst : l.stackTraces = true) (r2 : ∀ d ∈ twoRefs, d.before a0 Z = true) (x : Addr) (mv uu sn : Value) (h0 : Heap) (n0 : Nat) (Z0 : n0 ≤ h0.size) (hn : @Eq Nat n0 x) (H0 : ThS Z h0) (S1 : Sta Z h0 "java/lang/Throwable" "UNASSIGNED_STACK" "[Ljava/lang/StackTraceElement;" uu) (S2 : Sta Z h0 "java/lang/Throwable" "SUPPRESSED_SENTINEL" "Ljava/util/List;" sn) (hu : uu.isRef = true) (hv : sn.isRef = true) (hla : @LE.le Nat _ h0.size (x + 1)) (A0 : Exa Z h0 x "com/example/exact_roles/exactroles/cli/CommandException") (N0 : Unt h0 x) (hm : mv.isRef = true) (F0_cause : Fld Z h0 x "java/lang/Throwable" "cause" "Ljava/lang/Throwable;" .null) (F0_stackTrace : Fld Z h0 x "java/lang/Throwable" "stackTrace" "[Ljava/lang/StackTraceElement;" .null) (F0_suppressedExceptions : Fld Z h0 x "java/lang/Throwable" "suppressedExceptions" "Ljava/util/List;" .null) (F0_backtrace : Fld Z h0 x "java/lang/Throwable" "backtrace" "Ljava/lang/Object;" .null) (F0_detailMessage : Fld Z h0 x "java/lang/Throwable" "detailMessage" "Ljava/lang/String;" .null) (F0_status : Fld Z h0 x "com/example/exact_roles/exactroles/cli/CommandException" "status" "I" (.int (0 : Int32))) (F0_showsUsage : Fld Z h0 x "com/example/exact_roles/exactroles/cli/CommandException" "showsUsage" "Z" (.int (0 : Int32))) :
  ConK l Z EL y_0 jdk_78_method_3_code 3 none [] ({ frames := 3, cells := 1, slots := 2752, locals := 42 } : Room) #[(.ref x), mv, .null] h0 n0 (Q_thi Z x mv uu sn h0) := by
 refine ConK.intro (own := "java/lang/Throwable") rfl (plainFor_of_name plain_java_lang_Throwable) (hEL hw) ?_
 intro p e s m below meth c s₁ hx hby hml hret hlk hnm hZs hh0 hBl W0
 refine Fi.cast (show entryFrame m #[(.ref x), mv, .null] 3 = (mkF m 0 #[.val (.ref x), .val mv, .val .null] []) from by first | (simp [entryFrame, mkF, argsToLocals, Value.category]; done) | rfl | (rcases ref_cases hm with rfl | ⟨_, rfl⟩ <;> rfl)) ?_
 have g0 : n0 ≤ x := by omega
 refine Fi.by' (st' := s₁.setTop (mkF m 1 #[.val (.ref x), .val mv, .val .null] [(.ref x)])) (fun t k => ?_) ?_
 ·refine XS.aloadN W0.here hx rfl (hb hby d7_0) rfl rfl ?_
  exact k
 refine W0.initO hx (ww hw 42 rfl) (ww hw 12 rfl) (ww hw 13 rfl) (g := (mkF m 1 #[.val (.ref x), .val mv, .val .null] [(.ref x)])) rfl (by rw [hml]; rfl) rfl (hb hby d7_1) (by decide) (Wd := 0) (ble_ rfl) (by decide) (fun T1 W1 => ?_)
 change Fi _ _ _ _ _ _ _ _ _ _ (T1.setTop (mkF m 4 #[.val (.ref x), .val mv, .val .null] []))
 refine Fi.by' (st' := T1.setTop (mkF m 6 #[.val (.ref x), .val mv, .val .null] [(.ref x), (.ref x)])) (fun t k => ?_) ?_
 ·refine XS.aloadN W1.here hx rfl (hb hby d7_4) rfl rfl ?_
  refine XS.aloadN W1.here hx rfl (hb hby d7_5) rfl rfl ?_
  exact k
 refine W1.putF hx (ww hw 43 rfl) F0_cause A0 (Or.inl (ww hw 44 rfl)) (ww hw 27 rfl) (ty := (.object "java/lang/Throwable")) (by decide) rfl rfl (g := (mkF m 6 #[.val (.ref x), .val mv, .val .null] [(.ref x), (.ref x)])) rfl rfl (hb hby d7_6) g0 (safe_exa A0 (by decide) (by decide)) (fun T2 h2 W2 R2 => ?_)
 change Fi _ _ _ _ _ _ _ _ _ _ (T2.setTop (mkF m 9 #[.val (.ref x), .val mv, .val .null] []))
 have K2 := (Keep.refl h0 [x]).wr R2 (Or.inl (List.mem_singleton.mpr rfl))
 have A2 := Exa.wr R2 A0
 have F2_cause := Fld.same R2 F0_cause
 have F2_stackTrace := Fld.other R2 F0_stackTrace (Or.inr (slot_ne (Or.inl (ww hw 47 rfl)) (Or.inl (ww hw 44 rfl)) (by decide) (t := (.array (.object "java/lang/StackTraceElement"))) (t' := (.object "java/lang/Throwable")) (by decide) (by decide)))
 have F2_suppressedExceptions := Fld.other R2 F0_suppressedExceptions (Or.inr (slot_ne (Or.inl (ww hw 50 rfl)) (Or.inl (ww hw 44 rfl)) (by decide) (t := (.object "java/util/List")) (t' := (.object "java/lang/Throwable")) (by decide) (by decide)))
 have F2_backtrace := Fld.other R2 F0_backtrace (Or.inr (slot_ne (Or.inl (ww hw 75 rfl)) (Or.inl (ww hw 44 rfl)) (by decide) (t := (.object "java/lang/Object")) (t' := (.object "java/lang/Throwable")) (by decide) (by decide)))
 have F2_detailMessage := Fld.other R2 F0_detailMessage (Or.inr (slot_ne (Or.inl (ww hw 74 rfl)) (Or.inl (ww hw 44 rfl)) (by decide) (t := (.object "java/lang/String")) (t' := (.object "java/lang/Throwable")) (by decide) (by decide)))
 have F2_status := Fld.other R2 F0_status (Or.inr (slot_ne (Or.inr (ww hw 80 rfl)) (Or.inl (ww hw 44 rfl)) (by decide) (t := .int) (t' := (.object "java/lang/Throwable")) (by decide) (by decide)))
 have F2_showsUsage := Fld.other R2 F0_showsUsage (Or.inr (slot_ne (Or.inr (ww hw 82 rfl)) (Or.inl (ww hw 44 rfl)) (by decide) (t := .boolean) (t' := (.object "java/lang/Throwable")) (by decide) (by decide)))
 have sz2 := R2.size
 have N2 := Unt.wr R2 N0
 have S2_UNASSIGNED_STACK := Sta.wr R2 S1
 have S2_SUPPRESSED_SENTINEL := Sta.wr R2 S2
 refine Fi.by' (st' := T2.setTop (mkF m 10 #[.val (.ref x), .val mv, .val .null] [(.ref x)])) (fun t k => ?_) ?_
 ·refine XS.aloadN W2.here hx rfl (hb hby d7_9) rfl rfl ?_
  exact k
 refine W2.getS hx (ww hw 45 rfl) S2_UNASSIGNED_STACK (g := (mkF m 10 #[.val (.ref x), .val mv, .val .null] [(.ref x)])) rfl (hb hby d7_10) (fun T3 W3 => ?_)
 change Fi _ _ _ _ _ _ _ _ _ _ (T3.setTop (mkF m 13 #[.val (.ref x), .val mv, .val .null] [uu, (.ref x)]))
 refine W3.putF hx (ww hw 46 rfl) F2_stackTrace A2 (Or.inl (ww hw 47 rfl)) (ww hw 27 rfl) (ty := (.array (.object "java/lang/StackTraceElement"))) (by decide) (narrow_isRef _ hu) (fits_refV_array _ ⟨uu, hu⟩) (g := (mkF m 13 #[.val (.ref x), .val mv, .val .null] [uu, (.ref x)])) rfl rfl (hb hby d7_13) g0 (safe_exa A2 (by decide) (by decide)) (fun T4 h4 W4 R4 => ?_)
 change Fi _ _ _ _ _ _ _ _ _ _ (T4.setTop (mkF m 16 #[.val (.ref x), .val mv, .val .null] []))
 have K4 := K2.wr R4 (Or.inl (List.mem_singleton.mpr rfl))
 have A4 := Exa.wr R4 A2
 have F4_cause := Fld.other R4 F2_cause (Or.inr (slot_ne (Or.inl (ww hw 44 rfl)) (Or.inl (ww hw 47 rfl)) (by decide) (t := (.object "java/lang/Throwable")) (t' := (.array (.object "java/lang/StackTraceElement"))) (by decide) (by decide)))
 have F4_stackTrace := Fld.same R4 F2_stackTrace
 have F4_suppressedExceptions := Fld.other R4 F2_suppressedExceptions (Or.inr (slot_ne (Or.inl (ww hw 50 rfl)) (Or.inl (ww hw 47 rfl)) (by decide) (t := (.object "java/util/List")) (t' := (.array (.object "java/lang/StackTraceElement"))) (by decide) (by decide)))
 have F4_backtrace := Fld.other R4 F2_backtrace (Or.inr (slot_ne (Or.inl (ww hw 75 rfl)) (Or.inl (ww hw 47 rfl)) (by decide) (t := (.object "java/lang/Object")) (t' := (.array (.object "java/lang/StackTraceElement"))) (by decide) (by decide)))
 have F4_detailMessage := Fld.other R4 F2_detailMessage (Or.inr (slot_ne (Or.inl (ww hw 74 rfl)) (Or.inl (ww hw 47 rfl)) (by decide) (t := (.object "java/lang/String")) (t' := (.array (.object "java/lang/StackTraceElement"))) (by decide) (by decide)))
 have F4_status := Fld.other R4 F2_status (Or.inr (slot_ne (Or.inr (ww hw 80 rfl)) (Or.inl (ww hw 47 rfl)) (by decide) (t := .int) (t' := (.array (.object "java/lang/StackTraceElement"))) (by decide) (by decide)))
 have F4_showsUsage := Fld.other R4 F2_showsUsage (Or.inr (slot_ne (Or.inr (ww hw 82 rfl)) (Or.inl (ww hw 47 rfl)) (by decide) (t := .boolean) (t' := (.array (.object "java/lang/StackTraceElement"))) (by decide) (by decide)))
 have sz4 := R4.size
 have N4 := Unt.wr R4 N2
 have S4_UNASSIGNED_STACK := Sta.wr R4 S2_UNASSIGNED_STACK
 have S4_SUPPRESSED_SENTINEL := Sta.wr R4 S2_SUPPRESSED_SENTINEL
 refine Fi.by' (st' := T4.setTop (mkF m 17 #[.val (.ref x), .val mv, .val .null] [(.ref x)])) (fun t k => ?_) ?_
 ·refine XS.aloadN W4.here hx rfl (hb hby d7_16) rfl rfl ?_
  exact k
 refine W4.getS hx (ww hw 48 rfl) S4_SUPPRESSED_SENTINEL (g := (mkF m 17 #[.val (.ref x), .val mv, .val .null] [(.ref x)])) rfl (hb hby d7_17) (fun T5 W5 => ?_)
 change Fi _ _ _ _ _ _ _ _ _ _ (T5.setTop (mkF m 20 #[.val (.ref x), .val mv, .val .null] [sn, (.ref x)]))
 refine W5.putF hx (ww hw 49 rfl) F4_suppressedExceptions A4 (Or.inl (ww hw 50 rfl)) (ww hw 27 rfl) (ty := (.object "java/util/List")) (by decide) (narrow_isRef _ hv) (fits_refV_object _ ⟨sn, hv⟩) (g := (mkF m 20 #[.val (.ref x), .val mv, .val .null] [sn, (.ref x)])) rfl rfl (hb hby d7_20) g0 (safe_exa A4 (by decide) (by decide)) (fun T6 h6 W6 R6 => ?_)
 change Fi _ _ _ _ _ _ _ _ _ _ (T6.setTop (mkF m 23 #[.val (.ref x), .val mv, .val .null] []))
 have K6 := K4.wr R6 (Or.inl (List.mem_singleton.mpr rfl))
 have A6 := Exa.wr R6 A4
 have F6_cause := Fld.other R6 F4_cause (Or.inr (slot_ne (Or.inl (ww hw 44 rfl)) (Or.inl (ww hw 50 rfl)) (by decide) (t := (.object "java/lang/Throwable")) (t' := (.object "java/util/List")) (by decide) (by decide)))
 have F6_stackTrace := Fld.other R6 F4_stackTrace (Or.inr (slot_ne (Or.inl (ww hw 47 rfl)) (Or.inl (ww hw 50 rfl)) (by decide) (t := (.array (.object "java/lang/StackTraceElement"))) (t' := (.object "java/util/List")) (by decide) (by decide)))
 have F6_suppressedExceptions := Fld.same R6 F4_suppressedExceptions
 have F6_backtrace := Fld.other R6 F4_backtrace (Or.inr (slot_ne (Or.inl (ww hw 75 rfl)) (Or.inl (ww hw 50 rfl)) (by decide) (t := (.object "java/lang/Object")) (t' := (.object "java/util/List")) (by decide) (by decide)))
 have F6_detailMessage := Fld.other R6 F4_detailMessage (Or.inr (slot_ne (Or.inl (ww hw 74 rfl)) (Or.inl (ww hw 50 rfl)) (by decide) (t := (.object "java/lang/String")) (t' := (.object "java/util/List")) (by decide) (by decide)))
 have F6_status := Fld.other R6 F4_status (Or.inr (slot_ne (Or.inr (ww hw 80 rfl)) (Or.inl (ww hw 50 rfl)) (by decide) (t := .int) (t' := (.object "java/util/List")) (by decide) (by decide)))
 have F6_showsUsage := Fld.other R6 F4_showsUsage (Or.inr (slot_ne (Or.inr (ww hw 82 rfl)) (Or.inl (ww hw 50 rfl)) (by decide) (t := .boolean) (t' := (.object "java/util/List")) (by decide) (by decide)))
 have sz6 := R6.size
 have N6 := Unt.wr R6 N4
 have S6_UNASSIGNED_STACK := Sta.wr R6 S4_UNASSIGNED_STACK
 have S6_SUPPRESSED_SENTINEL := Sta.wr R6 S4_SUPPRESSED_SENTINEL
 refine Fi.by' (st' := T6.setTop (mkF m 24 #[.val (.ref x), .val mv, .val .null] [(.ref x)])) (fun t k => ?_) ?_
 ·refine XS.aloadN W6.here hx rfl (hb hby d7_23) rfl rfl ?_
  exact k
 refine Jvm.OwnX.Wk.fill W6 hx hst (X := "com/example/exact_roles/exactroles/cli/CommandException") (by decide) (wFill hw) (ww hw 27 rfl) (by rw [hh0]; exact H0) hTK hZs hBl hn.symm (by rw [hh0]; omega) (by rw [hh0]; exact hla) A6 N6 hu S6_UNASSIGNED_STACK F6_stackTrace F6_backtrace (g := (mkF m 24 #[.val (.ref x), .val mv, .val .null] [(.ref x)])) rfl (by rw [hml]; rfl) rfl (hb hby d7_24) (by decide) (Wd := 0) (ble_ rfl) (by decide) (by decide) (by decide) (fun T7 h7 W7 K7 A7 N7 G7 => ?_)
 change Fi _ _ _ _ _ _ _ _ _ _ (T7.setTop (mkF m 27 #[.val (.ref x), .val mv, .val .null] [(.ref x)]))
 have F7_cause := G7 F6_cause (slot_ne (Or.inl (ww hw 75 rfl)) (Or.inl (ww hw 44 rfl)) (by decide) (t := (.object "java/lang/Object")) (t' := (.object "java/lang/Throwable")) (by decide) (by decide)) (slot_ne (Or.inl (ww hw 76 rfl)) (Or.inl (ww hw 44 rfl)) (by decide) (t := .int) (t' := (.object "java/lang/Throwable")) (by decide) (by decide)) (slot_ne (Or.inl (ww hw 47 rfl)) (Or.inl (ww hw 44 rfl)) (by decide) (t := (.array (.object "java/lang/StackTraceElement"))) (t' := (.object "java/lang/Throwable")) (by decide) (by decide))
 have F7_suppressedExceptions := G7 F6_suppressedExceptions (slot_ne (Or.inl (ww hw 75 rfl)) (Or.inl (ww hw 50 rfl)) (by decide) (t := (.object "java/lang/Object")) (t' := (.object "java/util/List")) (by decide) (by decide)) (slot_ne (Or.inl (ww hw 76 rfl)) (Or.inl (ww hw 50 rfl)) (by decide) (t := .int) (t' := (.object "java/util/List")) (by decide) (by decide)) (slot_ne (Or.inl (ww hw 47 rfl)) (Or.inl (ww hw 50 rfl)) (by decide) (t := (.array (.object "java/lang/StackTraceElement"))) (t' := (.object "java/util/List")) (by decide) (by decide))
 have F7_detailMessage := G7 F6_detailMessage (slot_ne (Or.inl (ww hw 75 rfl)) (Or.inl (ww hw 74 rfl)) (by decide) (t := (.object "java/lang/Object")) (t' := (.object "java/lang/String")) (by decide) (by decide)) (slot_ne (Or.inl (ww hw 76 rfl)) (Or.inl (ww hw 74 rfl)) (by decide) (t := .int) (t' := (.object "java/lang/String")) (by decide) (by decide)) (slot_ne (Or.inl (ww hw 47 rfl)) (Or.inl (ww hw 74 rfl)) (by decide) (t := (.array (.object "java/lang/StackTraceElement"))) (t' := (.object "java/lang/String")) (by decide) (by decide))
 have F7_status := G7 F6_status (slot_ne (Or.inl (ww hw 75 rfl)) (Or.inr (ww hw 80 rfl)) (by decide) (t := (.object "java/lang/Object")) (t' := .int) (by decide) (by decide)) (slot_ne (Or.inl (ww hw 76 rfl)) (Or.inr (ww hw 80 rfl)) (by decide) (t := .int) (t' := .int) (by decide) (by decide)) (slot_ne (Or.inl (ww hw 47 rfl)) (Or.inr (ww hw 80 rfl)) (by decide) (t := (.array (.object "java/lang/StackTraceElement"))) (t' := .int) (by decide) (by decide))
 have F7_showsUsage := G7 F6_showsUsage (slot_ne (Or.inl (ww hw 75 rfl)) (Or.inr (ww hw 82 rfl)) (by decide) (t := (.object "java/lang/Object")) (t' := .boolean) (by decide) (by decide)) (slot_ne (Or.inl (ww hw 76 rfl)) (Or.inr (ww hw 82 rfl)) (by decide) (t := .int) (t' := .boolean) (by decide) (by decide)) (slot_ne (Or.inl (ww hw 47 rfl)) (Or.inr (ww hw 82 rfl)) (by decide) (t := (.array (.object "java/lang/StackTraceElement"))) (t' := .boolean) (by decide) (by decide))
 have sz7 := K7.1
 refine Fi.by' (st' := T7.setTop (mkF m 30 #[.val (.ref x), .val mv, .val .null] [mv, (.ref x)])) (fun t k => ?_) ?_
 ·refine XS.pop W7.here hx rfl (hb hby d7_27) rfl rfl ?_
  refine XS.aloadN W7.here hx rfl (hb hby d7_28) rfl rfl ?_
  refine XS.aloadN W7.here hx rfl (hb hby d7_29) rfl hm ?_
  exact k
 refine W7.putF hx (ww hw 78 rfl) F7_detailMessage A7 (Or.inl (ww hw 74 rfl)) (ww hw 27 rfl) (ty := (.object "java/lang/String")) (by decide) (narrow_isRef _ hm) (fits_refV_object _ ⟨mv, hm⟩) (g := (mkF m 30 #[.val (.ref x), .val mv, .val .null] [mv, (.ref x)])) rfl rfl (hb hby d7_30) g0 (safe_exa A7 (by decide) (by decide)) (fun T8 h8 W8 R8 => ?_)
 change Fi _ _ _ _ _ _ _ _ _ _ (T8.setTop (mkF m 33 #[.val (.ref x), .val mv, .val .null] []))
 have K8 := (K6.trans K7 (fun y hy => Or.inl hy)).wr R8 (Or.inl (List.mem_singleton.mpr rfl))
 have A8 := Exa.wr R8 A7
 have F8_cause := Fld.other R8 F7_cause (Or.inr (slot_ne (Or.inl (ww hw 44 rfl)) (Or.inl (ww hw 74 rfl)) (by decide) (t := (.object "java/lang/Throwable")) (t' := (.object "java/lang/String")) (by decide) (by decide)))
 have F8_suppressedExceptions := Fld.other R8 F7_suppressedExceptions (Or.inr (slot_ne (Or.inl (ww hw 50 rfl)) (Or.inl (ww hw 74 rfl)) (by decide) (t := (.object "java/util/List")) (t' := (.object "java/lang/String")) (by decide) (by decide)))
 have F8_detailMessage := Fld.same R8 F7_detailMessage
 have F8_status := Fld.other R8 F7_status (Or.inr (slot_ne (Or.inr (ww hw 80 rfl)) (Or.inl (ww hw 74 rfl)) (by decide) (t := .int) (t' := (.object "java/lang/String")) (by decide) (by decide)))
 have F8_showsUsage := Fld.other R8 F7_showsUsage (Or.inr (slot_ne (Or.inr (ww hw 82 rfl)) (Or.inl (ww hw 74 rfl)) (by decide) (t := .boolean) (t' := (.object "java/lang/String")) (by decide) (by decide)))
 have sz8 := R8.size
 have N8 := Unt.wr R8 N7
 refine Fi.by' (st' := T8.setTop (mkF m 35 #[.val (.ref x), .val mv, .val .null] [.null, (.ref x)])) (fun t k => ?_) ?_
 ·refine XS.aloadN W8.here hx rfl (hb hby d7_33) rfl rfl ?_
  refine XS.aloadN W8.here hx rfl (hb hby d7_34) rfl rfl ?_
  exact k
 refine W8.putF hx (ww hw 43 rfl) F8_cause A8 (Or.inl (ww hw 44 rfl)) (ww hw 27 rfl) (ty := (.object "java/lang/Throwable")) (by decide) rfl rfl (g := (mkF m 35 #[.val (.ref x), .val mv, .val .null] [.null, (.ref x)])) rfl rfl (hb hby d7_35) g0 (safe_exa A8 (by decide) (by decide)) (fun T9 h9 W9 R9 => ?_)
 change Fi _ _ _ _ _ _ _ _ _ _ (T9.setTop (mkF m 38 #[.val (.ref x), .val mv, .val .null] []))
 have K9 := K8.wr R9 (Or.inl (List.mem_singleton.mpr rfl))
 have A9 := Exa.wr R9 A8
 have F9_cause := Fld.same R9 F8_cause
 have F9_suppressedExceptions := Fld.other R9 F8_suppressedExceptions (Or.inr (slot_ne (Or.inl (ww hw 50 rfl)) (Or.inl (ww hw 44 rfl)) (by decide) (t := (.object "java/util/List")) (t' := (.object "java/lang/Throwable")) (by decide) (by decide)))
 have F9_detailMessage := Fld.other R9 F8_detailMessage (Or.inr (slot_ne (Or.inl (ww hw 74 rfl)) (Or.inl (ww hw 44 rfl)) (by decide) (t := (.object "java/lang/String")) (t' := (.object "java/lang/Throwable")) (by decide) (by decide)))
 have F9_status := Fld.other R9 F8_status (Or.inr (slot_ne (Or.inr (ww hw 80 rfl)) (Or.inl (ww hw 44 rfl)) (by decide) (t := .int) (t' := (.object "java/lang/Throwable")) (by decide) (by decide)))
 have F9_showsUsage := Fld.other R9 F8_showsUsage (Or.inr (slot_ne (Or.inr (ww hw 82 rfl)) (Or.inl (ww hw 44 rfl)) (by decide) (t := .boolean) (t' := (.object "java/lang/Throwable")) (by decide) (by decide)))
 have sz9 := R9.size
 have N9 := Unt.wr R9 N8
 exact W9.vret hx hlk hret (hb hby d7_38) ⟨rfl, K9, A9, N9, F9_status, F9_showsUsage, F9_detailMessage, F9_cause⟩ (by decide) (by decide)
def Q_exi (Z : State) (x : Addr) (mv uu sn : Value) (h0 : Heap) (v : Option Value) (h : Heap) : Prop := v = none ∧ Keep h0 h [x] ∧ Exa Z h x "com/example/exact_roles/exactroles/cli/CommandException" ∧ Unt h x ∧ Fld Z h x "com/example/exact_roles/exactroles/cli/CommandException" "status" "I" (.int (0 : Int32)) ∧ Fld Z h x "com/example/exact_roles/exactroles/cli/CommandException" "showsUsage" "Z" (.int (0 : Int32)) ∧ Fld Z h x "java/lang/Throwable" "detailMessage" "Ljava/lang/String;" mv ∧ Fld Z h x "java/lang/Throwable" "cause" "Ljava/lang/Throwable;" .null
set_option maxRecDepth 65536 in
set_option maxHeartbeats 40000000 in
theorem rm_exi (l : Launch) (Z : State) (a0 : Array Value) (hw : ∀ d ∈ tables_1, d.before a0 Z = true) (hTK : Z.vm.MethodsKnown) (hst : l.stackTraces = true) (r2 : ∀ d ∈ twoRefs, d.before a0 Z = true) (x : Addr) (mv uu sn : Value) (h0 : Heap) (n0 : Nat) (Z0 : n0 ≤ h0.size) (hn : @Eq Nat n0 x) (H0 : ThS Z h0) (S1 : Sta Z h0 "java/lang/Throwable" "UNASSIGNED_STACK" "[Ljava/lang/StackTraceElement;" uu) (S2 : Sta Z h0 "java/lang/Throwable" "SUPPRESSED_SENTINEL" "Ljava/util/List;" sn) (hu : uu.isRef = true) (hv : sn.isRef = true) (hla : @LE.le Nat _ h0.size (x + 1)) (A0 : Exa Z h0 x "com/example/exact_roles/exactroles/cli/CommandException") (N0 : Unt h0 x) (hm : mv.isRef = true) (F0_cause : Fld Z h0 x "java/lang/Throwable" "cause" "Ljava/lang/Throwable;" .null) (F0_stackTrace : Fld Z h0 x "java/lang/Throwable" "stackTrace" "[Ljava/lang/StackTraceElement;" .null) (F0_suppressedExceptions : Fld Z h0 x "java/lang/Throwable" "suppressedExceptions" "Ljava/util/List;" .null) (F0_backtrace : Fld Z h0 x "java/lang/Throwable" "backtrace" "Ljava/lang/Object;" .null) (F0_detailMessage : Fld Z h0 x "java/lang/Throwable" "detailMessage" "Ljava/lang/String;" .null) (F0_status : Fld Z h0 x "com/example/exact_roles/exactroles/cli/CommandException" "status" "I" (.int (0 : Int32))) (F0_showsUsage : Fld Z h0 x "com/example/exact_roles/exactroles/cli/CommandException" "showsUsage" "Z" (.int (0 : Int32))) :
  ConK l Z EL y_1 jdk_59_method_3_code 3 none [] ({ frames := 4, cells := 1, slots := 2752, locals := 56 } : Room) #[(.ref x), mv, .null] h0 n0 (Q_exi Z x mv uu sn h0) := by
 refine ConK.intro (own := "java/lang/Exception") rfl (plainFor_of_name plain_java_lang_Exception) (hEL hw) ?_
 intro p e s m below meth c s₁ hx hby hml hret hlk hnm hZs hh0 hBl W0
 refine Fi.cast (show entryFrame m #[(.ref x), mv, .null] 3 = (mkF m 0 #[.val (.ref x), .val mv, .val .null] []) from by first | (simp [entryFrame, mkF, argsToLocals, Value.category]; done) | rfl | (rcases ref_cases hm with rfl | ⟨_, rfl⟩ <;> rfl)) ?_
 refine Fi.by' (st' := s₁.setTop (mkF m 3 #[.val (.ref x), .val mv, .val .null] [.null, mv, (.ref x)])) (fun t k => ?_) ?_
 ·refine XS.aloadN W0.here hx rfl (hb hby d6_0) rfl rfl ?_
  refine XS.aloadN W0.here hx rfl (hb hby d6_1) rfl hm ?_
  refine XS.aloadN W0.here hx rfl (hb hby d6_2) rfl rfl ?_
  exact k
 refine W0.callI hx (y := y_0) rfl (ww hw 36 rfl) (ww hw 37 rfl) (ww hw 41 rfl) (by decide) (Pay.of_conK (Wd := 0) (rm_thi l Z a0 hw hTK hst r2 x mv uu sn h0 n0 (by omega) hn H0 S1 S2 hu hv hla A0 N0 hm F0_cause F0_stackTrace F0_suppressedExceptions F0_backtrace F0_detailMessage F0_status F0_showsUsage) (ww hw 41 rfl) (ww hw 40 rfl) (hEL hw) hTK hZs hBl (by decide) (by decide)) (a := x) (g := (mkF m 3 #[.val (.ref x), .val mv, .val .null] [.null, mv, (.ref x)])) rfl (by rw [hml]; rfl) (argsL := [mv, .null]) (rest := []) (lenOf pd_0 rfl) rfl rfl (ble_ rfl) (hb hby d6_3) (by decide) (by decide) (fun v1 T1 h1 W1 sz1 q1 => ?_)
 obtain ⟨rfl, Y1⟩ := q1
 change Fi _ _ _ _ _ _ _ _ _ _ (T1.setTop (mkF m 6 #[.val (.ref x), .val mv, .val .null] []))
 exact W1.vret hx hlk hret (hb hby d6_6) ⟨rfl, Y1⟩ (by decide) (by decide)
def Q_init (Z : State) (x : Addr) (st us : Int32) (mv uu sn : Value) (h0 : Heap) (v : Option Value) (h : Heap) : Prop := v = none ∧ Keep h0 h [x] ∧ Exa Z h x "com/example/exact_roles/exactroles/cli/CommandException" ∧ Unt h x ∧ Fld Z h x "com/example/exact_roles/exactroles/cli/CommandException" "status" "I" (.int st) ∧ Fld Z h x "com/example/exact_roles/exactroles/cli/CommandException" "showsUsage" "Z" (.int us) ∧ Fld Z h x "java/lang/Throwable" "detailMessage" "Ljava/lang/String;" mv ∧ Fld Z h x "java/lang/Throwable" "cause" "Ljava/lang/Throwable;" .null
set_option maxRecDepth 65536 in
set_option maxHeartbeats 40000000 in
theorem rm_init (l : Launch) (Z : State) (a0 : Array Value) (hw : ∀ d ∈ tables_1, d.before a0 Z = true) (hTK : Z.vm.MethodsKnown) (hst : l.stackTraces = true) (r2 : ∀ d ∈ twoRefs, d.before a0 Z = true) (x : Addr) (st us : Int32) (mv uu sn : Value) (h0 : Heap) (n0 : Nat) (Z0 : n0 ≤ h0.size) (g0 : n0 ≤ x) (hxs : @LE.le Nat _ x h0.size) (H0 : ThS Z h0) (S1 : Sta Z h0 "java/lang/Throwable" "UNASSIGNED_STACK" "[Ljava/lang/StackTraceElement;" uu) (S2 : Sta Z h0 "java/lang/Throwable" "SUPPRESSED_SENTINEL" "Ljava/util/List;" sn) (hu : uu.isRef = true) (hv : sn.isRef = true) (hla : @LE.le Nat _ h0.size (x + 1)) (A0 : Exa Z h0 x "com/example/exact_roles/exactroles/cli/CommandException") (N0 : Unt h0 x) (hm : mv.isRef = true) (F0_cause : Fld Z h0 x "java/lang/Throwable" "cause" "Ljava/lang/Throwable;" .null) (F0_stackTrace : Fld Z h0 x "java/lang/Throwable" "stackTrace" "[Ljava/lang/StackTraceElement;" .null) (F0_suppressedExceptions : Fld Z h0 x "java/lang/Throwable" "suppressedExceptions" "Ljava/util/List;" .null) (F0_backtrace : Fld Z h0 x "java/lang/Throwable" "backtrace" "Ljava/lang/Object;" .null) (F0_detailMessage : Fld Z h0 x "java/lang/Throwable" "detailMessage" "Ljava/lang/String;" .null) (F0_status : Fld Z h0 x "com/example/exact_roles/exactroles/cli/CommandException" "status" "I" (.int (0 : Int32))) (F0_showsUsage : Fld Z h0 x "com/example/exact_roles/exactroles/cli/CommandException" "showsUsage" "Z" (.int (0 : Int32))) (b1 : us = 0 ∨ us = 1) :
  ConK l Z EL y_2 prog_1_method_1_code 5 none [] ({ frames := 5, cells := 1, slots := 2752, locals := 70 } : Room) #[(.ref x), (.int st), (.int us), mv, .null] h0 n0 (Q_init Z x st us mv uu sn h0) := by
 refine ConK.intro (own := "com/example/exact_roles/exactroles/cli/CommandException") rfl (plainFor_of_name plain_com_example_exact_roles_exactroles_cli_CommandException) (hEL hw) ?_
 intro p e s m below meth c s₁ hx hby hml hret hlk hnm hZs hh0 hBl W0
 refine Fi.cast (show entryFrame m #[(.ref x), (.int st), (.int us), mv, .null] 5 = (mkF m 0 #[.val (.ref x), .val (.int st), .val (.int us), .val mv, .val .null] []) from by first | (simp [entryFrame, mkF, argsToLocals, Value.category]; done) | rfl | (rcases ref_cases hm with rfl | ⟨_, rfl⟩ <;> rfl)) ?_
 refine Fi.by' (st' := s₁.setTop (mkF m 4 #[.val (.ref x), .val (.int st), .val (.int us), .val mv, .val .null] [.null, mv, (.ref x)])) (fun t k => ?_) ?_
 ·refine XS.aloadN W0.here hx rfl (hb hby d5_0) rfl rfl ?_
  refine XS.aloadN W0.here hx rfl (hb hby d5_1) rfl hm ?_
  refine XS.aload W0.here hx rfl (hb hby d5_2) rfl rfl ?_
  exact k
 refine W0.callI hx (y := y_1) rfl (ww hw 31 rfl) (ww hw 32 rfl) (ww hw 35 rfl) (by decide) (Jvm.OwnX.Pay.low (n1 := x) g0 (Pay.of_conK (Wd := 0) (rm_exi l Z a0 hw hTK hst r2 x mv uu sn h0 x hxs rfl H0 S1 S2 hu hv hla A0 N0 hm F0_cause F0_stackTrace F0_suppressedExceptions F0_backtrace F0_detailMessage F0_status F0_showsUsage) (ww hw 35 rfl) (ww hw 34 rfl) (hEL hw) hTK hZs hBl (by decide) (by decide))) (a := x) (g := (mkF m 4 #[.val (.ref x), .val (.int st), .val (.int us), .val mv, .val .null] [.null, mv, (.ref x)])) rfl (by rw [hml]; rfl) (argsL := [mv, .null]) (rest := []) (lenOf pd_0 rfl) rfl rfl (ble_ rfl) (hb hby d5_4) (by decide) (by decide) (fun v1 T1 h1 W1 sz1 q1 => ?_)
 obtain ⟨rfl, K1, A1, N1, F1_status, F1_showsUsage, F1_detailMessage, F1_cause⟩ := q1
 change Fi _ _ _ _ _ _ _ _ _ _ (T1.setTop (mkF m 7 #[.val (.ref x), .val (.int st), .val (.int us), .val mv, .val .null] []))
 refine Fi.by' (st' := T1.setTop (mkF m 9 #[.val (.ref x), .val (.int st), .val (.int us), .val mv, .val .null] [(.int st), (.ref x)])) (fun t k => ?_) ?_
 ·refine XS.aloadN W1.here hx rfl (hb hby d5_7) rfl rfl ?_
  refine XS.iloadN W1.here hx rfl (hb hby d5_8) rfl ?_
  exact k
 refine W1.putF hx (ww hw 79 rfl) F1_status A1 (Or.inr ⟨(ww hw 80 rfl), rfl, hnm⟩) (ww hw 27 rfl) (ty := .int) (by decide) rfl rfl (g := (mkF m 9 #[.val (.ref x), .val (.int st), .val (.int us), .val mv, .val .null] [(.int st), (.ref x)])) rfl rfl (hb hby d5_9) g0 (safe_exa A1 (by decide) (by decide)) (fun T2 h2 W2 R2 => ?_)
 change Fi _ _ _ _ _ _ _ _ _ _ (T2.setTop (mkF m 12 #[.val (.ref x), .val (.int st), .val (.int us), .val mv, .val .null] []))
 have K2 := K1.wr R2 (Or.inl (List.mem_singleton.mpr rfl))
 have A2 := Exa.wr R2 A1
 have F2_status := Fld.same R2 F1_status
 have F2_showsUsage := Fld.other R2 F1_showsUsage (Or.inr (slot_ne (Or.inr (ww hw 82 rfl)) (Or.inr (ww hw 80 rfl)) (by decide) (t := .boolean) (t' := .int) (by decide) (by decide)))
 have F2_detailMessage := Fld.other R2 F1_detailMessage (Or.inr (slot_ne (Or.inl (ww hw 74 rfl)) (Or.inr (ww hw 80 rfl)) (by decide) (t := (.object "java/lang/String")) (t' := .int) (by decide) (by decide)))
 have F2_cause := Fld.other R2 F1_cause (Or.inr (slot_ne (Or.inl (ww hw 44 rfl)) (Or.inr (ww hw 80 rfl)) (by decide) (t := (.object "java/lang/Throwable")) (t' := .int) (by decide) (by decide)))
 have N2' := Unt.wr R2 N1
 refine Fi.by' (st' := T2.setTop (mkF m 14 #[.val (.ref x), .val (.int st), .val (.int us), .val mv, .val .null] [(.int us), (.ref x)])) (fun t k => ?_) ?_
 ·refine XS.aloadN W2.here hx rfl (hb hby d5_12) rfl rfl ?_
  refine XS.iloadN W2.here hx rfl (hb hby d5_13) rfl ?_
  exact k
 refine W2.putF hx (ww hw 81 rfl) F2_showsUsage A2 (Or.inr ⟨(ww hw 82 rfl), rfl, hnm⟩) (ww hw 27 rfl) (ty := .boolean) (by decide) (bnar b1) (bfit b1) (g := (mkF m 14 #[.val (.ref x), .val (.int st), .val (.int us), .val mv, .val .null] [(.int us), (.ref x)])) rfl rfl (hb hby d5_14) g0 (safe_exa A2 (by decide) (by decide)) (fun T3 h3 W3 R3 => ?_)
 change Fi _ _ _ _ _ _ _ _ _ _ (T3.setTop (mkF m 17 #[.val (.ref x), .val (.int st), .val (.int us), .val mv, .val .null] []))
 have K3 := K2.wr R3 (Or.inl (List.mem_singleton.mpr rfl))
 have A3 := Exa.wr R3 A2
 have F3_status := Fld.other R3 F2_status (Or.inr (slot_ne (Or.inr (ww hw 80 rfl)) (Or.inr (ww hw 82 rfl)) (by decide) (t := .int) (t' := .boolean) (by decide) (by decide)))
 have F3_showsUsage := Fld.same R3 F2_showsUsage
 have F3_detailMessage := Fld.other R3 F2_detailMessage (Or.inr (slot_ne (Or.inl (ww hw 74 rfl)) (Or.inr (ww hw 82 rfl)) (by decide) (t := (.object "java/lang/String")) (t' := .boolean) (by decide) (by decide)))
 have F3_cause := Fld.other R3 F2_cause (Or.inr (slot_ne (Or.inl (ww hw 44 rfl)) (Or.inr (ww hw 82 rfl)) (by decide) (t := (.object "java/lang/Throwable")) (t' := .boolean) (by decide) (by decide)))
 have N3' := Unt.wr R3 N2'
 exact W3.vret hx hlk hret (hb hby d5_17) ⟨rfl, K3, A3, N3', F3_status, F3_showsUsage, F3_detailMessage, F3_cause⟩ (by decide) (by decide)
def Q_usage (Z : State) (mv uu sn : Value) (h0 : Heap) (v : Option Value) (h : Heap) : Prop := ∃ a : Addr, v = some (.ref a) ∧ Ext h0 h ∧ h0.size ≤ a ∧ Exa Z h a "com/example/exact_roles/exactroles/cli/CommandException" ∧ Unt h a ∧ Fld Z h a "com/example/exact_roles/exactroles/cli/CommandException" "status" "I" (.int (2 : Int32)) ∧ Fld Z h a "com/example/exact_roles/exactroles/cli/CommandException" "showsUsage" "Z" (.int (1 : Int32)) ∧ Fld Z h a "java/lang/Throwable" "detailMessage" "Ljava/lang/String;" mv ∧ Fld Z h a "java/lang/Throwable" "cause" "Ljava/lang/Throwable;" .null
set_option maxRecDepth 65536 in
set_option maxHeartbeats 40000000 in
theorem rm_usage (l : Launch) (Z : State) (a0 : Array Value) (hw : ∀ d ∈ tables_1, d.before a0 Z = true) (hTK : Z.vm.MethodsKnown) (hst : l.stackTraces = true) (r2 : ∀ d ∈ twoRefs, d.before a0 Z = true) (mv uu sn : Value) (h0 : Heap) (n0 : Nat) (Z0 : n0 ≤ h0.size) (H0 : ThS Z h0) (S1 : Sta Z h0 "java/lang/Throwable" "UNASSIGNED_STACK" "[Ljava/lang/StackTraceElement;" uu) (S2 : Sta Z h0 "java/lang/Throwable" "SUPPRESSED_SENTINEL" "Ljava/util/List;" sn) (hu : uu.isRef = true) (hv : sn.isRef = true) (hm : mv.isRef = true) :
  ConK l Z EL y_3 prog_1_method_2_code 1 (some (.object "com/example/exact_roles/exactroles/cli/CommandException")) [] ({ frames := 6, cells := 2, slots := 2760, locals := 87 } : Room) #[mv] h0 n0 (Q_usage Z mv uu sn h0) := by
 refine ConK.intro (own := "com/example/exact_roles/exactroles/cli/CommandException") rfl (plainFor_of_name plain_com_example_exact_roles_exactroles_cli_CommandException) (hEL hw) ?_
 intro p e s m below meth c s₁ hx hby hml hret hlk hnm hZs hh0 hBl W0
 refine Fi.cast (show entryFrame m #[mv] 1 = (mkF m 0 #[.val mv] []) from by first | (simp [entryFrame, mkF, argsToLocals, Value.category]; done) | rfl | (rcases ref_cases hm with rfl | ⟨_, rfl⟩ <;> rfl)) ?_
 refine W0.newU hx (ww hw 26 rfl) (ww hw 27 rfl) (ww hw 24 rfl) (g := (mkF m 0 #[.val mv] [])) rfl (hb hby d4_0) (by decide) (by decide) (fun T1 h1 a1 ha1 W1 E1 A1 D1 U1 => ?_)
 change Fi _ _ _ _ _ _ _ _ _ _ (T1.setTop (mkF m 3 #[.val mv] [(.ref a1)]))
 have sz1 := E1.1
 refine Fi.by' (st' := T1.setTop (mkF m 8 #[.val mv] [.null, mv, (.int (1 : Int32)), (.int (2 : Int32)), (.ref a1), (.ref a1)])) (fun t k => ?_) ?_
 ·refine XS.dup W1.here hx rfl (hb hby d4_3) rfl rfl ?_
  refine iconstZ W1.here hx rfl (hb hby d4_4) (z := (2 : Int32)) rfl ?_
  refine iconstZ W1.here hx rfl (hb hby d4_5) (z := (1 : Int32)) rfl ?_
  refine XS.aloadN W1.here hx rfl (hb hby d4_6) rfl hm ?_
  refine XS.aconstNull W1.here hx rfl (hb hby d4_7) ?_
  exact k
 have hza1 : @LE.le Nat _ h1.size (a1 + 1) := by have q := Jvm.OwnX.Wk.size_le W1; rw [hh0] at q; omega
 refine W1.callI hx (y := y_2) rfl (ww hw 28 rfl) (ww hw 29 rfl) (ww hw 30 rfl) (by decide) (Pay.of_conK (Wd := 1) (rm_init l Z a0 hw hTK hst r2 a1 (2 : Int32) (1 : Int32) mv uu sn h1 n0 (by omega) (by omega) (by omega) (ThS.ext E1 H0) (Sta.ext E1 S1) (Sta.ext E1 S2) hu hv hza1 A1 U1 hm (D1 (Or.inl (ww hw 44 rfl)) (ty := (.object "java/lang/Throwable")) (by decide)) (D1 (Or.inl (ww hw 47 rfl)) (ty := (.array (.object "java/lang/StackTraceElement"))) (by decide)) (D1 (Or.inl (ww hw 50 rfl)) (ty := (.object "java/util/List")) (by decide)) (D1 (Or.inl (ww hw 75 rfl)) (ty := (.object "java/lang/Object")) (by decide)) (D1 (Or.inl (ww hw 74 rfl)) (ty := (.object "java/lang/String")) (by decide)) (D1 (Or.inr (ww hw 80 rfl)) (ty := .int) (by decide)) (D1 (Or.inr (ww hw 82 rfl)) (ty := .boolean) (by decide)) (by decide)) (ww hw 30 rfl) (ww hw 24 rfl) (hEL hw) hTK hZs hBl (by decide) (by decide)) (a := a1) (g := (mkF m 8 #[.val mv] [.null, mv, (.int (1 : Int32)), (.int (2 : Int32)), (.ref a1), (.ref a1)])) rfl (by rw [hml]; rfl) (argsL := [(.int (2 : Int32)), (.int (1 : Int32)), mv, .null]) (rest := [(.ref a1)]) (lenOf pd_1 rfl) rfl rfl (ble_ rfl) (hb hby d4_8) (by decide) (by decide) (fun v2 T2 h2 W2 sz2 q2 => ?_)
 obtain ⟨rfl, K2, A2, N2, Fa2, Fb2, Fc2, Fd2⟩ := q2
 change Fi _ _ _ _ _ _ _ _ _ _ (T2.setTop (mkF m 11 #[.val mv] [(.ref a1)]))
 have x2k : Ext h0 h2 := ext_keep1 E1 K2 (by omega)
 exact W2.aret hx hlk hret rfl rfl (hb hby d4_11) ⟨a1, rfl, x2k, by omega, A2, N2, Fa2, Fb2, Fc2, Fd2⟩ (by decide) (by decide)
def Q_getStatus (Z : State) (x : Addr) (z : Int32) (h0 : Heap) (v : Option Value) (h : Heap) : Prop := v = some (.int z) ∧ h0 = h
set_option maxRecDepth 65536 in
set_option maxHeartbeats 40000000 in
theorem rm_getStatus (l : Launch) (Z : State) (a0 : Array Value) (hw : ∀ d ∈ tables_1, d.before a0 Z = true) (x : Addr) (z : Int32) (h0 : Heap) (n0 : Nat) (Z0 : n0 ≤ h0.size) (F0 : Fld Z h0 x "com/example/exact_roles/exactroles/cli/CommandException" "status" "I" (.int z)) :
  Con l Z EL y_4 prog_1_method_5_code 1 (some .int) [] ({ frames := 0, cells := 0, slots := 0, locals := 0 } : Room) #[(.ref x)] h0 n0 (Q_getStatus Z x z h0) := by
 refine Con.intro (own := "com/example/exact_roles/exactroles/cli/CommandException") rfl (plainFor_of_name plain_com_example_exact_roles_exactroles_cli_CommandException) (hEL hw) ?_
 intro p e s m below meth c s₁ hx hby hml hret hlk hnm W0
 refine Fi.cast (show entryFrame m #[(.ref x)] 1 = (mkF m 0 #[.val (.ref x)] []) from by first | (simp [entryFrame, mkF, argsToLocals, Value.category]; done) | rfl) ?_
 refine Fi.by' (st' := s₁.setTop (mkF m 1 #[.val (.ref x)] [(.ref x)])) (fun t k => ?_) ?_
 ·refine XS.aloadN W0.here hx rfl (hb hby d10_0) rfl rfl ?_
  exact k
 refine W0.getF hx (ww hw 79 rfl) F0 (g := (mkF m 1 #[.val (.ref x)] [(.ref x)])) rfl rfl (hb hby d10_1) (fun T1 W1 => ?_)
 change Fi _ _ _ _ _ _ _ _ _ _ (T1.setTop (mkF m 4 #[.val (.ref x)] [(.int z)]))
 exact W1.iret hx hlk hret (by simp) rfl (hb hby d10_4) ⟨rfl, rfl⟩ (by decide) (by decide)
def Q_showsUsage (Z : State) (x : Addr) (z : Int32) (h0 : Heap) (v : Option Value) (h : Heap) : Prop := v = some (.int z) ∧ h0 = h
set_option maxRecDepth 65536 in
set_option maxHeartbeats 40000000 in
theorem rm_showsUsage (l : Launch) (Z : State) (a0 : Array Value) (hw : ∀ d ∈ tables_1, d.before a0 Z = true) (x : Addr) (z : Int32) (h0 : Heap) (n0 : Nat) (Z0 : n0 ≤ h0.size) (F0 : Fld Z h0 x "com/example/exact_roles/exactroles/cli/CommandException" "showsUsage" "Z" (.int z)) (hnar : narrow .boolean (.int z) = (.int z)) :
  Con l Z EL y_5 prog_1_method_6_code 1 (some .boolean) [] ({ frames := 0, cells := 0, slots := 0, locals := 0 } : Room) #[(.ref x)] h0 n0 (Q_showsUsage Z x z h0) := by
 refine Con.intro (own := "com/example/exact_roles/exactroles/cli/CommandException") rfl (plainFor_of_name plain_com_example_exact_roles_exactroles_cli_CommandException) (hEL hw) ?_
 intro p e s m below meth c s₁ hx hby hml hret hlk hnm W0
 refine Fi.cast (show entryFrame m #[(.ref x)] 1 = (mkF m 0 #[.val (.ref x)] []) from by first | (simp [entryFrame, mkF, argsToLocals, Value.category]; done) | rfl) ?_
 refine Fi.by' (st' := s₁.setTop (mkF m 1 #[.val (.ref x)] [(.ref x)])) (fun t k => ?_) ?_
 ·refine XS.aloadN W0.here hx rfl (hb hby d11_0) rfl rfl ?_
  exact k
 refine W0.getF hx (ww hw 81 rfl) F0 (g := (mkF m 1 #[.val (.ref x)] [(.ref x)])) rfl rfl (hb hby d11_1) (fun T1 W1 => ?_)
 change Fi _ _ _ _ _ _ _ _ _ _ (T1.setTop (mkF m 4 #[.val (.ref x)] [(.int z)]))
 exact W1.iret hx hlk hret (by simp) hnar (hb hby d11_4) ⟨rfl, rfl⟩ (by decide) (by decide)
def Q_getMessage (Z : State) (x : Addr) (mv : Value) (h0 : Heap) (v : Option Value) (h : Heap) : Prop := v = some mv ∧ h0 = h
set_option maxRecDepth 65536 in
set_option maxHeartbeats 40000000 in
theorem rm_getMessage (l : Launch) (Z : State) (a0 : Array Value) (hw : ∀ d ∈ tables_1, d.before a0 Z = true) (x : Addr) (mv : Value) (h0 : Heap) (n0 : Nat) (Z0 : n0 ≤ h0.size) (F0 : Fld Z h0 x "java/lang/Throwable" "detailMessage" "Ljava/lang/String;" mv) (hm : mv.isRef = true) :
  Con l Z EL y_6 jdk_78_method_6_code 1 (some (.object "java/lang/String")) [] ({ frames := 0, cells := 0, slots := 0, locals := 0 } : Room) #[(.ref x)] h0 n0 (Q_getMessage Z x mv h0) := by
 refine Con.intro (own := "java/lang/Throwable") rfl (plainFor_of_name plain_java_lang_Throwable) (hEL hw) ?_
 intro p e s m below meth c s₁ hx hby hml hret hlk hnm W0
 refine Fi.cast (show entryFrame m #[(.ref x)] 1 = (mkF m 0 #[.val (.ref x)] []) from by first | (simp [entryFrame, mkF, argsToLocals, Value.category]; done) | rfl) ?_
 refine Fi.by' (st' := s₁.setTop (mkF m 1 #[.val (.ref x)] [(.ref x)])) (fun t k => ?_) ?_
 ·refine XS.aloadN W0.here hx rfl (hb hby d12_0) rfl rfl ?_
  exact k
 refine W0.getF hx (ww hw 78 rfl) F0 (g := (mkF m 1 #[.val (.ref x)] [(.ref x)])) rfl rfl (hb hby d12_1) (fun T1 W1 => ?_)
 change Fi _ _ _ _ _ _ _ _ _ _ (T1.setTop (mkF m 4 #[.val (.ref x)] [mv]))
 exact W1.aret hx hlk hret rfl hm (hb hby d12_4) ⟨rfl, rfl⟩ (by decide) (by decide)
def Q_law (Z : State) (p0 p1 p2 p3 zc : Int32) (uu sn : Value) (h0 : Heap) (v : Option Value) (h : Heap) : Prop := v = some (.int 1)
set_option maxRecDepth 65536 in
set_option maxHeartbeats 40000000 in
theorem rm_law (l : Launch) (Z : State) (a0 : Array Value) (hw : ∀ d ∈ tables_1, d.before a0 Z = true) (hTK : Z.vm.MethodsKnown) (hst : l.stackTraces = true) (r2 : ∀ d ∈ twoRefs, d.before a0 Z = true) (p0 p1 p2 p3 zc : Int32) (uu sn : Value) (h0 : Heap) (n0 : Nat) (Z0 : n0 ≤ h0.size) (S0 : Sta Z h0 "java/lang/String" "COMPACT_STRINGS" "Z" (.int zc)) (hz : ¬ zc = 0) (H0 : ThS Z h0) (S1 : Sta Z h0 "java/lang/Throwable" "UNASSIGNED_STACK" "[Ljava/lang/StackTraceElement;" uu) (S2 : Sta Z h0 "java/lang/Throwable" "SUPPRESSED_SENTINEL" "Ljava/util/List;" sn) (hu : uu.isRef = true) (hv : sn.isRef = true) :
  ConK l Z EL x code maxLocals ret tables_1 room_1 #[(.int p0), (.int p1), (.int p2), (.int p3)] h0 n0 (Q_law Z p0 p1 p2 p3 zc uu sn h0) := by
 refine ConK.intro (own := "com/example/exact_roles/exactroles/cli/CommandExceptionUsagePinLaw") rfl (plainFor_of_name plain_com_example_exact_roles_exactroles_cli_CommandExceptionUsagePinLaw) (hEL hw) ?_
 intro p e s m below meth c s₁ hx hby hml hret hlk hnm hZs hh0 hBl W0
 refine Fi.cast (show entryFrame m #[(.int p0), (.int p1), (.int p2), (.int p3)] maxLocals = (mkF m 0 #[.val (.int p0), .val (.int p1), .val (.int p2), .val (.int p3), .unset, .unset, .unset, .unset, .unset, .unset] []) from by first | (simp [entryFrame, mkF, argsToLocals, Value.category, maxLocals]; done) | rfl) ?_
 refine Fi.by' (st' := s₁.setTop (mkF m 27 #[.val (.int p0), .val (.int p1), .val (.int p2), .val (.int p3), .val (.int (p1 &&& (255 : Int32))), .val (.int (p2 &&& (255 : Int32))), .val (.int (p3 &&& (255 : Int32))), .unset, .unset, .unset] [(.int (p0 &&& (1 : Int32)))])) (fun t k => ?_) ?_
 ·refine XS.iloadN W0.here hx rfl (hb hby at_0) rfl ?_
  refine sipushZ W0.here hx rfl (hb hby at_1) (z := (255 : Int32)) rfl ?_
  refine XS.iand W0.here hx rfl (hb hby at_4) rfl ?_
  refine i2cZ W0.here hx rfl (hb hby at_5) rfl (z := (p1 &&& (255 : Int32))) (i2c_mask _) ?_
  refine XS.istore W0.here hx rfl (hb hby at_6) rfl (l' := #[.val (.int p0), .val (.int p1), .val (.int p2), .val (.int p3), .val (.int (p1 &&& (255 : Int32))), .unset, .unset, .unset, .unset, .unset]) rfl ?_
  refine XS.iloadN W0.here hx rfl (hb hby at_8) rfl ?_
  refine sipushZ W0.here hx rfl (hb hby at_9) (z := (255 : Int32)) rfl ?_
  refine XS.iand W0.here hx rfl (hb hby at_12) rfl ?_
  refine i2cZ W0.here hx rfl (hb hby at_13) rfl (z := (p2 &&& (255 : Int32))) (i2c_mask _) ?_
  refine XS.istore W0.here hx rfl (hb hby at_14) rfl (l' := #[.val (.int p0), .val (.int p1), .val (.int p2), .val (.int p3), .val (.int (p1 &&& (255 : Int32))), .val (.int (p2 &&& (255 : Int32))), .unset, .unset, .unset, .unset]) rfl ?_
  refine XS.iloadN W0.here hx rfl (hb hby at_16) rfl ?_
  refine sipushZ W0.here hx rfl (hb hby at_17) (z := (255 : Int32)) rfl ?_
  refine XS.iand W0.here hx rfl (hb hby at_20) rfl ?_
  refine i2cZ W0.here hx rfl (hb hby at_21) rfl (z := (p3 &&& (255 : Int32))) (i2c_mask _) ?_
  refine XS.istore W0.here hx rfl (hb hby at_22) rfl (l' := #[.val (.int p0), .val (.int p1), .val (.int p2), .val (.int p3), .val (.int (p1 &&& (255 : Int32))), .val (.int (p2 &&& (255 : Int32))), .val (.int (p3 &&& (255 : Int32))), .unset, .unset, .unset]) rfl ?_
  refine XS.iloadN W0.here hx rfl (hb hby at_24) rfl ?_
  refine iconstZ W0.here hx rfl (hb hby at_25) (z := (1 : Int32)) rfl ?_
  refine XS.iand W0.here hx rfl (hb hby at_26) rfl ?_
  exact k
 by_cases hc27_1 : (p0 &&& (1 : Int32)) = (0 : Int32)
 ·refine Fi.by' (st' := s₁.setTop (mkF m 45 #[.val (.int p0), .val (.int p1), .val (.int p2), .val (.int p3), .val (.int (p1 &&& (255 : Int32))), .val (.int (p2 &&& (255 : Int32))), .val (.int (p3 &&& (255 : Int32))), .unset, .val (.int (((p0.toUInt32 >>> ((1 : Int32) &&& 31).toUInt32).toInt32) &&& (3 : Int32))), .unset] [(.int (((p0.toUInt32 >>> ((1 : Int32) &&& 31).toUInt32).toInt32) &&& (3 : Int32)))])) (fun t k => ?_) ?_
  ·refine XS.ifYes W0.here hx rfl (pc0 := 27) (pc' := 36) rfl (hb hby at_27) rfl ((if0 _ _).trans (teq hc27_1).1) (by decide) (by decide) ?_
   refine XS.iloadN W0.here hx rfl (hb hby at_36) rfl ?_
   refine iconstZ W0.here hx rfl (hb hby at_37) (z := (1 : Int32)) rfl ?_
   refine XS.iushr W0.here hx rfl (hb hby at_38) rfl ?_
   refine iconstZ W0.here hx rfl (hb hby at_39) (z := (3 : Int32)) rfl ?_
   refine XS.iand W0.here hx rfl (hb hby at_40) rfl ?_
   refine XS.istore W0.here hx rfl (hb hby at_41) rfl (l' := #[.val (.int p0), .val (.int p1), .val (.int p2), .val (.int p3), .val (.int (p1 &&& (255 : Int32))), .val (.int (p2 &&& (255 : Int32))), .val (.int (p3 &&& (255 : Int32))), .unset, .val (.int (((p0.toUInt32 >>> ((1 : Int32) &&& 31).toUInt32).toInt32) &&& (3 : Int32))), .unset]) rfl ?_
   refine XS.iload W0.here hx rfl (hb hby at_43) rfl ?_
   exact k
  by_cases hc45_2 : (((p0.toUInt32 >>> ((1 : Int32) &&& 31).toUInt32).toInt32) &&& (3 : Int32)) = (0 : Int32)
  ·refine Fi.by' (st' := s₁.setTop (mkF m 49 #[.val (.int p0), .val (.int p1), .val (.int p2), .val (.int p3), .val (.int (p1 &&& (255 : Int32))), .val (.int (p2 &&& (255 : Int32))), .val (.int (p3 &&& (255 : Int32))), .unset, .val (.int (((p0.toUInt32 >>> ((1 : Int32) &&& 31).toUInt32).toInt32) &&& (3 : Int32))), .unset] [(.int (0 : Int32))])) (fun t k => ?_) ?_
   ·refine XS.ifNo W0.here hx rfl (hb hby at_45) rfl ((if0 _ _).trans (teq hc45_2).2) ?_
    refine iconstZ W0.here hx rfl (hb hby at_48) (z := (0 : Int32)) rfl ?_
    exact k
   refine W0.newP hx (aty := .char) (ww hw 0 rfl) (g := (mkF m 49 #[.val (.int p0), .val (.int p1), .val (.int p2), .val (.int p3), .val (.int (p1 &&& (255 : Int32))), .val (.int (p2 &&& (255 : Int32))), .val (.int (p3 &&& (255 : Int32))), .unset, .val (.int (((p0.toUInt32 >>> ((1 : Int32) &&& 31).toUInt32).toInt32) &&& (3 : Int32))), .unset] [(.int (0 : Int32))])) rfl (hb hby at_49) rfl (by decide) (cap := 0) (by decide) (by decide) (by decide) (by decide) (fun T3 h3 a3 k3 ha3 W3 E3 A3 => ?_)
   change Fi _ _ _ _ _ _ _ _ _ _ (T3.setTop (mkF m 51 #[.val (.int p0), .val (.int p1), .val (.int p2), .val (.int p3), .val (.int (p1 &&& (255 : Int32))), .val (.int (p2 &&& (255 : Int32))), .val (.int (p3 &&& (255 : Int32))), .unset, .val (.int (((p0.toUInt32 >>> ((1 : Int32) &&& 31).toUInt32).toInt32) &&& (3 : Int32))), .unset] [(.ref a3)]))
   have sz3 := E3.1
   have V3 : Arv Z h3 a3 k3 .char (0 : Int32) (([] : List Int32).map Value.int) (.int (0 : Int32)) := A3.pad (pad_rep [] (.int (0 : Int32)) 0)
   refine Fi.by' (st' := T3.setTop (mkF m 119 #[.val (.int p0), .val (.int p1), .val (.int p2), .val (.int p3), .val (.int (p1 &&& (255 : Int32))), .val (.int (p2 &&& (255 : Int32))), .val (.int (p3 &&& (255 : Int32))), .unset, .val (.int (((p0.toUInt32 >>> ((1 : Int32) &&& 31).toUInt32).toInt32) &&& (3 : Int32))), .val (.ref a3)] [])) (fun t k => ?_) ?_
   ·refine XS.astore W3.here hx rfl (hb hby at_51) rfl rfl (l' := #[.val (.int p0), .val (.int p1), .val (.int p2), .val (.int p3), .val (.int (p1 &&& (255 : Int32))), .val (.int (p2 &&& (255 : Int32))), .val (.int (p3 &&& (255 : Int32))), .unset, .val (.int (((p0.toUInt32 >>> ((1 : Int32) &&& 31).toUInt32).toInt32) &&& (3 : Int32))), .val (.ref a3)]) rfl ?_
    refine XS.goto W3.here hx rfl (pc0 := 53) (pc' := 119) rfl (hb hby at_53) (by decide) (by decide) ?_
    exact k
   refine W3.new hx (ww hw 1 rfl) (ww hw 2 rfl) (ww hw 3 rfl) (g := (mkF m 119 #[.val (.int p0), .val (.int p1), .val (.int p2), .val (.int p3), .val (.int (p1 &&& (255 : Int32))), .val (.int (p2 &&& (255 : Int32))), .val (.int (p3 &&& (255 : Int32))), .unset, .val (.int (((p0.toUInt32 >>> ((1 : Int32) &&& 31).toUInt32).toInt32) &&& (3 : Int32))), .val (.ref a3)] [])) rfl (hb hby at_119) (by decide) (by decide) (fun T4 h4 a4 ha4 W4 E4 A4 D4 => ?_)
   change Fi _ _ _ _ _ _ _ _ _ _ (T4.setTop (mkF m 122 #[.val (.int p0), .val (.int p1), .val (.int p2), .val (.int p3), .val (.int (p1 &&& (255 : Int32))), .val (.int (p2 &&& (255 : Int32))), .val (.int (p3 &&& (255 : Int32))), .unset, .val (.int (((p0.toUInt32 >>> ((1 : Int32) &&& 31).toUInt32).toInt32) &&& (3 : Int32))), .val (.ref a3)] [(.ref a4)]))
   have sz4 := E4.1
   refine Fi.by' (st' := T4.setTop (mkF m 125 #[.val (.int p0), .val (.int p1), .val (.int p2), .val (.int p3), .val (.int (p1 &&& (255 : Int32))), .val (.int (p2 &&& (255 : Int32))), .val (.int (p3 &&& (255 : Int32))), .unset, .val (.int (((p0.toUInt32 >>> ((1 : Int32) &&& 31).toUInt32).toInt32) &&& (3 : Int32))), .val (.ref a3)] [(.ref a3), (.ref a4), (.ref a4)])) (fun t k => ?_) ?_
   ·refine XS.dup W4.here hx rfl (hb hby at_122) rfl rfl ?_
    refine XS.aload W4.here hx rfl (hb hby at_123) rfl rfl ?_
    exact k
   refine W4.callI hx (y := y_7) rfl (ww hw 4 rfl) (ww hw 5 rfl) (ww hw 6 rfl) (by decide) (payE (Wd := 1) hw (by omega) (by omega) A4 (D4 (Or.inr (ww hw 16 rfl)) (ty := (.array .byte)) (by decide)) (D4 (Or.inr (ww hw 17 rfl)) (ty := .byte) (by decide)) (V3.ext E4) (by decide) (by decide)) (a := a4) (g := (mkF m 125 #[.val (.int p0), .val (.int p1), .val (.int p2), .val (.int p3), .val (.int (p1 &&& (255 : Int32))), .val (.int (p2 &&& (255 : Int32))), .val (.int (p3 &&& (255 : Int32))), .unset, .val (.int (((p0.toUInt32 >>> ((1 : Int32) &&& 31).toUInt32).toInt32) &&& (3 : Int32))), .val (.ref a3)] [(.ref a3), (.ref a4), (.ref a4)])) rfl (by rw [hml]; rfl) (argsL := [(.ref a3)]) (rest := [(.ref a4)]) (lenOf pd_2 rfl) rfl rfl (ble_ rfl) (hb hby at_125) (by decide) (by decide) (fun v5 T5 h5 W5 sz5 q5 => ?_)
   obtain ⟨rfl, K5, F5⟩ := q5
   change Fi _ _ _ _ _ _ _ _ _ _ (T5.setTop (mkF m 128 #[.val (.int p0), .val (.int p1), .val (.int p2), .val (.int p3), .val (.int (p1 &&& (255 : Int32))), .val (.int (p2 &&& (255 : Int32))), .val (.int (p3 &&& (255 : Int32))), .unset, .val (.int (((p0.toUInt32 >>> ((1 : Int32) &&& 31).toUInt32).toInt32) &&& (3 : Int32))), .val (.ref a3)] [(.ref a4)]))
   have x5k : Ext h3 h5 := ext_keep1 E4 K5 (by omega)
   refine Fi.by' (st' := T5.setTop (mkF m 132 #[.val (.int p0), .val (.int p1), .val (.int p2), .val (.int p3), .val (.int (p1 &&& (255 : Int32))), .val (.int (p2 &&& (255 : Int32))), .val (.int (p3 &&& (255 : Int32))), .val (.ref a4), .val (.int (((p0.toUInt32 >>> ((1 : Int32) &&& 31).toUInt32).toInt32) &&& (3 : Int32))), .val (.ref a3)] [(.ref a4)])) (fun t k => ?_) ?_
   ·refine XS.astore W5.here hx rfl (hb hby at_128) rfl rfl (l' := #[.val (.int p0), .val (.int p1), .val (.int p2), .val (.int p3), .val (.int (p1 &&& (255 : Int32))), .val (.int (p2 &&& (255 : Int32))), .val (.int (p3 &&& (255 : Int32))), .val (.ref a4), .val (.int (((p0.toUInt32 >>> ((1 : Int32) &&& 31).toUInt32).toInt32) &&& (3 : Int32))), .val (.ref a3)]) rfl ?_
    refine XS.aload W5.here hx rfl (hb hby at_130) rfl rfl ?_
    exact k
   have x6 : Ext h0 h5 := ext_trans E3 x5k
   refine W5.callS hx (y := y_3) (ww hw 22 rfl) (ww hw 23 rfl) (ww hw 24 rfl) (ww hw 25 rfl) (by decide) (Pay.of_conK (Wd := 0) (rm_usage l Z a0 hw hTK hst r2 (.ref a4) uu sn h5 n0 (by omega) (ThS.ext x6 H0) (Sta.ext x6 S1) (Sta.ext x6 S2) hu hv rfl) (ww hw 25 rfl) (ww hw 24 rfl) (hEL hw) hTK hZs hBl (by decide) (by decide)) (g := (mkF m 132 #[.val (.int p0), .val (.int p1), .val (.int p2), .val (.int p3), .val (.int (p1 &&& (255 : Int32))), .val (.int (p2 &&& (255 : Int32))), .val (.int (p3 &&& (255 : Int32))), .val (.ref a4), .val (.int (((p0.toUInt32 >>> ((1 : Int32) &&& 31).toUInt32).toInt32) &&& (3 : Int32))), .val (.ref a3)] [(.ref a4)])) rfl (by rw [hml]; rfl) (argsL := [(.ref a4)]) (rest := []) (lenOf pd_3 rfl) rfl rfl (ble_ rfl) (hb hby at_132) (by decide) (by decide) (fun v7 T7 h7 W7 sz7 q7 => ?_)
   obtain ⟨a7, rfl, E7, g7, A7, N7, Fa7, Fb7, Fc7, Fd7⟩ := q7
   change Fi _ _ _ _ _ _ _ _ _ _ (T7.setTop (mkF m 135 #[.val (.int p0), .val (.int p1), .val (.int p2), .val (.int p3), .val (.int (p1 &&& (255 : Int32))), .val (.int (p2 &&& (255 : Int32))), .val (.int (p3 &&& (255 : Int32))), .val (.ref a4), .val (.int (((p0.toUInt32 >>> ((1 : Int32) &&& 31).toUInt32).toInt32) &&& (3 : Int32))), .val (.ref a3)] [(.ref a7)]))
   refine Fi.by' (st' := T7.setTop (mkF m 139 #[.val (.int p0), .val (.int p1), .val (.int p2), .val (.int p3), .val (.int (p1 &&& (255 : Int32))), .val (.int (p2 &&& (255 : Int32))), .val (.int (p3 &&& (255 : Int32))), .val (.ref a4), .val (.ref a7), .val (.ref a3)] [(.ref a7)])) (fun t k => ?_) ?_
   ·refine XS.astore W7.here hx rfl (hb hby at_135) rfl rfl (l' := #[.val (.int p0), .val (.int p1), .val (.int p2), .val (.int p3), .val (.int (p1 &&& (255 : Int32))), .val (.int (p2 &&& (255 : Int32))), .val (.int (p3 &&& (255 : Int32))), .val (.ref a4), .val (.ref a7), .val (.ref a3)]) rfl ?_
    refine XS.aload W7.here hx rfl (hb hby at_137) rfl rfl ?_
    exact k
   refine W7.callV hx (y := y_4) (C := "com/example/exact_roles/exactroles/cli/CommandException") (ww hw 83 rfl) (ww hw 84 rfl) (ww hw 86 rfl) (ww hw 85 rfl) (by decide) (Pay.of_con (Wd := 0) (rm_getStatus l Z a0 hw a7 (2 : Int32) h7 n0 (by omega) Fa7) (ww hw 87 rfl) (ww hw 24 rfl) (hEL hw) (by decide) (by decide)) A7 (g := (mkF m 139 #[.val (.int p0), .val (.int p1), .val (.int p2), .val (.int p3), .val (.int (p1 &&& (255 : Int32))), .val (.int (p2 &&& (255 : Int32))), .val (.int (p3 &&& (255 : Int32))), .val (.ref a4), .val (.ref a7), .val (.ref a3)] [(.ref a7)])) rfl (by rw [hml]; rfl) (argsL := []) (rest := []) (lenOf pd_4 rfl) rfl rfl (ble_ rfl) (hb hby at_139) (by decide) (by decide) (fun v8 T8 h8 W8 sz8 q8 => ?_)
   obtain ⟨rfl, rfl⟩ := q8
   change Fi _ _ _ _ _ _ _ _ _ _ (T8.setTop (mkF m 142 #[.val (.int p0), .val (.int p1), .val (.int p2), .val (.int p3), .val (.int (p1 &&& (255 : Int32))), .val (.int (p2 &&& (255 : Int32))), .val (.int (p3 &&& (255 : Int32))), .val (.ref a4), .val (.ref a7), .val (.ref a3)] [(.int (2 : Int32))]))
   refine Fi.by' (st' := T8.setTop (mkF m 148 #[.val (.int p0), .val (.int p1), .val (.int p2), .val (.int p3), .val (.int (p1 &&& (255 : Int32))), .val (.int (p2 &&& (255 : Int32))), .val (.int (p3 &&& (255 : Int32))), .val (.ref a4), .val (.ref a7), .val (.ref a3)] [(.ref a7)])) (fun t k => ?_) ?_
   ·refine iconstZ W8.here hx rfl (hb hby at_142) (z := (2 : Int32)) rfl ?_
    refine XS.icmpNo W8.here hx rfl (hb hby at_143) rfl (teq (by decide : ((2 : Int32) = (2 : Int32)))).2 ?_
    refine XS.aload W8.here hx rfl (hb hby at_146) rfl rfl ?_
    exact k
   refine W8.callV hx (y := y_5) (C := "com/example/exact_roles/exactroles/cli/CommandException") (ww hw 88 rfl) (ww hw 89 rfl) (ww hw 91 rfl) (ww hw 90 rfl) (by decide) (Pay.of_con (Wd := 0) (rm_showsUsage l Z a0 hw a7 (1 : Int32) h7 n0 (by omega) Fb7 rfl) (ww hw 92 rfl) (ww hw 24 rfl) (hEL hw) (by decide) (by decide)) A7 (g := (mkF m 148 #[.val (.int p0), .val (.int p1), .val (.int p2), .val (.int p3), .val (.int (p1 &&& (255 : Int32))), .val (.int (p2 &&& (255 : Int32))), .val (.int (p3 &&& (255 : Int32))), .val (.ref a4), .val (.ref a7), .val (.ref a3)] [(.ref a7)])) rfl (by rw [hml]; rfl) (argsL := []) (rest := []) (lenOf pd_5 rfl) rfl rfl (ble_ rfl) (hb hby at_148) (by decide) (by decide) (fun v9 T9 h9 W9 sz9 q9 => ?_)
   obtain ⟨rfl, rfl⟩ := q9
   change Fi _ _ _ _ _ _ _ _ _ _ (T9.setTop (mkF m 151 #[.val (.int p0), .val (.int p1), .val (.int p2), .val (.int p3), .val (.int (p1 &&& (255 : Int32))), .val (.int (p2 &&& (255 : Int32))), .val (.int (p3 &&& (255 : Int32))), .val (.ref a4), .val (.ref a7), .val (.ref a3)] [(.int (1 : Int32))]))
   refine Fi.by' (st' := T9.setTop (mkF m 156 #[.val (.int p0), .val (.int p1), .val (.int p2), .val (.int p3), .val (.int (p1 &&& (255 : Int32))), .val (.int (p2 &&& (255 : Int32))), .val (.int (p3 &&& (255 : Int32))), .val (.ref a4), .val (.ref a7), .val (.ref a3)] [(.ref a7)])) (fun t k => ?_) ?_
   ·refine XS.ifNo W9.here hx rfl (hb hby at_151) rfl ((if0 _ _).trans (feq (by decide : ¬ ((1 : Int32) = (0 : Int32)))).1) ?_
    refine XS.aload W9.here hx rfl (hb hby at_154) rfl rfl ?_
    exact k
   refine W9.callVU hx (x := y_8) (y := y_6) (C := "com/example/exact_roles/exactroles/cli/CommandException") (owner := "java/lang/Throwable") (ww hw 93 rfl) (ww hw 94 rfl) (ww hw 95 rfl) (by decide) (ww hw 97 rfl) (ww hw 96 rfl) (Pay.of_con (Wd := 0) (rm_getMessage l Z a0 hw a7 (.ref a4) h7 n0 (by omega) Fc7 rfl) (ww hw 98 rfl) (ww hw 40 rfl) (hEL hw) (by decide) (by decide)) A7 (g := (mkF m 156 #[.val (.int p0), .val (.int p1), .val (.int p2), .val (.int p3), .val (.int (p1 &&& (255 : Int32))), .val (.int (p2 &&& (255 : Int32))), .val (.int (p3 &&& (255 : Int32))), .val (.ref a4), .val (.ref a7), .val (.ref a3)] [(.ref a7)])) rfl (by rw [hml]; rfl) (argsL := []) (rest := []) (lenOf pd_6 rfl) rfl rfl (ble_ rfl) (hb hby at_156) (by decide) (by decide) (fun v10 T10 h10 W10 sz10 q10 => ?_)
   obtain ⟨rfl, rfl⟩ := q10
   change Fi _ _ _ _ _ _ _ _ _ _ (T10.setTop (mkF m 159 #[.val (.int p0), .val (.int p1), .val (.int p2), .val (.int p3), .val (.int (p1 &&& (255 : Int32))), .val (.int (p2 &&& (255 : Int32))), .val (.int (p3 &&& (255 : Int32))), .val (.ref a4), .val (.ref a7), .val (.ref a3)] [(.ref a4)]))
   refine Fi.by' (st' := T10.setTop (mkF m 161 #[.val (.int p0), .val (.int p1), .val (.int p2), .val (.int p3), .val (.int (p1 &&& (255 : Int32))), .val (.int (p2 &&& (255 : Int32))), .val (.int (p3 &&& (255 : Int32))), .val (.ref a4), .val (.ref a7), .val (.ref a3)] [(.ref a4), (.ref a4)])) (fun t k => ?_) ?_
   ·refine XS.aload W10.here hx rfl (hb hby at_159) rfl rfl ?_
    exact k
   refine Fi.by' (st' := T10.setTop (mkF m 166 #[.val (.int p0), .val (.int p1), .val (.int p2), .val (.int p3), .val (.int (p1 &&& (255 : Int32))), .val (.int (p2 &&& (255 : Int32))), .val (.int (p3 &&& (255 : Int32))), .val (.ref a4), .val (.ref a7), .val (.ref a3)] [(.ref a7)])) (fun t k => ?_) ?_
   ·refine XS.acmpNo W10.here hx rfl (hb hby at_161) rfl (acmpTNe (rfl : a4 = a4)) ?_
    refine XS.aload W10.here hx rfl (hb hby at_164) rfl rfl ?_
    exact k
   refine W10.callVU hx (x := y_9) (y := y_10) (C := "com/example/exact_roles/exactroles/cli/CommandException") (owner := "java/lang/Throwable") (ww hw 99 rfl) (ww hw 100 rfl) (ww hw 101 rfl) (by decide) (ww hw 103 rfl) (ww hw 102 rfl) (payGC (Wd := 0) (c0 := .null) (hEL hw) (ww hw (i := 104) rfl) (ww hw 102 rfl) (ww hw 40 rfl) (ww hw 43 rfl) N7 Fd7 rfl (by decide) (by decide)) A7 (g := (mkF m 166 #[.val (.int p0), .val (.int p1), .val (.int p2), .val (.int p3), .val (.int (p1 &&& (255 : Int32))), .val (.int (p2 &&& (255 : Int32))), .val (.int (p3 &&& (255 : Int32))), .val (.ref a4), .val (.ref a7), .val (.ref a3)] [(.ref a7)])) rfl (by rw [hml]; rfl) (argsL := []) (rest := []) (lenOf pd_7 rfl) rfl rfl (ble_ rfl) (hb hby at_166) (by decide) (by decide) (fun v11 T11 h11 W11 sz11 q11 => ?_)
   rw [gcv_null] at q11
   obtain ⟨rfl, rfl⟩ := q11
   change Fi _ _ _ _ _ _ _ _ _ _ (T11.setTop (mkF m 169 #[.val (.int p0), .val (.int p1), .val (.int p2), .val (.int p3), .val (.int (p1 &&& (255 : Int32))), .val (.int (p2 &&& (255 : Int32))), .val (.int (p3 &&& (255 : Int32))), .val (.ref a4), .val (.ref a7), .val (.ref a3)] [.null]))
   refine Fi.by' (st' := T11.setTop (mkF m 177 #[.val (.int p0), .val (.int p1), .val (.int p2), .val (.int p3), .val (.int (p1 &&& (255 : Int32))), .val (.int (p2 &&& (255 : Int32))), .val (.int (p3 &&& (255 : Int32))), .val (.ref a4), .val (.ref a7), .val (.ref a3)] [(.int (1 : Int32))])) (fun t k => ?_) ?_
   ·refine XS.ifnonnullNo W11.here hx rfl (hb hby at_169) rfl ?_
    refine iconstZ W11.here hx rfl (hb hby at_172) (z := (1 : Int32)) rfl ?_
    refine XS.goto W11.here hx rfl (pc0 := 173) (pc' := 177) rfl (hb hby at_173) (by decide) (by decide) ?_
    exact k
   exact W11.iret hx hlk hret (by simp) rfl (hb hby at_177) rfl (by decide) (by decide)
  ·refine Fi.by' (st' := s₁.setTop (mkF m 59 #[.val (.int p0), .val (.int p1), .val (.int p2), .val (.int p3), .val (.int (p1 &&& (255 : Int32))), .val (.int (p2 &&& (255 : Int32))), .val (.int (p3 &&& (255 : Int32))), .unset, .val (.int (((p0.toUInt32 >>> ((1 : Int32) &&& 31).toUInt32).toInt32) &&& (3 : Int32))), .unset] [(.int (1 : Int32)), (.int (((p0.toUInt32 >>> ((1 : Int32) &&& 31).toUInt32).toInt32) &&& (3 : Int32)))])) (fun t k => ?_) ?_
   ·refine XS.ifYes W0.here hx rfl (pc0 := 45) (pc' := 56) rfl (hb hby at_45) rfl ((if0 _ _).trans (feq hc45_2).2) (by decide) (by decide) ?_
    refine XS.iload W0.here hx rfl (hb hby at_56) rfl ?_
    refine iconstZ W0.here hx rfl (hb hby at_58) (z := (1 : Int32)) rfl ?_
    exact k
   by_cases hc59_12 : (((p0.toUInt32 >>> ((1 : Int32) &&& 31).toUInt32).toInt32) &&& (3 : Int32)) = (1 : Int32)
   ·refine Fi.by' (st' := s₁.setTop (mkF m 63 #[.val (.int p0), .val (.int p1), .val (.int p2), .val (.int p3), .val (.int (p1 &&& (255 : Int32))), .val (.int (p2 &&& (255 : Int32))), .val (.int (p3 &&& (255 : Int32))), .unset, .val (.int (((p0.toUInt32 >>> ((1 : Int32) &&& 31).toUInt32).toInt32) &&& (3 : Int32))), .unset] [(.int (1 : Int32))])) (fun t k => ?_) ?_
    ·refine XS.icmpNo W0.here hx rfl (hb hby at_59) rfl (teq hc59_12).2 ?_
     refine iconstZ W0.here hx rfl (hb hby at_62) (z := (1 : Int32)) rfl ?_
     exact k
    refine W0.newP hx (aty := .char) (ww hw 0 rfl) (g := (mkF m 63 #[.val (.int p0), .val (.int p1), .val (.int p2), .val (.int p3), .val (.int (p1 &&& (255 : Int32))), .val (.int (p2 &&& (255 : Int32))), .val (.int (p3 &&& (255 : Int32))), .unset, .val (.int (((p0.toUInt32 >>> ((1 : Int32) &&& 31).toUInt32).toInt32) &&& (3 : Int32))), .unset] [(.int (1 : Int32))])) rfl (hb hby at_63) rfl (by decide) (cap := 1) (by decide) (by decide) (by decide) (by decide) (fun T13 h13 a13 k13 ha13 W13 E13 A13 => ?_)
    change Fi _ _ _ _ _ _ _ _ _ _ (T13.setTop (mkF m 65 #[.val (.int p0), .val (.int p1), .val (.int p2), .val (.int p3), .val (.int (p1 &&& (255 : Int32))), .val (.int (p2 &&& (255 : Int32))), .val (.int (p3 &&& (255 : Int32))), .unset, .val (.int (((p0.toUInt32 >>> ((1 : Int32) &&& 31).toUInt32).toInt32) &&& (3 : Int32))), .unset] [(.ref a13)]))
    have sz13 := E13.1
    have V13 : Arv Z h13 a13 k13 .char (1 : Int32) (([0] : List Int32).map Value.int) (.int (0 : Int32)) := A13.pad (pad_rep [] (.int (0 : Int32)) 1)
    refine Fi.by' (st' := T13.setTop (mkF m 69 #[.val (.int p0), .val (.int p1), .val (.int p2), .val (.int p3), .val (.int (p1 &&& (255 : Int32))), .val (.int (p2 &&& (255 : Int32))), .val (.int (p3 &&& (255 : Int32))), .unset, .val (.int (((p0.toUInt32 >>> ((1 : Int32) &&& 31).toUInt32).toInt32) &&& (3 : Int32))), .unset] [(.int (p1 &&& (255 : Int32))), (.int (0 : Int32)), (.ref a13), (.ref a13)])) (fun t k => ?_) ?_
    ·refine XS.dup W13.here hx rfl (hb hby at_65) rfl rfl ?_
     refine iconstZ W13.here hx rfl (hb hby at_66) (z := (0 : Int32)) rfl ?_
     refine XS.iload W13.here hx rfl (hb hby at_67) rfl ?_
     exact k
    refine W13.castore hx V13 (i := 0) (ble_ rfl) (j := (0 : Int32)) rfl (by decide) rfl (ch_ok (and255 _)) (g := (mkF m 69 #[.val (.int p0), .val (.int p1), .val (.int p2), .val (.int p3), .val (.int (p1 &&& (255 : Int32))), .val (.int (p2 &&& (255 : Int32))), .val (.int (p3 &&& (255 : Int32))), .unset, .val (.int (((p0.toUInt32 >>> ((1 : Int32) &&& 31).toUInt32).toInt32) &&& (3 : Int32))), .unset] [(.int (p1 &&& (255 : Int32))), (.int (0 : Int32)), (.ref a13), (.ref a13)])) rfl rfl (hb hby at_69) (by omega) (fun T14 h14 W14 R14 V14 => ?_)
    change Fi _ _ _ _ _ _ _ _ _ _ (T14.setTop (mkF m 70 #[.val (.int p0), .val (.int p1), .val (.int p2), .val (.int p3), .val (.int (p1 &&& (255 : Int32))), .val (.int (p2 &&& (255 : Int32))), .val (.int (p3 &&& (255 : Int32))), .unset, .val (.int (((p0.toUInt32 >>> ((1 : Int32) &&& 31).toUInt32).toInt32) &&& (3 : Int32))), .unset] [(.ref a13)]))
    have x14w : Ext h0 h14 := ext_wr E13 R14 (by omega)
    have sz14 := R14.size
    have V14' : Arv Z h14 a13 k13 .char (1 : Int32) (([(p1 &&& (255 : Int32))] : List Int32).map Value.int) (.int (0 : Int32)) := V14
    refine Fi.by' (st' := T14.setTop (mkF m 119 #[.val (.int p0), .val (.int p1), .val (.int p2), .val (.int p3), .val (.int (p1 &&& (255 : Int32))), .val (.int (p2 &&& (255 : Int32))), .val (.int (p3 &&& (255 : Int32))), .unset, .val (.int (((p0.toUInt32 >>> ((1 : Int32) &&& 31).toUInt32).toInt32) &&& (3 : Int32))), .val (.ref a13)] [])) (fun t k => ?_) ?_
    ·refine XS.astore W14.here hx rfl (hb hby at_70) rfl rfl (l' := #[.val (.int p0), .val (.int p1), .val (.int p2), .val (.int p3), .val (.int (p1 &&& (255 : Int32))), .val (.int (p2 &&& (255 : Int32))), .val (.int (p3 &&& (255 : Int32))), .unset, .val (.int (((p0.toUInt32 >>> ((1 : Int32) &&& 31).toUInt32).toInt32) &&& (3 : Int32))), .val (.ref a13)]) rfl ?_
     refine XS.goto W14.here hx rfl (pc0 := 72) (pc' := 119) rfl (hb hby at_72) (by decide) (by decide) ?_
     exact k
    refine W14.new hx (ww hw 1 rfl) (ww hw 2 rfl) (ww hw 3 rfl) (g := (mkF m 119 #[.val (.int p0), .val (.int p1), .val (.int p2), .val (.int p3), .val (.int (p1 &&& (255 : Int32))), .val (.int (p2 &&& (255 : Int32))), .val (.int (p3 &&& (255 : Int32))), .unset, .val (.int (((p0.toUInt32 >>> ((1 : Int32) &&& 31).toUInt32).toInt32) &&& (3 : Int32))), .val (.ref a13)] [])) rfl (hb hby at_119) (by decide) (by decide) (fun T15 h15 a15 ha15 W15 E15 A15 D15 => ?_)
    change Fi _ _ _ _ _ _ _ _ _ _ (T15.setTop (mkF m 122 #[.val (.int p0), .val (.int p1), .val (.int p2), .val (.int p3), .val (.int (p1 &&& (255 : Int32))), .val (.int (p2 &&& (255 : Int32))), .val (.int (p3 &&& (255 : Int32))), .unset, .val (.int (((p0.toUInt32 >>> ((1 : Int32) &&& 31).toUInt32).toInt32) &&& (3 : Int32))), .val (.ref a13)] [(.ref a15)]))
    have sz15 := E15.1
    refine Fi.by' (st' := T15.setTop (mkF m 125 #[.val (.int p0), .val (.int p1), .val (.int p2), .val (.int p3), .val (.int (p1 &&& (255 : Int32))), .val (.int (p2 &&& (255 : Int32))), .val (.int (p3 &&& (255 : Int32))), .unset, .val (.int (((p0.toUInt32 >>> ((1 : Int32) &&& 31).toUInt32).toInt32) &&& (3 : Int32))), .val (.ref a13)] [(.ref a13), (.ref a15), (.ref a15)])) (fun t k => ?_) ?_
    ·refine XS.dup W15.here hx rfl (hb hby at_122) rfl rfl ?_
     refine XS.aload W15.here hx rfl (hb hby at_123) rfl rfl ?_
     exact k
    have x16 : Ext h0 h15 := ext_trans x14w E15
    refine W15.callI hx (y := y_7) rfl (ww hw 4 rfl) (ww hw 5 rfl) (ww hw 6 rfl) (by decide) (payS (Wd := 1) (n := 1) (cs := [(p1 &&& (255 : Int32))]) hw (by omega) (by omega) A15 (D15 (Or.inr (ww hw 16 rfl)) (ty := (.array .byte)) (by decide)) (D15 (Or.inr (ww hw 17 rfl)) (ty := .byte) (by decide)) (V14'.ext E15) (Sta.ext x16 S0) hz rfl rfl (by decide) (by decide) (all_cons (and255 _) all_nil) (by decide) (by decide)) (a := a15) (g := (mkF m 125 #[.val (.int p0), .val (.int p1), .val (.int p2), .val (.int p3), .val (.int (p1 &&& (255 : Int32))), .val (.int (p2 &&& (255 : Int32))), .val (.int (p3 &&& (255 : Int32))), .unset, .val (.int (((p0.toUInt32 >>> ((1 : Int32) &&& 31).toUInt32).toInt32) &&& (3 : Int32))), .val (.ref a13)] [(.ref a13), (.ref a15), (.ref a15)])) rfl (by rw [hml]; rfl) (argsL := [(.ref a13)]) (rest := [(.ref a15)]) (lenOf pd_2 rfl) rfl rfl (ble_ rfl) (hb hby at_125) (by decide) (by decide) (fun v17 T17 h17 W17 sz17 q17 => ?_)
    obtain ⟨rfl, K17, F17⟩ := q17
    change Fi _ _ _ _ _ _ _ _ _ _ (T17.setTop (mkF m 128 #[.val (.int p0), .val (.int p1), .val (.int p2), .val (.int p3), .val (.int (p1 &&& (255 : Int32))), .val (.int (p2 &&& (255 : Int32))), .val (.int (p3 &&& (255 : Int32))), .unset, .val (.int (((p0.toUInt32 >>> ((1 : Int32) &&& 31).toUInt32).toInt32) &&& (3 : Int32))), .val (.ref a13)] [(.ref a15)]))
    have x17k : Ext h14 h17 := ext_keep1 E15 K17 (by omega)
    refine Fi.by' (st' := T17.setTop (mkF m 132 #[.val (.int p0), .val (.int p1), .val (.int p2), .val (.int p3), .val (.int (p1 &&& (255 : Int32))), .val (.int (p2 &&& (255 : Int32))), .val (.int (p3 &&& (255 : Int32))), .val (.ref a15), .val (.int (((p0.toUInt32 >>> ((1 : Int32) &&& 31).toUInt32).toInt32) &&& (3 : Int32))), .val (.ref a13)] [(.ref a15)])) (fun t k => ?_) ?_
    ·refine XS.astore W17.here hx rfl (hb hby at_128) rfl rfl (l' := #[.val (.int p0), .val (.int p1), .val (.int p2), .val (.int p3), .val (.int (p1 &&& (255 : Int32))), .val (.int (p2 &&& (255 : Int32))), .val (.int (p3 &&& (255 : Int32))), .val (.ref a15), .val (.int (((p0.toUInt32 >>> ((1 : Int32) &&& 31).toUInt32).toInt32) &&& (3 : Int32))), .val (.ref a13)]) rfl ?_
     refine XS.aload W17.here hx rfl (hb hby at_130) rfl rfl ?_
     exact k
    have x18 : Ext h0 h17 := ext_trans x14w x17k
    refine W17.callS hx (y := y_3) (ww hw 22 rfl) (ww hw 23 rfl) (ww hw 24 rfl) (ww hw 25 rfl) (by decide) (Pay.of_conK (Wd := 0) (rm_usage l Z a0 hw hTK hst r2 (.ref a15) uu sn h17 n0 (by omega) (ThS.ext x18 H0) (Sta.ext x18 S1) (Sta.ext x18 S2) hu hv rfl) (ww hw 25 rfl) (ww hw 24 rfl) (hEL hw) hTK hZs hBl (by decide) (by decide)) (g := (mkF m 132 #[.val (.int p0), .val (.int p1), .val (.int p2), .val (.int p3), .val (.int (p1 &&& (255 : Int32))), .val (.int (p2 &&& (255 : Int32))), .val (.int (p3 &&& (255 : Int32))), .val (.ref a15), .val (.int (((p0.toUInt32 >>> ((1 : Int32) &&& 31).toUInt32).toInt32) &&& (3 : Int32))), .val (.ref a13)] [(.ref a15)])) rfl (by rw [hml]; rfl) (argsL := [(.ref a15)]) (rest := []) (lenOf pd_3 rfl) rfl rfl (ble_ rfl) (hb hby at_132) (by decide) (by decide) (fun v19 T19 h19 W19 sz19 q19 => ?_)
    obtain ⟨a19, rfl, E19, g19, A19, N19, Fa19, Fb19, Fc19, Fd19⟩ := q19
    change Fi _ _ _ _ _ _ _ _ _ _ (T19.setTop (mkF m 135 #[.val (.int p0), .val (.int p1), .val (.int p2), .val (.int p3), .val (.int (p1 &&& (255 : Int32))), .val (.int (p2 &&& (255 : Int32))), .val (.int (p3 &&& (255 : Int32))), .val (.ref a15), .val (.int (((p0.toUInt32 >>> ((1 : Int32) &&& 31).toUInt32).toInt32) &&& (3 : Int32))), .val (.ref a13)] [(.ref a19)]))
    refine Fi.by' (st' := T19.setTop (mkF m 139 #[.val (.int p0), .val (.int p1), .val (.int p2), .val (.int p3), .val (.int (p1 &&& (255 : Int32))), .val (.int (p2 &&& (255 : Int32))), .val (.int (p3 &&& (255 : Int32))), .val (.ref a15), .val (.ref a19), .val (.ref a13)] [(.ref a19)])) (fun t k => ?_) ?_
    ·refine XS.astore W19.here hx rfl (hb hby at_135) rfl rfl (l' := #[.val (.int p0), .val (.int p1), .val (.int p2), .val (.int p3), .val (.int (p1 &&& (255 : Int32))), .val (.int (p2 &&& (255 : Int32))), .val (.int (p3 &&& (255 : Int32))), .val (.ref a15), .val (.ref a19), .val (.ref a13)]) rfl ?_
     refine XS.aload W19.here hx rfl (hb hby at_137) rfl rfl ?_
     exact k
    refine W19.callV hx (y := y_4) (C := "com/example/exact_roles/exactroles/cli/CommandException") (ww hw 83 rfl) (ww hw 84 rfl) (ww hw 86 rfl) (ww hw 85 rfl) (by decide) (Pay.of_con (Wd := 0) (rm_getStatus l Z a0 hw a19 (2 : Int32) h19 n0 (by omega) Fa19) (ww hw 87 rfl) (ww hw 24 rfl) (hEL hw) (by decide) (by decide)) A19 (g := (mkF m 139 #[.val (.int p0), .val (.int p1), .val (.int p2), .val (.int p3), .val (.int (p1 &&& (255 : Int32))), .val (.int (p2 &&& (255 : Int32))), .val (.int (p3 &&& (255 : Int32))), .val (.ref a15), .val (.ref a19), .val (.ref a13)] [(.ref a19)])) rfl (by rw [hml]; rfl) (argsL := []) (rest := []) (lenOf pd_4 rfl) rfl rfl (ble_ rfl) (hb hby at_139) (by decide) (by decide) (fun v20 T20 h20 W20 sz20 q20 => ?_)
    obtain ⟨rfl, rfl⟩ := q20
    change Fi _ _ _ _ _ _ _ _ _ _ (T20.setTop (mkF m 142 #[.val (.int p0), .val (.int p1), .val (.int p2), .val (.int p3), .val (.int (p1 &&& (255 : Int32))), .val (.int (p2 &&& (255 : Int32))), .val (.int (p3 &&& (255 : Int32))), .val (.ref a15), .val (.ref a19), .val (.ref a13)] [(.int (2 : Int32))]))
    refine Fi.by' (st' := T20.setTop (mkF m 148 #[.val (.int p0), .val (.int p1), .val (.int p2), .val (.int p3), .val (.int (p1 &&& (255 : Int32))), .val (.int (p2 &&& (255 : Int32))), .val (.int (p3 &&& (255 : Int32))), .val (.ref a15), .val (.ref a19), .val (.ref a13)] [(.ref a19)])) (fun t k => ?_) ?_
    ·refine iconstZ W20.here hx rfl (hb hby at_142) (z := (2 : Int32)) rfl ?_
     refine XS.icmpNo W20.here hx rfl (hb hby at_143) rfl (teq (by decide : ((2 : Int32) = (2 : Int32)))).2 ?_
     refine XS.aload W20.here hx rfl (hb hby at_146) rfl rfl ?_
     exact k
    refine W20.callV hx (y := y_5) (C := "com/example/exact_roles/exactroles/cli/CommandException") (ww hw 88 rfl) (ww hw 89 rfl) (ww hw 91 rfl) (ww hw 90 rfl) (by decide) (Pay.of_con (Wd := 0) (rm_showsUsage l Z a0 hw a19 (1 : Int32) h19 n0 (by omega) Fb19 rfl) (ww hw 92 rfl) (ww hw 24 rfl) (hEL hw) (by decide) (by decide)) A19 (g := (mkF m 148 #[.val (.int p0), .val (.int p1), .val (.int p2), .val (.int p3), .val (.int (p1 &&& (255 : Int32))), .val (.int (p2 &&& (255 : Int32))), .val (.int (p3 &&& (255 : Int32))), .val (.ref a15), .val (.ref a19), .val (.ref a13)] [(.ref a19)])) rfl (by rw [hml]; rfl) (argsL := []) (rest := []) (lenOf pd_5 rfl) rfl rfl (ble_ rfl) (hb hby at_148) (by decide) (by decide) (fun v21 T21 h21 W21 sz21 q21 => ?_)
    obtain ⟨rfl, rfl⟩ := q21
    change Fi _ _ _ _ _ _ _ _ _ _ (T21.setTop (mkF m 151 #[.val (.int p0), .val (.int p1), .val (.int p2), .val (.int p3), .val (.int (p1 &&& (255 : Int32))), .val (.int (p2 &&& (255 : Int32))), .val (.int (p3 &&& (255 : Int32))), .val (.ref a15), .val (.ref a19), .val (.ref a13)] [(.int (1 : Int32))]))
    refine Fi.by' (st' := T21.setTop (mkF m 156 #[.val (.int p0), .val (.int p1), .val (.int p2), .val (.int p3), .val (.int (p1 &&& (255 : Int32))), .val (.int (p2 &&& (255 : Int32))), .val (.int (p3 &&& (255 : Int32))), .val (.ref a15), .val (.ref a19), .val (.ref a13)] [(.ref a19)])) (fun t k => ?_) ?_
    ·refine XS.ifNo W21.here hx rfl (hb hby at_151) rfl ((if0 _ _).trans (feq (by decide : ¬ ((1 : Int32) = (0 : Int32)))).1) ?_
     refine XS.aload W21.here hx rfl (hb hby at_154) rfl rfl ?_
     exact k
    refine W21.callVU hx (x := y_8) (y := y_6) (C := "com/example/exact_roles/exactroles/cli/CommandException") (owner := "java/lang/Throwable") (ww hw 93 rfl) (ww hw 94 rfl) (ww hw 95 rfl) (by decide) (ww hw 97 rfl) (ww hw 96 rfl) (Pay.of_con (Wd := 0) (rm_getMessage l Z a0 hw a19 (.ref a15) h19 n0 (by omega) Fc19 rfl) (ww hw 98 rfl) (ww hw 40 rfl) (hEL hw) (by decide) (by decide)) A19 (g := (mkF m 156 #[.val (.int p0), .val (.int p1), .val (.int p2), .val (.int p3), .val (.int (p1 &&& (255 : Int32))), .val (.int (p2 &&& (255 : Int32))), .val (.int (p3 &&& (255 : Int32))), .val (.ref a15), .val (.ref a19), .val (.ref a13)] [(.ref a19)])) rfl (by rw [hml]; rfl) (argsL := []) (rest := []) (lenOf pd_6 rfl) rfl rfl (ble_ rfl) (hb hby at_156) (by decide) (by decide) (fun v22 T22 h22 W22 sz22 q22 => ?_)
    obtain ⟨rfl, rfl⟩ := q22
    change Fi _ _ _ _ _ _ _ _ _ _ (T22.setTop (mkF m 159 #[.val (.int p0), .val (.int p1), .val (.int p2), .val (.int p3), .val (.int (p1 &&& (255 : Int32))), .val (.int (p2 &&& (255 : Int32))), .val (.int (p3 &&& (255 : Int32))), .val (.ref a15), .val (.ref a19), .val (.ref a13)] [(.ref a15)]))
    refine Fi.by' (st' := T22.setTop (mkF m 161 #[.val (.int p0), .val (.int p1), .val (.int p2), .val (.int p3), .val (.int (p1 &&& (255 : Int32))), .val (.int (p2 &&& (255 : Int32))), .val (.int (p3 &&& (255 : Int32))), .val (.ref a15), .val (.ref a19), .val (.ref a13)] [(.ref a15), (.ref a15)])) (fun t k => ?_) ?_
    ·refine XS.aload W22.here hx rfl (hb hby at_159) rfl rfl ?_
     exact k
    refine Fi.by' (st' := T22.setTop (mkF m 166 #[.val (.int p0), .val (.int p1), .val (.int p2), .val (.int p3), .val (.int (p1 &&& (255 : Int32))), .val (.int (p2 &&& (255 : Int32))), .val (.int (p3 &&& (255 : Int32))), .val (.ref a15), .val (.ref a19), .val (.ref a13)] [(.ref a19)])) (fun t k => ?_) ?_
    ·refine XS.acmpNo W22.here hx rfl (hb hby at_161) rfl (acmpTNe (rfl : a15 = a15)) ?_
     refine XS.aload W22.here hx rfl (hb hby at_164) rfl rfl ?_
     exact k
    refine W22.callVU hx (x := y_9) (y := y_10) (C := "com/example/exact_roles/exactroles/cli/CommandException") (owner := "java/lang/Throwable") (ww hw 99 rfl) (ww hw 100 rfl) (ww hw 101 rfl) (by decide) (ww hw 103 rfl) (ww hw 102 rfl) (payGC (Wd := 0) (c0 := .null) (hEL hw) (ww hw (i := 104) rfl) (ww hw 102 rfl) (ww hw 40 rfl) (ww hw 43 rfl) N19 Fd19 rfl (by decide) (by decide)) A19 (g := (mkF m 166 #[.val (.int p0), .val (.int p1), .val (.int p2), .val (.int p3), .val (.int (p1 &&& (255 : Int32))), .val (.int (p2 &&& (255 : Int32))), .val (.int (p3 &&& (255 : Int32))), .val (.ref a15), .val (.ref a19), .val (.ref a13)] [(.ref a19)])) rfl (by rw [hml]; rfl) (argsL := []) (rest := []) (lenOf pd_7 rfl) rfl rfl (ble_ rfl) (hb hby at_166) (by decide) (by decide) (fun v23 T23 h23 W23 sz23 q23 => ?_)
    rw [gcv_null] at q23
    obtain ⟨rfl, rfl⟩ := q23
    change Fi _ _ _ _ _ _ _ _ _ _ (T23.setTop (mkF m 169 #[.val (.int p0), .val (.int p1), .val (.int p2), .val (.int p3), .val (.int (p1 &&& (255 : Int32))), .val (.int (p2 &&& (255 : Int32))), .val (.int (p3 &&& (255 : Int32))), .val (.ref a15), .val (.ref a19), .val (.ref a13)] [.null]))
    refine Fi.by' (st' := T23.setTop (mkF m 177 #[.val (.int p0), .val (.int p1), .val (.int p2), .val (.int p3), .val (.int (p1 &&& (255 : Int32))), .val (.int (p2 &&& (255 : Int32))), .val (.int (p3 &&& (255 : Int32))), .val (.ref a15), .val (.ref a19), .val (.ref a13)] [(.int (1 : Int32))])) (fun t k => ?_) ?_
    ·refine XS.ifnonnullNo W23.here hx rfl (hb hby at_169) rfl ?_
     refine iconstZ W23.here hx rfl (hb hby at_172) (z := (1 : Int32)) rfl ?_
     refine XS.goto W23.here hx rfl (pc0 := 173) (pc' := 177) rfl (hb hby at_173) (by decide) (by decide) ?_
     exact k
    exact W23.iret hx hlk hret (by simp) rfl (hb hby at_177) rfl (by decide) (by decide)
   ·refine Fi.by' (st' := s₁.setTop (mkF m 78 #[.val (.int p0), .val (.int p1), .val (.int p2), .val (.int p3), .val (.int (p1 &&& (255 : Int32))), .val (.int (p2 &&& (255 : Int32))), .val (.int (p3 &&& (255 : Int32))), .unset, .val (.int (((p0.toUInt32 >>> ((1 : Int32) &&& 31).toUInt32).toInt32) &&& (3 : Int32))), .unset] [(.int (2 : Int32)), (.int (((p0.toUInt32 >>> ((1 : Int32) &&& 31).toUInt32).toInt32) &&& (3 : Int32)))])) (fun t k => ?_) ?_
    ·refine XS.icmpYes W0.here hx rfl (pc0 := 59) (pc' := 75) rfl (hb hby at_59) rfl (feq hc59_12).2 (by decide) (by decide) ?_
     refine XS.iload W0.here hx rfl (hb hby at_75) rfl ?_
     refine iconstZ W0.here hx rfl (hb hby at_77) (z := (2 : Int32)) rfl ?_
     exact k
    by_cases hc78_24 : (((p0.toUInt32 >>> ((1 : Int32) &&& 31).toUInt32).toInt32) &&& (3 : Int32)) = (2 : Int32)
    ·refine Fi.by' (st' := s₁.setTop (mkF m 82 #[.val (.int p0), .val (.int p1), .val (.int p2), .val (.int p3), .val (.int (p1 &&& (255 : Int32))), .val (.int (p2 &&& (255 : Int32))), .val (.int (p3 &&& (255 : Int32))), .unset, .val (.int (((p0.toUInt32 >>> ((1 : Int32) &&& 31).toUInt32).toInt32) &&& (3 : Int32))), .unset] [(.int (2 : Int32))])) (fun t k => ?_) ?_
     ·refine XS.icmpNo W0.here hx rfl (hb hby at_78) rfl (teq hc78_24).2 ?_
      refine iconstZ W0.here hx rfl (hb hby at_81) (z := (2 : Int32)) rfl ?_
      exact k
     refine W0.newP hx (aty := .char) (ww hw 0 rfl) (g := (mkF m 82 #[.val (.int p0), .val (.int p1), .val (.int p2), .val (.int p3), .val (.int (p1 &&& (255 : Int32))), .val (.int (p2 &&& (255 : Int32))), .val (.int (p3 &&& (255 : Int32))), .unset, .val (.int (((p0.toUInt32 >>> ((1 : Int32) &&& 31).toUInt32).toInt32) &&& (3 : Int32))), .unset] [(.int (2 : Int32))])) rfl (hb hby at_82) rfl (by decide) (cap := 2) (by decide) (by decide) (by decide) (by decide) (fun T25 h25 a25 k25 ha25 W25 E25 A25 => ?_)
     change Fi _ _ _ _ _ _ _ _ _ _ (T25.setTop (mkF m 84 #[.val (.int p0), .val (.int p1), .val (.int p2), .val (.int p3), .val (.int (p1 &&& (255 : Int32))), .val (.int (p2 &&& (255 : Int32))), .val (.int (p3 &&& (255 : Int32))), .unset, .val (.int (((p0.toUInt32 >>> ((1 : Int32) &&& 31).toUInt32).toInt32) &&& (3 : Int32))), .unset] [(.ref a25)]))
     have sz25 := E25.1
     have V25 : Arv Z h25 a25 k25 .char (2 : Int32) (([0, 0] : List Int32).map Value.int) (.int (0 : Int32)) := A25.pad (pad_rep [] (.int (0 : Int32)) 2)
     refine Fi.by' (st' := T25.setTop (mkF m 88 #[.val (.int p0), .val (.int p1), .val (.int p2), .val (.int p3), .val (.int (p1 &&& (255 : Int32))), .val (.int (p2 &&& (255 : Int32))), .val (.int (p3 &&& (255 : Int32))), .unset, .val (.int (((p0.toUInt32 >>> ((1 : Int32) &&& 31).toUInt32).toInt32) &&& (3 : Int32))), .unset] [(.int (p1 &&& (255 : Int32))), (.int (0 : Int32)), (.ref a25), (.ref a25)])) (fun t k => ?_) ?_
     ·refine XS.dup W25.here hx rfl (hb hby at_84) rfl rfl ?_
      refine iconstZ W25.here hx rfl (hb hby at_85) (z := (0 : Int32)) rfl ?_
      refine XS.iload W25.here hx rfl (hb hby at_86) rfl ?_
      exact k
     refine W25.castore hx V25 (i := 0) (ble_ rfl) (j := (0 : Int32)) rfl (by decide) rfl (ch_ok (and255 _)) (g := (mkF m 88 #[.val (.int p0), .val (.int p1), .val (.int p2), .val (.int p3), .val (.int (p1 &&& (255 : Int32))), .val (.int (p2 &&& (255 : Int32))), .val (.int (p3 &&& (255 : Int32))), .unset, .val (.int (((p0.toUInt32 >>> ((1 : Int32) &&& 31).toUInt32).toInt32) &&& (3 : Int32))), .unset] [(.int (p1 &&& (255 : Int32))), (.int (0 : Int32)), (.ref a25), (.ref a25)])) rfl rfl (hb hby at_88) (by omega) (fun T26 h26 W26 R26 V26 => ?_)
     change Fi _ _ _ _ _ _ _ _ _ _ (T26.setTop (mkF m 89 #[.val (.int p0), .val (.int p1), .val (.int p2), .val (.int p3), .val (.int (p1 &&& (255 : Int32))), .val (.int (p2 &&& (255 : Int32))), .val (.int (p3 &&& (255 : Int32))), .unset, .val (.int (((p0.toUInt32 >>> ((1 : Int32) &&& 31).toUInt32).toInt32) &&& (3 : Int32))), .unset] [(.ref a25)]))
     have x26w : Ext h0 h26 := ext_wr E25 R26 (by omega)
     have sz26 := R26.size
     have V26' : Arv Z h26 a25 k25 .char (2 : Int32) (([(p1 &&& (255 : Int32)), 0] : List Int32).map Value.int) (.int (0 : Int32)) := V26
     refine Fi.by' (st' := T26.setTop (mkF m 93 #[.val (.int p0), .val (.int p1), .val (.int p2), .val (.int p3), .val (.int (p1 &&& (255 : Int32))), .val (.int (p2 &&& (255 : Int32))), .val (.int (p3 &&& (255 : Int32))), .unset, .val (.int (((p0.toUInt32 >>> ((1 : Int32) &&& 31).toUInt32).toInt32) &&& (3 : Int32))), .unset] [(.int (p2 &&& (255 : Int32))), (.int (1 : Int32)), (.ref a25), (.ref a25)])) (fun t k => ?_) ?_
     ·refine XS.dup W26.here hx rfl (hb hby at_89) rfl rfl ?_
      refine iconstZ W26.here hx rfl (hb hby at_90) (z := (1 : Int32)) rfl ?_
      refine XS.iload W26.here hx rfl (hb hby at_91) rfl ?_
      exact k
     refine W26.castore hx V26' (i := 1) (ble_ rfl) (j := (1 : Int32)) rfl (by decide) rfl (ch_ok (and255 _)) (g := (mkF m 93 #[.val (.int p0), .val (.int p1), .val (.int p2), .val (.int p3), .val (.int (p1 &&& (255 : Int32))), .val (.int (p2 &&& (255 : Int32))), .val (.int (p3 &&& (255 : Int32))), .unset, .val (.int (((p0.toUInt32 >>> ((1 : Int32) &&& 31).toUInt32).toInt32) &&& (3 : Int32))), .unset] [(.int (p2 &&& (255 : Int32))), (.int (1 : Int32)), (.ref a25), (.ref a25)])) rfl rfl (hb hby at_93) (by omega) (fun T27 h27 W27 R27 V27 => ?_)
     change Fi _ _ _ _ _ _ _ _ _ _ (T27.setTop (mkF m 94 #[.val (.int p0), .val (.int p1), .val (.int p2), .val (.int p3), .val (.int (p1 &&& (255 : Int32))), .val (.int (p2 &&& (255 : Int32))), .val (.int (p3 &&& (255 : Int32))), .unset, .val (.int (((p0.toUInt32 >>> ((1 : Int32) &&& 31).toUInt32).toInt32) &&& (3 : Int32))), .unset] [(.ref a25)]))
     have x27w : Ext h0 h27 := ext_wr x26w R27 (by omega)
     have sz27 := R27.size
     have V27' : Arv Z h27 a25 k25 .char (2 : Int32) (([(p1 &&& (255 : Int32)), (p2 &&& (255 : Int32))] : List Int32).map Value.int) (.int (0 : Int32)) := V27
     refine Fi.by' (st' := T27.setTop (mkF m 119 #[.val (.int p0), .val (.int p1), .val (.int p2), .val (.int p3), .val (.int (p1 &&& (255 : Int32))), .val (.int (p2 &&& (255 : Int32))), .val (.int (p3 &&& (255 : Int32))), .unset, .val (.int (((p0.toUInt32 >>> ((1 : Int32) &&& 31).toUInt32).toInt32) &&& (3 : Int32))), .val (.ref a25)] [])) (fun t k => ?_) ?_
     ·refine XS.astore W27.here hx rfl (hb hby at_94) rfl rfl (l' := #[.val (.int p0), .val (.int p1), .val (.int p2), .val (.int p3), .val (.int (p1 &&& (255 : Int32))), .val (.int (p2 &&& (255 : Int32))), .val (.int (p3 &&& (255 : Int32))), .unset, .val (.int (((p0.toUInt32 >>> ((1 : Int32) &&& 31).toUInt32).toInt32) &&& (3 : Int32))), .val (.ref a25)]) rfl ?_
      refine XS.goto W27.here hx rfl (pc0 := 96) (pc' := 119) rfl (hb hby at_96) (by decide) (by decide) ?_
      exact k
     refine W27.new hx (ww hw 1 rfl) (ww hw 2 rfl) (ww hw 3 rfl) (g := (mkF m 119 #[.val (.int p0), .val (.int p1), .val (.int p2), .val (.int p3), .val (.int (p1 &&& (255 : Int32))), .val (.int (p2 &&& (255 : Int32))), .val (.int (p3 &&& (255 : Int32))), .unset, .val (.int (((p0.toUInt32 >>> ((1 : Int32) &&& 31).toUInt32).toInt32) &&& (3 : Int32))), .val (.ref a25)] [])) rfl (hb hby at_119) (by decide) (by decide) (fun T28 h28 a28 ha28 W28 E28 A28 D28 => ?_)
     change Fi _ _ _ _ _ _ _ _ _ _ (T28.setTop (mkF m 122 #[.val (.int p0), .val (.int p1), .val (.int p2), .val (.int p3), .val (.int (p1 &&& (255 : Int32))), .val (.int (p2 &&& (255 : Int32))), .val (.int (p3 &&& (255 : Int32))), .unset, .val (.int (((p0.toUInt32 >>> ((1 : Int32) &&& 31).toUInt32).toInt32) &&& (3 : Int32))), .val (.ref a25)] [(.ref a28)]))
     have sz28 := E28.1
     refine Fi.by' (st' := T28.setTop (mkF m 125 #[.val (.int p0), .val (.int p1), .val (.int p2), .val (.int p3), .val (.int (p1 &&& (255 : Int32))), .val (.int (p2 &&& (255 : Int32))), .val (.int (p3 &&& (255 : Int32))), .unset, .val (.int (((p0.toUInt32 >>> ((1 : Int32) &&& 31).toUInt32).toInt32) &&& (3 : Int32))), .val (.ref a25)] [(.ref a25), (.ref a28), (.ref a28)])) (fun t k => ?_) ?_
     ·refine XS.dup W28.here hx rfl (hb hby at_122) rfl rfl ?_
      refine XS.aload W28.here hx rfl (hb hby at_123) rfl rfl ?_
      exact k
     have x29 : Ext h0 h28 := ext_trans x27w E28
     refine W28.callI hx (y := y_7) rfl (ww hw 4 rfl) (ww hw 5 rfl) (ww hw 6 rfl) (by decide) (payS (Wd := 1) (n := 2) (cs := [(p1 &&& (255 : Int32)), (p2 &&& (255 : Int32))]) hw (by omega) (by omega) A28 (D28 (Or.inr (ww hw 16 rfl)) (ty := (.array .byte)) (by decide)) (D28 (Or.inr (ww hw 17 rfl)) (ty := .byte) (by decide)) (V27'.ext E28) (Sta.ext x29 S0) hz rfl rfl (by decide) (by decide) (all_cons (and255 _) (all_cons (and255 _) all_nil)) (by decide) (by decide)) (a := a28) (g := (mkF m 125 #[.val (.int p0), .val (.int p1), .val (.int p2), .val (.int p3), .val (.int (p1 &&& (255 : Int32))), .val (.int (p2 &&& (255 : Int32))), .val (.int (p3 &&& (255 : Int32))), .unset, .val (.int (((p0.toUInt32 >>> ((1 : Int32) &&& 31).toUInt32).toInt32) &&& (3 : Int32))), .val (.ref a25)] [(.ref a25), (.ref a28), (.ref a28)])) rfl (by rw [hml]; rfl) (argsL := [(.ref a25)]) (rest := [(.ref a28)]) (lenOf pd_2 rfl) rfl rfl (ble_ rfl) (hb hby at_125) (by decide) (by decide) (fun v30 T30 h30 W30 sz30 q30 => ?_)
     obtain ⟨rfl, K30, F30⟩ := q30
     change Fi _ _ _ _ _ _ _ _ _ _ (T30.setTop (mkF m 128 #[.val (.int p0), .val (.int p1), .val (.int p2), .val (.int p3), .val (.int (p1 &&& (255 : Int32))), .val (.int (p2 &&& (255 : Int32))), .val (.int (p3 &&& (255 : Int32))), .unset, .val (.int (((p0.toUInt32 >>> ((1 : Int32) &&& 31).toUInt32).toInt32) &&& (3 : Int32))), .val (.ref a25)] [(.ref a28)]))
     have x30k : Ext h27 h30 := ext_keep1 E28 K30 (by omega)
     refine Fi.by' (st' := T30.setTop (mkF m 132 #[.val (.int p0), .val (.int p1), .val (.int p2), .val (.int p3), .val (.int (p1 &&& (255 : Int32))), .val (.int (p2 &&& (255 : Int32))), .val (.int (p3 &&& (255 : Int32))), .val (.ref a28), .val (.int (((p0.toUInt32 >>> ((1 : Int32) &&& 31).toUInt32).toInt32) &&& (3 : Int32))), .val (.ref a25)] [(.ref a28)])) (fun t k => ?_) ?_
     ·refine XS.astore W30.here hx rfl (hb hby at_128) rfl rfl (l' := #[.val (.int p0), .val (.int p1), .val (.int p2), .val (.int p3), .val (.int (p1 &&& (255 : Int32))), .val (.int (p2 &&& (255 : Int32))), .val (.int (p3 &&& (255 : Int32))), .val (.ref a28), .val (.int (((p0.toUInt32 >>> ((1 : Int32) &&& 31).toUInt32).toInt32) &&& (3 : Int32))), .val (.ref a25)]) rfl ?_
      refine XS.aload W30.here hx rfl (hb hby at_130) rfl rfl ?_
      exact k
     have x31 : Ext h0 h30 := ext_trans x27w x30k
     refine W30.callS hx (y := y_3) (ww hw 22 rfl) (ww hw 23 rfl) (ww hw 24 rfl) (ww hw 25 rfl) (by decide) (Pay.of_conK (Wd := 0) (rm_usage l Z a0 hw hTK hst r2 (.ref a28) uu sn h30 n0 (by omega) (ThS.ext x31 H0) (Sta.ext x31 S1) (Sta.ext x31 S2) hu hv rfl) (ww hw 25 rfl) (ww hw 24 rfl) (hEL hw) hTK hZs hBl (by decide) (by decide)) (g := (mkF m 132 #[.val (.int p0), .val (.int p1), .val (.int p2), .val (.int p3), .val (.int (p1 &&& (255 : Int32))), .val (.int (p2 &&& (255 : Int32))), .val (.int (p3 &&& (255 : Int32))), .val (.ref a28), .val (.int (((p0.toUInt32 >>> ((1 : Int32) &&& 31).toUInt32).toInt32) &&& (3 : Int32))), .val (.ref a25)] [(.ref a28)])) rfl (by rw [hml]; rfl) (argsL := [(.ref a28)]) (rest := []) (lenOf pd_3 rfl) rfl rfl (ble_ rfl) (hb hby at_132) (by decide) (by decide) (fun v32 T32 h32 W32 sz32 q32 => ?_)
     obtain ⟨a32, rfl, E32, g32, A32, N32, Fa32, Fb32, Fc32, Fd32⟩ := q32
     change Fi _ _ _ _ _ _ _ _ _ _ (T32.setTop (mkF m 135 #[.val (.int p0), .val (.int p1), .val (.int p2), .val (.int p3), .val (.int (p1 &&& (255 : Int32))), .val (.int (p2 &&& (255 : Int32))), .val (.int (p3 &&& (255 : Int32))), .val (.ref a28), .val (.int (((p0.toUInt32 >>> ((1 : Int32) &&& 31).toUInt32).toInt32) &&& (3 : Int32))), .val (.ref a25)] [(.ref a32)]))
     refine Fi.by' (st' := T32.setTop (mkF m 139 #[.val (.int p0), .val (.int p1), .val (.int p2), .val (.int p3), .val (.int (p1 &&& (255 : Int32))), .val (.int (p2 &&& (255 : Int32))), .val (.int (p3 &&& (255 : Int32))), .val (.ref a28), .val (.ref a32), .val (.ref a25)] [(.ref a32)])) (fun t k => ?_) ?_
     ·refine XS.astore W32.here hx rfl (hb hby at_135) rfl rfl (l' := #[.val (.int p0), .val (.int p1), .val (.int p2), .val (.int p3), .val (.int (p1 &&& (255 : Int32))), .val (.int (p2 &&& (255 : Int32))), .val (.int (p3 &&& (255 : Int32))), .val (.ref a28), .val (.ref a32), .val (.ref a25)]) rfl ?_
      refine XS.aload W32.here hx rfl (hb hby at_137) rfl rfl ?_
      exact k
     refine W32.callV hx (y := y_4) (C := "com/example/exact_roles/exactroles/cli/CommandException") (ww hw 83 rfl) (ww hw 84 rfl) (ww hw 86 rfl) (ww hw 85 rfl) (by decide) (Pay.of_con (Wd := 0) (rm_getStatus l Z a0 hw a32 (2 : Int32) h32 n0 (by omega) Fa32) (ww hw 87 rfl) (ww hw 24 rfl) (hEL hw) (by decide) (by decide)) A32 (g := (mkF m 139 #[.val (.int p0), .val (.int p1), .val (.int p2), .val (.int p3), .val (.int (p1 &&& (255 : Int32))), .val (.int (p2 &&& (255 : Int32))), .val (.int (p3 &&& (255 : Int32))), .val (.ref a28), .val (.ref a32), .val (.ref a25)] [(.ref a32)])) rfl (by rw [hml]; rfl) (argsL := []) (rest := []) (lenOf pd_4 rfl) rfl rfl (ble_ rfl) (hb hby at_139) (by decide) (by decide) (fun v33 T33 h33 W33 sz33 q33 => ?_)
     obtain ⟨rfl, rfl⟩ := q33
     change Fi _ _ _ _ _ _ _ _ _ _ (T33.setTop (mkF m 142 #[.val (.int p0), .val (.int p1), .val (.int p2), .val (.int p3), .val (.int (p1 &&& (255 : Int32))), .val (.int (p2 &&& (255 : Int32))), .val (.int (p3 &&& (255 : Int32))), .val (.ref a28), .val (.ref a32), .val (.ref a25)] [(.int (2 : Int32))]))
     refine Fi.by' (st' := T33.setTop (mkF m 148 #[.val (.int p0), .val (.int p1), .val (.int p2), .val (.int p3), .val (.int (p1 &&& (255 : Int32))), .val (.int (p2 &&& (255 : Int32))), .val (.int (p3 &&& (255 : Int32))), .val (.ref a28), .val (.ref a32), .val (.ref a25)] [(.ref a32)])) (fun t k => ?_) ?_
     ·refine iconstZ W33.here hx rfl (hb hby at_142) (z := (2 : Int32)) rfl ?_
      refine XS.icmpNo W33.here hx rfl (hb hby at_143) rfl (teq (by decide : ((2 : Int32) = (2 : Int32)))).2 ?_
      refine XS.aload W33.here hx rfl (hb hby at_146) rfl rfl ?_
      exact k
     refine W33.callV hx (y := y_5) (C := "com/example/exact_roles/exactroles/cli/CommandException") (ww hw 88 rfl) (ww hw 89 rfl) (ww hw 91 rfl) (ww hw 90 rfl) (by decide) (Pay.of_con (Wd := 0) (rm_showsUsage l Z a0 hw a32 (1 : Int32) h32 n0 (by omega) Fb32 rfl) (ww hw 92 rfl) (ww hw 24 rfl) (hEL hw) (by decide) (by decide)) A32 (g := (mkF m 148 #[.val (.int p0), .val (.int p1), .val (.int p2), .val (.int p3), .val (.int (p1 &&& (255 : Int32))), .val (.int (p2 &&& (255 : Int32))), .val (.int (p3 &&& (255 : Int32))), .val (.ref a28), .val (.ref a32), .val (.ref a25)] [(.ref a32)])) rfl (by rw [hml]; rfl) (argsL := []) (rest := []) (lenOf pd_5 rfl) rfl rfl (ble_ rfl) (hb hby at_148) (by decide) (by decide) (fun v34 T34 h34 W34 sz34 q34 => ?_)
     obtain ⟨rfl, rfl⟩ := q34
     change Fi _ _ _ _ _ _ _ _ _ _ (T34.setTop (mkF m 151 #[.val (.int p0), .val (.int p1), .val (.int p2), .val (.int p3), .val (.int (p1 &&& (255 : Int32))), .val (.int (p2 &&& (255 : Int32))), .val (.int (p3 &&& (255 : Int32))), .val (.ref a28), .val (.ref a32), .val (.ref a25)] [(.int (1 : Int32))]))
     refine Fi.by' (st' := T34.setTop (mkF m 156 #[.val (.int p0), .val (.int p1), .val (.int p2), .val (.int p3), .val (.int (p1 &&& (255 : Int32))), .val (.int (p2 &&& (255 : Int32))), .val (.int (p3 &&& (255 : Int32))), .val (.ref a28), .val (.ref a32), .val (.ref a25)] [(.ref a32)])) (fun t k => ?_) ?_
     ·refine XS.ifNo W34.here hx rfl (hb hby at_151) rfl ((if0 _ _).trans (feq (by decide : ¬ ((1 : Int32) = (0 : Int32)))).1) ?_
      refine XS.aload W34.here hx rfl (hb hby at_154) rfl rfl ?_
      exact k
     refine W34.callVU hx (x := y_8) (y := y_6) (C := "com/example/exact_roles/exactroles/cli/CommandException") (owner := "java/lang/Throwable") (ww hw 93 rfl) (ww hw 94 rfl) (ww hw 95 rfl) (by decide) (ww hw 97 rfl) (ww hw 96 rfl) (Pay.of_con (Wd := 0) (rm_getMessage l Z a0 hw a32 (.ref a28) h32 n0 (by omega) Fc32 rfl) (ww hw 98 rfl) (ww hw 40 rfl) (hEL hw) (by decide) (by decide)) A32 (g := (mkF m 156 #[.val (.int p0), .val (.int p1), .val (.int p2), .val (.int p3), .val (.int (p1 &&& (255 : Int32))), .val (.int (p2 &&& (255 : Int32))), .val (.int (p3 &&& (255 : Int32))), .val (.ref a28), .val (.ref a32), .val (.ref a25)] [(.ref a32)])) rfl (by rw [hml]; rfl) (argsL := []) (rest := []) (lenOf pd_6 rfl) rfl rfl (ble_ rfl) (hb hby at_156) (by decide) (by decide) (fun v35 T35 h35 W35 sz35 q35 => ?_)
     obtain ⟨rfl, rfl⟩ := q35
     change Fi _ _ _ _ _ _ _ _ _ _ (T35.setTop (mkF m 159 #[.val (.int p0), .val (.int p1), .val (.int p2), .val (.int p3), .val (.int (p1 &&& (255 : Int32))), .val (.int (p2 &&& (255 : Int32))), .val (.int (p3 &&& (255 : Int32))), .val (.ref a28), .val (.ref a32), .val (.ref a25)] [(.ref a28)]))
     refine Fi.by' (st' := T35.setTop (mkF m 161 #[.val (.int p0), .val (.int p1), .val (.int p2), .val (.int p3), .val (.int (p1 &&& (255 : Int32))), .val (.int (p2 &&& (255 : Int32))), .val (.int (p3 &&& (255 : Int32))), .val (.ref a28), .val (.ref a32), .val (.ref a25)] [(.ref a28), (.ref a28)])) (fun t k => ?_) ?_
     ·refine XS.aload W35.here hx rfl (hb hby at_159) rfl rfl ?_
      exact k
     refine Fi.by' (st' := T35.setTop (mkF m 166 #[.val (.int p0), .val (.int p1), .val (.int p2), .val (.int p3), .val (.int (p1 &&& (255 : Int32))), .val (.int (p2 &&& (255 : Int32))), .val (.int (p3 &&& (255 : Int32))), .val (.ref a28), .val (.ref a32), .val (.ref a25)] [(.ref a32)])) (fun t k => ?_) ?_
     ·refine XS.acmpNo W35.here hx rfl (hb hby at_161) rfl (acmpTNe (rfl : a28 = a28)) ?_
      refine XS.aload W35.here hx rfl (hb hby at_164) rfl rfl ?_
      exact k
     refine W35.callVU hx (x := y_9) (y := y_10) (C := "com/example/exact_roles/exactroles/cli/CommandException") (owner := "java/lang/Throwable") (ww hw 99 rfl) (ww hw 100 rfl) (ww hw 101 rfl) (by decide) (ww hw 103 rfl) (ww hw 102 rfl) (payGC (Wd := 0) (c0 := .null) (hEL hw) (ww hw (i := 104) rfl) (ww hw 102 rfl) (ww hw 40 rfl) (ww hw 43 rfl) N32 Fd32 rfl (by decide) (by decide)) A32 (g := (mkF m 166 #[.val (.int p0), .val (.int p1), .val (.int p2), .val (.int p3), .val (.int (p1 &&& (255 : Int32))), .val (.int (p2 &&& (255 : Int32))), .val (.int (p3 &&& (255 : Int32))), .val (.ref a28), .val (.ref a32), .val (.ref a25)] [(.ref a32)])) rfl (by rw [hml]; rfl) (argsL := []) (rest := []) (lenOf pd_7 rfl) rfl rfl (ble_ rfl) (hb hby at_166) (by decide) (by decide) (fun v36 T36 h36 W36 sz36 q36 => ?_)
     rw [gcv_null] at q36
     obtain ⟨rfl, rfl⟩ := q36
     change Fi _ _ _ _ _ _ _ _ _ _ (T36.setTop (mkF m 169 #[.val (.int p0), .val (.int p1), .val (.int p2), .val (.int p3), .val (.int (p1 &&& (255 : Int32))), .val (.int (p2 &&& (255 : Int32))), .val (.int (p3 &&& (255 : Int32))), .val (.ref a28), .val (.ref a32), .val (.ref a25)] [.null]))
     refine Fi.by' (st' := T36.setTop (mkF m 177 #[.val (.int p0), .val (.int p1), .val (.int p2), .val (.int p3), .val (.int (p1 &&& (255 : Int32))), .val (.int (p2 &&& (255 : Int32))), .val (.int (p3 &&& (255 : Int32))), .val (.ref a28), .val (.ref a32), .val (.ref a25)] [(.int (1 : Int32))])) (fun t k => ?_) ?_
     ·refine XS.ifnonnullNo W36.here hx rfl (hb hby at_169) rfl ?_
      refine iconstZ W36.here hx rfl (hb hby at_172) (z := (1 : Int32)) rfl ?_
      refine XS.goto W36.here hx rfl (pc0 := 173) (pc' := 177) rfl (hb hby at_173) (by decide) (by decide) ?_
      exact k
     exact W36.iret hx hlk hret (by simp) rfl (hb hby at_177) rfl (by decide) (by decide)
    ·refine Fi.by' (st' := s₁.setTop (mkF m 100 #[.val (.int p0), .val (.int p1), .val (.int p2), .val (.int p3), .val (.int (p1 &&& (255 : Int32))), .val (.int (p2 &&& (255 : Int32))), .val (.int (p3 &&& (255 : Int32))), .unset, .val (.int (((p0.toUInt32 >>> ((1 : Int32) &&& 31).toUInt32).toInt32) &&& (3 : Int32))), .unset] [(.int (3 : Int32))])) (fun t k => ?_) ?_
     ·refine XS.icmpYes W0.here hx rfl (pc0 := 78) (pc' := 99) rfl (hb hby at_78) rfl (feq hc78_24).2 (by decide) (by decide) ?_
      refine iconstZ W0.here hx rfl (hb hby at_99) (z := (3 : Int32)) rfl ?_
      exact k
     refine W0.newP hx (aty := .char) (ww hw 0 rfl) (g := (mkF m 100 #[.val (.int p0), .val (.int p1), .val (.int p2), .val (.int p3), .val (.int (p1 &&& (255 : Int32))), .val (.int (p2 &&& (255 : Int32))), .val (.int (p3 &&& (255 : Int32))), .unset, .val (.int (((p0.toUInt32 >>> ((1 : Int32) &&& 31).toUInt32).toInt32) &&& (3 : Int32))), .unset] [(.int (3 : Int32))])) rfl (hb hby at_100) rfl (by decide) (cap := 3) (by decide) (by decide) (by decide) (by decide) (fun T37 h37 a37 k37 ha37 W37 E37 A37 => ?_)
     change Fi _ _ _ _ _ _ _ _ _ _ (T37.setTop (mkF m 102 #[.val (.int p0), .val (.int p1), .val (.int p2), .val (.int p3), .val (.int (p1 &&& (255 : Int32))), .val (.int (p2 &&& (255 : Int32))), .val (.int (p3 &&& (255 : Int32))), .unset, .val (.int (((p0.toUInt32 >>> ((1 : Int32) &&& 31).toUInt32).toInt32) &&& (3 : Int32))), .unset] [(.ref a37)]))
     have sz37 := E37.1
     have V37 : Arv Z h37 a37 k37 .char (3 : Int32) (([0, 0, 0] : List Int32).map Value.int) (.int (0 : Int32)) := A37.pad (pad_rep [] (.int (0 : Int32)) 3)
     refine Fi.by' (st' := T37.setTop (mkF m 106 #[.val (.int p0), .val (.int p1), .val (.int p2), .val (.int p3), .val (.int (p1 &&& (255 : Int32))), .val (.int (p2 &&& (255 : Int32))), .val (.int (p3 &&& (255 : Int32))), .unset, .val (.int (((p0.toUInt32 >>> ((1 : Int32) &&& 31).toUInt32).toInt32) &&& (3 : Int32))), .unset] [(.int (p1 &&& (255 : Int32))), (.int (0 : Int32)), (.ref a37), (.ref a37)])) (fun t k => ?_) ?_
     ·refine XS.dup W37.here hx rfl (hb hby at_102) rfl rfl ?_
      refine iconstZ W37.here hx rfl (hb hby at_103) (z := (0 : Int32)) rfl ?_
      refine XS.iload W37.here hx rfl (hb hby at_104) rfl ?_
      exact k
     refine W37.castore hx V37 (i := 0) (ble_ rfl) (j := (0 : Int32)) rfl (by decide) rfl (ch_ok (and255 _)) (g := (mkF m 106 #[.val (.int p0), .val (.int p1), .val (.int p2), .val (.int p3), .val (.int (p1 &&& (255 : Int32))), .val (.int (p2 &&& (255 : Int32))), .val (.int (p3 &&& (255 : Int32))), .unset, .val (.int (((p0.toUInt32 >>> ((1 : Int32) &&& 31).toUInt32).toInt32) &&& (3 : Int32))), .unset] [(.int (p1 &&& (255 : Int32))), (.int (0 : Int32)), (.ref a37), (.ref a37)])) rfl rfl (hb hby at_106) (by omega) (fun T38 h38 W38 R38 V38 => ?_)
     change Fi _ _ _ _ _ _ _ _ _ _ (T38.setTop (mkF m 107 #[.val (.int p0), .val (.int p1), .val (.int p2), .val (.int p3), .val (.int (p1 &&& (255 : Int32))), .val (.int (p2 &&& (255 : Int32))), .val (.int (p3 &&& (255 : Int32))), .unset, .val (.int (((p0.toUInt32 >>> ((1 : Int32) &&& 31).toUInt32).toInt32) &&& (3 : Int32))), .unset] [(.ref a37)]))
     have x38w : Ext h0 h38 := ext_wr E37 R38 (by omega)
     have sz38 := R38.size
     have V38' : Arv Z h38 a37 k37 .char (3 : Int32) (([(p1 &&& (255 : Int32)), 0, 0] : List Int32).map Value.int) (.int (0 : Int32)) := V38
     refine Fi.by' (st' := T38.setTop (mkF m 111 #[.val (.int p0), .val (.int p1), .val (.int p2), .val (.int p3), .val (.int (p1 &&& (255 : Int32))), .val (.int (p2 &&& (255 : Int32))), .val (.int (p3 &&& (255 : Int32))), .unset, .val (.int (((p0.toUInt32 >>> ((1 : Int32) &&& 31).toUInt32).toInt32) &&& (3 : Int32))), .unset] [(.int (p2 &&& (255 : Int32))), (.int (1 : Int32)), (.ref a37), (.ref a37)])) (fun t k => ?_) ?_
     ·refine XS.dup W38.here hx rfl (hb hby at_107) rfl rfl ?_
      refine iconstZ W38.here hx rfl (hb hby at_108) (z := (1 : Int32)) rfl ?_
      refine XS.iload W38.here hx rfl (hb hby at_109) rfl ?_
      exact k
     refine W38.castore hx V38' (i := 1) (ble_ rfl) (j := (1 : Int32)) rfl (by decide) rfl (ch_ok (and255 _)) (g := (mkF m 111 #[.val (.int p0), .val (.int p1), .val (.int p2), .val (.int p3), .val (.int (p1 &&& (255 : Int32))), .val (.int (p2 &&& (255 : Int32))), .val (.int (p3 &&& (255 : Int32))), .unset, .val (.int (((p0.toUInt32 >>> ((1 : Int32) &&& 31).toUInt32).toInt32) &&& (3 : Int32))), .unset] [(.int (p2 &&& (255 : Int32))), (.int (1 : Int32)), (.ref a37), (.ref a37)])) rfl rfl (hb hby at_111) (by omega) (fun T39 h39 W39 R39 V39 => ?_)
     change Fi _ _ _ _ _ _ _ _ _ _ (T39.setTop (mkF m 112 #[.val (.int p0), .val (.int p1), .val (.int p2), .val (.int p3), .val (.int (p1 &&& (255 : Int32))), .val (.int (p2 &&& (255 : Int32))), .val (.int (p3 &&& (255 : Int32))), .unset, .val (.int (((p0.toUInt32 >>> ((1 : Int32) &&& 31).toUInt32).toInt32) &&& (3 : Int32))), .unset] [(.ref a37)]))
     have x39w : Ext h0 h39 := ext_wr x38w R39 (by omega)
     have sz39 := R39.size
     have V39' : Arv Z h39 a37 k37 .char (3 : Int32) (([(p1 &&& (255 : Int32)), (p2 &&& (255 : Int32)), 0] : List Int32).map Value.int) (.int (0 : Int32)) := V39
     refine Fi.by' (st' := T39.setTop (mkF m 116 #[.val (.int p0), .val (.int p1), .val (.int p2), .val (.int p3), .val (.int (p1 &&& (255 : Int32))), .val (.int (p2 &&& (255 : Int32))), .val (.int (p3 &&& (255 : Int32))), .unset, .val (.int (((p0.toUInt32 >>> ((1 : Int32) &&& 31).toUInt32).toInt32) &&& (3 : Int32))), .unset] [(.int (p3 &&& (255 : Int32))), (.int (2 : Int32)), (.ref a37), (.ref a37)])) (fun t k => ?_) ?_
     ·refine XS.dup W39.here hx rfl (hb hby at_112) rfl rfl ?_
      refine iconstZ W39.here hx rfl (hb hby at_113) (z := (2 : Int32)) rfl ?_
      refine XS.iload W39.here hx rfl (hb hby at_114) rfl ?_
      exact k
     refine W39.castore hx V39' (i := 2) (ble_ rfl) (j := (2 : Int32)) rfl (by decide) rfl (ch_ok (and255 _)) (g := (mkF m 116 #[.val (.int p0), .val (.int p1), .val (.int p2), .val (.int p3), .val (.int (p1 &&& (255 : Int32))), .val (.int (p2 &&& (255 : Int32))), .val (.int (p3 &&& (255 : Int32))), .unset, .val (.int (((p0.toUInt32 >>> ((1 : Int32) &&& 31).toUInt32).toInt32) &&& (3 : Int32))), .unset] [(.int (p3 &&& (255 : Int32))), (.int (2 : Int32)), (.ref a37), (.ref a37)])) rfl rfl (hb hby at_116) (by omega) (fun T40 h40 W40 R40 V40 => ?_)
     change Fi _ _ _ _ _ _ _ _ _ _ (T40.setTop (mkF m 117 #[.val (.int p0), .val (.int p1), .val (.int p2), .val (.int p3), .val (.int (p1 &&& (255 : Int32))), .val (.int (p2 &&& (255 : Int32))), .val (.int (p3 &&& (255 : Int32))), .unset, .val (.int (((p0.toUInt32 >>> ((1 : Int32) &&& 31).toUInt32).toInt32) &&& (3 : Int32))), .unset] [(.ref a37)]))
     have x40w : Ext h0 h40 := ext_wr x39w R40 (by omega)
     have sz40 := R40.size
     have V40' : Arv Z h40 a37 k37 .char (3 : Int32) (([(p1 &&& (255 : Int32)), (p2 &&& (255 : Int32)), (p3 &&& (255 : Int32))] : List Int32).map Value.int) (.int (0 : Int32)) := V40
     refine Fi.by' (st' := T40.setTop (mkF m 119 #[.val (.int p0), .val (.int p1), .val (.int p2), .val (.int p3), .val (.int (p1 &&& (255 : Int32))), .val (.int (p2 &&& (255 : Int32))), .val (.int (p3 &&& (255 : Int32))), .unset, .val (.int (((p0.toUInt32 >>> ((1 : Int32) &&& 31).toUInt32).toInt32) &&& (3 : Int32))), .val (.ref a37)] [])) (fun t k => ?_) ?_
     ·refine XS.astore W40.here hx rfl (hb hby at_117) rfl rfl (l' := #[.val (.int p0), .val (.int p1), .val (.int p2), .val (.int p3), .val (.int (p1 &&& (255 : Int32))), .val (.int (p2 &&& (255 : Int32))), .val (.int (p3 &&& (255 : Int32))), .unset, .val (.int (((p0.toUInt32 >>> ((1 : Int32) &&& 31).toUInt32).toInt32) &&& (3 : Int32))), .val (.ref a37)]) rfl ?_
      exact k
     refine W40.new hx (ww hw 1 rfl) (ww hw 2 rfl) (ww hw 3 rfl) (g := (mkF m 119 #[.val (.int p0), .val (.int p1), .val (.int p2), .val (.int p3), .val (.int (p1 &&& (255 : Int32))), .val (.int (p2 &&& (255 : Int32))), .val (.int (p3 &&& (255 : Int32))), .unset, .val (.int (((p0.toUInt32 >>> ((1 : Int32) &&& 31).toUInt32).toInt32) &&& (3 : Int32))), .val (.ref a37)] [])) rfl (hb hby at_119) (by decide) (by decide) (fun T41 h41 a41 ha41 W41 E41 A41 D41 => ?_)
     change Fi _ _ _ _ _ _ _ _ _ _ (T41.setTop (mkF m 122 #[.val (.int p0), .val (.int p1), .val (.int p2), .val (.int p3), .val (.int (p1 &&& (255 : Int32))), .val (.int (p2 &&& (255 : Int32))), .val (.int (p3 &&& (255 : Int32))), .unset, .val (.int (((p0.toUInt32 >>> ((1 : Int32) &&& 31).toUInt32).toInt32) &&& (3 : Int32))), .val (.ref a37)] [(.ref a41)]))
     have sz41 := E41.1
     refine Fi.by' (st' := T41.setTop (mkF m 125 #[.val (.int p0), .val (.int p1), .val (.int p2), .val (.int p3), .val (.int (p1 &&& (255 : Int32))), .val (.int (p2 &&& (255 : Int32))), .val (.int (p3 &&& (255 : Int32))), .unset, .val (.int (((p0.toUInt32 >>> ((1 : Int32) &&& 31).toUInt32).toInt32) &&& (3 : Int32))), .val (.ref a37)] [(.ref a37), (.ref a41), (.ref a41)])) (fun t k => ?_) ?_
     ·refine XS.dup W41.here hx rfl (hb hby at_122) rfl rfl ?_
      refine XS.aload W41.here hx rfl (hb hby at_123) rfl rfl ?_
      exact k
     have x42 : Ext h0 h41 := ext_trans x40w E41
     refine W41.callI hx (y := y_7) rfl (ww hw 4 rfl) (ww hw 5 rfl) (ww hw 6 rfl) (by decide) (payS (Wd := 1) (n := 3) (cs := [(p1 &&& (255 : Int32)), (p2 &&& (255 : Int32)), (p3 &&& (255 : Int32))]) hw (by omega) (by omega) A41 (D41 (Or.inr (ww hw 16 rfl)) (ty := (.array .byte)) (by decide)) (D41 (Or.inr (ww hw 17 rfl)) (ty := .byte) (by decide)) (V40'.ext E41) (Sta.ext x42 S0) hz rfl rfl (by decide) (by decide) (all_cons (and255 _) (all_cons (and255 _) (all_cons (and255 _) all_nil))) (by decide) (by decide)) (a := a41) (g := (mkF m 125 #[.val (.int p0), .val (.int p1), .val (.int p2), .val (.int p3), .val (.int (p1 &&& (255 : Int32))), .val (.int (p2 &&& (255 : Int32))), .val (.int (p3 &&& (255 : Int32))), .unset, .val (.int (((p0.toUInt32 >>> ((1 : Int32) &&& 31).toUInt32).toInt32) &&& (3 : Int32))), .val (.ref a37)] [(.ref a37), (.ref a41), (.ref a41)])) rfl (by rw [hml]; rfl) (argsL := [(.ref a37)]) (rest := [(.ref a41)]) (lenOf pd_2 rfl) rfl rfl (ble_ rfl) (hb hby at_125) (by decide) (by decide) (fun v43 T43 h43 W43 sz43 q43 => ?_)
     obtain ⟨rfl, K43, F43⟩ := q43
     change Fi _ _ _ _ _ _ _ _ _ _ (T43.setTop (mkF m 128 #[.val (.int p0), .val (.int p1), .val (.int p2), .val (.int p3), .val (.int (p1 &&& (255 : Int32))), .val (.int (p2 &&& (255 : Int32))), .val (.int (p3 &&& (255 : Int32))), .unset, .val (.int (((p0.toUInt32 >>> ((1 : Int32) &&& 31).toUInt32).toInt32) &&& (3 : Int32))), .val (.ref a37)] [(.ref a41)]))
     have x43k : Ext h40 h43 := ext_keep1 E41 K43 (by omega)
     refine Fi.by' (st' := T43.setTop (mkF m 132 #[.val (.int p0), .val (.int p1), .val (.int p2), .val (.int p3), .val (.int (p1 &&& (255 : Int32))), .val (.int (p2 &&& (255 : Int32))), .val (.int (p3 &&& (255 : Int32))), .val (.ref a41), .val (.int (((p0.toUInt32 >>> ((1 : Int32) &&& 31).toUInt32).toInt32) &&& (3 : Int32))), .val (.ref a37)] [(.ref a41)])) (fun t k => ?_) ?_
     ·refine XS.astore W43.here hx rfl (hb hby at_128) rfl rfl (l' := #[.val (.int p0), .val (.int p1), .val (.int p2), .val (.int p3), .val (.int (p1 &&& (255 : Int32))), .val (.int (p2 &&& (255 : Int32))), .val (.int (p3 &&& (255 : Int32))), .val (.ref a41), .val (.int (((p0.toUInt32 >>> ((1 : Int32) &&& 31).toUInt32).toInt32) &&& (3 : Int32))), .val (.ref a37)]) rfl ?_
      refine XS.aload W43.here hx rfl (hb hby at_130) rfl rfl ?_
      exact k
     have x44 : Ext h0 h43 := ext_trans x40w x43k
     refine W43.callS hx (y := y_3) (ww hw 22 rfl) (ww hw 23 rfl) (ww hw 24 rfl) (ww hw 25 rfl) (by decide) (Pay.of_conK (Wd := 0) (rm_usage l Z a0 hw hTK hst r2 (.ref a41) uu sn h43 n0 (by omega) (ThS.ext x44 H0) (Sta.ext x44 S1) (Sta.ext x44 S2) hu hv rfl) (ww hw 25 rfl) (ww hw 24 rfl) (hEL hw) hTK hZs hBl (by decide) (by decide)) (g := (mkF m 132 #[.val (.int p0), .val (.int p1), .val (.int p2), .val (.int p3), .val (.int (p1 &&& (255 : Int32))), .val (.int (p2 &&& (255 : Int32))), .val (.int (p3 &&& (255 : Int32))), .val (.ref a41), .val (.int (((p0.toUInt32 >>> ((1 : Int32) &&& 31).toUInt32).toInt32) &&& (3 : Int32))), .val (.ref a37)] [(.ref a41)])) rfl (by rw [hml]; rfl) (argsL := [(.ref a41)]) (rest := []) (lenOf pd_3 rfl) rfl rfl (ble_ rfl) (hb hby at_132) (by decide) (by decide) (fun v45 T45 h45 W45 sz45 q45 => ?_)
     obtain ⟨a45, rfl, E45, g45, A45, N45, Fa45, Fb45, Fc45, Fd45⟩ := q45
     change Fi _ _ _ _ _ _ _ _ _ _ (T45.setTop (mkF m 135 #[.val (.int p0), .val (.int p1), .val (.int p2), .val (.int p3), .val (.int (p1 &&& (255 : Int32))), .val (.int (p2 &&& (255 : Int32))), .val (.int (p3 &&& (255 : Int32))), .val (.ref a41), .val (.int (((p0.toUInt32 >>> ((1 : Int32) &&& 31).toUInt32).toInt32) &&& (3 : Int32))), .val (.ref a37)] [(.ref a45)]))
     refine Fi.by' (st' := T45.setTop (mkF m 139 #[.val (.int p0), .val (.int p1), .val (.int p2), .val (.int p3), .val (.int (p1 &&& (255 : Int32))), .val (.int (p2 &&& (255 : Int32))), .val (.int (p3 &&& (255 : Int32))), .val (.ref a41), .val (.ref a45), .val (.ref a37)] [(.ref a45)])) (fun t k => ?_) ?_
     ·refine XS.astore W45.here hx rfl (hb hby at_135) rfl rfl (l' := #[.val (.int p0), .val (.int p1), .val (.int p2), .val (.int p3), .val (.int (p1 &&& (255 : Int32))), .val (.int (p2 &&& (255 : Int32))), .val (.int (p3 &&& (255 : Int32))), .val (.ref a41), .val (.ref a45), .val (.ref a37)]) rfl ?_
      refine XS.aload W45.here hx rfl (hb hby at_137) rfl rfl ?_
      exact k
     refine W45.callV hx (y := y_4) (C := "com/example/exact_roles/exactroles/cli/CommandException") (ww hw 83 rfl) (ww hw 84 rfl) (ww hw 86 rfl) (ww hw 85 rfl) (by decide) (Pay.of_con (Wd := 0) (rm_getStatus l Z a0 hw a45 (2 : Int32) h45 n0 (by omega) Fa45) (ww hw 87 rfl) (ww hw 24 rfl) (hEL hw) (by decide) (by decide)) A45 (g := (mkF m 139 #[.val (.int p0), .val (.int p1), .val (.int p2), .val (.int p3), .val (.int (p1 &&& (255 : Int32))), .val (.int (p2 &&& (255 : Int32))), .val (.int (p3 &&& (255 : Int32))), .val (.ref a41), .val (.ref a45), .val (.ref a37)] [(.ref a45)])) rfl (by rw [hml]; rfl) (argsL := []) (rest := []) (lenOf pd_4 rfl) rfl rfl (ble_ rfl) (hb hby at_139) (by decide) (by decide) (fun v46 T46 h46 W46 sz46 q46 => ?_)
     obtain ⟨rfl, rfl⟩ := q46
     change Fi _ _ _ _ _ _ _ _ _ _ (T46.setTop (mkF m 142 #[.val (.int p0), .val (.int p1), .val (.int p2), .val (.int p3), .val (.int (p1 &&& (255 : Int32))), .val (.int (p2 &&& (255 : Int32))), .val (.int (p3 &&& (255 : Int32))), .val (.ref a41), .val (.ref a45), .val (.ref a37)] [(.int (2 : Int32))]))
     refine Fi.by' (st' := T46.setTop (mkF m 148 #[.val (.int p0), .val (.int p1), .val (.int p2), .val (.int p3), .val (.int (p1 &&& (255 : Int32))), .val (.int (p2 &&& (255 : Int32))), .val (.int (p3 &&& (255 : Int32))), .val (.ref a41), .val (.ref a45), .val (.ref a37)] [(.ref a45)])) (fun t k => ?_) ?_
     ·refine iconstZ W46.here hx rfl (hb hby at_142) (z := (2 : Int32)) rfl ?_
      refine XS.icmpNo W46.here hx rfl (hb hby at_143) rfl (teq (by decide : ((2 : Int32) = (2 : Int32)))).2 ?_
      refine XS.aload W46.here hx rfl (hb hby at_146) rfl rfl ?_
      exact k
     refine W46.callV hx (y := y_5) (C := "com/example/exact_roles/exactroles/cli/CommandException") (ww hw 88 rfl) (ww hw 89 rfl) (ww hw 91 rfl) (ww hw 90 rfl) (by decide) (Pay.of_con (Wd := 0) (rm_showsUsage l Z a0 hw a45 (1 : Int32) h45 n0 (by omega) Fb45 rfl) (ww hw 92 rfl) (ww hw 24 rfl) (hEL hw) (by decide) (by decide)) A45 (g := (mkF m 148 #[.val (.int p0), .val (.int p1), .val (.int p2), .val (.int p3), .val (.int (p1 &&& (255 : Int32))), .val (.int (p2 &&& (255 : Int32))), .val (.int (p3 &&& (255 : Int32))), .val (.ref a41), .val (.ref a45), .val (.ref a37)] [(.ref a45)])) rfl (by rw [hml]; rfl) (argsL := []) (rest := []) (lenOf pd_5 rfl) rfl rfl (ble_ rfl) (hb hby at_148) (by decide) (by decide) (fun v47 T47 h47 W47 sz47 q47 => ?_)
     obtain ⟨rfl, rfl⟩ := q47
     change Fi _ _ _ _ _ _ _ _ _ _ (T47.setTop (mkF m 151 #[.val (.int p0), .val (.int p1), .val (.int p2), .val (.int p3), .val (.int (p1 &&& (255 : Int32))), .val (.int (p2 &&& (255 : Int32))), .val (.int (p3 &&& (255 : Int32))), .val (.ref a41), .val (.ref a45), .val (.ref a37)] [(.int (1 : Int32))]))
     refine Fi.by' (st' := T47.setTop (mkF m 156 #[.val (.int p0), .val (.int p1), .val (.int p2), .val (.int p3), .val (.int (p1 &&& (255 : Int32))), .val (.int (p2 &&& (255 : Int32))), .val (.int (p3 &&& (255 : Int32))), .val (.ref a41), .val (.ref a45), .val (.ref a37)] [(.ref a45)])) (fun t k => ?_) ?_
     ·refine XS.ifNo W47.here hx rfl (hb hby at_151) rfl ((if0 _ _).trans (feq (by decide : ¬ ((1 : Int32) = (0 : Int32)))).1) ?_
      refine XS.aload W47.here hx rfl (hb hby at_154) rfl rfl ?_
      exact k
     refine W47.callVU hx (x := y_8) (y := y_6) (C := "com/example/exact_roles/exactroles/cli/CommandException") (owner := "java/lang/Throwable") (ww hw 93 rfl) (ww hw 94 rfl) (ww hw 95 rfl) (by decide) (ww hw 97 rfl) (ww hw 96 rfl) (Pay.of_con (Wd := 0) (rm_getMessage l Z a0 hw a45 (.ref a41) h45 n0 (by omega) Fc45 rfl) (ww hw 98 rfl) (ww hw 40 rfl) (hEL hw) (by decide) (by decide)) A45 (g := (mkF m 156 #[.val (.int p0), .val (.int p1), .val (.int p2), .val (.int p3), .val (.int (p1 &&& (255 : Int32))), .val (.int (p2 &&& (255 : Int32))), .val (.int (p3 &&& (255 : Int32))), .val (.ref a41), .val (.ref a45), .val (.ref a37)] [(.ref a45)])) rfl (by rw [hml]; rfl) (argsL := []) (rest := []) (lenOf pd_6 rfl) rfl rfl (ble_ rfl) (hb hby at_156) (by decide) (by decide) (fun v48 T48 h48 W48 sz48 q48 => ?_)
     obtain ⟨rfl, rfl⟩ := q48
     change Fi _ _ _ _ _ _ _ _ _ _ (T48.setTop (mkF m 159 #[.val (.int p0), .val (.int p1), .val (.int p2), .val (.int p3), .val (.int (p1 &&& (255 : Int32))), .val (.int (p2 &&& (255 : Int32))), .val (.int (p3 &&& (255 : Int32))), .val (.ref a41), .val (.ref a45), .val (.ref a37)] [(.ref a41)]))
     refine Fi.by' (st' := T48.setTop (mkF m 161 #[.val (.int p0), .val (.int p1), .val (.int p2), .val (.int p3), .val (.int (p1 &&& (255 : Int32))), .val (.int (p2 &&& (255 : Int32))), .val (.int (p3 &&& (255 : Int32))), .val (.ref a41), .val (.ref a45), .val (.ref a37)] [(.ref a41), (.ref a41)])) (fun t k => ?_) ?_
     ·refine XS.aload W48.here hx rfl (hb hby at_159) rfl rfl ?_
      exact k
     refine Fi.by' (st' := T48.setTop (mkF m 166 #[.val (.int p0), .val (.int p1), .val (.int p2), .val (.int p3), .val (.int (p1 &&& (255 : Int32))), .val (.int (p2 &&& (255 : Int32))), .val (.int (p3 &&& (255 : Int32))), .val (.ref a41), .val (.ref a45), .val (.ref a37)] [(.ref a45)])) (fun t k => ?_) ?_
     ·refine XS.acmpNo W48.here hx rfl (hb hby at_161) rfl (acmpTNe (rfl : a41 = a41)) ?_
      refine XS.aload W48.here hx rfl (hb hby at_164) rfl rfl ?_
      exact k
     refine W48.callVU hx (x := y_9) (y := y_10) (C := "com/example/exact_roles/exactroles/cli/CommandException") (owner := "java/lang/Throwable") (ww hw 99 rfl) (ww hw 100 rfl) (ww hw 101 rfl) (by decide) (ww hw 103 rfl) (ww hw 102 rfl) (payGC (Wd := 0) (c0 := .null) (hEL hw) (ww hw (i := 104) rfl) (ww hw 102 rfl) (ww hw 40 rfl) (ww hw 43 rfl) N45 Fd45 rfl (by decide) (by decide)) A45 (g := (mkF m 166 #[.val (.int p0), .val (.int p1), .val (.int p2), .val (.int p3), .val (.int (p1 &&& (255 : Int32))), .val (.int (p2 &&& (255 : Int32))), .val (.int (p3 &&& (255 : Int32))), .val (.ref a41), .val (.ref a45), .val (.ref a37)] [(.ref a45)])) rfl (by rw [hml]; rfl) (argsL := []) (rest := []) (lenOf pd_7 rfl) rfl rfl (ble_ rfl) (hb hby at_166) (by decide) (by decide) (fun v49 T49 h49 W49 sz49 q49 => ?_)
     rw [gcv_null] at q49
     obtain ⟨rfl, rfl⟩ := q49
     change Fi _ _ _ _ _ _ _ _ _ _ (T49.setTop (mkF m 169 #[.val (.int p0), .val (.int p1), .val (.int p2), .val (.int p3), .val (.int (p1 &&& (255 : Int32))), .val (.int (p2 &&& (255 : Int32))), .val (.int (p3 &&& (255 : Int32))), .val (.ref a41), .val (.ref a45), .val (.ref a37)] [.null]))
     refine Fi.by' (st' := T49.setTop (mkF m 177 #[.val (.int p0), .val (.int p1), .val (.int p2), .val (.int p3), .val (.int (p1 &&& (255 : Int32))), .val (.int (p2 &&& (255 : Int32))), .val (.int (p3 &&& (255 : Int32))), .val (.ref a41), .val (.ref a45), .val (.ref a37)] [(.int (1 : Int32))])) (fun t k => ?_) ?_
     ·refine XS.ifnonnullNo W49.here hx rfl (hb hby at_169) rfl ?_
      refine iconstZ W49.here hx rfl (hb hby at_172) (z := (1 : Int32)) rfl ?_
      refine XS.goto W49.here hx rfl (pc0 := 173) (pc' := 177) rfl (hb hby at_173) (by decide) (by decide) ?_
      exact k
     exact W49.iret hx hlk hret (by simp) rfl (hb hby at_177) rfl (by decide) (by decide)
 ·refine Fi.by' (st' := s₁.setTop (mkF m 132 #[.val (.int p0), .val (.int p1), .val (.int p2), .val (.int p3), .val (.int (p1 &&& (255 : Int32))), .val (.int (p2 &&& (255 : Int32))), .val (.int (p3 &&& (255 : Int32))), .val .null, .unset, .unset] [.null])) (fun t k => ?_) ?_
  ·refine XS.ifNo W0.here hx rfl (hb hby at_27) rfl ((if0 _ _).trans (feq hc27_1).1) ?_
   refine XS.aconstNull W0.here hx rfl (hb hby at_30) ?_
   refine XS.astore W0.here hx rfl (hb hby at_31) rfl rfl (l' := #[.val (.int p0), .val (.int p1), .val (.int p2), .val (.int p3), .val (.int (p1 &&& (255 : Int32))), .val (.int (p2 &&& (255 : Int32))), .val (.int (p3 &&& (255 : Int32))), .val .null, .unset, .unset]) rfl ?_
   refine XS.goto W0.here hx rfl (pc0 := 33) (pc' := 130) rfl (hb hby at_33) (by decide) (by decide) ?_
   refine XS.aload W0.here hx rfl (hb hby at_130) rfl rfl ?_
   exact k
  refine W0.callS hx (y := y_3) (ww hw 22 rfl) (ww hw 23 rfl) (ww hw 24 rfl) (ww hw 25 rfl) (by decide) (Pay.of_conK (Wd := 0) (rm_usage l Z a0 hw hTK hst r2 .null uu sn h0 n0 (by omega) H0 S1 S2 hu hv rfl) (ww hw 25 rfl) (ww hw 24 rfl) (hEL hw) hTK hZs hBl (by decide) (by decide)) (g := (mkF m 132 #[.val (.int p0), .val (.int p1), .val (.int p2), .val (.int p3), .val (.int (p1 &&& (255 : Int32))), .val (.int (p2 &&& (255 : Int32))), .val (.int (p3 &&& (255 : Int32))), .val .null, .unset, .unset] [.null])) rfl (by rw [hml]; rfl) (argsL := [.null]) (rest := []) (lenOf pd_3 rfl) rfl rfl (ble_ rfl) (hb hby at_132) (by decide) (by decide) (fun v50 T50 h50 W50 sz50 q50 => ?_)
  obtain ⟨a50, rfl, E50, g50, A50, N50, Fa50, Fb50, Fc50, Fd50⟩ := q50
  change Fi _ _ _ _ _ _ _ _ _ _ (T50.setTop (mkF m 135 #[.val (.int p0), .val (.int p1), .val (.int p2), .val (.int p3), .val (.int (p1 &&& (255 : Int32))), .val (.int (p2 &&& (255 : Int32))), .val (.int (p3 &&& (255 : Int32))), .val .null, .unset, .unset] [(.ref a50)]))
  refine Fi.by' (st' := T50.setTop (mkF m 139 #[.val (.int p0), .val (.int p1), .val (.int p2), .val (.int p3), .val (.int (p1 &&& (255 : Int32))), .val (.int (p2 &&& (255 : Int32))), .val (.int (p3 &&& (255 : Int32))), .val .null, .val (.ref a50), .unset] [(.ref a50)])) (fun t k => ?_) ?_
  ·refine XS.astore W50.here hx rfl (hb hby at_135) rfl rfl (l' := #[.val (.int p0), .val (.int p1), .val (.int p2), .val (.int p3), .val (.int (p1 &&& (255 : Int32))), .val (.int (p2 &&& (255 : Int32))), .val (.int (p3 &&& (255 : Int32))), .val .null, .val (.ref a50), .unset]) rfl ?_
   refine XS.aload W50.here hx rfl (hb hby at_137) rfl rfl ?_
   exact k
  refine W50.callV hx (y := y_4) (C := "com/example/exact_roles/exactroles/cli/CommandException") (ww hw 83 rfl) (ww hw 84 rfl) (ww hw 86 rfl) (ww hw 85 rfl) (by decide) (Pay.of_con (Wd := 0) (rm_getStatus l Z a0 hw a50 (2 : Int32) h50 n0 (by omega) Fa50) (ww hw 87 rfl) (ww hw 24 rfl) (hEL hw) (by decide) (by decide)) A50 (g := (mkF m 139 #[.val (.int p0), .val (.int p1), .val (.int p2), .val (.int p3), .val (.int (p1 &&& (255 : Int32))), .val (.int (p2 &&& (255 : Int32))), .val (.int (p3 &&& (255 : Int32))), .val .null, .val (.ref a50), .unset] [(.ref a50)])) rfl (by rw [hml]; rfl) (argsL := []) (rest := []) (lenOf pd_4 rfl) rfl rfl (ble_ rfl) (hb hby at_139) (by decide) (by decide) (fun v51 T51 h51 W51 sz51 q51 => ?_)
  obtain ⟨rfl, rfl⟩ := q51
  change Fi _ _ _ _ _ _ _ _ _ _ (T51.setTop (mkF m 142 #[.val (.int p0), .val (.int p1), .val (.int p2), .val (.int p3), .val (.int (p1 &&& (255 : Int32))), .val (.int (p2 &&& (255 : Int32))), .val (.int (p3 &&& (255 : Int32))), .val .null, .val (.ref a50), .unset] [(.int (2 : Int32))]))
  refine Fi.by' (st' := T51.setTop (mkF m 148 #[.val (.int p0), .val (.int p1), .val (.int p2), .val (.int p3), .val (.int (p1 &&& (255 : Int32))), .val (.int (p2 &&& (255 : Int32))), .val (.int (p3 &&& (255 : Int32))), .val .null, .val (.ref a50), .unset] [(.ref a50)])) (fun t k => ?_) ?_
  ·refine iconstZ W51.here hx rfl (hb hby at_142) (z := (2 : Int32)) rfl ?_
   refine XS.icmpNo W51.here hx rfl (hb hby at_143) rfl (teq (by decide : ((2 : Int32) = (2 : Int32)))).2 ?_
   refine XS.aload W51.here hx rfl (hb hby at_146) rfl rfl ?_
   exact k
  refine W51.callV hx (y := y_5) (C := "com/example/exact_roles/exactroles/cli/CommandException") (ww hw 88 rfl) (ww hw 89 rfl) (ww hw 91 rfl) (ww hw 90 rfl) (by decide) (Pay.of_con (Wd := 0) (rm_showsUsage l Z a0 hw a50 (1 : Int32) h50 n0 (by omega) Fb50 rfl) (ww hw 92 rfl) (ww hw 24 rfl) (hEL hw) (by decide) (by decide)) A50 (g := (mkF m 148 #[.val (.int p0), .val (.int p1), .val (.int p2), .val (.int p3), .val (.int (p1 &&& (255 : Int32))), .val (.int (p2 &&& (255 : Int32))), .val (.int (p3 &&& (255 : Int32))), .val .null, .val (.ref a50), .unset] [(.ref a50)])) rfl (by rw [hml]; rfl) (argsL := []) (rest := []) (lenOf pd_5 rfl) rfl rfl (ble_ rfl) (hb hby at_148) (by decide) (by decide) (fun v52 T52 h52 W52 sz52 q52 => ?_)
  obtain ⟨rfl, rfl⟩ := q52
  change Fi _ _ _ _ _ _ _ _ _ _ (T52.setTop (mkF m 151 #[.val (.int p0), .val (.int p1), .val (.int p2), .val (.int p3), .val (.int (p1 &&& (255 : Int32))), .val (.int (p2 &&& (255 : Int32))), .val (.int (p3 &&& (255 : Int32))), .val .null, .val (.ref a50), .unset] [(.int (1 : Int32))]))
  refine Fi.by' (st' := T52.setTop (mkF m 156 #[.val (.int p0), .val (.int p1), .val (.int p2), .val (.int p3), .val (.int (p1 &&& (255 : Int32))), .val (.int (p2 &&& (255 : Int32))), .val (.int (p3 &&& (255 : Int32))), .val .null, .val (.ref a50), .unset] [(.ref a50)])) (fun t k => ?_) ?_
  ·refine XS.ifNo W52.here hx rfl (hb hby at_151) rfl ((if0 _ _).trans (feq (by decide : ¬ ((1 : Int32) = (0 : Int32)))).1) ?_
   refine XS.aload W52.here hx rfl (hb hby at_154) rfl rfl ?_
   exact k
  refine W52.callVU hx (x := y_8) (y := y_6) (C := "com/example/exact_roles/exactroles/cli/CommandException") (owner := "java/lang/Throwable") (ww hw 93 rfl) (ww hw 94 rfl) (ww hw 95 rfl) (by decide) (ww hw 97 rfl) (ww hw 96 rfl) (Pay.of_con (Wd := 0) (rm_getMessage l Z a0 hw a50 .null h50 n0 (by omega) Fc50 rfl) (ww hw 98 rfl) (ww hw 40 rfl) (hEL hw) (by decide) (by decide)) A50 (g := (mkF m 156 #[.val (.int p0), .val (.int p1), .val (.int p2), .val (.int p3), .val (.int (p1 &&& (255 : Int32))), .val (.int (p2 &&& (255 : Int32))), .val (.int (p3 &&& (255 : Int32))), .val .null, .val (.ref a50), .unset] [(.ref a50)])) rfl (by rw [hml]; rfl) (argsL := []) (rest := []) (lenOf pd_6 rfl) rfl rfl (ble_ rfl) (hb hby at_156) (by decide) (by decide) (fun v53 T53 h53 W53 sz53 q53 => ?_)
  obtain ⟨rfl, rfl⟩ := q53
  change Fi _ _ _ _ _ _ _ _ _ _ (T53.setTop (mkF m 159 #[.val (.int p0), .val (.int p1), .val (.int p2), .val (.int p3), .val (.int (p1 &&& (255 : Int32))), .val (.int (p2 &&& (255 : Int32))), .val (.int (p3 &&& (255 : Int32))), .val .null, .val (.ref a50), .unset] [.null]))
  refine Fi.by' (st' := T53.setTop (mkF m 161 #[.val (.int p0), .val (.int p1), .val (.int p2), .val (.int p3), .val (.int (p1 &&& (255 : Int32))), .val (.int (p2 &&& (255 : Int32))), .val (.int (p3 &&& (255 : Int32))), .val .null, .val (.ref a50), .unset] [.null, .null])) (fun t k => ?_) ?_
  ·refine XS.aload W53.here hx rfl (hb hby at_159) rfl rfl ?_
   exact k
  refine Fi.by' (st' := T53.setTop (mkF m 166 #[.val (.int p0), .val (.int p1), .val (.int p2), .val (.int p3), .val (.int (p1 &&& (255 : Int32))), .val (.int (p2 &&& (255 : Int32))), .val (.int (p3 &&& (255 : Int32))), .val .null, .val (.ref a50), .unset] [(.ref a50)])) (fun t k => ?_) ?_
  ·refine Jvm.Free.XT.acmpNo W53.here hx rfl (hb hby at_161) rfl rfl rfl (by simp [Jvm.Free.XT.acmp]) ?_
   refine XS.aload W53.here hx rfl (hb hby at_164) rfl rfl ?_
   exact k
  refine W53.callVU hx (x := y_9) (y := y_10) (C := "com/example/exact_roles/exactroles/cli/CommandException") (owner := "java/lang/Throwable") (ww hw 99 rfl) (ww hw 100 rfl) (ww hw 101 rfl) (by decide) (ww hw 103 rfl) (ww hw 102 rfl) (payGC (Wd := 0) (c0 := .null) (hEL hw) (ww hw (i := 104) rfl) (ww hw 102 rfl) (ww hw 40 rfl) (ww hw 43 rfl) N50 Fd50 rfl (by decide) (by decide)) A50 (g := (mkF m 166 #[.val (.int p0), .val (.int p1), .val (.int p2), .val (.int p3), .val (.int (p1 &&& (255 : Int32))), .val (.int (p2 &&& (255 : Int32))), .val (.int (p3 &&& (255 : Int32))), .val .null, .val (.ref a50), .unset] [(.ref a50)])) rfl (by rw [hml]; rfl) (argsL := []) (rest := []) (lenOf pd_7 rfl) rfl rfl (ble_ rfl) (hb hby at_166) (by decide) (by decide) (fun v54 T54 h54 W54 sz54 q54 => ?_)
  rw [gcv_null] at q54
  obtain ⟨rfl, rfl⟩ := q54
  change Fi _ _ _ _ _ _ _ _ _ _ (T54.setTop (mkF m 169 #[.val (.int p0), .val (.int p1), .val (.int p2), .val (.int p3), .val (.int (p1 &&& (255 : Int32))), .val (.int (p2 &&& (255 : Int32))), .val (.int (p3 &&& (255 : Int32))), .val .null, .val (.ref a50), .unset] [.null]))
  refine Fi.by' (st' := T54.setTop (mkF m 177 #[.val (.int p0), .val (.int p1), .val (.int p2), .val (.int p3), .val (.int (p1 &&& (255 : Int32))), .val (.int (p2 &&& (255 : Int32))), .val (.int (p3 &&& (255 : Int32))), .val .null, .val (.ref a50), .unset] [(.int (1 : Int32))])) (fun t k => ?_) ?_
  ·refine XS.ifnonnullNo W54.here hx rfl (hb hby at_169) rfl ?_
   refine iconstZ W54.here hx rfl (hb hby at_172) (z := (1 : Int32)) rfl ?_
   refine XS.goto W54.here hx rfl (pc0 := 173) (pc' := 177) rfl (hb hby at_173) (by decide) (by decide) ?_
   exact k
  exact W54.iret hx hlk hret (by simp) rfl (hb hby at_177) rfl (by decide) (by decide)
set_option maxRecDepth 65536 in
set_option maxHeartbeats 40000000 in
theorem comes_1 {Post : Tables → Env → Array Value → State → Outcome → State → Prop} (hpost : ∀ tb e args s v u, (limb_1_1.after args s (.returned v) u = true ∧ limb_1_2.after args s (.returned v) u = true ∧ True) → ReturnedEndW s (.returned v) u (Jvm.fieldLocs frame_1_writes args s ++ Jvm.arrayLocs frame_1_arrays args s ++ Jvm.staticLocs frame_1_statics s) 24 6656 → Post tb e args s (.returned v) u) :
  ArmFor flags0 classFile x code maxLocals ret World_1 tables_1 room_1 Calls_1 rest_1 Pre_1 Post := by
 intro l hfl _ _ p e ha hc hk s m args below hf hA hF happ hP
 obtain ⟨hcalls, hrest, hpre⟩ := hP
 obtain ⟨-, -, -, hnamed, -, -, -, hat⟩ := (Spec.applies_iff hf).mp happ
 obtain ⟨hg, hn⟩ := and_e (Cond.before_iff.mp (show (Jvm.Cond.and given_1 narrow_1).before args s = true from hpre))
 obtain ⟨g0a, g0b⟩ := and_e hg
 obtain ⟨g1a, g1b⟩ := and_e g0b
 obtain ⟨g2a, g2b⟩ := and_e g1b
 obtain ⟨g3a, g3b⟩ := and_e g2b
 obtain ⟨w0, w1, w2, w3, rfl⟩ : ∃ w0 w1 w2 w3 : Value, args = #[w0, w1, w2, w3] := by
  have hs : args.size = 4 := by simpa [Cond.value, given_1] using g0a
  obtain ⟨L⟩ := args
  match L, hs with
  | [w0, w1, w2, w3], _ => exact ⟨w0, w1, w2, w3, rfl⟩
 have hw := fun d (hd : d ∈ tables_1) => atoms_spec (ws := Jvm.Cond.code x code maxLocals ret :: tables_1) hat d (List.mem_cons_of_mem _ hd)
 have hfit : Fit s := fun {y c} hc i hi => by
  obtain ⟨ha, rfl⟩ := Array.getElem?_eq_some_iff.mp hc
  have q := List.all_eq_true.mp ((Array.all_eq_true_iff_forall_mem.mp hF) _ (Array.getElem_mem ha)) i (List.mem_range.mpr hi)
  simpa [Array.getElem?_eq_getElem hi] using q
 obtain ⟨hsets, hown0⟩ := atoms_of _ (rest_1_c_eq ▸ (show rest_1_c.before _ s = true from hrest))
 obtain ⟨i0, ei0⟩ := is_v g1a
 obtain rfl : w0 = (.int i0) := Option.some.inj ei0
 obtain ⟨i1, ei1⟩ := is_v g2a
 obtain rfl : w1 = (.int i1) := Option.some.inj ei1
 obtain ⟨i2, ei2⟩ := is_v g3a
 obtain rfl : w2 = (.int i2) := Option.some.inj ei2
 obtain ⟨i3, ei3⟩ := is_v g3b
 obtain rfl : w3 = (.int i3) := Option.some.inj ei3
 obtain ⟨zc, ezc⟩ := is_v (Cond.before_iff.mp (hsets _ (List.mem_of_getElem? (i := 21) rfl)))
 have S0 : Sta s s.heap "java/lang/String" "COMPACT_STRINGS" "Z" (.int zc) := Sta.start ezc (Or.inl (hsets _ (List.mem_of_getElem? (i := 20) rfl)))
 have hz : ¬ zc = 0 := fun q => by
  have q1 := not_v (Cond.before_iff.mp (hsets _ (List.mem_of_getElem? (i := 22) rfl)))
  have q2 := eq_i ezc (Term.int_eval (0)) (by rw [q] : (Value.int zc) = .int 0)
  rw [q2] at q1; cases q1
 have hcw : Jvm.Lit.compactW.before _ s = true := hsets _ (List.mem_of_getElem? (i := 22) rfl)
 have H0 : CHv s EL s.vm s.heap := CHv.start (hEL hw) (fun q hq => hcalls.2.2.1 q hq) hcw (ww hw 15 rfl) (ww hw 2 rfl)
 have r2 := two_refs hfit (ww hw 71 rfl) (ww hw 72 rfl)
 have hst : l.stackTraces = true := by unfold Launch.stackTraces; rw [hfl]; decide
 have hTK := MethodsKnown_of_tablesKnown hcalls.2.1
 obtain ⟨uu, euu, hu⟩ := isR_v (Cond.before_iff.mp (r2 _ (List.mem_cons_self ..)))
 obtain ⟨sn, esn, hv⟩ := isR_v (Cond.before_iff.mp (r2 _ (List.mem_of_getElem? (i := 1) rfl)))
 have S1 : Sta s s.heap "java/lang/Throwable" "UNASSIGNED_STACK" "[Ljava/lang/StackTraceElement;" uu := Sta.start euu (Or.inr ⟨(ww hw 40 rfl), (ww hw 71 rfl)⟩)
 have S2 : Sta s s.heap "java/lang/Throwable" "SUPPRESSED_SENTINEL" "Ljava/util/List;" sn := Sta.start esn (Or.inr ⟨(ww hw 40 rfl), (ww hw 72 rfl)⟩)
 obtain ⟨n, o, h1, h2, h3, _, L, rfl, ⟨N, hv⟩, -, hq⟩ := rm_law l s _ hw hTK hst r2 i0 i1 i2 i3 zc uu sn s.heap s.heap.size (Nat.le_refl _) S0 hz ThS.start S1 S2 hu hv p e ha hc hk s m _ below hf ((Spec.applies_iff_loose hf).mp happ).1 ⟨rfl, State.Warmed39.refl s, rfl, H0⟩ ⟨hTK, FramesKnown_of_framesKnown hcalls.1 hf⟩
 obtain rfl := hv
 exact ⟨n, _, h1, h2, h3, hpost _ _ _ _ _ _ ⟨Cond.after_iff.mpr rfl, Cond.after_iff.mpr (eq_i res_at (Term.int_eval (1)) rfl), trivial⟩ ⟨hq.1, hq.2.1, hq.2.2.1, (hq.2.2.2.sift fun y hy => Or.inr (N y hy)).mono (by decide) (by decide)⟩⟩
theorem main_1_1 : Claimed_1_1 := comes_1 fun _ _ _ _ _ _ h hF => ⟨h.1, hF⟩
theorem main_1_2 : Claimed_1_2 := comes_1 fun _ _ _ _ _ _ h hF => ⟨h.2.1, hF⟩
end Jvm.Pilot.@@N@@
namespace Jvm.Pilot.@@N@@
open Jvm Jvm.ClassFile Sem Op Lib Jvm.Free Jvm.Stand Jvm.Pilot.@@N@@.Jvm.D
/-! MADE BY PROGRAM (witnessworld.py) out of the Statement's table words and the real class files: 33 classes; the members and pool entries that the words name. The judged class is class 1, her method 1. -/
namespace start1
open Jvm.ClassFile
def u (s : String) : CpInfo := .utf8 (stringToUtf16 s)
/-- a pool by its gaps: so many unusable entries, then the entry; so many at the end -/
def gap : Nat → List CpInfo → List CpInfo
  | 0, r => r
  | n + 1, r => .unusable :: gap n r
def poolList (es : List (Nat × CpInfo)) (last : Nat) : List CpInfo := es.foldr (fun e r => gap e.1 (e.2 :: r)) (gap last [])
def pool (es : List (Nat × CpInfo)) (last : Nat) : Array CpInfo := ⟨poolList es last⟩
def fileOf (pool : Array CpInfo) (this : Nat) (attrs : Array Attribute := #[]) (ms : Array MethodInfo := #[]) (fl : Nat := 33) (sup : Nat := 0) (ifs : Array Nat := #[]) (fds : Array FieldInfo := #[]) : ClassFile where
  minorVersion := 0
  majorVersion := 65
  constantPool := pool
  accessFlags := fl
  thisClass := this
  superClass := sup
  interfaces := ifs
  fields := fds
  methods := ms
  attributes := attrs
def plain (name : String) (sup : Option ClassId) : Class where
  name := name
  kind := .ordinary
  loader := none
  accessFlags := 33
  super := sup
  interfaces := #[]
  cf := none
  fields := #[]
  methods := #[]
  instanceTypes := #[]
  staticTypes := #[]
  resolved := #[]
  callSites := []
  init := .initialized
  statics := none
  mirror := none

def pool0 : Array CpInfo := pool [(5, u "<init>"), (0, u "()V"), (1, .class_ 10), (1, u "java/lang/Object")] 113

def k0c0 : Code := { maxStack := 0, maxLocals := 1, code := object_method_1_code, exceptionTable := #[], attributes := #[] }
def k0m0 : Method := { name := "<init>", desc := "()V", sig := { parameters := [], returnType := none }, accessFlags := 1, code := some k0c0 }
/-- java/lang/Object -/
def k0 : Class := { plain "java/lang/Object" none with
  accessFlags := 33
  interfaces := #[]
  cf := some (fileOf pool0 8 #[] #[{ accessFlags := 1, nameIndex := 5, descriptorIndex := 6, attributes := #[] }] 33 0 #[] #[])
  fields := #[]
  methods := #[k0m0]
  instanceTypes := #[]
  staticTypes := #[]
  resolved := Array.replicate 124 none
  statics := none }

def pool1 : Array CpInfo := pool [(2, .class_ 4), (1, u "java/lang/Object"), (0, u "<init>"), (0, u "()V"), (0, .class_ 8), (0, u "java/lang/String"), (0, .methodref 7 10), (0, .nameAndType 5 11), (0, u "([C)V"), (0, .methodref 13 14), (0, .class_ 15), (0, .nameAndType 16 17), (0, u "com/example/exact_roles/exactroles/cli/CommandException"), (0, u "usage"), (0, u "(Ljava/lang/String;)Lcom/example/exact_roles/exactroles/cli/CommandException;"), (0, .methodref 13 19), (0, .nameAndType 20 21), (0, u "getStatus"), (0, u "()I"), (0, .methodref 13 23), (0, .nameAndType 24 25), (0, u "showsUsage"), (0, u "()Z"), (0, .methodref 13 27), (0, .nameAndType 28 29), (0, u "getMessage"), (0, u "()Ljava/lang/String;"), (0, .methodref 13 31), (0, .nameAndType 32 33), (0, u "getCause"), (0, u "()Ljava/lang/Throwable;"), (0, .class_ 35), (0, u "com/example/exact_roles/exactroles/cli/CommandExceptionUsagePinLaw"), (2, u "law"), (0, u "(IIII)Z")] 5

def k1m0 : Method := { name := "<init>", desc := "()V", sig := { parameters := [], returnType := none }, accessFlags := 2, code := none }
def k1c1 : Code := { maxStack := 4, maxLocals := 10, code := code, exceptionTable := #[], attributes := #[] }
def k1m1 : Method := { name := "law", desc := "(IIII)Z", sig := { parameters := [.int, .int, .int, .int], returnType := some .boolean }, accessFlags := 9, code := some k1c1 }
/-- com/example/exact_roles/exactroles/cli/CommandExceptionUsagePinLaw -/
def k1 : Class := { plain "com/example/exact_roles/exactroles/cli/CommandExceptionUsagePinLaw" (some 0) with
  accessFlags := 49
  interfaces := #[]
  cf := some (fileOf pool1 34 #[] #[{ accessFlags := 2, nameIndex := 5, descriptorIndex := 6, attributes := #[] }, { accessFlags := 9, nameIndex := 38, descriptorIndex := 39, attributes := #[] }] 49 2 #[] #[])
  fields := #[]
  methods := #[k1m0, k1m1]
  instanceTypes := #[]
  staticTypes := #[]
  resolved := Array.replicate 45 none
  statics := none }

def pool2 : Array CpInfo := pool [(1, .class_ 2), (0, u "java/io/Serializable"), (0, .class_ 4), (0, u "java/lang/Object")] 2

/-- java/io/Serializable -/
def k2 : Class := { plain "java/io/Serializable" (some 0) with
  accessFlags := 1537
  interfaces := #[]
  cf := some (fileOf pool2 1 #[] #[] 1537 3 #[] #[])
  fields := #[]
  methods := #[]
  instanceTypes := #[]
  staticTypes := #[]
  resolved := Array.replicate 7 none
  statics := none }

def pool3 : Array CpInfo := pool [(1, .class_ 2), (0, u "java/lang/Comparable"), (0, .class_ 4), (0, u "java/lang/Object")] 7

/-- java/lang/Comparable -/
def k3 : Class := { plain "java/lang/Comparable" (some 0) with
  accessFlags := 1537
  interfaces := #[]
  cf := some (fileOf pool3 1 #[] #[] 1537 3 #[] #[])
  fields := #[]
  methods := #[]
  instanceTypes := #[]
  staticTypes := #[]
  resolved := Array.replicate 12 none
  statics := none }

def pool4 : Array CpInfo := pool [(2, .class_ 4), (1, u "java/lang/CharSequence"), (42, .class_ 48), (0, u "java/lang/CharSequence$1CodePointIterator"), (10, .class_ 60), (0, u "java/lang/CharSequence$1CharIterator"), (5, .class_ 67), (0, u "java/lang/Object")] 63

/-- java/lang/CharSequence -/
def k4 : Class := { plain "java/lang/CharSequence" (some 0) with
  accessFlags := 1537
  interfaces := #[]
  cf := some (fileOf pool4 2 #[.nestMembers #[47, 59]] #[] 1537 66 #[] #[])
  fields := #[]
  methods := #[]
  instanceTypes := #[]
  staticTypes := #[]
  resolved := Array.replicate 131 none
  statics := none }

def pool5 : Array CpInfo := pool [(1, .class_ 2), (0, u "java/lang/constant/Constable"), (0, .class_ 4), (0, u "java/lang/Object")] 6

/-- java/lang/constant/Constable -/
def k5 : Class := { plain "java/lang/constant/Constable" (some 0) with
  accessFlags := 1537
  interfaces := #[]
  cf := some (fileOf pool5 1 #[] #[] 1537 3 #[] #[])
  fields := #[]
  methods := #[]
  instanceTypes := #[]
  staticTypes := #[]
  resolved := Array.replicate 11 none
  statics := none }

def pool6 : Array CpInfo := pool [(1, .class_ 2), (0, u "java/lang/constant/ConstantDesc"), (0, .class_ 4), (0, u "java/lang/Object")] 32

/-- java/lang/constant/ConstantDesc -/
def k6 : Class := { plain "java/lang/constant/ConstantDesc" (some 0) with
  accessFlags := 1537
  interfaces := #[]
  cf := some (fileOf pool6 1 #[] #[] 1537 3 #[] #[])
  fields := #[]
  methods := #[]
  instanceTypes := #[]
  staticTypes := #[]
  resolved := Array.replicate 37 none
  statics := none }

def pool7 : Array CpInfo := pool [(1, .methodref 2 3), (0, .class_ 4), (0, .nameAndType 5 6), (0, u "java/lang/Object"), (0, u "<init>"), (0, u "()V"), (0, .string 8), (0, u ""), (0, .fieldref 10 11), (0, .class_ 12), (0, .nameAndType 13 14), (0, u "java/lang/String"), (0, u "value"), (0, u "[B"), (0, .fieldref 10 16), (0, .nameAndType 17 18), (0, u "coder"), (0, u "B"), (2, u "hash"), (0, u "I"), (2, u "hashIsZero"), (0, u "Z"), (0, .methodref 10 28), (0, .nameAndType 5 29), (0, u "([CIILjava/lang/Void;)V"), (8, .fieldref 10 39), (0, .nameAndType 40 26), (0, u "COMPACT_STRINGS"), (1, .class_ 44), (1, u "java/lang/StringUTF16"), (0, u "compress"), (1, .methodref 42 48), (0, .nameAndType 49 50), (0, u "coderFromArrayLen"), (0, u "([BI)B"), (126, .methodref 42 178), (0, .nameAndType 45 179), (0, u "([CII)[B"), (395, .class_ 576), (0, u "java/lang/CharSequence"), (22, u "CASE_INSENSITIVE_ORDER"), (0, u "Ljava/util/Comparator;"), (409, u "([C)V"), (90, u "serialPersistentFields"), (0, u "[Ljava/io/ObjectStreamField;"), (0, .class_ 1104), (0, u "java/lang/String$CaseInsensitiveComparator"), (1, .class_ 1107), (0, u "java/io/Serializable"), (0, .class_ 1109), (0, u "java/lang/Comparable"), (0, .class_ 1111), (0, u "java/lang/constant/Constable"), (0, .class_ 1113), (0, u "java/lang/constant/ConstantDesc"), (2, u "serialVersionUID"), (0, u "J"), (3, u "REPL"), (0, u "C"), (2, u "LATIN1"), (1, u "UTF16")] 323

def k7m0 : Method := { name := "<init>", desc := "()V", sig := { parameters := [], returnType := none }, accessFlags := 1, code := none }
def k7c1 : Code := { maxStack := 5, maxLocals := 2, code := jdk_42_method_3_code, exceptionTable := #[], attributes := #[] }
def k7m1 : Method := { name := "<init>", desc := "([C)V", sig := { parameters := [(.array .char)], returnType := none }, accessFlags := 1, code := some k7c1 }
def k7c2 : Code := { maxStack := 4, maxLocals := 6, code := jdk_42_method_149_code, exceptionTable := #[], attributes := #[] }
def k7m2 : Method := { name := "<init>", desc := "([CIILjava/lang/Void;)V", sig := { parameters := [(.array .char), .int, .int, (.object "java/lang/Void")], returnType := none }, accessFlags := 2, code := some k7c2 }
/-- java/lang/String -/
def k7 : Class := { plain "java/lang/String" (some 0) with
  accessFlags := 49
  interfaces := #[2, 3, 4, 5, 6]
  cf := some (fileOf pool7 10 #[.nestMembers #[1103]] #[{ accessFlags := 1, nameIndex := 5, descriptorIndex := 6, attributes := #[] }, { accessFlags := 1, nameIndex := 5, descriptorIndex := 1010, attributes := #[] }, { accessFlags := 2, nameIndex := 5, descriptorIndex := 29, attributes := #[] }] 49 2 #[1106, 1108, 575, 1110, 1112] #[{ accessFlags := 18, nameIndex := 13, descriptorIndex := 14, attributes := #[] }, { accessFlags := 18, nameIndex := 17, descriptorIndex := 18, attributes := #[] }, { accessFlags := 2, nameIndex := 21, descriptorIndex := 22, attributes := #[] }, { accessFlags := 2, nameIndex := 25, descriptorIndex := 26, attributes := #[] }, { accessFlags := 26, nameIndex := 1116, descriptorIndex := 1117, attributes := #[] }, { accessFlags := 24, nameIndex := 40, descriptorIndex := 26, attributes := #[] }, { accessFlags := 26, nameIndex := 1101, descriptorIndex := 1102, attributes := #[] }, { accessFlags := 26, nameIndex := 1121, descriptorIndex := 1122, attributes := #[] }, { accessFlags := 25, nameIndex := 599, descriptorIndex := 600, attributes := #[] }, { accessFlags := 24, nameIndex := 1125, descriptorIndex := 18, attributes := #[] }, { accessFlags := 24, nameIndex := 1127, descriptorIndex := 18, attributes := #[] }])
  fields := #[{ name := "value", type := (.array .byte), accessFlags := 18, slot := 0, constantValue := 0 }, { name := "coder", type := .byte, accessFlags := 18, slot := 1, constantValue := 0 }, { name := "hash", type := .int, accessFlags := 2, slot := 2, constantValue := 0 }, { name := "hashIsZero", type := .boolean, accessFlags := 2, slot := 3, constantValue := 0 }, { name := "serialVersionUID", type := .long, accessFlags := 26, slot := 0, constantValue := 0 }, { name := "COMPACT_STRINGS", type := .boolean, accessFlags := 24, slot := 1, constantValue := 0 }, { name := "serialPersistentFields", type := (.array (.object "java/io/ObjectStreamField")), accessFlags := 26, slot := 2, constantValue := 0 }, { name := "REPL", type := .char, accessFlags := 26, slot := 3, constantValue := 0 }, { name := "CASE_INSENSITIVE_ORDER", type := (.object "java/util/Comparator"), accessFlags := 25, slot := 4, constantValue := 0 }, { name := "LATIN1", type := .byte, accessFlags := 24, slot := 5, constantValue := 0 }, { name := "UTF16", type := .byte, accessFlags := 24, slot := 6, constantValue := 0 }]
  methods := #[k7m0, k7m1, k7m2]
  instanceTypes := #[(.array .byte), .byte, .int, .boolean]
  staticTypes := #[.long, .boolean, (.array (.object "java/io/ObjectStreamField")), .char, (.object "java/util/Comparator"), .byte, .byte]
  resolved := Array.replicate 1451 none
  statics := some 0 }

def pool8 : Array CpInfo := pool [(1, .methodref 2 3), (0, .class_ 4), (0, .nameAndType 5 6), (0, u "java/lang/Object"), (0, u "<init>"), (0, u "()V"), (0, .fieldref 8 9), (0, .class_ 10), (0, .nameAndType 11 12), (0, u "java/lang/Throwable"), (0, u "cause"), (0, u "Ljava/lang/Throwable;"), (0, .fieldref 8 14), (0, .nameAndType 15 16), (0, u "UNASSIGNED_STACK"), (0, u "[Ljava/lang/StackTraceElement;"), (0, .fieldref 8 18), (0, .nameAndType 19 16), (0, u "stackTrace"), (0, .fieldref 8 21), (0, .nameAndType 22 23), (0, u "SUPPRESSED_SENTINEL"), (0, u "Ljava/util/List;"), (0, .fieldref 8 25), (0, .nameAndType 26 23), (0, u "suppressedExceptions"), (0, .methodref 8 28), (0, .nameAndType 29 30), (0, u "fillInStackTrace"), (0, u "()Ljava/lang/Throwable;"), (0, .fieldref 8 32), (0, .nameAndType 33 34), (0, u "detailMessage"), (0, u "Ljava/lang/String;"), (3, u "()Ljava/lang/String;"), (2, u "getMessage"), (21, u "(Ljava/lang/String;Ljava/lang/Throwable;)V"), (29, .class_ 94), (0, u "java/lang/Throwable$WrappedPrintStream"), (6, .class_ 103), (1, u "java/lang/Throwable$PrintStreamOrWriter"), (54, u "getCause"), (6, u "$assertionsDisabled"), (0, u "Z"), (26, .class_ 194), (0, u "java/lang/Throwable$WrappedPrintWriter"), (3, .fieldref 8 199), (0, .nameAndType 200 201), (0, u "backtrace"), (0, u "Ljava/lang/Object;"), (0, .methodref 8 203), (0, .nameAndType 29 204), (0, u "(I)Ljava/lang/Throwable;"), (6, u "depth"), (0, u "I"), (56, .class_ 271), (1, u "java/lang/Throwable$SentinelHolder"), (32, u "EMPTY_THROWABLE_ARRAY"), (0, u "[Ljava/lang/Throwable;"), (12, .class_ 319), (0, u "java/io/Serializable"), (0, u "serialVersionUID"), (0, u "J"), (5, u "NULL_CAUSE_MESSAGE"), (0, u "SELF_SUPPRESSION_MESSAGE"), (0, u "CAUSE_CAPTION"), (0, u "SUPPRESSED_CAPTION")] 73

def k8c0 : Code := { maxStack := 2, maxLocals := 1, code := jdk_78_method_1_code, exceptionTable := #[], attributes := #[] }
def k8m0 : Method := { name := "<init>", desc := "()V", sig := { parameters := [], returnType := none }, accessFlags := 1, code := some k8c0 }
def k8c1 : Code := { maxStack := 2, maxLocals := 3, code := jdk_78_method_3_code, exceptionTable := #[], attributes := #[] }
def k8m1 : Method := { name := "<init>", desc := "(Ljava/lang/String;Ljava/lang/Throwable;)V", sig := { parameters := [(.object "java/lang/String"), (.object "java/lang/Throwable")], returnType := none }, accessFlags := 1, code := some k8c1 }
def k8c2 : Code := { maxStack := 1, maxLocals := 1, code := jdk_78_method_6_code, exceptionTable := #[], attributes := #[] }
def k8m2 : Method := { name := "getMessage", desc := "()Ljava/lang/String;", sig := { parameters := [], returnType := some (.object "java/lang/String") }, accessFlags := 1, code := some k8c2 }
def k8c3 : Code := { maxStack := 2, maxLocals := 1, code := ⟨#[0x2a, 0xb4, 0x00, 0x07, 0x2a, 0xa6, 0x00, 0x07, 0x01, 0xa7, 0x00, 0x07, 0x2a, 0xb4, 0x00, 0x07, 0xb0]⟩, exceptionTable := #[], attributes := #[] }
def k8m3 : Method := { name := "getCause", desc := "()Ljava/lang/Throwable;", sig := { parameters := [], returnType := some (.object "java/lang/Throwable") }, accessFlags := 33, code := some k8c3 }
def k8c4 : Code := { maxStack := 2, maxLocals := 1, code := ⟨#[0x2a, 0xb4, 0x00, 0x11, 0xc7, 0x00, 0x0a, 0x2a, 0xb4, 0x00, 0xc6, 0xc6, 0x00, 0x10, 0x2a, 0x03, 0xb6, 0x00, 0xca, 0x57, 0x2a, 0xb2, 0x00, 0x0d, 0xb5, 0x00, 0x11, 0x2a, 0xb0]⟩, exceptionTable := #[], attributes := #[] }
def k8m4 : Method := { name := "fillInStackTrace", desc := "()Ljava/lang/Throwable;", sig := { parameters := [], returnType := some (.object "java/lang/Throwable") }, accessFlags := 33, code := some k8c4 }
def k8m5 : Method := { name := "fillInStackTrace", desc := "(I)Ljava/lang/Throwable;", sig := { parameters := [.int], returnType := some (.object "java/lang/Throwable") }, accessFlags := 258, code := none }
/-- java/lang/Throwable -/
def k8 : Class := { plain "java/lang/Throwable" (some 0) with
  accessFlags := 33
  interfaces := #[2]
  cf := some (fileOf pool8 8 #[.nestMembers #[193, 93, 101, 269]] #[{ accessFlags := 1, nameIndex := 5, descriptorIndex := 6, attributes := #[] }, { accessFlags := 1, nameIndex := 5, descriptorIndex := 63, attributes := #[] }, { accessFlags := 1, nameIndex := 41, descriptorIndex := 38, attributes := #[] }, { accessFlags := 33, nameIndex := 158, descriptorIndex := 30, attributes := #[] }, { accessFlags := 33, nameIndex := 29, descriptorIndex := 30, attributes := #[] }, { accessFlags := 258, nameIndex := 29, descriptorIndex := 204, attributes := #[] }] 33 2 #[318] #[{ accessFlags := 26, nameIndex := 320, descriptorIndex := 321, attributes := #[] }, { accessFlags := 130, nameIndex := 200, descriptorIndex := 201, attributes := #[] }, { accessFlags := 2, nameIndex := 33, descriptorIndex := 34, attributes := #[] }, { accessFlags := 26, nameIndex := 15, descriptorIndex := 16, attributes := #[] }, { accessFlags := 2, nameIndex := 11, descriptorIndex := 12, attributes := #[] }, { accessFlags := 2, nameIndex := 19, descriptorIndex := 16, attributes := #[] }, { accessFlags := 130, nameIndex := 211, descriptorIndex := 212, attributes := #[] }, { accessFlags := 26, nameIndex := 22, descriptorIndex := 23, attributes := #[] }, { accessFlags := 2, nameIndex := 26, descriptorIndex := 23, attributes := #[] }, { accessFlags := 26, nameIndex := 327, descriptorIndex := 34, attributes := #[] }, { accessFlags := 26, nameIndex := 328, descriptorIndex := 34, attributes := #[] }, { accessFlags := 26, nameIndex := 329, descriptorIndex := 34, attributes := #[] }, { accessFlags := 26, nameIndex := 330, descriptorIndex := 34, attributes := #[] }, { accessFlags := 26, nameIndex := 304, descriptorIndex := 305, attributes := #[] }, { accessFlags := 4120, nameIndex := 165, descriptorIndex := 166, attributes := #[] }])
  fields := #[{ name := "serialVersionUID", type := .long, accessFlags := 26, slot := 0, constantValue := 0 }, { name := "backtrace", type := (.object "java/lang/Object"), accessFlags := 130, slot := 0, constantValue := 0 }, { name := "detailMessage", type := (.object "java/lang/String"), accessFlags := 2, slot := 1, constantValue := 0 }, { name := "UNASSIGNED_STACK", type := (.array (.object "java/lang/StackTraceElement")), accessFlags := 26, slot := 1, constantValue := 0 }, { name := "cause", type := (.object "java/lang/Throwable"), accessFlags := 2, slot := 2, constantValue := 0 }, { name := "stackTrace", type := (.array (.object "java/lang/StackTraceElement")), accessFlags := 2, slot := 3, constantValue := 0 }, { name := "depth", type := .int, accessFlags := 130, slot := 4, constantValue := 0 }, { name := "SUPPRESSED_SENTINEL", type := (.object "java/util/List"), accessFlags := 26, slot := 2, constantValue := 0 }, { name := "suppressedExceptions", type := (.object "java/util/List"), accessFlags := 2, slot := 5, constantValue := 0 }, { name := "NULL_CAUSE_MESSAGE", type := (.object "java/lang/String"), accessFlags := 26, slot := 3, constantValue := 0 }, { name := "SELF_SUPPRESSION_MESSAGE", type := (.object "java/lang/String"), accessFlags := 26, slot := 4, constantValue := 0 }, { name := "CAUSE_CAPTION", type := (.object "java/lang/String"), accessFlags := 26, slot := 5, constantValue := 0 }, { name := "SUPPRESSED_CAPTION", type := (.object "java/lang/String"), accessFlags := 26, slot := 6, constantValue := 0 }, { name := "EMPTY_THROWABLE_ARRAY", type := (.array (.object "java/lang/Throwable")), accessFlags := 26, slot := 7, constantValue := 0 }, { name := "$assertionsDisabled", type := .boolean, accessFlags := 4120, slot := 8, constantValue := 0 }]
  methods := #[k8m0, k8m1, k8m2, k8m3, k8m4, k8m5]
  instanceTypes := #[(.object "java/lang/Object"), (.object "java/lang/String"), (.object "java/lang/Throwable"), (.array (.object "java/lang/StackTraceElement")), .int, (.object "java/util/List")]
  staticTypes := #[.long, (.array (.object "java/lang/StackTraceElement")), (.object "java/util/List"), (.object "java/lang/String"), (.object "java/lang/String"), (.object "java/lang/String"), (.object "java/lang/String"), (.array (.object "java/lang/Throwable")), .boolean]
  resolved := Array.replicate 404 none
  statics := some 1 }

def pool9 : Array CpInfo := pool [(2, .class_ 4), (1, u "java/lang/Throwable"), (0, u "<init>"), (0, u "()V"), (3, .methodref 2 11), (0, .nameAndType 5 12), (0, u "(Ljava/lang/String;Ljava/lang/Throwable;)V"), (6, .class_ 20), (0, u "java/lang/Exception"), (0, u "serialVersionUID"), (0, u "J")] 17

def k9m0 : Method := { name := "<init>", desc := "()V", sig := { parameters := [], returnType := none }, accessFlags := 1, code := none }
def k9c1 : Code := { maxStack := 3, maxLocals := 3, code := jdk_59_method_3_code, exceptionTable := #[], attributes := #[] }
def k9m1 : Method := { name := "<init>", desc := "(Ljava/lang/String;Ljava/lang/Throwable;)V", sig := { parameters := [(.object "java/lang/String"), (.object "java/lang/Throwable")], returnType := none }, accessFlags := 1, code := some k9c1 }
/-- java/lang/Exception -/
def k9 : Class := { plain "java/lang/Exception" (some 8) with
  accessFlags := 33
  interfaces := #[]
  cf := some (fileOf pool9 19 #[] #[{ accessFlags := 1, nameIndex := 5, descriptorIndex := 6, attributes := #[] }, { accessFlags := 1, nameIndex := 5, descriptorIndex := 12, attributes := #[] }] 33 2 #[] #[{ accessFlags := 24, nameIndex := 21, descriptorIndex := 22, attributes := #[] }])
  fields := #[{ name := "serialVersionUID", type := .long, accessFlags := 24, slot := 0, constantValue := 0 }]
  methods := #[k9m0, k9m1]
  instanceTypes := #[(.object "java/lang/Object"), (.object "java/lang/String"), (.object "java/lang/Throwable"), (.array (.object "java/lang/StackTraceElement")), .int, (.object "java/util/List")]
  staticTypes := #[.long]
  resolved := Array.replicate 40 none
  statics := none }

def pool10 : Array CpInfo := pool [(1, .methodref 2 3), (0, .class_ 4), (0, .nameAndType 5 6), (0, u "java/lang/Exception"), (0, u "<init>"), (0, u "(Ljava/lang/String;Ljava/lang/Throwable;)V"), (0, .fieldref 8 9), (0, .class_ 10), (0, .nameAndType 11 12), (0, u "com/example/exact_roles/exactroles/cli/CommandException"), (0, u "status"), (0, u "I"), (0, .fieldref 8 14), (0, .nameAndType 15 16), (0, u "showsUsage"), (0, u "Z"), (0, .methodref 8 18), (0, .nameAndType 5 19), (0, u "(IZLjava/lang/String;Ljava/lang/Throwable;)V"), (31, u "serialVersionUID"), (0, u "J"), (5, u "usage"), (0, u "(Ljava/lang/String;)Lcom/example/exact_roles/exactroles/cli/CommandException;"), (3, u "getStatus"), (0, u "()I"), (0, u "()Z")] 20

def k10c0 : Code := { maxStack := 3, maxLocals := 5, code := prog_1_method_1_code, exceptionTable := #[], attributes := #[] }
def k10m0 : Method := { name := "<init>", desc := "(IZLjava/lang/String;Ljava/lang/Throwable;)V", sig := { parameters := [.int, .boolean, (.object "java/lang/String"), (.object "java/lang/Throwable")], returnType := none }, accessFlags := 2, code := some k10c0 }
def k10c1 : Code := { maxStack := 6, maxLocals := 1, code := prog_1_method_2_code, exceptionTable := #[], attributes := #[] }
def k10m1 : Method := { name := "usage", desc := "(Ljava/lang/String;)Lcom/example/exact_roles/exactroles/cli/CommandException;", sig := { parameters := [(.object "java/lang/String")], returnType := some (.object "com/example/exact_roles/exactroles/cli/CommandException") }, accessFlags := 9, code := some k10c1 }
def k10c2 : Code := { maxStack := 1, maxLocals := 1, code := prog_1_method_5_code, exceptionTable := #[], attributes := #[] }
def k10m2 : Method := { name := "getStatus", desc := "()I", sig := { parameters := [], returnType := some .int }, accessFlags := 1, code := some k10c2 }
def k10c3 : Code := { maxStack := 1, maxLocals := 1, code := prog_1_method_6_code, exceptionTable := #[], attributes := #[] }
def k10m3 : Method := { name := "showsUsage", desc := "()Z", sig := { parameters := [], returnType := some .boolean }, accessFlags := 1, code := some k10c3 }
/-- com/example/exact_roles/exactroles/cli/CommandException -/
def k10 : Class := { plain "com/example/exact_roles/exactroles/cli/CommandException" (some 9) with
  accessFlags := 49
  interfaces := #[]
  cf := some (fileOf pool10 8 #[] #[{ accessFlags := 2, nameIndex := 5, descriptorIndex := 19, attributes := #[] }, { accessFlags := 9, nameIndex := 58, descriptorIndex := 59, attributes := #[] }, { accessFlags := 1, nameIndex := 63, descriptorIndex := 64, attributes := #[] }, { accessFlags := 1, nameIndex := 15, descriptorIndex := 65, attributes := #[] }] 49 2 #[] #[{ accessFlags := 26, nameIndex := 51, descriptorIndex := 52, attributes := #[] }, { accessFlags := 18, nameIndex := 11, descriptorIndex := 12, attributes := #[] }, { accessFlags := 18, nameIndex := 15, descriptorIndex := 16, attributes := #[] }])
  fields := #[{ name := "serialVersionUID", type := .long, accessFlags := 26, slot := 0, constantValue := 0 }, { name := "status", type := .int, accessFlags := 18, slot := 6, constantValue := 0 }, { name := "showsUsage", type := .boolean, accessFlags := 18, slot := 7, constantValue := 0 }]
  methods := #[k10m0, k10m1, k10m2, k10m3]
  instanceTypes := #[(.object "java/lang/Object"), (.object "java/lang/String"), (.object "java/lang/Throwable"), (.array (.object "java/lang/StackTraceElement")), .int, (.object "java/util/List"), .int, .boolean]
  staticTypes := #[.long]
  resolved := Array.replicate 86 none
  statics := none }

def pool11 : Array CpInfo := pool [(6, .class_ 8), (1, u "java/lang/Object"), (0, u "<init>"), (0, u "()V"), (1, .class_ 14), (1, u "java/lang/StringUTF16"), (31, u "$assertionsDisabled"), (0, u "Z"), (13, u "HI_BYTE_SHIFT"), (0, u "I"), (2, u "LO_BYTE_SHIFT"), (49, .methodref 12 116), (0, .nameAndType 117 118), (0, u "compress"), (0, u "([CI[BII)I"), (3, u "([CII)[B"), (138, u "coderFromArrayLen"), (0, u "([BI)B"), (106, .class_ 371), (1, u "java/lang/StringUTF16$LinesSpliterator"), (58, u "MAX_LENGTH"), (196, .class_ 628), (0, u "java/lang/StringUTF16$CodePointsSpliterator"), (0, .class_ 630), (0, u "java/lang/StringUTF16$CharsSpliterator")] 4

def k11m0 : Method := { name := "<init>", desc := "()V", sig := { parameters := [], returnType := none }, accessFlags := 0, code := none }
def k11c1 : Code := { maxStack := 2, maxLocals := 2, code := jdk_52_method_15_code, exceptionTable := #[], attributes := #[] }
def k11m1 : Method := { name := "coderFromArrayLen", desc := "([BI)B", sig := { parameters := [(.array .byte), .int], returnType := some .byte }, accessFlags := 8, code := some k11c1 }
def k11c2 : Code := { maxStack := 5, maxLocals := 6, code := jdk_52_method_16_code, exceptionTable := #[], attributes := #[] }
def k11m2 : Method := { name := "compress", desc := "([CII)[B", sig := { parameters := [(.array .char), .int, .int], returnType := some (.array .byte) }, accessFlags := 9, code := some k11c2 }
def k11c3 : Code := { maxStack := 3, maxLocals := 7, code := jdk_52_method_21_code, exceptionTable := #[], attributes := #[] }
def k11m3 : Method := { name := "compress", desc := "([CI[BII)I", sig := { parameters := [(.array .char), .int, (.array .byte), .int, .int], returnType := some .int }, accessFlags := 9, code := some k11c3 }
/-- java/lang/StringUTF16 -/
def k11 : Class := { plain "java/lang/StringUTF16" (some 0) with
  accessFlags := 48
  interfaces := #[]
  cf := some (fileOf pool11 12 #[.nestMembers #[627, 629, 369]] #[{ accessFlags := 0, nameIndex := 9, descriptorIndex := 10, attributes := #[] }, { accessFlags := 8, nameIndex := 261, descriptorIndex := 262, attributes := #[] }, { accessFlags := 9, nameIndex := 117, descriptorIndex := 122, attributes := #[] }, { accessFlags := 9, nameIndex := 117, descriptorIndex := 118, attributes := #[] }] 48 6 #[] #[{ accessFlags := 26, nameIndex := 61, descriptorIndex := 62, attributes := #[] }, { accessFlags := 26, nameIndex := 65, descriptorIndex := 62, attributes := #[] }, { accessFlags := 24, nameIndex := 430, descriptorIndex := 62, attributes := #[] }, { accessFlags := 4120, nameIndex := 46, descriptorIndex := 47, attributes := #[] }])
  fields := #[{ name := "HI_BYTE_SHIFT", type := .int, accessFlags := 26, slot := 0, constantValue := 0 }, { name := "LO_BYTE_SHIFT", type := .int, accessFlags := 26, slot := 1, constantValue := 0 }, { name := "MAX_LENGTH", type := .int, accessFlags := 24, slot := 2, constantValue := 0 }, { name := "$assertionsDisabled", type := .boolean, accessFlags := 4120, slot := 3, constantValue := 0 }]
  methods := #[k11m0, k11m1, k11m2, k11m3]
  instanceTypes := #[]
  staticTypes := #[.int, .int, .int, .boolean]
  resolved := Array.replicate 635 none
  statics := none }

def pool12 : Array CpInfo := pool [(2, .class_ 4), (1, u "java/lang/Object"), (0, u "<init>"), (0, u "()V"), (12, .class_ 20), (0, u "java/util/Collections"), (63, u "r"), (0, u "Ljava/util/Random;"), (80, .class_ 167), (0, u "java/util/Collections$UnmodifiableCollection"), (6, .class_ 175), (0, u "java/util/Collections$UnmodifiableSequencedCollection"), (6, .class_ 183), (0, u "java/util/Collections$UnmodifiableSet"), (6, .class_ 191), (0, u "java/util/Collections$UnmodifiableSequencedSet"), (6, .class_ 199), (0, u "java/util/Collections$UnmodifiableSortedSet"), (6, .class_ 207), (0, u "java/util/Collections$UnmodifiableNavigableSet"), (4, .class_ 213), (0, u "java/util/Collections$UnmodifiableList"), (1, .class_ 216), (0, u "java/util/Collections$UnmodifiableRandomAccessList"), (6, .class_ 224), (0, u "java/util/Collections$UnmodifiableMap"), (6, .class_ 232), (0, u "java/util/Collections$UnmodifiableSequencedMap"), (4, .class_ 238), (0, u "java/util/Collections$UnmodifiableSortedMap"), (6, .class_ 246), (0, u "java/util/Collections$UnmodifiableNavigableMap"), (3, .class_ 251), (0, u "java/util/Collections$SynchronizedCollection"), (4, .class_ 257), (0, u "java/util/Collections$SynchronizedSet"), (4, .class_ 263), (0, u "java/util/Collections$SynchronizedSortedSet"), (1, .class_ 266), (0, u "java/util/Collections$SynchronizedNavigableSet"), (1, .class_ 269), (0, u "java/util/Collections$SynchronizedRandomAccessList"), (1, .class_ 272), (0, u "java/util/Collections$SynchronizedList"), (5, .class_ 279), (0, u "java/util/Collections$SynchronizedMap"), (1, .class_ 282), (0, u "java/util/Collections$SynchronizedSortedMap"), (1, .class_ 285), (0, u "java/util/Collections$SynchronizedNavigableMap"), (1, .class_ 288), (0, u "java/util/Collections$CheckedCollection"), (11, .class_ 301), (0, u "java/util/Collections$CheckedQueue"), (3, .class_ 306), (0, u "java/util/Collections$CheckedSet"), (3, .class_ 311), (0, u "java/util/Collections$CheckedSortedSet"), (3, .class_ 316), (0, u "java/util/Collections$CheckedNavigableSet"), (3, .class_ 321), (0, u "java/util/Collections$CheckedRandomAccessList"), (3, .class_ 326), (0, u "java/util/Collections$CheckedList"), (1, .class_ 329), (0, u "java/util/Collections$CheckedMap"), (3, .class_ 334), (0, u "java/util/Collections$CheckedSortedMap"), (3, .class_ 339), (0, u "java/util/Collections$CheckedNavigableMap"), (4, .class_ 346), (1, u "java/util/Collections$EmptyIterator"), (3, .class_ 352), (1, u "java/util/Collections$EmptyListIterator"), (2, .class_ 357), (1, u "java/util/Collections$EmptyEnumeration"), (4, u "EMPTY_SET"), (0, u "Ljava/util/Set;"), (6, u "EMPTY_LIST"), (0, u "Ljava/util/List;"), (2, u "EMPTY_MAP"), (0, u "Ljava/util/Map;"), (4, .class_ 381), (0, u "java/util/Collections$SingletonSet"), (2, .class_ 385), (0, u "java/util/Collections$1"), (1, .class_ 388), (0, u "java/util/Collections$2"), (1, .class_ 391), (0, u "java/util/Collections$SingletonList"), (1, .class_ 394), (0, u "java/util/Collections$SingletonMap"), (22, .class_ 418), (0, u "java/util/Collections$CopiesList"), (4, .class_ 425), (1, u "java/util/Collections$ReverseComparator"), (8, .class_ 435), (0, u "java/util/Collections$ReverseComparator2"), (6, .class_ 443), (0, u "java/util/Collections$3"), (25, .class_ 470), (0, u "java/util/Collections$SetFromMap"), (2, .class_ 474), (0, u "java/util/Collections$SequencedSetFromMap"), (3, .class_ 479), (0, u "java/util/Collections$AsLIFOQueue"), (11, .class_ 492), (0, u "java/util/Collections$EmptySet"), (1, .class_ 495), (0, u "java/util/Collections$EmptyList"), (1, .class_ 498), (0, u "java/util/Collections$EmptyMap"), (1, u "BINARYSEARCH_THRESHOLD"), (0, u "I"), (2, u "REVERSE_THRESHOLD"), (1, u "SHUFFLE_THRESHOLD"), (1, u "FILL_THRESHOLD"), (1, u "ROTATE_THRESHOLD"), (1, u "COPY_THRESHOLD"), (1, u "REPLACEALL_THRESHOLD"), (1, u "INDEXOFSUBLIST_THRESHOLD"), (333, .class_ 851), (0, u "java/util/Collections$CheckedMap$CheckedEntrySet"), (0, .class_ 853), (0, u "java/util/Collections$CheckedMap$CheckedEntrySet$CheckedEntry"), (0, .class_ 855), (0, u "java/util/Collections$CheckedMap$CheckedEntrySet$1"), (0, .class_ 857), (0, u "java/util/Collections$CheckedList$1"), (0, .class_ 859), (0, u "java/util/Collections$CheckedCollection$1"), (0, .class_ 861), (0, u "java/util/Collections$UnmodifiableNavigableMap$EmptyNavigableMap"), (0, .class_ 863), (0, u "java/util/Collections$UnmodifiableMap$UnmodifiableEntrySet"), (0, .class_ 865), (0, u "java/util/Collections$UnmodifiableMap$UnmodifiableEntrySet$UnmodifiableEntry"), (0, .class_ 867), (0, u "java/util/Collections$UnmodifiableMap$UnmodifiableEntrySet$UnmodifiableEntrySetSpliterator"), (0, .class_ 869), (0, u "java/util/Collections$UnmodifiableMap$UnmodifiableEntrySet$1"), (0, .class_ 871), (0, u "java/util/Collections$UnmodifiableList$1"), (0, .class_ 873), (0, u "java/util/Collections$UnmodifiableNavigableSet$EmptyNavigableSet"), (0, .class_ 875), (0, u "java/util/Collections$UnmodifiableCollection$1")] 57

def k12m0 : Method := { name := "<init>", desc := "()V", sig := { parameters := [], returnType := none }, accessFlags := 2, code := none }
/-- java/util/Collections -/
def k12 : Class := { plain "java/util/Collections" (some 0) with
  accessFlags := 33
  interfaces := #[]
  cf := some (fileOf pool12 19 #[.nestMembers #[478, 473, 469, 434, 423, 417, 393, 390, 380, 497, 494, 491, 355, 350, 344, 338, 333, 328, 850, 852, 854, 320, 325, 856, 315, 310, 305, 300, 287, 858, 284, 281, 278, 268, 271, 265, 262, 256, 250, 245, 860, 237, 231, 223, 862, 864, 866, 868, 215, 212, 870, 206, 872, 198, 190, 182, 174, 166, 874, 442, 387, 384]] #[{ accessFlags := 2, nameIndex := 5, descriptorIndex := 6, attributes := #[] }] 33 2 #[] #[{ accessFlags := 26, nameIndex := 500, descriptorIndex := 501, attributes := #[] }, { accessFlags := 26, nameIndex := 504, descriptorIndex := 501, attributes := #[] }, { accessFlags := 26, nameIndex := 506, descriptorIndex := 501, attributes := #[] }, { accessFlags := 26, nameIndex := 508, descriptorIndex := 501, attributes := #[] }, { accessFlags := 26, nameIndex := 510, descriptorIndex := 501, attributes := #[] }, { accessFlags := 26, nameIndex := 512, descriptorIndex := 501, attributes := #[] }, { accessFlags := 26, nameIndex := 514, descriptorIndex := 501, attributes := #[] }, { accessFlags := 26, nameIndex := 516, descriptorIndex := 501, attributes := #[] }, { accessFlags := 10, nameIndex := 84, descriptorIndex := 85, attributes := #[] }, { accessFlags := 25, nameIndex := 362, descriptorIndex := 363, attributes := #[] }, { accessFlags := 25, nameIndex := 370, descriptorIndex := 371, attributes := #[] }, { accessFlags := 25, nameIndex := 374, descriptorIndex := 375, attributes := #[] }])
  fields := #[{ name := "BINARYSEARCH_THRESHOLD", type := .int, accessFlags := 26, slot := 0, constantValue := 0 }, { name := "REVERSE_THRESHOLD", type := .int, accessFlags := 26, slot := 1, constantValue := 0 }, { name := "SHUFFLE_THRESHOLD", type := .int, accessFlags := 26, slot := 2, constantValue := 0 }, { name := "FILL_THRESHOLD", type := .int, accessFlags := 26, slot := 3, constantValue := 0 }, { name := "ROTATE_THRESHOLD", type := .int, accessFlags := 26, slot := 4, constantValue := 0 }, { name := "COPY_THRESHOLD", type := .int, accessFlags := 26, slot := 5, constantValue := 0 }, { name := "REPLACEALL_THRESHOLD", type := .int, accessFlags := 26, slot := 6, constantValue := 0 }, { name := "INDEXOFSUBLIST_THRESHOLD", type := .int, accessFlags := 26, slot := 7, constantValue := 0 }, { name := "r", type := (.object "java/util/Random"), accessFlags := 10, slot := 8, constantValue := 0 }, { name := "EMPTY_SET", type := (.object "java/util/Set"), accessFlags := 25, slot := 9, constantValue := 0 }, { name := "EMPTY_LIST", type := (.object "java/util/List"), accessFlags := 25, slot := 10, constantValue := 0 }, { name := "EMPTY_MAP", type := (.object "java/util/Map"), accessFlags := 25, slot := 11, constantValue := 0 }]
  methods := #[k12m0]
  instanceTypes := #[]
  staticTypes := #[.int, .int, .int, .int, .int, .int, .int, .int, (.object "java/util/Random"), (.object "java/util/Set"), (.object "java/util/List"), (.object "java/util/Map")]
  resolved := Array.replicate 933 none
  statics := some 2 }

def pool13 : Array CpInfo := pool [(4, .class_ 6), (1, u "java/lang/Object"), (0, u "<init>"), (0, u "()V"), (5, .class_ 16), (1, u "java/lang/StringLatin1"), (104, u "$assertionsDisabled"), (0, u "Z"), (98, .class_ 223), (1, u "java/lang/StringLatin1$LinesSpliterator"), (166, .class_ 391), (0, u "java/lang/StringLatin1$CharsSpliterator")] 3

def k13m0 : Method := { name := "<init>", desc := "()V", sig := { parameters := [], returnType := none }, accessFlags := 0, code := none }
/-- java/lang/StringLatin1 -/
def k13 : Class := { plain "java/lang/StringLatin1" (some 0) with
  accessFlags := 48
  interfaces := #[]
  cf := some (fileOf pool13 14 #[.nestMembers #[390, 221]] #[{ accessFlags := 0, nameIndex := 7, descriptorIndex := 8, attributes := #[] }] 48 4 #[] #[{ accessFlags := 4120, nameIndex := 121, descriptorIndex := 122, attributes := #[] }])
  fields := #[{ name := "$assertionsDisabled", type := .boolean, accessFlags := 4120, slot := 0, constantValue := 0 }]
  methods := #[k13m0]
  instanceTypes := #[]
  staticTypes := #[.boolean]
  resolved := Array.replicate 395 none
  statics := none }

def pool14 : Array CpInfo := pool [(2, .class_ 4), (1, u "java/lang/Object"), (0, u "<init>"), (0, u "()V"), (17, .class_ 26), (1, u "jdk/internal/util/Preconditions"), (28, .class_ 56), (0, u "jdk/internal/util/Preconditions$4"), (57, .class_ 115), (0, u "jdk/internal/util/Preconditions$1"), (7, u "SIOOBE_FORMATTER"), (0, u "Ljava/util/function/BiFunction;"), (0, .class_ 126), (0, u "jdk/internal/util/Preconditions$2"), (3, u "AIOOBE_FORMATTER"), (0, .class_ 132), (0, u "jdk/internal/util/Preconditions$3"), (3, u "IOOBE_FORMATTER")] 57

def k14m0 : Method := { name := "<init>", desc := "()V", sig := { parameters := [], returnType := none }, accessFlags := 1, code := none }
/-- jdk/internal/util/Preconditions -/
def k14 : Class := { plain "jdk/internal/util/Preconditions" (some 0) with
  accessFlags := 33
  interfaces := #[]
  cf := some (fileOf pool14 24 #[.nestMembers #[55, 131, 125, 114]] #[{ accessFlags := 1, nameIndex := 5, descriptorIndex := 6, attributes := #[] }] 33 2 #[] #[{ accessFlags := 25, nameIndex := 123, descriptorIndex := 124, attributes := #[] }, { accessFlags := 25, nameIndex := 130, descriptorIndex := 124, attributes := #[] }, { accessFlags := 25, nameIndex := 136, descriptorIndex := 124, attributes := #[] }])
  fields := #[{ name := "SIOOBE_FORMATTER", type := (.object "java/util/function/BiFunction"), accessFlags := 25, slot := 0, constantValue := 0 }, { name := "AIOOBE_FORMATTER", type := (.object "java/util/function/BiFunction"), accessFlags := 25, slot := 1, constantValue := 0 }, { name := "IOOBE_FORMATTER", type := (.object "java/util/function/BiFunction"), accessFlags := 25, slot := 2, constantValue := 0 }]
  methods := #[k14m0]
  instanceTypes := #[]
  staticTypes := #[(.object "java/util/function/BiFunction"), (.object "java/util/function/BiFunction"), (.object "java/util/function/BiFunction")]
  resolved := Array.replicate 194 none
  statics := some 3 }

def pool15 : Array CpInfo := pool [(9, u "<init>"), (6, .class_ 18), (1, u "java/lang/Object"), (0, u "()V"), (1, .class_ 23), (1, u "jdk/internal/util/ArraysSupport"), (0, u "LOG2_ARRAY_LONG_INDEX_SCALE"), (0, u "I"), (2, u "U"), (0, u "Ljdk/internal/misc/Unsafe;"), (8, u "BIG_ENDIAN"), (0, u "Z"), (8, u "LOG2_BYTE_BIT_SIZE"), (4, u "LOG2_ARRAY_INT_INDEX_SCALE"), (54, u "JLA"), (0, u "Ljdk/internal/access/JavaLangAccess;"), (11, u "LOG2_ARRAY_BOOLEAN_INDEX_SCALE"), (9, u "LOG2_ARRAY_BYTE_INDEX_SCALE"), (5, u "LOG2_ARRAY_CHAR_INDEX_SCALE"), (5, u "LOG2_ARRAY_SHORT_INDEX_SCALE"), (18, u "LOG2_ARRAY_FLOAT_INDEX_SCALE"), (24, u "LOG2_ARRAY_DOUBLE_INDEX_SCALE"), (89, u "T_BOOLEAN"), (2, u "T_CHAR"), (1, u "T_FLOAT"), (1, u "T_DOUBLE"), (1, u "T_BYTE"), (1, u "T_SHORT"), (1, u "T_INT"), (1, u "T_LONG"), (1, u "SOFT_MAX_ARRAY_LENGTH")] 83

def k15m0 : Method := { name := "<init>", desc := "()V", sig := { parameters := [], returnType := none }, accessFlags := 2, code := none }
/-- jdk/internal/util/ArraysSupport -/
def k15 : Class := { plain "jdk/internal/util/ArraysSupport" (some 0) with
  accessFlags := 33
  interfaces := #[]
  cf := some (fileOf pool15 21 #[] #[{ accessFlags := 2, nameIndex := 9, descriptorIndex := 19, attributes := #[] }] 33 16 #[] #[{ accessFlags := 24, nameIndex := 28, descriptorIndex := 29, attributes := #[] }, { accessFlags := 26, nameIndex := 38, descriptorIndex := 39, attributes := #[] }, { accessFlags := 25, nameIndex := 121, descriptorIndex := 25, attributes := #[] }, { accessFlags := 25, nameIndex := 131, descriptorIndex := 25, attributes := #[] }, { accessFlags := 25, nameIndex := 137, descriptorIndex := 25, attributes := #[] }, { accessFlags := 25, nameIndex := 143, descriptorIndex := 25, attributes := #[] }, { accessFlags := 25, nameIndex := 53, descriptorIndex := 25, attributes := #[] }, { accessFlags := 25, nameIndex := 24, descriptorIndex := 25, attributes := #[] }, { accessFlags := 25, nameIndex := 162, descriptorIndex := 25, attributes := #[] }, { accessFlags := 25, nameIndex := 187, descriptorIndex := 25, attributes := #[] }, { accessFlags := 26, nameIndex := 48, descriptorIndex := 25, attributes := #[] }, { accessFlags := 25, nameIndex := 277, descriptorIndex := 25, attributes := #[] }, { accessFlags := 25, nameIndex := 280, descriptorIndex := 25, attributes := #[] }, { accessFlags := 25, nameIndex := 282, descriptorIndex := 25, attributes := #[] }, { accessFlags := 25, nameIndex := 284, descriptorIndex := 25, attributes := #[] }, { accessFlags := 25, nameIndex := 286, descriptorIndex := 25, attributes := #[] }, { accessFlags := 25, nameIndex := 288, descriptorIndex := 25, attributes := #[] }, { accessFlags := 25, nameIndex := 290, descriptorIndex := 25, attributes := #[] }, { accessFlags := 25, nameIndex := 292, descriptorIndex := 25, attributes := #[] }, { accessFlags := 26, nameIndex := 108, descriptorIndex := 109, attributes := #[] }, { accessFlags := 25, nameIndex := 294, descriptorIndex := 25, attributes := #[] }])
  fields := #[{ name := "U", type := (.object "jdk/internal/misc/Unsafe"), accessFlags := 24, slot := 0, constantValue := 0 }, { name := "BIG_ENDIAN", type := .boolean, accessFlags := 26, slot := 1, constantValue := 0 }, { name := "LOG2_ARRAY_BOOLEAN_INDEX_SCALE", type := .int, accessFlags := 25, slot := 2, constantValue := 0 }, { name := "LOG2_ARRAY_BYTE_INDEX_SCALE", type := .int, accessFlags := 25, slot := 3, constantValue := 0 }, { name := "LOG2_ARRAY_CHAR_INDEX_SCALE", type := .int, accessFlags := 25, slot := 4, constantValue := 0 }, { name := "LOG2_ARRAY_SHORT_INDEX_SCALE", type := .int, accessFlags := 25, slot := 5, constantValue := 0 }, { name := "LOG2_ARRAY_INT_INDEX_SCALE", type := .int, accessFlags := 25, slot := 6, constantValue := 0 }, { name := "LOG2_ARRAY_LONG_INDEX_SCALE", type := .int, accessFlags := 25, slot := 7, constantValue := 0 }, { name := "LOG2_ARRAY_FLOAT_INDEX_SCALE", type := .int, accessFlags := 25, slot := 8, constantValue := 0 }, { name := "LOG2_ARRAY_DOUBLE_INDEX_SCALE", type := .int, accessFlags := 25, slot := 9, constantValue := 0 }, { name := "LOG2_BYTE_BIT_SIZE", type := .int, accessFlags := 26, slot := 10, constantValue := 0 }, { name := "T_BOOLEAN", type := .int, accessFlags := 25, slot := 11, constantValue := 0 }, { name := "T_CHAR", type := .int, accessFlags := 25, slot := 12, constantValue := 0 }, { name := "T_FLOAT", type := .int, accessFlags := 25, slot := 13, constantValue := 0 }, { name := "T_DOUBLE", type := .int, accessFlags := 25, slot := 14, constantValue := 0 }, { name := "T_BYTE", type := .int, accessFlags := 25, slot := 15, constantValue := 0 }, { name := "T_SHORT", type := .int, accessFlags := 25, slot := 16, constantValue := 0 }, { name := "T_INT", type := .int, accessFlags := 25, slot := 17, constantValue := 0 }, { name := "T_LONG", type := .int, accessFlags := 25, slot := 18, constantValue := 0 }, { name := "JLA", type := (.object "jdk/internal/access/JavaLangAccess"), accessFlags := 26, slot := 19, constantValue := 0 }, { name := "SOFT_MAX_ARRAY_LENGTH", type := .int, accessFlags := 25, slot := 20, constantValue := 0 }]
  methods := #[k15m0]
  instanceTypes := #[]
  staticTypes := #[(.object "jdk/internal/misc/Unsafe"), .boolean, .int, .int, .int, .int, .int, .int, .int, .int, .int, .int, .int, .int, .int, .int, .int, .int, .int, (.object "jdk/internal/access/JavaLangAccess"), .int]
  resolved := Array.replicate 378 none
  statics := none }

def pool16 : Array CpInfo := pool [(8, .class_ 10), (1, u "java/lang/Iterable"), (24, .class_ 36), (0, u "java/lang/Object")] 25

/-- java/lang/Iterable -/
def k16 : Class := { plain "java/lang/Iterable" (some 0) with
  accessFlags := 1537
  interfaces := #[]
  cf := some (fileOf pool16 8 #[] #[] 1537 35 #[] #[])
  fields := #[]
  methods := #[]
  instanceTypes := #[]
  staticTypes := #[]
  resolved := Array.replicate 62 none
  statics := none }

def pool17 : Array CpInfo := pool [(10, .class_ 12), (1, u "java/util/Collection"), (47, .class_ 61), (0, u "java/lang/Object"), (0, .class_ 63), (0, u "java/lang/Iterable")] 51

/-- java/util/Collection -/
def k17 : Class := { plain "java/util/Collection" (some 0) with
  accessFlags := 1537
  interfaces := #[16]
  cf := some (fileOf pool17 10 #[] #[] 1537 60 #[62] #[])
  fields := #[]
  methods := #[]
  instanceTypes := #[]
  staticTypes := #[]
  resolved := Array.replicate 115 none
  statics := none }

def pool18 : Array CpInfo := pool [(2, .class_ 4), (1, u "java/lang/Object"), (0, u "<init>"), (0, u "()V"), (1, .class_ 10), (1, u "java/util/AbstractCollection"), (66, .class_ 78), (0, u "java/util/Collection")] 81

def k18m0 : Method := { name := "<init>", desc := "()V", sig := { parameters := [], returnType := none }, accessFlags := 4, code := none }
/-- java/util/AbstractCollection -/
def k18 : Class := { plain "java/util/AbstractCollection" (some 0) with
  accessFlags := 1057
  interfaces := #[17]
  cf := some (fileOf pool18 8 #[] #[{ accessFlags := 4, nameIndex := 5, descriptorIndex := 6, attributes := #[] }] 1057 2 #[77] #[])
  fields := #[]
  methods := #[k18m0]
  instanceTypes := #[]
  staticTypes := #[]
  resolved := Array.replicate 160 none
  statics := none }

def pool19 : Array CpInfo := pool [(8, .class_ 10), (1, u "java/util/SequencedCollection"), (15, .class_ 27), (0, u "java/lang/Object"), (0, .class_ 29), (0, u "java/util/Collection")] 27

/-- java/util/SequencedCollection -/
def k19 : Class := { plain "java/util/SequencedCollection" (some 0) with
  accessFlags := 1537
  interfaces := #[17]
  cf := some (fileOf pool19 8 #[] #[] 1537 26 #[28] #[])
  fields := #[]
  methods := #[]
  instanceTypes := #[]
  staticTypes := #[]
  resolved := Array.replicate 57 none
  statics := none }

def pool20 : Array CpInfo := pool [(8, .class_ 10), (1, u "java/util/List"), (92, .class_ 104), (0, u "java/lang/Object"), (15, .class_ 121), (0, u "java/util/SequencedCollection")] 129

/-- java/util/List -/
def k20 : Class := { plain "java/util/List" (some 0) with
  accessFlags := 1537
  interfaces := #[19]
  cf := some (fileOf pool20 8 #[] #[] 1537 103 #[120] #[])
  fields := #[]
  methods := #[]
  instanceTypes := #[]
  staticTypes := #[]
  resolved := Array.replicate 251 none
  statics := none }

def pool21 : Array CpInfo := pool [(2, .class_ 4), (1, u "java/util/AbstractCollection"), (0, u "<init>"), (0, u "()V"), (1, .class_ 10), (1, u "java/util/AbstractList"), (0, u "modCount"), (0, u "I"), (64, .class_ 78), (0, u "java/util/AbstractList$Itr"), (3, .class_ 83), (0, u "java/util/AbstractList$ListItr"), (9, .class_ 94), (0, u "java/util/AbstractList$RandomAccessSubList"), (3, .class_ 99), (0, u "java/util/AbstractList$SubList"), (33, .class_ 134), (0, u "java/util/List"), (73, .class_ 209), (0, u "java/util/AbstractList$SubList$1"), (0, .class_ 211), (0, u "java/util/AbstractList$RandomAccessSpliterator")] 6

def k21m0 : Method := { name := "<init>", desc := "()V", sig := { parameters := [], returnType := none }, accessFlags := 4, code := none }
/-- java/util/AbstractList -/
def k21 : Class := { plain "java/util/AbstractList" (some 18) with
  accessFlags := 1057
  interfaces := #[20]
  cf := some (fileOf pool21 8 #[.nestMembers #[93, 98, 208, 210, 82, 77]] #[{ accessFlags := 4, nameIndex := 5, descriptorIndex := 6, attributes := #[] }] 1057 2 #[133] #[{ accessFlags := 132, nameIndex := 11, descriptorIndex := 12, attributes := #[] }])
  fields := #[{ name := "modCount", type := .int, accessFlags := 132, slot := 0, constantValue := 0 }]
  methods := #[k21m0]
  instanceTypes := #[.int]
  staticTypes := #[]
  resolved := Array.replicate 218 none
  statics := none }

def pool22 : Array CpInfo := pool [(1, .class_ 2), (0, u "java/util/RandomAccess"), (0, .class_ 4), (0, u "java/lang/Object")] 2

/-- java/util/RandomAccess -/
def k22 : Class := { plain "java/util/RandomAccess" (some 0) with
  accessFlags := 1537
  interfaces := #[]
  cf := some (fileOf pool22 1 #[] #[] 1537 3 #[] #[])
  fields := #[]
  methods := #[]
  instanceTypes := #[]
  staticTypes := #[]
  resolved := Array.replicate 7 none
  statics := none }

def pool23 : Array CpInfo := pool [(2, .class_ 4), (1, u "java/util/AbstractList"), (0, u "<init>"), (0, u "()V"), (1, .class_ 10), (1, u "java/util/Collections"), (54, .class_ 66), (0, u "java/util/Collections$EmptyList"), (0, .class_ 68), (0, u "java/util/RandomAccess"), (0, .class_ 70), (0, u "java/io/Serializable"), (0, u "serialVersionUID"), (0, u "J")] 77

def k23m0 : Method := { name := "<init>", desc := "()V", sig := { parameters := [], returnType := none }, accessFlags := 2, code := none }
/-- java/util/Collections$EmptyList -/
def k23 : Class := { plain "java/util/Collections$EmptyList" (some 21) with
  accessFlags := 32
  interfaces := #[22, 2]
  cf := some (fileOf pool23 65 #[.nestHost 8] #[{ accessFlags := 2, nameIndex := 5, descriptorIndex := 6, attributes := #[] }] 32 2 #[67, 69] #[{ accessFlags := 26, nameIndex := 71, descriptorIndex := 72, attributes := #[] }])
  fields := #[{ name := "serialVersionUID", type := .long, accessFlags := 26, slot := 0, constantValue := 0 }]
  methods := #[k23m0]
  instanceTypes := #[.int]
  staticTypes := #[.long]
  resolved := Array.replicate 150 none
  statics := none }

def pool24 : Array CpInfo := pool [(2, .class_ 4), (1, u "java/lang/StackTraceElement"), (0, u "<init>"), (2, .class_ 10), (1, u "java/lang/Object"), (0, u "()V"), (2, u "format"), (0, u "B"), (2, u "classLoaderName"), (0, u "Ljava/lang/String;"), (2, u "moduleName"), (2, u "moduleVersion"), (12, u "declaringClass"), (4, u "methodName"), (2, u "fileName"), (2, u "lineNumber"), (0, u "I"), (65, u "declaringClassObject"), (0, u "Ljava/lang/Class;"), (33, .class_ 153), (1, u "java/lang/StackTraceElement$HashedModules"), (17, .class_ 172), (0, u "java/io/Serializable"), (0, u "NATIVE_METHOD"), (1, u "UNKNOWN_SOURCE"), (2, u "BUILTIN_CLASS_LOADER"), (1, u "JDK_NON_UPGRADEABLE_MODULE"), (1, u "serialVersionUID"), (0, u "J")] 51

def k24m0 : Method := { name := "<init>", desc := "()V", sig := { parameters := [], returnType := none }, accessFlags := 2, code := none }
/-- java/lang/StackTraceElement -/
def k24 : Class := { plain "java/lang/StackTraceElement" (some 0) with
  accessFlags := 49
  interfaces := #[2]
  cf := some (fileOf pool24 2 #[.nestMembers #[151]] #[{ accessFlags := 2, nameIndex := 5, descriptorIndex := 11, attributes := #[] }] 49 8 #[171] #[{ accessFlags := 26, nameIndex := 173, descriptorIndex := 19, attributes := #[] }, { accessFlags := 26, nameIndex := 175, descriptorIndex := 19, attributes := #[] }, { accessFlags := 130, nameIndex := 116, descriptorIndex := 117, attributes := #[] }, { accessFlags := 2, nameIndex := 18, descriptorIndex := 19, attributes := #[] }, { accessFlags := 2, nameIndex := 22, descriptorIndex := 19, attributes := #[] }, { accessFlags := 2, nameIndex := 25, descriptorIndex := 19, attributes := #[] }, { accessFlags := 2, nameIndex := 38, descriptorIndex := 19, attributes := #[] }, { accessFlags := 2, nameIndex := 43, descriptorIndex := 19, attributes := #[] }, { accessFlags := 2, nameIndex := 46, descriptorIndex := 19, attributes := #[] }, { accessFlags := 2, nameIndex := 49, descriptorIndex := 50, attributes := #[] }, { accessFlags := 2, nameIndex := 14, descriptorIndex := 15, attributes := #[] }, { accessFlags := 26, nameIndex := 178, descriptorIndex := 15, attributes := #[] }, { accessFlags := 26, nameIndex := 180, descriptorIndex := 15, attributes := #[] }, { accessFlags := 26, nameIndex := 182, descriptorIndex := 183, attributes := #[] }])
  fields := #[{ name := "NATIVE_METHOD", type := (.object "java/lang/String"), accessFlags := 26, slot := 0, constantValue := 0 }, { name := "UNKNOWN_SOURCE", type := (.object "java/lang/String"), accessFlags := 26, slot := 1, constantValue := 0 }, { name := "declaringClassObject", type := (.object "java/lang/Class"), accessFlags := 130, slot := 0, constantValue := 0 }, { name := "classLoaderName", type := (.object "java/lang/String"), accessFlags := 2, slot := 1, constantValue := 0 }, { name := "moduleName", type := (.object "java/lang/String"), accessFlags := 2, slot := 2, constantValue := 0 }, { name := "moduleVersion", type := (.object "java/lang/String"), accessFlags := 2, slot := 3, constantValue := 0 }, { name := "declaringClass", type := (.object "java/lang/String"), accessFlags := 2, slot := 4, constantValue := 0 }, { name := "methodName", type := (.object "java/lang/String"), accessFlags := 2, slot := 5, constantValue := 0 }, { name := "fileName", type := (.object "java/lang/String"), accessFlags := 2, slot := 6, constantValue := 0 }, { name := "lineNumber", type := .int, accessFlags := 2, slot := 7, constantValue := 0 }, { name := "format", type := .byte, accessFlags := 2, slot := 8, constantValue := 0 }, { name := "BUILTIN_CLASS_LOADER", type := .byte, accessFlags := 26, slot := 2, constantValue := 0 }, { name := "JDK_NON_UPGRADEABLE_MODULE", type := .byte, accessFlags := 26, slot := 3, constantValue := 0 }, { name := "serialVersionUID", type := .long, accessFlags := 26, slot := 4, constantValue := 0 }]
  methods := #[k24m0]
  instanceTypes := #[(.object "java/lang/Class"), (.object "java/lang/String"), (.object "java/lang/String"), (.object "java/lang/String"), (.object "java/lang/String"), (.object "java/lang/String"), (.object "java/lang/String"), .int, .byte]
  staticTypes := #[(.object "java/lang/String"), (.object "java/lang/String"), .byte, .byte, .long]
  resolved := Array.replicate 235 none
  statics := none }

def pool25 : Array CpInfo := pool [(1, u "java/lang/Cloneable"), (0, .class_ 1), (0, u "java/lang/Object"), (0, .class_ 3)] 3

/-- java/lang/Cloneable -/
def k25 : Class := { plain "java/lang/Cloneable" (some 0) with
  accessFlags := 1537
  interfaces := #[]
  cf := some (fileOf pool25 2 #[] #[] 1537 4 #[] #[])
  fields := #[]
  methods := #[]
  instanceTypes := #[]
  staticTypes := #[]
  resolved := Array.replicate 8 none
  statics := none }

/-- the primitive byte -/
def k26 : Class := { plain "byte" none with kind := .primitive 'B', accessFlags := 0x411 }
/-- [B -/
def k27 : Class := { plain "[B" (some 0) with kind := .array 26 .byte, interfaces := #[25, 2], accessFlags := 1041 }

/-- the primitive char -/
def k28 : Class := { plain "char" none with kind := .primitive 'C', accessFlags := 0x411 }
/-- [C -/
def k29 : Class := { plain "[C" (some 0) with kind := .array 28 .char, interfaces := #[25, 2], accessFlags := 1041 }

/-- [Ljava/lang/Object; -/
def k30 : Class := { plain "[Ljava/lang/Object;" (some 0) with kind := .array 0 (.object "java/lang/Object"), interfaces := #[25, 2], accessFlags := 1041 }

/-- [Ljava/lang/StackTraceElement; -/
def k31 : Class := { plain "[Ljava/lang/StackTraceElement;" (some 0) with kind := .array 24 (.object "java/lang/StackTraceElement"), interfaces := #[25, 2], accessFlags := 1041 }

/-- [Ljava/lang/Throwable; -/
def k32 : Class := { plain "[Ljava/lang/Throwable;" (some 0) with kind := .array 8 (.object "java/lang/Throwable"), interfaces := #[25, 2], accessFlags := 1041 }

def heap : Heap := #[{ cls := 7, slots := #[.long 0, .int 1, .null, .int 0, .null, .int 0, .int 0], vm := .statics 7 },
  { cls := 8, slots := #[.long 0, .ref 4, .ref 5, .null, .null, .null, .null, .ref 6, .int 1], vm := .statics 8 },
  { cls := 12, slots := #[.int 0, .int 0, .int 0, .int 0, .int 0, .int 0, .int 0, .int 0, .null, .null, .ref 5, .null], vm := .statics 12 },
  { cls := 14, slots := #[.null, .null, .null], vm := .statics 14 },
  { cls := 31, slots := #[], vm := .none },
  { cls := 23, slots := #[.int 0], vm := .none },
  { cls := 32, slots := #[], vm := .none }]
def classes : Array Class := #[k0, k1, k2, k3, k4, k5, k6, k7, k8, k9, k10, k11, k12, k13, k14, k15, k16, k17, k18, k19, k20, k21, k22, k23, k24, k25, k26, k27, k28, k29, k30, k31, k32]
def interned : List (Array UInt16 × Addr) := []
def slotsUsed : Nat := 32
def theMethod : MethodId := ⟨1, 1⟩
def args0 : Array Value := #[.int 1, .int 65, .int 66, .int 67]
def aboutOver (below : List Frame) : State where
  vm := { classes := classes, interned := interned.toArray }
  heap := heap
  slotsUsed := slotsUsed
  threads := #[{ frames := .invoking theMethod args0 :: below }]
def below0 : List Frame := [.native { method := ⟨0, 0⟩, args := #[] }]
def about1 : State := aboutOver below0
def p0 : Program := .bare "" "" ""
def e0 : Env := launch0.env 0 0 0
theorem w_frames : about1.frames = Frame.invoking theMethod args0 :: below0 := rfl
set_option maxRecDepth 65536 in
theorem w_args : argsFit about1.vm theMethod args0 = true := by decide +kernel
set_option maxRecDepth 65536 in
theorem w_heap : heapFits about1 = true := by decide +kernel
set_option maxRecDepth 65536 in
theorem w_runnable : about1.curStatus? = some .runnable := by decide +kernel
set_option maxRecDepth 65536 in
theorem w_alone : about1.alone = true := by decide +kernel
set_option maxRecDepth 65536 in
theorem w_named : about1.methodNamed? x = some theMethod := by decide +kernel
set_option maxRecDepth 65536 in
theorem w_hears : about1.hears theMethod below0 = true := by decide +kernel
set_option maxRecDepth 65536 in
theorem w_ripe : about1.ripe theMethod args0 below0 = true := by decide +kernel
theorem w_running : about1.status = .running := rfl
set_option maxRecDepth 65536 in
theorem w_room : about1.hasRoom e0.platform room_1 = true :=
  launch0.hasRoom_least _ room_1 (by decide +kernel) (by decide +kernel) (by decide +kernel) (by decide +kernel) (by decide +kernel) (by decide +kernel)
theorem allAtoms_all (ts : List Jvm.Cond) (a : Array Jvm.Value) (st : Jvm.State) : (allAtoms ts).before a st = ts.all (fun c => c.before a st) := by
  induction ts with
  | nil => rfl
  | cons c t ih =>
    show (Jvm.Cond.and c (allAtoms t)).before a st = _
    rw [Jvm.Cond.before_and, ih, List.all_cons]
def words1 : List Jvm.Cond := Jvm.Cond.code x code maxLocals ret :: tables_1
/-- a 'code' word, met by the world's own term for the bytes: nothing is compared byte by byte -/
theorem code_word {y : MethodName} {bytes : ByteArray} {mx : Nat} {rt : Option FieldType} {a : Array Value} {s : State} {m : MethodId} {meth : Method} {c : Code} (h1 : s.methodNamed? y = some m) (h2 : s.vm.method? m = some meth) (h3 : meth.code = some c) (h4 : c.code = bytes)
    (h5 : (c.maxLocals == mx && c.exceptionTable.isEmpty && decide (c.maxStack ≤ mostOperands) && decide (meth.sig.returnType = rt) && !meth.locks && decide (parseMethodDescriptor y.desc = some meth.sig)) = true) : (Jvm.Cond.code y bytes mx rt).before a s = true := by
  simp only [Bool.and_eq_true, beq_iff_eq, Bool.not_eq_true', decide_eq_true_eq] at h5
  obtain ⟨⟨⟨⟨⟨g1, g2⟩, g3⟩, g4⟩, g5⟩, g6⟩ := h5
  simp [Cond.before, Cond.holds, Cond.value, h1, h2, h3, h4, g1, g2, g3, g4, g5, g6]
def isCode : Jvm.Cond → Bool
  | .code _ _ _ _ => true
  | _ => false
theorem all_split {L : List Jvm.Cond} {P : Jvm.Cond → Bool} (h1 : L.all (fun c => isCode c || P c) = true) (h2 : ∀ c ∈ L.filter isCode, P c = true) : L.all P = true := by
  refine List.all_eq_true.mpr fun c hc => ?_
  have h := List.all_eq_true.mp h1 c hc
  rcases Bool.eq_false_or_eq_true (isCode c) with hi | hi
  · exact h2 c (List.mem_filter.mpr ⟨hc, hi⟩)
  · simpa [hi] using h
set_option maxRecDepth 65536 in
theorem w_c0 : (Jvm.Cond.code x code maxLocals ret).before args0 about1 = true := code_word (m := ⟨1, 1⟩) (meth := k1m1) (c := k1c1) (by decide +kernel) rfl rfl rfl (by decide +kernel)
set_option maxRecDepth 65536 in
theorem w_c1 : (Jvm.Cond.code ({ cls := "java/lang/String", name := "<init>", desc := "([C)V" } : Jvm.MethodName) jdk_42_method_3_code (2 : Nat) (Option.none : Option Jvm.ClassFile.FieldType)).before args0 about1 = true := code_word (m := ⟨7, 1⟩) (meth := k7m1) (c := k7c1) (by decide +kernel) rfl rfl rfl (by decide +kernel)
set_option maxRecDepth 65536 in
theorem w_c2 : (Jvm.Cond.code ({ cls := "java/lang/String", name := "<init>", desc := "([CIILjava/lang/Void;)V" } : Jvm.MethodName) jdk_42_method_149_code (6 : Nat) (Option.none : Option Jvm.ClassFile.FieldType)).before args0 about1 = true := code_word (m := ⟨7, 2⟩) (meth := k7m2) (c := k7c2) (by decide +kernel) rfl rfl rfl (by decide +kernel)
set_option maxRecDepth 65536 in
theorem w_c3 : (Jvm.Cond.code ({ cls := "java/lang/Object", name := "<init>", desc := "()V" } : Jvm.MethodName) object_method_1_code (1 : Nat) (Option.none : Option Jvm.ClassFile.FieldType)).before args0 about1 = true := code_word (m := ⟨0, 0⟩) (meth := k0m0) (c := k0c0) (by decide +kernel) rfl rfl rfl (by decide +kernel)
set_option maxRecDepth 65536 in
theorem w_c4 : (Jvm.Cond.code ({ cls := "com/example/exact_roles/exactroles/cli/CommandException", name := "usage", desc := "(Ljava/lang/String;)Lcom/example/exact_roles/exactroles/cli/CommandException;" } : Jvm.MethodName) prog_1_method_2_code (1 : Nat) (Option.some (Jvm.ClassFile.FieldType.object "com/example/exact_roles/exactroles/cli/CommandException"))).before args0 about1 = true := code_word (m := ⟨10, 1⟩) (meth := k10m1) (c := k10c1) (by decide +kernel) rfl rfl rfl (by decide +kernel)
set_option maxRecDepth 65536 in
theorem w_c5 : (Jvm.Cond.code ({ cls := "com/example/exact_roles/exactroles/cli/CommandException", name := "<init>", desc := "(IZLjava/lang/String;Ljava/lang/Throwable;)V" } : Jvm.MethodName) prog_1_method_1_code (5 : Nat) (Option.none : Option Jvm.ClassFile.FieldType)).before args0 about1 = true := code_word (m := ⟨10, 0⟩) (meth := k10m0) (c := k10c0) (by decide +kernel) rfl rfl rfl (by decide +kernel)
set_option maxRecDepth 65536 in
theorem w_c6 : (Jvm.Cond.code ({ cls := "java/lang/Exception", name := "<init>", desc := "(Ljava/lang/String;Ljava/lang/Throwable;)V" } : Jvm.MethodName) jdk_59_method_3_code (3 : Nat) (Option.none : Option Jvm.ClassFile.FieldType)).before args0 about1 = true := code_word (m := ⟨9, 1⟩) (meth := k9m1) (c := k9c1) (by decide +kernel) rfl rfl rfl (by decide +kernel)
set_option maxRecDepth 65536 in
theorem w_c7 : (Jvm.Cond.code ({ cls := "java/lang/Throwable", name := "<init>", desc := "(Ljava/lang/String;Ljava/lang/Throwable;)V" } : Jvm.MethodName) jdk_78_method_3_code (3 : Nat) (Option.none : Option Jvm.ClassFile.FieldType)).before args0 about1 = true := code_word (m := ⟨8, 1⟩) (meth := k8m1) (c := k8c1) (by decide +kernel) rfl rfl rfl (by decide +kernel)
set_option maxRecDepth 65536 in
theorem w_c8 : (Jvm.Cond.code ({ cls := "java/lang/Throwable", name := "<init>", desc := "()V" } : Jvm.MethodName) jdk_78_method_1_code (1 : Nat) (Option.none : Option Jvm.ClassFile.FieldType)).before args0 about1 = true := code_word (m := ⟨8, 0⟩) (meth := k8m0) (c := k8c0) (by decide +kernel) rfl rfl rfl (by decide +kernel)
set_option maxRecDepth 65536 in
theorem w_c9 : (Jvm.Cond.code ({ cls := "com/example/exact_roles/exactroles/cli/CommandException", name := "getStatus", desc := "()I" } : Jvm.MethodName) prog_1_method_5_code (1 : Nat) (Option.some Jvm.ClassFile.FieldType.int)).before args0 about1 = true := code_word (m := ⟨10, 2⟩) (meth := k10m2) (c := k10c2) (by decide +kernel) rfl rfl rfl (by decide +kernel)
set_option maxRecDepth 65536 in
theorem w_c10 : (Jvm.Cond.code ({ cls := "com/example/exact_roles/exactroles/cli/CommandException", name := "showsUsage", desc := "()Z" } : Jvm.MethodName) prog_1_method_6_code (1 : Nat) (Option.some Jvm.ClassFile.FieldType.boolean)).before args0 about1 = true := code_word (m := ⟨10, 3⟩) (meth := k10m3) (c := k10c3) (by decide +kernel) rfl rfl rfl (by decide +kernel)
set_option maxRecDepth 65536 in
theorem w_c11 : (Jvm.Cond.code ({ cls := "java/lang/Throwable", name := "getMessage", desc := "()Ljava/lang/String;" } : Jvm.MethodName) jdk_78_method_6_code (1 : Nat) (Option.some (Jvm.ClassFile.FieldType.object "java/lang/String"))).before args0 about1 = true := code_word (m := ⟨8, 2⟩) (meth := k8m2) (c := k8c2) (by decide +kernel) rfl rfl rfl (by decide +kernel)
set_option maxRecDepth 65536 in
theorem w_c12 : (Jvm.Cond.code ({ cls := "java/lang/StringUTF16", name := "compress", desc := "([CII)[B" } : Jvm.MethodName) jdk_52_method_16_code (6 : Nat) (Option.some (Jvm.ClassFile.FieldType.array Jvm.ClassFile.FieldType.byte))).before args0 about1 = true := code_word (m := ⟨11, 2⟩) (meth := k11m2) (c := k11c2) (by decide +kernel) rfl rfl rfl (by decide +kernel)
set_option maxRecDepth 65536 in
theorem w_c13 : (Jvm.Cond.code ({ cls := "java/lang/StringUTF16", name := "compress", desc := "([CI[BII)I" } : Jvm.MethodName) jdk_52_method_21_code (7 : Nat) (Option.some Jvm.ClassFile.FieldType.int)).before args0 about1 = true := code_word (m := ⟨11, 3⟩) (meth := k11m3) (c := k11c3) (by decide +kernel) rfl rfl rfl (by decide +kernel)
set_option maxRecDepth 65536 in
theorem w_c14 : (Jvm.Cond.code ({ cls := "java/lang/StringUTF16", name := "coderFromArrayLen", desc := "([BI)B" } : Jvm.MethodName) jdk_52_method_15_code (2 : Nat) (Option.some Jvm.ClassFile.FieldType.byte)).before args0 about1 = true := code_word (m := ⟨11, 1⟩) (meth := k11m1) (c := k11c1) (by decide +kernel) rfl rfl rfl (by decide +kernel)
def codes1 : List Jvm.Cond := [Jvm.Cond.code x code maxLocals ret, Jvm.Cond.code ({ cls := "java/lang/String", name := "<init>", desc := "([C)V" } : Jvm.MethodName) jdk_42_method_3_code (2 : Nat) (Option.none : Option Jvm.ClassFile.FieldType), Jvm.Cond.code ({ cls := "java/lang/String", name := "<init>", desc := "([CIILjava/lang/Void;)V" } : Jvm.MethodName) jdk_42_method_149_code (6 : Nat) (Option.none : Option Jvm.ClassFile.FieldType), Jvm.Cond.code ({ cls := "java/lang/Object", name := "<init>", desc := "()V" } : Jvm.MethodName) object_method_1_code (1 : Nat) (Option.none : Option Jvm.ClassFile.FieldType), Jvm.Cond.code ({ cls := "com/example/exact_roles/exactroles/cli/CommandException", name := "usage", desc := "(Ljava/lang/String;)Lcom/example/exact_roles/exactroles/cli/CommandException;" } : Jvm.MethodName) prog_1_method_2_code (1 : Nat) (Option.some (Jvm.ClassFile.FieldType.object "com/example/exact_roles/exactroles/cli/CommandException")), Jvm.Cond.code ({ cls := "com/example/exact_roles/exactroles/cli/CommandException", name := "<init>", desc := "(IZLjava/lang/String;Ljava/lang/Throwable;)V" } : Jvm.MethodName) prog_1_method_1_code (5 : Nat) (Option.none : Option Jvm.ClassFile.FieldType), Jvm.Cond.code ({ cls := "java/lang/Exception", name := "<init>", desc := "(Ljava/lang/String;Ljava/lang/Throwable;)V" } : Jvm.MethodName) jdk_59_method_3_code (3 : Nat) (Option.none : Option Jvm.ClassFile.FieldType), Jvm.Cond.code ({ cls := "java/lang/Throwable", name := "<init>", desc := "(Ljava/lang/String;Ljava/lang/Throwable;)V" } : Jvm.MethodName) jdk_78_method_3_code (3 : Nat) (Option.none : Option Jvm.ClassFile.FieldType), Jvm.Cond.code ({ cls := "java/lang/Throwable", name := "<init>", desc := "()V" } : Jvm.MethodName) jdk_78_method_1_code (1 : Nat) (Option.none : Option Jvm.ClassFile.FieldType), Jvm.Cond.code ({ cls := "com/example/exact_roles/exactroles/cli/CommandException", name := "getStatus", desc := "()I" } : Jvm.MethodName) prog_1_method_5_code (1 : Nat) (Option.some Jvm.ClassFile.FieldType.int), Jvm.Cond.code ({ cls := "com/example/exact_roles/exactroles/cli/CommandException", name := "showsUsage", desc := "()Z" } : Jvm.MethodName) prog_1_method_6_code (1 : Nat) (Option.some Jvm.ClassFile.FieldType.boolean), Jvm.Cond.code ({ cls := "java/lang/Throwable", name := "getMessage", desc := "()Ljava/lang/String;" } : Jvm.MethodName) jdk_78_method_6_code (1 : Nat) (Option.some (Jvm.ClassFile.FieldType.object "java/lang/String")), Jvm.Cond.code ({ cls := "java/lang/StringUTF16", name := "compress", desc := "([CII)[B" } : Jvm.MethodName) jdk_52_method_16_code (6 : Nat) (Option.some (Jvm.ClassFile.FieldType.array Jvm.ClassFile.FieldType.byte)), Jvm.Cond.code ({ cls := "java/lang/StringUTF16", name := "compress", desc := "([CI[BII)I" } : Jvm.MethodName) jdk_52_method_21_code (7 : Nat) (Option.some Jvm.ClassFile.FieldType.int), Jvm.Cond.code ({ cls := "java/lang/StringUTF16", name := "coderFromArrayLen", desc := "([BI)B" } : Jvm.MethodName) jdk_52_method_15_code (2 : Nat) (Option.some Jvm.ClassFile.FieldType.byte)]
set_option maxRecDepth 65536 in
theorem codes_eq : words1.filter isCode = codes1 := rfl
theorem w_codes : ∀ c ∈ words1.filter isCode, c.before args0 about1 = true := by
  rw [codes_eq]
  intro c hc
  simp only [codes1, List.mem_cons, List.not_mem_nil, or_false] at hc
  rcases hc with rfl | rfl | rfl | rfl | rfl | rfl | rfl | rfl | rfl | rfl | rfl | rfl | rfl | rfl | rfl
  · exact w_c0
  · exact w_c1
  · exact w_c2
  · exact w_c3
  · exact w_c4
  · exact w_c5
  · exact w_c6
  · exact w_c7
  · exact w_c8
  · exact w_c9
  · exact w_c10
  · exact w_c11
  · exact w_c12
  · exact w_c13
  · exact w_c14
set_option maxRecDepth 65536 in
theorem w_t1 : (words1.take 24).all (fun c => isCode c || c.before args0 about1) = true := by decide +kernel
set_option maxRecDepth 65536 in
theorem w_t2 : ((words1.drop 24).take 24).all (fun c => isCode c || c.before args0 about1) = true := by decide +kernel
set_option maxRecDepth 65536 in
theorem w_t3 : (((words1.drop 24).drop 24).take 24).all (fun c => isCode c || c.before args0 about1) = true := by decide +kernel
set_option maxRecDepth 65536 in
theorem w_t4 : ((((words1.drop 24).drop 24).drop 24).take 24).all (fun c => isCode c || c.before args0 about1) = true := by decide +kernel
set_option maxRecDepth 65536 in
theorem w_t5 : ((((words1.drop 24).drop 24).drop 24).drop 24).all (fun c => isCode c || c.before args0 about1) = true := by decide +kernel
theorem w_tables : (allAtoms (Jvm.Cond.code x code maxLocals ret :: tables_1)).before args0 about1 = true := by
  rw [allAtoms_all]
  show words1.all (fun c => c.before args0 about1) = true
  refine all_split ?_ w_codes
  rw [← List.take_append_drop 24 words1, List.all_append, w_t1, ← List.take_append_drop 24 (words1.drop 24), List.all_append, w_t2, ← List.take_append_drop 24 ((words1.drop 24).drop 24), List.all_append, w_t3, ← List.take_append_drop 24 (((words1.drop 24).drop 24).drop 24), List.all_append, w_t4, w_t5]
  rfl
set_option maxRecDepth 65536 in
theorem w_rest : rest_1_c.before args0 about1 = true := by decide +kernel
set_option maxRecDepth 65536 in
theorem w_case : (Jvm.Cond.and given_1 narrow_1).before args0 about1 = true := by decide +kernel
set_option maxRecDepth 65536 in
theorem w_consts : constsHeld consts_1 about1 := Jvm.Lit.constsHeldB_iff.mp (by decide +kernel)
theorem w_applies : (headSpec (Jvm.Cond.code x code maxLocals ret :: tables_1) room_1).applies x e0.platform about1 = true :=
  (Spec.applies_iff w_frames).mpr ⟨w_running, w_runnable, w_alone, w_named, w_hears, w_ripe, w_room, w_tables⟩
theorem atStart : AtStart classFile x code maxLocals ret World_1 tables_1 room_1 Calls_1 rest_1 Pre_1 launch0 p0 e0 about1 theMethod args0 below0 :=
  ⟨lists_1, trivial, launch0.admits_env _ _ _, launch0.least_env, fairChoices_fair.cas, fairChoices_fair.clock, w_frames, w_args, w_heap, w_applies, ⟨(by decide +kernel : framesKnown about1 = true), ⟨(by decide +kernel : tablesKnown about1 = true), ⟨w_consts, trivial⟩⟩⟩, w_rest, w_case⟩
end start1
theorem witness_1 : WitnessClaimed_1 := ⟨start1.p0, start1.e0, start1.about1, start1.theMethod, start1.args0, start1.below0, start1.atStart⟩
end Jvm.Pilot.@@N@@
