import JvmDerived
import JvmDerived.Pilot.@@N@@Statement
import JvmDerived.Pilot.@@N@@Code
set_option linter.unusedVariables false
set_option linter.unusedSimpArgs false
/- laws to paste: Road.backV, Road.eqW, Road.codOf, Road.chN (cut by pick.py; bodies as the Statement names them) -/
namespace Jvm.Pilot.@@N@@
namespace StrChars
open Jvm Sem ClassFile Op Lib Jvm.Stand Jvm.Free.XT Jvm.Free.ALB Jvm.Free.JM Jvm.Free
open Jvm.Lib.Cold (StaticIs)
/-- a char array whose places are chars -/
def Ch (a : Addr) (A : Cell) (U : State) : Prop := Arr .char a A U ∧ Typed .char A
theorem Ch.mv {a : Addr} {A : Cell} {U U' : State} (h : Ch a A U) (hal : U.vm.Alike U'.vm) (hh : U'.heap = U.heap) : Ch a A U' := ⟨h.1.mv hal hh, h.2⟩
theorem Ch.keep {a : Addr} {A : Cell} {U U' : State} (h : Ch a A U) (hal : U.vm.Alike U'.vm) (hk : U'.heap[a]? = some A) : Ch a A U' := ⟨h.1.keep hal hk, h.2⟩
/-- what place i of a char[]'s cell holds -/
def cv (A : Cell) (i : Nat) : Int32 := match A.slots[i]? with | some (.int x) => x | _ => 0
theorem Ch.get {a : Addr} {A : Cell} {U : State} (h : Ch a A U) {i : Nat} (hi : i < A.slots.size) : A.slots[i]? = some (.int (cv A i)) := by
  have e := Array.getElem?_eq_getElem hi
  have f := h.2 i _ e
  unfold cv; rw [e]
  generalize A.slots[i] = v at f
  cases v <;> simp [fits] at f ⊢
/-- the byte that i2b leaves of a char -/
def lo8 (x : Int32) : Int32 := x.toInt8.toInt32
theorem fits_lo8 (y : Int32) : fits .byte (.int (lo8 y)) = true := by
  have h1 := y.toInt8.le_toInt
  have h2 := y.toInt8.toInt_lt
  simp only [lo8, fits, Bool.and_eq_true, decide_eq_true_eq, Int32.le_iff_toInt_le, Int8.toInt_toInt32, show (-128 : Int32).toInt = -128 from by decide, show (127 : Int32).toInt = 127 from by decide]
  omega
/-- A' is A but that each place j of lo .. hi - 1 holds f j -/
def Laid (A A' : Cell) (lo hi : Nat) (f : Nat → Value) : Prop := A'.cls = A.cls ∧ A'.vm = A.vm ∧ A'.slots.size = A.slots.size ∧ ∀ i, A'.slots[i]? = if lo ≤ i ∧ i < hi then some (f i) else A.slots[i]?
theorem Laid.zero (A : Cell) (lo : Nat) (f : Nat → Value) : Laid A A lo (lo + 0) f := ⟨rfl, rfl, rfl, fun i => by rw [if_neg (by omega)]⟩
theorem Laid.step {A Ak : Cell} {lo k : Nat} {f : Nat → Value} {v : Value} (h : Laid A Ak lo k f) (hlo : lo ≤ k) (hk : k < Ak.slots.size) (hv : v = f k) : Laid A (Ak.setSlot k v) lo (k + 1) f := by
  refine ⟨h.1, h.2.1, by simpa [Cell.setSlot] using h.2.2.1, fun i => ?_⟩
  by_cases e : k = i
  · subst e; rw [Cell.slots_setSlot_self v hk, if_pos (by omega), hv]
  · rw [Cell.slots_setSlot_ne v e, h.2.2.2 i]
    by_cases q : lo ≤ i ∧ i < k
    · rw [if_pos q, if_pos (by omega)]
    · rw [if_neg q, if_neg (by omega)]
def U16 : String := "java/lang/StringUTF16"
namespace Cmp5
def yN : MethodName := ⟨"java/lang/StringUTF16", "compress", "([CI[BII)I"⟩
abbrev yB : ByteArray := jdk_52_method_21_code
theorem d0 : decode yB 0 = .ok (.iconst 0, 1) := by decide +kernel
theorem d1 : decode yB 1 = .ok (.istore 5, 2) := by decide +kernel
theorem d3 : decode yB 3 = .ok (.iload 5, 2) := by decide +kernel
theorem d5 : decode yB 5 = .ok (.iload 4, 2) := by decide +kernel
theorem d7 : decode yB 7 = .ok (.if_icmp (.ge) 37, 3) := by decide +kernel
theorem d10 : decode yB 10 = .ok (.aload_n 0, 1) := by decide +kernel
theorem d11 : decode yB 11 = .ok (.iload_n 1, 1) := by decide +kernel
theorem d12 : decode yB 12 = .ok (.caload, 1) := by decide +kernel
theorem d13 : decode yB 13 = .ok (.istore 6, 2) := by decide +kernel
theorem d15 : decode yB 15 = .ok (.iload 6, 2) := by decide +kernel
theorem d17 : decode yB 17 = .ok (.sipush 255, 3) := by decide +kernel
theorem d20 : decode yB 20 = .ok (.if_icmp (.le) 6, 3) := by decide +kernel
theorem d26 : decode yB 26 = .ok (.aload_n 2, 1) := by decide +kernel
theorem d27 : decode yB 27 = .ok (.iload_n 3, 1) := by decide +kernel
theorem d28 : decode yB 28 = .ok (.iload 6, 2) := by decide +kernel
theorem d30 : decode yB 30 = .ok (.i2b, 1) := by decide +kernel
theorem d31 : decode yB 31 = .ok (.bastore, 1) := by decide +kernel
theorem d32 : decode yB 32 = .ok (.iinc 1 1, 3) := by decide +kernel
theorem d35 : decode yB 35 = .ok (.iinc 3 1, 3) := by decide +kernel
theorem d38 : decode yB 38 = .ok (.iinc 5 1, 3) := by decide +kernel
theorem d41 : decode yB 41 = .ok (.goto (-38), 3) := by decide +kernel
theorem d44 : decode yB 44 = .ok (.iload 4, 2) := by decide +kernel
theorem d46 : decode yB 46 = .ok (.ireturn, 1) := by decide +kernel
def site : List Cond := []
def tab : Cond := tabOf yN yB 7 (some .int) site
def P (b : Addr) (A : Cell) (d : Addr) (B : Cell) (o q len : Nat) (args : Array Value) (s : State) : Prop := args = #[.ref b, .int (Int32.ofNat o), .ref d, .int (Int32.ofNat q), .int (Int32.ofNat len)] ∧ Ch b A s ∧ Arr .byte d B s ∧ b ≠ d ∧ o + len ≤ A.slots.size ∧ q + len ≤ B.slots.size ∧ ∀ i, i < len → ¬ 255 < cv A (o + i)
def E (b : Addr) (A : Cell) (d : Addr) (B : Cell) (o q len : Nat) (r : Option Value) (s u : State) : Prop := r = some (.int (Int32.ofNat len)) ∧ ∃ B', Put d B' s u ∧ Laid B B' q (q + len) (fun j => Value.int (lo8 (cv A (o + (j - q)))))
/-- no char of the range above 255: len; the places written hold each char's low byte -/
theorem law (l : Launch) (b : Addr) (A : Cell) (d : Addr) (B : Cell) (o q len : Nat) : Law l yN 5 5 0 0 yB 7 (some .int) site (P b A d B o q len) (E b A d B o q len) (copyLocs d q len) 0 0 := by
  refine Law.of_walk (plainFor_of_name (by decide +kernel)) (by decide +kernel) (by decide +kernel) (by decide) (fun _ _ h => by rw [h.1]; rfl) (fun _ U U' hal hh h => ⟨h.1, h.2.1.mv hal hh, h.2.2.1.mv hal hh, h.2.2.2⟩) (fun r U U' V V' h1 hal h2 h => ⟨h.1, h.2.elim fun B' q => ⟨B', q.1.mv h1 h2, q.2⟩⟩) ?_
  intro p e s m args below meth c s₁ X0 hexec hbytes hml hret hlk hnm hown hh0 W hP
  obtain ⟨rfl, hA, hB, hne, l1, l2, hp⟩ := hP
  have c1 : Steps p.tables e below (s₁.setTop (entryFrame m #[.ref b, .int (Int32.ofNat o), .ref d, .int (Int32.ofNat q), .int (Int32.ofNat len)] 7)) (s₁.setTop (mkF m 0 #[.val (.ref b), .val (.int (Int32.ofNat o)), .val (.ref d), .val (.int (Int32.ofNat q)), .val (.int (Int32.ofNat len)), .unset, .unset] [])) := entry rfl
  have hA0 := hA.1.mv X0.warmed.alike hh0
  have hB0 := hB.mv X0.warmed.alike hh0
  have a31 := hA.1.2.2.2
  have c2 : Steps p.tables e below (s₁.setTop (entryFrame m #[.ref b, .int (Int32.ofNat o), .ref d, .int (Int32.ofNat q), .int (Int32.ofNat len)] 7)) (s₁.setTop (mkF m 3 #[.val (.ref b), .val (.int (Int32.ofNat o)), .val (.ref d), .val (.int (Int32.ofNat q)), .val (.int (Int32.ofNat len)), .val (.int 0), .unset] [])) := c1.trans (by
    refine iconstV X0.here hexec rfl 0 (hb hbytes d0) (by decide) ?_
    refine XS.istore X0.here hexec rfl (hb hbytes d1) rfl rfl ?_
    exact Steps.refl _)
  have loop : ∀ (r i : Nat), i + r = len → ∀ (z : Slot), (z = .unset ∨ ∃ w, z = .val w ∧ w.category = 1) → ∀ (Tl : State) (Bk : Cell), Stand p l e { frames := 0, locals := 0, cells := 0, slots := 0 } s m #[.ref b, .int (Int32.ofNat o), .ref d, .int (Int32.ofNat q), .int (Int32.ofNat len)] below meth c Tl ([] ++ copyLocs d q i) 0 0 → Put d Bk s₁ Tl → Laid B Bk q (q + i) (fun j => Value.int (lo8 (cv A (o + (j - q))))) →
      Steps p.tables e below (s₁.setTop (entryFrame m #[.ref b, .int (Int32.ofNat o), .ref d, .int (Int32.ofNat q), .int (Int32.ofNat len)] 7)) (Tl.setTop (mkF m 3 #[.val (.ref b), .val (.int (Int32.ofNat (o + i))), .val (.ref d), .val (.int (Int32.ofNat (q + i))), .val (.int (Int32.ofNat len)), .val (.int (Int32.ofNat i)), z] [])) → ∃ (T' : State) (B' : Cell) (z' : Slot), Stand p l e { frames := 0, locals := 0, cells := 0, slots := 0 } s m #[.ref b, .int (Int32.ofNat o), .ref d, .int (Int32.ofNat q), .int (Int32.ofNat len)] below meth c T' ([] ++ copyLocs d q len) 0 0 ∧ Put d B' s₁ T' ∧ Laid B B' q (q + len) (fun j => Value.int (lo8 (cv A (o + (j - q))))) ∧
      Steps p.tables e below (s₁.setTop (entryFrame m #[.ref b, .int (Int32.ofNat o), .ref d, .int (Int32.ofNat q), .int (Int32.ofNat len)] 7)) (T'.setTop (mkF m 3 #[.val (.ref b), .val (.int (Int32.ofNat (o + len))), .val (.ref d), .val (.int (Int32.ofNat (q + len))), .val (.int (Int32.ofNat len)), .val (.int (Int32.ofNat len)), z'] [])) := by
    intro r
    induction r with
    | zero =>
      intro i hi z hz Tl Bk Xl pl fl cl
      have hil : i = len := by omega
      rw [hil] at Xl fl cl
      exact ⟨Tl, Bk, z, Xl, pl, fl, cl⟩
    | succ r ih =>
      intro i hi z hz Tl Bk Xl pl fl cl
      have all := X0.warmed.alike.symm.trans Xl.warmed.alike
      have hAl := hA0.keep all (pl.other hne hA0.1)
      have hBk := hB0.like all pl.1 fl.1 fl.2.1 fl.2.2.1
      have hlt : q + i < Bk.slots.size := by rw [fl.2.2.1]; omega
      have c3 : Steps p.tables e below (s₁.setTop (entryFrame m #[.ref b, .int (Int32.ofNat o), .ref d, .int (Int32.ofNat q), .int (Int32.ofNat len)] 7)) (Tl.setTop (mkF m 12 #[.val (.ref b), .val (.int (Int32.ofNat (o + i))), .val (.ref d), .val (.int (Int32.ofNat (q + i))), .val (.int (Int32.ofNat len)), .val (.int (Int32.ofNat i)), z] [.int (Int32.ofNat (o + i)), .ref b])) := cl.trans (by
        refine XS.iload Xl.here hexec rfl (hb hbytes d3) rfl ?_
        refine XS.iload Xl.here hexec rfl (hb hbytes d5) rfl ?_
        refine XS.icmpNo Xl.here hexec rfl (hb hbytes d7) rfl (ii_ge_f (lt32 (by omega) (by omega))) ?_
        refine XS.aloadN Xl.here hexec rfl (hb hbytes d10) rfl rfl ?_
        refine XS.iloadN Xl.here hexec rfl (hb hbytes d11) rfl ?_
        exact Steps.refl _)
      have c4 : Steps p.tables e below (s₁.setTop (entryFrame m #[.ref b, .int (Int32.ofNat o), .ref d, .int (Int32.ofNat q), .int (Int32.ofNat len)] 7)) (Tl.setTop (mkF m 13 #[.val (.ref b), .val (.int (Int32.ofNat (o + i))), .val (.ref d), .val (.int (Int32.ofNat (q + i))), .val (.int (Int32.ofNat len)), .val (.int (Int32.ofNat i)), z] [.int (cv A (o + i))])) := c3.trans (by
        refine Xl.aget hexec hAl rfl (hA.get (i := o + i) (by omega)) rfl rfl (hb hbytes d12) ?_
        exact Steps.refl _)
      have c5 : Steps p.tables e below (s₁.setTop (entryFrame m #[.ref b, .int (Int32.ofNat o), .ref d, .int (Int32.ofNat q), .int (Int32.ofNat len)] 7)) (Tl.setTop (mkF m 15 #[.val (.ref b), .val (.int (Int32.ofNat (o + i))), .val (.ref d), .val (.int (Int32.ofNat (q + i))), .val (.int (Int32.ofNat len)), .val (.int (Int32.ofNat i)), .val (.int (cv A (o + i)))] [])) := c4.trans (by
        refine XS.istoreS Xl.here hexec rfl (hb hbytes d13) rfl rfl hz ?_
        exact Steps.refl _)
      have c6 : Steps p.tables e below (s₁.setTop (entryFrame m #[.ref b, .int (Int32.ofNat o), .ref d, .int (Int32.ofNat q), .int (Int32.ofNat len)] 7)) (Tl.setTop (mkF m 31 #[.val (.ref b), .val (.int (Int32.ofNat (o + i))), .val (.ref d), .val (.int (Int32.ofNat (q + i))), .val (.int (Int32.ofNat len)), .val (.int (Int32.ofNat i)), .val (.int (cv A (o + i)))] [.int (lo8 (cv A (o + i))), .int (Int32.ofNat (q + i)), .ref d])) := c5.trans (by
        refine XS.iload Xl.here hexec rfl (hb hbytes d15) rfl ?_
        refine sipushV Xl.here hexec rfl 255 (hb hbytes d17) (by decide) ?_
        refine XS.icmpYes Xl.here hexec rfl (pc0 := 20) rfl (hb hbytes d20) rfl (ii_le_t (hp i (by omega))) (by decide) rfl ?_
        refine XS.aloadN Xl.here hexec rfl (hb hbytes d26) rfl rfl ?_
        refine XS.iloadN Xl.here hexec rfl (hb hbytes d27) rfl ?_
        refine XS.iload Xl.here hexec rfl (hb hbytes d28) rfl ?_
        refine i2b Xl.here hexec rfl (hb hbytes d30) rfl ?_
        exact Steps.refl _)
      obtain ⟨T7, X7, p7, st7⟩ := Xl.aput hexec hBk rfl hlt rfl (fits_lo8 (cv A (o + i))) (g := (mkF m 31 #[.val (.ref b), .val (.int (Int32.ofNat (o + i))), .val (.ref d), .val (.int (Int32.ofNat (q + i))), .val (.int (Int32.ofNat len)), .val (.int (Int32.ofNat i)), .val (.int (cv A (o + i)))] [.int (lo8 (cv A (o + i))), .int (Int32.ofNat (q + i)), .ref d])) rfl (rest := []) rfl (hb hbytes d31)
      have c8 : Steps p.tables e below (s₁.setTop (entryFrame m #[.ref b, .int (Int32.ofNat o), .ref d, .int (Int32.ofNat q), .int (Int32.ofNat len)] 7)) (T7.setTop (mkF m 32 #[.val (.ref b), .val (.int (Int32.ofNat (o + i))), .val (.ref d), .val (.int (Int32.ofNat (q + i))), .val (.int (Int32.ofNat len)), .val (.int (Int32.ofNat i)), .val (.int (cv A (o + i)))] [])) := c6.trans (st7 _ (Steps.refl _))
      have c9 : Steps p.tables e below (s₁.setTop (entryFrame m #[.ref b, .int (Int32.ofNat o), .ref d, .int (Int32.ofNat q), .int (Int32.ofNat len)] 7)) (T7.setTop (mkF m 3 #[.val (.ref b), .val (.int (Int32.ofNat (o + i) + 1)), .val (.ref d), .val (.int (Int32.ofNat (q + i) + 1)), .val (.int (Int32.ofNat len)), .val (.int (Int32.ofNat i + 1)), .val (.int (cv A (o + i)))] [])) := c8.trans (by
        refine iincV X7.here hexec rfl 1 (hb hbytes d32) (by decide) rfl rfl ?_
        refine iincV X7.here hexec rfl 1 (hb hbytes d35) (by decide) rfl rfl ?_
        refine iincV X7.here hexec rfl 1 (hb hbytes d38) (by decide) rfl rfl ?_
        refine XS.goto X7.here hexec rfl (pc0 := 41) rfl (hb hbytes d41) (by decide) rfl ?_
        exact Steps.refl _)
      have c10 : Steps p.tables e below (s₁.setTop (entryFrame m #[.ref b, .int (Int32.ofNat o), .ref d, .int (Int32.ofNat q), .int (Int32.ofNat len)] 7)) (T7.setTop (mkF m 3 #[.val (.ref b), .val (.int (Int32.ofNat (o + (i + 1)))), .val (.ref d), .val (.int (Int32.ofNat (q + (i + 1)))), .val (.int (Int32.ofNat len)), .val (.int (Int32.ofNat (i + 1))), .val (.int (cv A (o + i)))] [])) := by
        have := c9
        rw [succ32, succ32, succ32] at this
        exact this
      exact ih (i + 1) (by omega) _ (Or.inr ⟨_, rfl, rfl⟩) T7 _ (by rw [copyLocs_step, ← List.append_assoc]; exact X7) (pl.trans p7) (fl.step (by omega) hlt (by simp)) c10
  obtain ⟨T9, B9, z9, X9, p9, f9, g9⟩ := loop len 0 (by omega) .unset (Or.inl rfl) s₁ B (by simpa [copyLocs] using X0) ⟨hB0.1, fun _ _ => rfl, rfl⟩ (Laid.zero _ _ _) c2
  have c11 : Steps p.tables e below (s₁.setTop (entryFrame m #[.ref b, .int (Int32.ofNat o), .ref d, .int (Int32.ofNat q), .int (Int32.ofNat len)] 7)) (T9.setTop (mkF m 46 #[.val (.ref b), .val (.int (Int32.ofNat (o + len))), .val (.ref d), .val (.int (Int32.ofNat (q + len))), .val (.int (Int32.ofNat len)), .val (.int (Int32.ofNat len)), z9] [.int (Int32.ofNat len)])) := g9.trans (by
    refine XS.iload X9.here hexec rfl (hb hbytes d3) rfl ?_
    refine XS.iload X9.here hexec rfl (hb hbytes d5) rfl ?_
    refine XS.icmpYes X9.here hexec rfl (pc0 := 7) rfl (hb hbytes d7) rfl (ii_ge_t (nlt32 (by omega) (Nat.le_refl _))) (by decide) rfl ?_
    refine XS.iload X9.here hexec rfl (hb hbytes d44) rfl ?_
    exact Steps.refl _)
  exact ⟨T9, some (.int (Int32.ofNat len)), _, _, _, X9, by simp, rfl, rfl, (fun h => by cases h), ⟨rfl, B9, p9.from hh0, f9⟩, fun fs hl => c11.trans (X9.ireturnOut hexec hret rfl (Or.inl rfl) (hb hbytes d46) hl)⟩
end Cmp5
namespace Cmp3
def yN : MethodName := ⟨"java/lang/StringUTF16", "compress", "([CII)[B"⟩
abbrev yB : ByteArray := jdk_52_method_16_code
theorem d0 : decode yB 0 = .ok (.iload_n 2, 1) := by decide +kernel
theorem d1 : decode yB 1 = .ok (.newarray .byte, 2) := by decide +kernel
theorem d3 : decode yB 3 = .ok (.astore_n 3, 1) := by decide +kernel
theorem d4 : decode yB 4 = .ok (.aload_n 0, 1) := by decide +kernel
theorem d5 : decode yB 5 = .ok (.iload_n 1, 1) := by decide +kernel
theorem d6 : decode yB 6 = .ok (.aload_n 3, 1) := by decide +kernel
theorem d7 : decode yB 7 = .ok (.iconst 0, 1) := by decide +kernel
theorem d8 : decode yB 8 = .ok (.iload_n 2, 1) := by decide +kernel
theorem d9 : decode yB 9 = .ok (.invokestatic 115, 3) := by decide +kernel
theorem d12 : decode yB 12 = .ok (.istore 4, 2) := by decide +kernel
theorem d14 : decode yB 14 = .ok (.iload 4, 2) := by decide +kernel
theorem d16 : decode yB 16 = .ok (.iload_n 2, 1) := by decide +kernel
theorem d17 : decode yB 17 = .ok (.if_icmp (.eq) 40, 3) := by decide +kernel
theorem d57 : decode yB 57 = .ok (.aload_n 3, 1) := by decide +kernel
theorem d58 : decode yB 58 = .ok (.areturn, 1) := by decide +kernel
def site : List Cond := [.arrayClass .byte, Cmp5.tab] ++ staticW U16 115 Cmp5.yN
def tab : Cond := tabOf yN yB 6 (some (.array .byte)) site
def P (b : Addr) (A : Cell) (o len : Nat) (args : Array Value) (s : State) : Prop := args = #[.ref b, .int (Int32.ofNat o), .int (Int32.ofNat len)] ∧ Ch b A s ∧ o + len ≤ A.slots.size ∧ len ≤ 536870912 ∧ ∀ i, i < len → ¬ 255 < cv A (o + i)
def E (b : Addr) (A : Cell) (o len : Nat) (r : Option Value) (s u : State) : Prop := NewArr .byte "[B" len (fun j => .int (lo8 (cv A (o + j)))) r s u ∧ u.heap.size = s.heap.size + 1
/-- no char of the range above 255: a new byte[] of their low bytes -/
theorem law (l : Launch) (b : Addr) (A : Cell) (o len : Nat) : Law l yN 3 3 1 18 yB 6 (some (.array .byte)) site (P b A o len) (E b A o len) [] 1 len := by
  refine Law.of_walk (plainFor_of_name (by decide +kernel)) (by decide +kernel) (by decide +kernel) (by decide) (fun _ _ h => by rw [h.1]; rfl) (fun _ U U' hal hh h => ⟨h.1, h.2.1.mv hal hh, h.2.2⟩) (fun r U U' V V' h1 hal h2 h => ⟨NewArr.mv r U U' V V' h1 hal h2 h.1, by rw [h1, h2]; exact h.2⟩) ?_
  intro p e s m args below meth c s₁ X0 hexec hbytes hml hret hlk hnm hown hh0 W hP
  obtain ⟨rfl, hA, l1, l2, hp⟩ := hP
  have a31 := hA.1.2.2.2
  have c1 : Steps p.tables e below (s₁.setTop (entryFrame m #[.ref b, .int (Int32.ofNat o), .int (Int32.ofNat len)] 6)) (s₁.setTop (mkF m 0 #[.val (.ref b), .val (.int (Int32.ofNat o)), .val (.int (Int32.ofNat len)), .unset, .unset, .unset] [])) := entry rfl
  have c2 : Steps p.tables e below (s₁.setTop (entryFrame m #[.ref b, .int (Int32.ofNat o), .int (Int32.ofNat len)] 6)) (s₁.setTop (mkF m 1 #[.val (.ref b), .val (.int (Int32.ofNat o)), .val (.int (Int32.ofNat len)), .unset, .unset, .unset] [.int (Int32.ofNat len)])) := c1.trans (by
    refine XS.iloadN X0.here hexec rfl (hb hbytes d0) rfl ?_
    exact Steps.refl _)
  obtain ⟨T3, B3, X3, ba3, bs3, bv3, bh3, bf3, st3⟩ := X0.anew hexec (atype := .byte) (wk W (.arrayClass .byte)) rfl (by show len * 1 ≤ _; omega) (by omega) (g := (mkF m 1 #[.val (.ref b), .val (.int (Int32.ofNat o)), .val (.int (Int32.ofNat len)), .unset, .unset, .unset] [.int (Int32.ofNat len)])) rfl (hb hbytes d1) (rest := []) rfl (Nat.le_refl _) (by show 0 + len ≤ len; omega)
  rw [hh0] at ba3 st3
  have kp3 : XT.Kept s T3 := (XT.Kept.of_eq hh0).push bh3
  have hA3 := hA.keep X3.warmed.alike (kp3 _ _ hA.1.1)
  have hne : b ≠ s.heap.size := hA.1.ne
  have c4 : Steps p.tables e below (s₁.setTop (entryFrame m #[.ref b, .int (Int32.ofNat o), .int (Int32.ofNat len)] 6)) (T3.setTop (mkF m 3 #[.val (.ref b), .val (.int (Int32.ofNat o)), .val (.int (Int32.ofNat len)), .unset, .unset, .unset] [.ref s.heap.size])) := c2.trans (st3 _ (Steps.refl _))
  have c5 : Steps p.tables e below (s₁.setTop (entryFrame m #[.ref b, .int (Int32.ofNat o), .int (Int32.ofNat len)] 6)) (T3.setTop (mkF m 9 #[.val (.ref b), .val (.int (Int32.ofNat o)), .val (.int (Int32.ofNat len)), .val (.ref s.heap.size), .unset, .unset] [.int (Int32.ofNat len), .int 0, .ref s.heap.size, .int (Int32.ofNat o), .ref b])) := c4.trans (by
    refine XS.astoreN X3.here hexec rfl (hb hbytes d3) rfl rfl rfl ?_
    refine XS.aloadN X3.here hexec rfl (hb hbytes d4) rfl rfl ?_
    refine XS.iloadN X3.here hexec rfl (hb hbytes d5) rfl ?_
    refine XS.aloadN X3.here hexec rfl (hb hbytes d6) rfl rfl ?_
    refine iconstV X3.here hexec rfl 0 (hb hbytes d7) (by decide) ?_
    refine XS.iloadN X3.here hexec rfl (hb hbytes d8) rfl ?_
    exact Steps.refl _)
  obtain ⟨v6, T6, X6, E6, g6⟩ := X3.callS hexec (Cmp5.law l b A s.heap.size B3 o 0 len) hown (wks W (staticW U16 115 Cmp5.yN)) (wk W Cmp5.tab) (W := 0) (Nat.le_of_ble_eq_true rfl) (Nat.le_of_ble_eq_true rfl) (Nat.le_refl _) (by show 0 + len + 0 ≤ len; omega) (g := (mkF m 9 #[.val (.ref b), .val (.int (Int32.ofNat o)), .val (.int (Int32.ofNat len)), .val (.ref s.heap.size), .unset, .unset] [.int (Int32.ofNat len), .int (Int32.ofNat 0), .ref s.heap.size, .int (Int32.ofNat o), .ref b])) rfl (by rw [hml]; rfl) c5 (argsL := [.ref b, .int (Int32.ofNat o), .ref s.heap.size, .int (Int32.ofNat 0), .int (Int32.ofNat len)]) (rest := []) rfl rfl (by show 2 * 0 + 0 ≤ _; decide) (hb hbytes d9) (⟨rfl, hA3, ba3, hne, l1, by rw [bs3]; simp, hp⟩)
  obtain ⟨rfl, B6, p6, f6⟩ := E6
  have c7 : Steps p.tables e below (s₁.setTop (entryFrame m #[.ref b, .int (Int32.ofNat o), .int (Int32.ofNat len)] 6)) (T6.setTop (mkF m 12 #[.val (.ref b), .val (.int (Int32.ofNat o)), .val (.int (Int32.ofNat len)), .val (.ref s.heap.size), .unset, .unset] [.int (Int32.ofNat len)])) := g6
  have c8 : Steps p.tables e below (s₁.setTop (entryFrame m #[.ref b, .int (Int32.ofNat o), .int (Int32.ofNat len)] 6)) (T6.setTop (mkF m 58 #[.val (.ref b), .val (.int (Int32.ofNat o)), .val (.int (Int32.ofNat len)), .val (.ref s.heap.size), .val (.int (Int32.ofNat len)), .unset] [.ref s.heap.size])) := c7.trans (by
    refine XS.istore X6.here hexec rfl (hb hbytes d12) rfl rfl ?_
    refine XS.iload X6.here hexec rfl (hb hbytes d14) rfl ?_
    refine XS.iloadN X6.here hexec rfl (hb hbytes d16) rfl ?_
    refine XS.icmpYes X6.here hexec rfl (pc0 := 17) rfl (hb hbytes d17) rfl (ii_eq_t rfl) (by decide) rfl ?_
    refine XS.aloadN X6.here hexec rfl (hb hbytes d57) rfl rfl ?_
    exact Steps.refl _)
  have X8 := X6.wide (L' := []) (cells' := 1) (slots' := len) (fun x hx hlt => by
    simp only [List.nil_append, copyLocs, List.mem_map, List.mem_range] at hx
    obtain ⟨i, -, rfl⟩ := hx
    exact absurd hlt (Nat.lt_irrefl _)) (Nat.le_refl _) (by omega)
  exact ⟨T6, some (.ref s.heap.size), _, _, _, X8, rfl, rfl, rfl, (fun h => by cases h), ⟨⟨rfl, B6, ba3.like (X3.warmed.alike.symm.trans X6.warmed.alike) p6.1 f6.1 f6.2.1 f6.2.2.1, f6.2.1.trans bv3, by rw [X6.warmed.alike.findClass, f6.1]; exact bf3, by rw [f6.2.2.1, bs3]; simp, fun j hj => by rw [f6.2.2.2 j, if_pos (by omega)]; rfl, kp3.put p6 (Nat.le_refl _)⟩, by rw [p6.2.2, bh3, hh0]; simp⟩, fun fs hl => c8.trans (X8.areturnOut hexec rfl hret rfl (hb hbytes d58) hl)⟩
end Cmp3
namespace CodL
def yN : MethodName := ⟨"java/lang/StringUTF16", "coderFromArrayLen", "([BI)B"⟩
abbrev yB : ByteArray := jdk_52_method_15_code
theorem d0 : decode yB 0 = .ok (.iload_n 1, 1) := by decide +kernel
theorem d1 : decode yB 1 = .ok (.aload_n 0, 1) := by decide +kernel
theorem d2 : decode yB 2 = .ok (.arraylength, 1) := by decide +kernel
theorem d3 : decode yB 3 = .ok (.isub, 1) := by decide +kernel
theorem d4 : decode yB 4 = .ok (.bipush 31, 2) := by decide +kernel
theorem d6 : decode yB 6 = .ok (.iushr, 1) := by decide +kernel
theorem d7 : decode yB 7 = .ok (.i2b, 1) := by decide +kernel
theorem d8 : decode yB 8 = .ok (.ireturn, 1) := by decide +kernel
def site : List Cond := []
def tab : Cond := tabOf yN yB 2 (some .byte) site
def P (d : Addr) (B : Cell) (args : Array Value) (s : State) : Prop := args = #[.ref d, .int (Int32.ofNat B.slots.size)] ∧ Arr .byte d B s
def E (r : Option Value) (s u : State) : Prop := XT.PureE (some (.int 0)) r s u
/-- an array as long as the number of chars: LATIN1 -/
theorem law (l : Launch) (d : Addr) (B : Cell) : Law l yN 2 2 0 0 yB 2 (some .byte) site (P d B) E [] 0 0 := by
  refine Law.of_walk (plainFor_of_name (by decide +kernel)) (by decide +kernel) (by decide +kernel) (by decide) (fun _ _ h => by rw [h.1]; rfl) (fun _ U U' hal hh h => ⟨h.1, h.2.mv hal hh⟩) (fun r U U' V V' h1 hal h2 h => XT.PureE.mv r U U' V V' h1 hal h2 h) ?_
  intro p e s m args below meth c s₁ X0 hexec hbytes hml hret hlk hnm hown hh0 W hP
  obtain ⟨rfl, hB⟩ := hP
  have hB0 := hB.mv X0.warmed.alike hh0
  have c1 : Steps p.tables e below (s₁.setTop (entryFrame m #[.ref d, .int (Int32.ofNat B.slots.size)] 2)) (s₁.setTop (mkF m 0 #[.val (.ref d), .val (.int (Int32.ofNat B.slots.size))] [])) := entry rfl
  have c2 : Steps p.tables e below (s₁.setTop (entryFrame m #[.ref d, .int (Int32.ofNat B.slots.size)] 2)) (s₁.setTop (mkF m 2 #[.val (.ref d), .val (.int (Int32.ofNat B.slots.size))] [.ref d, .int (Int32.ofNat B.slots.size)])) := c1.trans (by
    refine XS.iloadN X0.here hexec rfl (hb hbytes d0) rfl ?_
    refine XS.aloadN X0.here hexec rfl (hb hbytes d1) rfl rfl ?_
    exact Steps.refl _)
  have c3 : Steps p.tables e below (s₁.setTop (entryFrame m #[.ref d, .int (Int32.ofNat B.slots.size)] 2)) (s₁.setTop (mkF m 8 #[.val (.ref d), .val (.int (Int32.ofNat B.slots.size))] [.int (lo8 (ushr (Int32.ofNat B.slots.size - Int32.ofNat B.slots.size) 31))])) := c2.trans (by
    refine X0.alen hexec hB0 rfl rfl (hb hbytes d2) ?_
    refine XS.isub X0.here hexec rfl (hb hbytes d3) rfl ?_
    refine bipushV X0.here hexec rfl 31 (hb hbytes d4) (by decide) ?_
    refine iushr X0.here hexec rfl (hb hbytes d6) rfl ?_
    refine i2b X0.here hexec rfl (hb hbytes d7) rfl ?_
    exact Steps.refl _)
  have e0 : lo8 (ushr (Int32.ofNat B.slots.size - Int32.ofNat B.slots.size) 31) = 0 := by rw [Int32.sub_self]; decide
  rw [e0] at c3
  exact ⟨s₁, some (.int 0), _, _, _, X0, rfl, rfl, rfl, (fun h => by cases h), ⟨rfl, hh0⟩, fun fs hl => c3.trans (X0.ireturnOut hexec hret rfl (Or.inr (Or.inr (Or.inl rfl))) (hb hbytes d8) hl)⟩
end CodL
/-- the String at a is Latin-1 over a new byte[] (the heap's one new cell): the low bytes of the len chars of A from o on; every cell but a is kept -/
def Got (a : Addr) (D : Cell) (fV fC : Field) (A : Cell) (o len : Nat) (r : Option Value) (s u : State) : Prop := r = none ∧ ∃ D' V : Cell, Blank "java/lang/String" a D' u ∧ Same D D' [fV.slot, fC.slot] ∧ D'.slots[fV.slot]? = some (.ref s.heap.size) ∧ D'.slots[fC.slot]? = some (.int 0) ∧ Arr .byte s.heap.size V u ∧ V.vm = .none ∧ u.vm.findClass "[B" = some V.cls ∧ V.slots.size = len ∧ (∀ j, j < len → V.slots[j]? = some (.int (lo8 (cv A (o + j))))) ∧ (∀ (y : Addr) (c : Cell), y ≠ a → s.heap[y]? = some c → u.heap[y]? = some c) ∧ u.heap.size = s.heap.size + 1
theorem Got.mv {a : Addr} {D A : Cell} {fV fC : Field} {o len : Nat} : ∀ r (U U' V V' : State), U'.heap = U.heap → V.vm.Alike V'.vm → V'.heap = V.heap → Got a D fV fC A o len r U V → Got a D fV fC A o len r U' V' :=
  fun r U U' V V' h1 hal h2 ⟨e0, D', X, a1, a2, a3, a4, a5, a6, a7, a8, a9, a10, a11⟩ => ⟨e0, D', X, a1.mv hal h2, a2, by rw [h1]; exact a3, a4, by rw [h1]; exact a5.mv hal h2, a6, by rw [hal.findClass]; exact a7, a8, a9, by rw [h1, h2]; exact a10, by rw [h1, h2]; exact a11⟩
namespace New4
def yN : MethodName := ⟨"java/lang/String", "<init>", "([CIILjava/lang/Void;)V"⟩
abbrev yB : ByteArray := jdk_42_method_149_code
theorem d0 : decode yB 0 = .ok (.aload_n 0, 1) := by decide +kernel
theorem d1 : decode yB 1 = .ok (.invokespecial 1, 3) := by decide +kernel
theorem d4 : decode yB 4 = .ok (.iload_n 3, 1) := by decide +kernel
theorem d5 : decode yB 5 = .ok (.ifCond (.ne) 22, 3) := by decide +kernel
theorem d27 : decode yB 27 = .ok (.getstatic 38, 3) := by decide +kernel
theorem d30 : decode yB 30 = .ok (.ifCond (.eq) 28, 3) := by decide +kernel
theorem d33 : decode yB 33 = .ok (.aload_n 1, 1) := by decide +kernel
theorem d34 : decode yB 34 = .ok (.iload_n 2, 1) := by decide +kernel
theorem d35 : decode yB 35 = .ok (.iload_n 3, 1) := by decide +kernel
theorem d36 : decode yB 36 = .ok (.invokestatic 177, 3) := by decide +kernel
theorem d39 : decode yB 39 = .ok (.astore 5, 2) := by decide +kernel
theorem d41 : decode yB 41 = .ok (.aload_n 0, 1) := by decide +kernel
theorem d42 : decode yB 42 = .ok (.aload 5, 2) := by decide +kernel
theorem d44 : decode yB 44 = .ok (.iload_n 3, 1) := by decide +kernel
theorem d45 : decode yB 45 = .ok (.invokestatic 47, 3) := by decide +kernel
theorem d48 : decode yB 48 = .ok (.putfield 15, 3) := by decide +kernel
theorem d51 : decode yB 51 = .ok (.aload_n 0, 1) := by decide +kernel
theorem d52 : decode yB 52 = .ok (.aload 5, 2) := by decide +kernel
theorem d54 : decode yB 54 = .ok (.putfield 9, 3) := by decide +kernel
theorem d57 : decode yB 57 = .ok (.return_, 1) := by decide +kernel
def site : List Cond := [.fieldLink "java/lang/String" 38 "java/lang/String" "COMPACT_STRINGS" "Z", Cmp3.tab, CodL.tab, .laysFinal "java/lang/String" "java/lang/String" "value" "[B", .fieldLink "java/lang/String" 9 "java/lang/String" "value" "[B", .laysFinal "java/lang/String" "java/lang/String" "coder" "B", .fieldLink "java/lang/String" 15 "java/lang/String" "coder" "B"] ++ objW "java/lang/String" 1 ++ staticW "java/lang/String" 177 Cmp3.yN ++ staticW "java/lang/String" 47 CodL.yN
def tab : Cond := tabOf yN yB 6 none site
def P (a : Addr) (D : Cell) (fV fC : Field) (b : Addr) (A : Cell) (z : Int32) (o len : Nat) (args : Array Value) (s : State) : Prop := args = #[.ref a, .ref b, .int (Int32.ofNat o), .int (Int32.ofNat len), .null] ∧ Blank "java/lang/String" a D s ∧ Found "java/lang/String" "value" "[B" fV s ∧ Found "java/lang/String" "coder" "B" fC s ∧ Ch b A s ∧ StaticIs s "java/lang/String" "COMPACT_STRINGS" "Z" (.int z) ∧ ¬ z = 0 ∧ 0 < len ∧ o + len ≤ A.slots.size ∧ len ≤ 536870912 ∧ ∀ i, i < len → ¬ 255 < cv A (o + i)
def E (a : Addr) (D : Cell) (fV fC : Field) (A : Cell) (o len : Nat) (r : Option Value) (s u : State) : Prop := Got a D fV fC A o len r s u
/-- len > 0, no char of the range above 255: a Latin-1 String of their low bytes -/
theorem law (l : Launch) (a : Addr) (D : Cell) (fV fC : Field) (b : Addr) (A : Cell) (z : Int32) (o len : Nat) : Law l yN 5 4 2 35 yB 6 none site (P a D fV fC b A z o len) (E a D fV fC A o len) [⟨a, fC.slot⟩, ⟨a, fV.slot⟩] 1 len := by
  refine Law.of_walk (plainFor_of_name (by decide +kernel)) (by decide +kernel) (by decide +kernel) (by decide) (fun _ _ h => by rw [h.1]; rfl) (fun _ U U' hal hh h => ⟨h.1, h.2.1.mv hal hh, h.2.2.1.al hal, h.2.2.2.1.al hal, h.2.2.2.2.1.mv hal hh, h.2.2.2.2.2.1.there hal hh, h.2.2.2.2.2.2⟩) (fun r U U' V V' h1 hal h2 h => Got.mv r U U' V V' h1 hal h2 h) ?_
  intro p e s m args below meth c s₁ X0 hexec hbytes hml hret hlk hnm hown hh0 W hP
  obtain ⟨rfl, hB, f1, f2, hA, s1, hz, l0, l1, l2, hp⟩ := hP
  have a31 := hA.1.2.2.2
  have c1 : Steps p.tables e below (s₁.setTop (entryFrame m #[.ref a, .ref b, .int (Int32.ofNat o), .int (Int32.ofNat len), .null] 6)) (s₁.setTop (mkF m 0 #[.val (.ref a), .val (.ref b), .val (.int (Int32.ofNat o)), .val (.int (Int32.ofNat len)), .val .null, .unset] [])) := entry rfl
  have c2 : Steps p.tables e below (s₁.setTop (entryFrame m #[.ref a, .ref b, .int (Int32.ofNat o), .int (Int32.ofNat len), .null] 6)) (s₁.setTop (mkF m 1 #[.val (.ref a), .val (.ref b), .val (.int (Int32.ofNat o)), .val (.int (Int32.ofNat len)), .val .null, .unset] [.ref a])) := c1.trans (by
    refine XS.aloadN X0.here hexec rfl (hb hbytes d0) rfl rfl ?_
    exact Steps.refl _)
  obtain ⟨T3, X3, q3, st3⟩ := X0.oinit hexec hown (wks W (objW "java/lang/String" 1)) (g := (mkF m 1 #[.val (.ref a), .val (.ref b), .val (.int (Int32.ofNat o)), .val (.int (Int32.ofNat len)), .val .null, .unset] [.ref a])) rfl (by rw [hml]; rfl) (rest := []) rfl (hb hbytes d1) (W := 0) (by show 2 * 0 + 0 ≤ _; decide) (Nat.le_of_ble_eq_true rfl) (Nat.le_of_ble_eq_true rfl)
  have hh3 := q3.trans hh0
  have c4 : Steps p.tables e below (s₁.setTop (entryFrame m #[.ref a, .ref b, .int (Int32.ofNat o), .int (Int32.ofNat len), .null] 6)) (T3.setTop (mkF m 27 #[.val (.ref a), .val (.ref b), .val (.int (Int32.ofNat o)), .val (.int (Int32.ofNat len)), .val .null, .unset] [])) := (c2.trans (st3 _ (Steps.refl _))).trans (by
    refine XS.iloadN X3.here hexec rfl (hb hbytes d4) rfl ?_
    refine XS.ifYes X3.here hexec rfl (pc0 := 5) rfl (hb hbytes d5) rfl (i0_ne_t (nz32 (by omega) l0)) (by decide) rfl ?_
    exact Steps.refl _)
  obtain ⟨T5, X5, q5, st5⟩ := X3.sget hexec hown (wk W (.fieldLink "java/lang/String" 38 "java/lang/String" "COMPACT_STRINGS" "Z")) s1 (fun _ _ h => by rw [hh3]; exact h) (g := (mkF m 27 #[.val (.ref a), .val (.ref b), .val (.int (Int32.ofNat o)), .val (.int (Int32.ofNat len)), .val .null, .unset] [])) rfl (hb hbytes d27)
  have hh5 := q5.trans hh3
  have c6 : Steps p.tables e below (s₁.setTop (entryFrame m #[.ref a, .ref b, .int (Int32.ofNat o), .int (Int32.ofNat len), .null] 6)) (T5.setTop (mkF m 30 #[.val (.ref a), .val (.ref b), .val (.int (Int32.ofNat o)), .val (.int (Int32.ofNat len)), .val .null, .unset] [.int z])) := c4.trans (st5 _ (Steps.refl _))
  have c7 : Steps p.tables e below (s₁.setTop (entryFrame m #[.ref a, .ref b, .int (Int32.ofNat o), .int (Int32.ofNat len), .null] 6)) (T5.setTop (mkF m 36 #[.val (.ref a), .val (.ref b), .val (.int (Int32.ofNat o)), .val (.int (Int32.ofNat len)), .val .null, .unset] [.int (Int32.ofNat len), .int (Int32.ofNat o), .ref b])) := c6.trans (by
    refine XS.ifNo X5.here hexec rfl (hb hbytes d30) rfl (i0_eq_f hz) ?_
    refine XS.aloadN X5.here hexec rfl (hb hbytes d33) rfl rfl ?_
    refine XS.iloadN X5.here hexec rfl (hb hbytes d34) rfl ?_
    refine XS.iloadN X5.here hexec rfl (hb hbytes d35) rfl ?_
    exact Steps.refl _)
  obtain ⟨v8, T8, X8, E8, g8⟩ := X5.callS hexec (Cmp3.law l b A o len) hown (wks W (staticW "java/lang/String" 177 Cmp3.yN)) (wk W Cmp3.tab) (W := 0) (Nat.le_of_ble_eq_true rfl) (Nat.le_of_ble_eq_true rfl) (Nat.le_refl _) (by show 0 + len ≤ len; omega) (g := (mkF m 36 #[.val (.ref a), .val (.ref b), .val (.int (Int32.ofNat o)), .val (.int (Int32.ofNat len)), .val .null, .unset] [.int (Int32.ofNat len), .int (Int32.ofNat o), .ref b])) rfl (by rw [hml]; rfl) c7 (argsL := [.ref b, .int (Int32.ofNat o), .int (Int32.ofNat len)]) (rest := []) rfl rfl (by show 2 * 0 + 0 ≤ _; decide) (hb hbytes d36) (⟨rfl, hA.mv X5.warmed.alike hh5, l1, l2, hp⟩)
  obtain ⟨e8, z8⟩ := E8
  obtain ⟨rfl, N, n1, n2, n3, n4, n5, n6⟩ := NewArr.mv _ T5 s _ _ hh5.symm (Vm.Alike.refl _) rfl e8
  rw [hh5] at z8
  have hB1 := hB.keep X8.warmed.alike (n6 _ _ hB.1)
  have hne : s.heap.size ≠ a := (Nat.ne_of_lt (Array.getElem?_eq_some_iff.mp hB.1).1).symm
  have c9 : Steps p.tables e below (s₁.setTop (entryFrame m #[.ref a, .ref b, .int (Int32.ofNat o), .int (Int32.ofNat len), .null] 6)) (T8.setTop (mkF m 39 #[.val (.ref a), .val (.ref b), .val (.int (Int32.ofNat o)), .val (.int (Int32.ofNat len)), .val .null, .unset] [.ref s.heap.size])) := g8
  have c10 : Steps p.tables e below (s₁.setTop (entryFrame m #[.ref a, .ref b, .int (Int32.ofNat o), .int (Int32.ofNat len), .null] 6)) (T8.setTop (mkF m 45 #[.val (.ref a), .val (.ref b), .val (.int (Int32.ofNat o)), .val (.int (Int32.ofNat len)), .val .null, .val (.ref s.heap.size)] [.int (Int32.ofNat N.slots.size), .ref s.heap.size, .ref a])) := by
    have hc : Steps p.tables e below (s₁.setTop (entryFrame m #[.ref a, .ref b, .int (Int32.ofNat o), .int (Int32.ofNat len), .null] 6)) (T8.setTop (mkF m 45 #[.val (.ref a), .val (.ref b), .val (.int (Int32.ofNat o)), .val (.int (Int32.ofNat len)), .val .null, .val (.ref s.heap.size)] [.int (Int32.ofNat len), .ref s.heap.size, .ref a])) := c9.trans (by
      refine XS.astore X8.here hexec rfl (hb hbytes d39) rfl rfl rfl ?_
      refine XS.aloadN X8.here hexec rfl (hb hbytes d41) rfl rfl ?_
      refine XS.aload X8.here hexec rfl (hb hbytes d42) rfl rfl ?_
      refine XS.iloadN X8.here hexec rfl (hb hbytes d44) rfl ?_
      exact Steps.refl _)
    rw [n4]; exact hc
  obtain ⟨v11, T11, X11, E11, g11⟩ := X8.callS hexec (CodL.law l s.heap.size N) hown (wks W (staticW "java/lang/String" 47 CodL.yN)) (wk W CodL.tab) (W := 1) (Nat.le_of_ble_eq_true rfl) (Nat.le_of_ble_eq_true rfl) (Nat.le_refl _) (by show 0 + len + 0 ≤ len; omega) (g := (mkF m 45 #[.val (.ref a), .val (.ref b), .val (.int (Int32.ofNat o)), .val (.int (Int32.ofNat len)), .val .null, .val (.ref s.heap.size)] [.int (Int32.ofNat N.slots.size), .ref s.heap.size, .ref a])) rfl (by rw [hml]; rfl) c10 (argsL := [.ref s.heap.size, .int (Int32.ofNat N.slots.size)]) (rest := [.ref a]) rfl rfl (by show 2 * 0 + (1 + 0) ≤ _; decide) (hb hbytes d45) (⟨rfl, n1⟩)
  obtain ⟨rfl, q11⟩ := E11
  have hB11 := hB1.mv (X8.warmed.alike.symm.trans X11.warmed.alike) q11
  have c12 : Steps p.tables e below (s₁.setTop (entryFrame m #[.ref a, .ref b, .int (Int32.ofNat o), .int (Int32.ofNat len), .null] 6)) (T11.setTop (mkF m 48 #[.val (.ref a), .val (.ref b), .val (.int (Int32.ofNat o)), .val (.int (Int32.ofNat len)), .val .null, .val (.ref s.heap.size)] [.int 0, .ref a])) := g11
  obtain ⟨T13, X13, p13, bl13, sl13, st13⟩ := X11.finit hexec hown (wk W (.fieldLink "java/lang/String" 15 "java/lang/String" "coder" "B")) (Or.inr ⟨_, (wk W (.laysFinal "java/lang/String" "java/lang/String" "coder" "B"))⟩) (Or.inl ⟨rfl, hnm⟩) f2 (Or.inl rfl) hB11 (t := .byte) (by decide +kernel) rfl (g := (mkF m 48 #[.val (.ref a), .val (.ref b), .val (.int (Int32.ofNat o)), .val (.int (Int32.ofNat len)), .val .null, .val (.ref s.heap.size)] [.int 0, .ref a])) rfl (rest := []) rfl (hb hbytes d48)
  have c14 : Steps p.tables e below (s₁.setTop (entryFrame m #[.ref a, .ref b, .int (Int32.ofNat o), .int (Int32.ofNat len), .null] 6)) (T13.setTop (mkF m 54 #[.val (.ref a), .val (.ref b), .val (.int (Int32.ofNat o)), .val (.int (Int32.ofNat len)), .val .null, .val (.ref s.heap.size)] [.ref s.heap.size, .ref a])) := (c12.trans (st13 _ (Steps.refl _))).trans (by
    refine XS.aloadN X13.here hexec rfl (hb hbytes d51) rfl rfl ?_
    refine XS.aload X13.here hexec rfl (hb hbytes d52) rfl rfl ?_
    exact Steps.refl _)
  obtain ⟨T15, X15, p15, bl15, sl15, st15⟩ := X13.finit hexec hown (wk W (.fieldLink "java/lang/String" 9 "java/lang/String" "value" "[B")) (Or.inr ⟨_, (wk W (.laysFinal "java/lang/String" "java/lang/String" "value" "[B"))⟩) (Or.inl ⟨rfl, hnm⟩) f1 (Or.inl rfl) bl13 (t := (.array .byte)) (by decide +kernel) rfl (g := (mkF m 54 #[.val (.ref a), .val (.ref b), .val (.int (Int32.ofNat o)), .val (.int (Int32.ofNat len)), .val .null, .val (.ref s.heap.size)] [.ref s.heap.size, .ref a])) rfl (rest := []) rfl (hb hbytes d54)
  have c16 : Steps p.tables e below (s₁.setTop (entryFrame m #[.ref a, .ref b, .int (Int32.ofNat o), .int (Int32.ofNat len), .null] 6)) (T15.setTop (mkF m 57 #[.val (.ref a), .val (.ref b), .val (.int (Int32.ofNat o)), .val (.int (Int32.ofNat len)), .val .null, .val (.ref s.heap.size)] [])) := c14.trans (st15 _ (Steps.refl _))
  have ap := apart (Or.inr ⟨_, (wk W (.laysFinal "java/lang/String" "java/lang/String" "value" "[B"))⟩) (Or.inr ⟨_, (wk W (.laysFinal "java/lang/String" "java/lang/String" "coder" "B"))⟩) f1 f2 (t₁ := .array .byte) (t₂ := .byte) (by decide +kernel) (by decide +kernel) (by decide)
  have al := X8.warmed.alike.symm.trans X15.warmed.alike
  have n7 : T11.heap[s.heap.size]? = some N := by rw [q11]; exact n1.1
  exact ⟨T15, none, _, _, _, X15, by simp, rfl, by omega, (fun _ => rfl), ⟨rfl, _, N, bl15, ((Same.refl D _).set _ (by simp)).set _ (by simp), sl15, (Cell.slots_setSlot_ne _ ap).trans sl13, n1.keep al (p15.other hne (p13.other hne n7)), n2, by rw [al.findClass]; exact n3, n4, n5, fun y c h1 h2 => p15.other h1 (p13.other h1 (by rw [q11]; exact n6 y c h2)), by rw [p15.2.2, p13.2.2, q11]; exact z8⟩, fun fs hl => c16.trans (X15.returnOut hexec hret (hb hbytes d57) hl)⟩
end New4
namespace New1
def yN : MethodName := ⟨"java/lang/String", "<init>", "([C)V"⟩
abbrev yB : ByteArray := jdk_42_method_3_code
theorem d0 : decode yB 0 = .ok (.aload_n 0, 1) := by decide +kernel
theorem d1 : decode yB 1 = .ok (.aload_n 1, 1) := by decide +kernel
theorem d2 : decode yB 2 = .ok (.iconst 0, 1) := by decide +kernel
theorem d3 : decode yB 3 = .ok (.aload_n 1, 1) := by decide +kernel
theorem d4 : decode yB 4 = .ok (.arraylength, 1) := by decide +kernel
theorem d5 : decode yB 5 = .ok (.aconst_null, 1) := by decide +kernel
theorem d6 : decode yB 6 = .ok (.invokespecial 27, 3) := by decide +kernel
theorem d9 : decode yB 9 = .ok (.return_, 1) := by decide +kernel
def site : List Cond := [New4.tab] ++ initW "java/lang/String" 27 New4.yN
def tab : Cond := tabOf yN yB 2 none site
def P (a : Addr) (D : Cell) (fV fC : Field) (b : Addr) (A : Cell) (z : Int32) (args : Array Value) (s : State) : Prop := args = #[.ref a, .ref b] ∧ Blank "java/lang/String" a D s ∧ Found "java/lang/String" "value" "[B" fV s ∧ Found "java/lang/String" "coder" "B" fC s ∧ Ch b A s ∧ StaticIs s "java/lang/String" "COMPACT_STRINGS" "Z" (.int z) ∧ ¬ z = 0 ∧ 0 < A.slots.size ∧ A.slots.size ≤ 536870912 ∧ ∀ i, i < A.slots.size → ¬ 255 < cv A i
def E (a : Addr) (D : Cell) (fV fC : Field) (A : Cell) (r : Option Value) (s u : State) : Prop := Got a D fV fC A 0 A.slots.size r s u
/-- new String(chars), not empty, no char above 255: a Latin-1 String of their low bytes -/
theorem law (l : Launch) (a : Addr) (D : Cell) (fV fC : Field) (b : Addr) (A : Cell) (z : Int32) : Law l yN 2 1 3 52 yB 2 none site (P a D fV fC b A z) (E a D fV fC A) [⟨a, fC.slot⟩, ⟨a, fV.slot⟩] 1 A.slots.size := by
  refine Law.of_walk (plainFor_of_name (by decide +kernel)) (by decide +kernel) (by decide +kernel) (by decide) (fun _ _ h => by rw [h.1]; rfl) (fun _ U U' hal hh h => ⟨h.1, h.2.1.mv hal hh, h.2.2.1.al hal, h.2.2.2.1.al hal, h.2.2.2.2.1.mv hal hh, h.2.2.2.2.2.1.there hal hh, h.2.2.2.2.2.2⟩) (fun r U U' V V' h1 hal h2 h => Got.mv r U U' V V' h1 hal h2 h) ?_
  intro p e s m args below meth c s₁ X0 hexec hbytes hml hret hlk hnm hown hh0 W hP
  obtain ⟨rfl, hB, f1, f2, hA, s1, hz, l0, l2, hp⟩ := hP
  have c1 : Steps p.tables e below (s₁.setTop (entryFrame m #[.ref a, .ref b] 2)) (s₁.setTop (mkF m 0 #[.val (.ref a), .val (.ref b)] [])) := entry rfl
  have c2 : Steps p.tables e below (s₁.setTop (entryFrame m #[.ref a, .ref b] 2)) (s₁.setTop (mkF m 6 #[.val (.ref a), .val (.ref b)] [.null, .int (Int32.ofNat A.slots.size), .int 0, .ref b, .ref a])) := c1.trans (by
    refine XS.aloadN X0.here hexec rfl (hb hbytes d0) rfl rfl ?_
    refine XS.aloadN X0.here hexec rfl (hb hbytes d1) rfl rfl ?_
    refine iconstV X0.here hexec rfl 0 (hb hbytes d2) (by decide) ?_
    refine XS.aloadN X0.here hexec rfl (hb hbytes d3) rfl rfl ?_
    refine X0.alen hexec (hA.1.mv X0.warmed.alike hh0) rfl rfl (hb hbytes d4) ?_
    refine XS.aconstNull X0.here hexec rfl (hb hbytes d5) ?_
    exact Steps.refl _)
  obtain ⟨v3, T3, X3, E3, g3⟩ := X0.callN hexec (New4.law l a D fV fC b A z 0 A.slots.size) rfl hown (wks W (initW "java/lang/String" 27 New4.yN)) (W New4.tab (by simp only [site, List.mem_cons, List.mem_append, true_or, or_true])) (W := 0) (Nat.le_of_ble_eq_true rfl) (Nat.le_of_ble_eq_true rfl) (Nat.le_refl _) (by show 0 + A.slots.size ≤ A.slots.size; omega) (g := (mkF m 6 #[.val (.ref a), .val (.ref b)] [.null, .int (Int32.ofNat A.slots.size), .int (Int32.ofNat 0), .ref b, .ref a])) rfl (by rw [hml]; rfl) c2 (argsL := [.ref b, .int (Int32.ofNat 0), .int (Int32.ofNat A.slots.size), .null]) (rest := []) rfl rfl (by show 2 * 0 + 0 ≤ _; decide) (hb hbytes d6) (⟨rfl, hB.mv X0.warmed.alike hh0, f1.al X0.warmed.alike, f2.al X0.warmed.alike, hA.mv X0.warmed.alike hh0, s1.there X0.warmed.alike hh0, hz, l0, by omega, l2, fun i hi => by rw [Nat.zero_add]; exact hp i hi⟩)
  have e0 := Got.mv _ s₁ s _ _ hh0.symm (Vm.Alike.refl _) rfl E3
  obtain rfl := e0.1
  have c4 : Steps p.tables e below (s₁.setTop (entryFrame m #[.ref a, .ref b] 2)) (T3.setTop (mkF m 9 #[.val (.ref a), .val (.ref b)] [])) := g3
  exact ⟨T3, none, _, _, _, X3, by simp, rfl, by omega, (fun _ => rfl), e0, fun fs hl => c4.trans (X3.returnOut hexec hret (hb hbytes d9) hl)⟩
theorem pays {l : Launch} {R : Room} {p : Program} {e : Env} {below : List Frame} {s : State} {sargs : Array Value} {len W : Nat} (a : Addr) (D : Cell) (fV fC : Field) (b : Addr) (A : Cell) (z : Int32) (htab : tab.before sargs s = true) (hfr : 4 ≤ R.frames) (hlo : W + 65 ≤ R.locals) :
    Back l R p e below s sargs yN len W (fun A₁ a₁ => A₁.cells + 1 ≤ R.cells ∧ A₁.slots + A.slots.size ≤ R.slots ∧ P a D fV fC b A z a₁ A₁.U) (fun A₁ _ v₁ B₁ => E a D fV fC A v₁ A₁.U B₁.U ∧ B₁.locs = A₁.locs ++ [⟨a, fC.slot⟩, ⟨a, fV.slot⟩] ∧ B₁.cells = A₁.cells + 1 ∧ B₁.slots = A₁.slots + A.slots.size) :=
  (law l a D fV fC b A z).pays htab hfr (by omega)
end New1
/-- the byte, read back as charAt reads it, is the char -/
theorem lo8_mask {x : Int32} (h0 : ¬ x < 0) (h1 : ¬ 255 < x) : lo8 x &&& 255 = x := by
  have t : ∀ k : Fin 256, lo8 (Int32.ofNat k.val) &&& 255 = Int32.ofNat k.val := by decide +kernel
  rw [Int32.lt_iff_toInt_lt] at h0 h1
  have e0 : (0 : Int32).toInt = 0 := rfl
  have e1 : (255 : Int32).toInt = 255 := rfl
  obtain ⟨k, hk⟩ : ∃ k : Nat, x.toInt = k := ⟨x.toInt.toNat, by omega⟩
  have hx : x = Int32.ofNat k := Int32.toInt_inj.mp (by rw [hk, Int32.toInt_ofNat_small (by omega)])
  rw [hx]
  exact t ⟨k, by omega⟩
end StrChars
namespace StrChars.Road
open Jvm Sem ClassFile Op Lib Jvm.Stand Jvm.Free Jvm.Free.XT
open Jvm.Lib.Cold (StaticIs)
abbrev ST : String := "java/lang/String"
/-- every table word that New1's law asks, flat -/
abbrev words : List Jvm.Cond := [.code New1.yN New1.yB 2 none, .initialized ST, .methodLink ST 27 New4.yN, .instanceMethod New4.yN,
  .code New4.yN New4.yB 6 none, .fieldLink ST 38 ST "COMPACT_STRINGS" "Z", .laysFinal ST ST "value" "[B", .fieldLink ST 9 ST "value" "[B", .laysFinal ST ST "coder" "B", .fieldLink ST 15 ST "coder" "B",
  .methodLink ST 1 Lib.objectInit, .instanceMethod Lib.objectInit, .code Lib.objectInit ⟨#[0xb1]⟩ 1 none, .methodLink ST 177 Cmp3.yN, .static Cmp3.yN, .methodLink ST 47 CodL.yN, .static CodL.yN,
  .code Cmp3.yN Cmp3.yB 6 (some (.array .byte)), .initialized U16, .arrayClass .byte, .methodLink U16 115 Cmp5.yN, .static Cmp5.yN, .code Cmp5.yN Cmp5.yB 7 (some .int), .code CodL.yN CodL.yB 2 (some .byte)]
theorem tab_of {a : Array Value} {s : State} (h : ∀ w ∈ words, w.before a s = true) : New1.tab.before a s = true := by
  have h5 : Cmp5.tab.before a s = true := unparts (wk h (.code Cmp5.yN Cmp5.yB 7 (some .int))) (wks h (.initialized Cmp5.yN.cls :: Cmp5.site))
  have hc : CodL.tab.before a s = true := unparts (wk h (.code CodL.yN CodL.yB 2 (some .byte))) (wks h (.initialized CodL.yN.cls :: CodL.site))
  have q5 : ∀ w ∈ Cmp5.tab :: words, w.before a s = true := fun w hw => (List.mem_cons.mp hw).elim (fun e => e ▸ h5) (h w)
  have h3 : Cmp3.tab.before a s = true := unparts (wk q5 (.code Cmp3.yN Cmp3.yB 6 (some (.array .byte)))) (wks q5 (.initialized Cmp3.yN.cls :: Cmp3.site))
  have q3 : ∀ w ∈ Cmp3.tab :: CodL.tab :: words, w.before a s = true := fun w hw => (List.mem_cons.mp hw).elim (fun e => e ▸ h3) fun hw => (List.mem_cons.mp hw).elim (fun e => e ▸ hc) (h w)
  have h4 : New4.tab.before a s = true := unparts (wk q3 (.code New4.yN New4.yB 6 none)) (wks q3 (.initialized New4.yN.cls :: New4.site))
  have q4 : ∀ w ∈ New4.tab :: words, w.before a s = true := fun w hw => (List.mem_cons.mp hw).elim (fun e => e ▸ h4) (h w)
  exact unparts (wk q4 (.code New1.yN New1.yB 2 none)) (wks q4 (.initialized New1.yN.cls :: New1.site))
/-- the words ride from the start Z to the walk's own state -/
theorem moved {Z s : State} {a0 args : Array Value} (hZ : Z.Warmed39 s.vm) (hw : ∀ d ∈ words, d.before a0 Z = true) : ∀ d ∈ words, d.before args s = true := fun d hd => by
  have q := hw d hd
  have t : ∀ d ∈ words, d = .arrayClass .byte ∨ (d.onTables && d.keepsFace) = true := by decide +kernel
  rcases t d hd with rfl | t
  · exact RoadKit.mvA hZ q
  · exact RoadKit.mv hZ q t
/-- WHAT COMES BACK, over the tables of the start Z: h the heap at the call, h' behind it -/
def Q (Z : State) (x : Addr) (A : Cell) (h : Heap) (v : Option Value) (h' : Heap) (L : List Loc) : Prop := v = none ∧ (∀ y ∈ L, y.base = x) ∧ RoadKit.Keep h h' [x] ∧ h'.size = h.size + 1 ∧ RoadKit.Exa Z h' x ST ∧ RoadKit.Fld Z h' x ST "value" "[B" (.ref h.size) ∧ RoadKit.Fld Z h' x ST "coder" "B" (.int 0) ∧
  (∃ V : Cell, RoadKit.Arr Z h' h.size V .byte ∧ V.vm = .none ∧ Z.vm.findClass "[B" = some V.cls ∧ V.slots.size = A.slots.size ∧ ∀ j, j < A.slots.size → V.slots[j]? = some (.int (lo8 (cv A j)))) ∧
  ∀ (O n d : String) (w : Value), RoadKit.Fld Z h x O n d w → RoadKit.slotOf Z O n d ≠ RoadKit.slotOf Z ST "value" "[B" → RoadKit.slotOf Z O n d ≠ RoadKit.slotOf Z ST "coder" "B" → RoadKit.Fld Z h' x O n d w
/-- **new String(chars) AT A CALL, IN THE ROAD'S FORM**: for specialBack behind newO: x the fresh String, b the char[] with the cell A -/
theorem back {p : Program} {l : Launch} {e : Env} {R : Room} {s : State} {args : Array Value} {below : List Frame} {len W : Nat} {Z : State} {a0 : Array Value} {h : Heap} (hZ : Z.Warmed39 s.vm) (hw : ∀ d ∈ words, d.before a0 Z = true) {kI : Nat} (wi : (Jvm.Cond.instantiable ST kI).before a0 Z = true)
    {x b : Addr} {A : Cell} {z : Int32} {v0 c0 : Value} (E : RoadKit.Exa Z h x ST) (V : RoadKit.Fld Z h x ST "value" "[B" v0) (C : RoadKit.Fld Z h x ST "coder" "B" c0) (K : RoadKit.Arr Z h b A .char) (hty : Typed .char A) (S : RoadKit.Sta Z h ST "COMPACT_STRINGS" "Z" (.int z)) (hz : ¬ z = 0)
    (l0 : 0 < A.slots.size) (l2 : A.slots.size ≤ 536870912) (hp : ∀ i, i < A.slots.size → ¬ 255 < cv A i) (hfr : 4 ≤ R.frames) (hlo : W + 65 ≤ R.locals) :
    Back l R p e below s args New1.yN len W (fun P a => a = #[.ref x, .ref b] ∧ P.U.heap = h ∧ P.cells + 1 ≤ R.cells ∧ P.slots + A.slots.size ≤ R.slots)
      (fun P _ v B => ∃ L, Q Z x A h v B.U.heap L ∧ B.locs = P.locs ++ L ∧ B.cells = P.cells + 1 ∧ B.slots = P.slots + A.slots.size) := by
  intro m meth c P g ig mk a X hg hsize hdg hW hn hp'
  obtain ⟨rfl, rfl, r1, r2⟩ := hp'
  have al : Z.vm.Alike P.U.vm := hZ.alike.trans X.warmed.alike
  obtain ⟨D, cfV, kV, iV, fV, hD, gV, stV, knV, obV, asV, slV⟩ := id V
  obtain ⟨D', cfC, kC, iC, fC, hD', gC, stC, -, -, asC, slC⟩ := id C
  cases hD.symm.trans hD'
  obtain ⟨D2, kD, e1, e2, e3, e4, e5⟩ := id E
  cases hD.symm.trans e1
  obtain ⟨c2, k2, i1, i2, i3, -⟩ := Cond.instantiable_spec wi
  cases e2.symm.trans i1
  cases e3.symm.trans i2
  obtain ⟨kU, u1, u2⟩ := al.2.2 _ _ e3
  have hB : Blank ST x D P.U := ⟨hD, ⟨knV, fun q hq => by rw [hq] at obV; cases obV⟩, by rw [al.findClass]; exact e2, kU, u1, by rw [u2]; exact i3, by rw [u2]; exact e5 i3⟩
  have F1 : Found ST "value" "[B" fV P.U := ⟨SBG.found_only al ⟨cfV, kV, iV, gV⟩, stV⟩
  have F2 : Found ST "coder" "B" fC P.U := ⟨SBG.found_only al ⟨cfC, kC, iC, gC⟩, stC⟩
  have hA : Ch b A P.U := ⟨⟨K.1, State.isArrayOf_alike al K.2.1, K.2.2, by omega⟩, hty⟩
  have hS : StaticIs P.U ST "COMPACT_STRINGS" "Z" (.int z) := by
    obtain ⟨cfS, iS, kS, fS, st, cS, t1, t2, t3, t4, t5, t6, t7⟩ := S
    exact StaticIs.there (s := { Z with heap := P.U.heap }) ⟨cfS, iS, kS, fS, st, cS, t1, t2, t3, t4, t5, (fun q => by rw [q] at t6; cases t6), t7⟩ al rfl
  obtain ⟨v, B, X', ⟨⟨hv, E', V', q1, q2, q3, q4, q5, q6, q7, q8, q9, q10, q11⟩, hl, hc, hs⟩, st⟩ := New1.pays x D fV fC b A z (tab_of (moved hZ hw)) hfr hlo m meth c P g ig mk _ X hg hsize hdg hW hn ⟨r1, r2, rfl, hB, F1, F2, hA, hS, hz, l0, l2, hp⟩
  have al' : Z.vm.Alike B.U.vm := hZ.alike.trans X'.warmed.alike
  have hsz : E'.slots.size = D.slots.size := by
    obtain ⟨-, -, -, kB, w1, w2, w3⟩ := q1
    obtain ⟨kB', y1, y2⟩ := al'.2.2 _ _ e3
    rw [q2.2.1] at w1
    cases w1.symm.trans y1
    rw [w3, e5 i3, y2]
  refine ⟨v, B, X', ⟨_, ⟨hv, ?_, ⟨by omega, fun y cy hy hn' => q10 y cy (by simpa using hn') hy, fun y cy hy => ?_⟩, q11, ⟨E', _, q1.1, by rw [q2.2.1]; exact e2, by rw [q2.2.1]; exact e3, by rw [q2.1]; exact obV, fun _ => by rw [hsz]; exact e5 i3⟩,
    ⟨E', cfV, kV, iV, fV, q1.1, gV, stV, by rw [q2.1]; exact knV, by rw [q2.1]; exact obV, by rw [q2.2.1]; exact asV, q3⟩, ⟨E', cfC, kC, iC, fC, q1.1, gC, stC, by rw [q2.1]; exact knV, by rw [q2.1]; exact obV, by rw [q2.2.1]; exact asC, q4⟩,
    ⟨V', ⟨q5.1, State.isArrayOf_alike al'.symm q5.2.1, q5.2.2.1⟩, q6, by rw [← al'.findClass]; exact q7, q8, fun j hj => by have := q9 j hj; rwa [Nat.zero_add] at this⟩, fun O n d w F n1 n2 => ?_⟩, hl, hc, hs⟩, st⟩
  · intro y hy
    simp only [List.mem_cons, List.not_mem_nil, or_false] at hy
    rcases hy with rfl | rfl <;> rfl
  · by_cases q : y = x
    · subst q
      cases hD.symm.trans hy
      exact ⟨E', q1.1, q2.2.1, q2.1, hsz⟩
    · exact ⟨cy, q10 y cy q hy, rfl, rfl, rfl⟩
  · obtain ⟨D3, cf, k, i, f, g1, g2, g3, g4, g5, g6, g7⟩ := F
    cases hD.symm.trans g1
    simp only [RoadKit.slotOf, g2, gV, gC, Option.map_some, Option.getD_some] at n1 n2
    exact ⟨E', cf, k, i, f, q1.1, g2, g3, by rw [q2.1]; exact g4, by rw [q2.1]; exact g5, by rw [q2.2.1]; exact g6, by rw [q2.2.2 f.slot (by simp [n1, n2])]; exact g7⟩
end StrChars.Road
namespace StrChars.Road
open Jvm Sem ClassFile Op Lib Jvm.Stand Jvm.Free Jvm.Free.XT
/-- WHAT COMES BACK, the byte[] as a list of values -/
def QA (Z : State) (x : Addr) (zn : Int32) (cs : List Int32) (h : Heap) (v : Option Value) (h' : Heap) (L : List Loc) : Prop := v = none ∧ (∀ y ∈ L, y.base = x) ∧ RoadKit.Keep h h' [x] ∧ h'.size = h.size + 1 ∧ RoadKit.Exa Z h' x ST ∧ RoadKit.Fld Z h' x ST "value" "[B" (.ref h.size) ∧ RoadKit.Fld Z h' x ST "coder" "B" (.int 0) ∧
  (∃ kb, Z.vm.findClass "[B" = some kb ∧ RoadKit.Arv Z h' h.size kb .byte zn (cs.map fun c => .int (lo8 c)) (.int 0)) ∧
  ∀ (O n d : String) (w : Value), RoadKit.Fld Z h x O n d w → RoadKit.slotOf Z O n d ≠ RoadKit.slotOf Z ST "value" "[B" → RoadKit.slotOf Z O n d ≠ RoadKit.slotOf Z ST "coder" "B" → RoadKit.Fld Z h' x O n d w
/-- **new String(chars) AT A CALL, THE ARRAYS AS LISTS**: the char[] at b holds cs, not empty, no char above 255 -/
theorem backArv {p : Program} {l : Launch} {e : Env} {R : Room} {s : State} {args : Array Value} {below : List Frame} {len W : Nat} {Z : State} {a0 : Array Value} {h : Heap} (hZ : Z.Warmed39 s.vm) (hw : ∀ d ∈ words, d.before a0 Z = true) {kI : Nat} (wi : (Jvm.Cond.instantiable ST kI).before a0 Z = true)
    {x b : Addr} {k : ClassId} {zn z : Int32} {cs : List Int32} {dv v0 c0 : Value} (E : RoadKit.Exa Z h x ST) (V : RoadKit.Fld Z h x ST "value" "[B" v0) (C : RoadKit.Fld Z h x ST "coder" "B" c0) (K : RoadKit.Arv Z h b k .char zn (cs.map Value.int) dv) (S : RoadKit.Sta Z h ST "COMPACT_STRINGS" "Z" (.int z)) (hz : ¬ z = 0)
    (hlen : zn.toNatClampNeg = cs.length) (h0 : 0 < cs.length) (hbig : cs.length ≤ 536870912) (hall : ∀ c ∈ cs, ¬ 255 < c) (hfr : 4 ≤ R.frames) (hlo : W + 65 ≤ R.locals) :
    Back l R p e below s args New1.yN len W (fun P a => a = #[.ref x, .ref b] ∧ P.U.heap = h ∧ P.cells + 1 ≤ R.cells ∧ P.slots + cs.length ≤ R.slots)
      (fun P _ v B => ∃ L, QA Z x zn cs h v B.U.heap L ∧ B.locs = P.locs ++ L ∧ B.cells = P.cells + 1 ∧ B.slots = P.slots + cs.length) := by
  obtain ⟨A, K1, K2, K3, K4, K5, K6⟩ := K
  have e : A.slots.size = cs.length := K3.trans hlen
  have hat : ∀ (i : Nat) (hi : i < cs.length), A.slots[i]? = some (.int cs[i]) := fun i hi => by rw [K5 i (by omega)]; simp [List.getD_eq_getElem?_getD, hi]
  have hcv : ∀ (i : Nat) (hi : i < cs.length), cv A i = cs[i] := fun i hi => by unfold cv; rw [hat i hi]
  have hty : Typed .char A := fun i v hv => by
    have hi : i < A.slots.size := (Array.getElem?_eq_some_iff.mp hv).1
    have q := K5 i hi
    rw [hv] at q
    rw [Option.some.inj q]
    exact K6 i hi
  refine Back.mono (back hZ hw wi E V C K1 hty S hz (by omega) (by omega) (fun i hi => by rw [hcv i (by omega)]; exact hall _ (List.getElem_mem _)) hfr hlo) (fun P a hp => ⟨hp.1, hp.2.1, hp.2.2.1, by rw [e]; exact hp.2.2.2⟩) (fun P a v B hp hq => ?_)
  obtain ⟨L, ⟨q1, q2, q3, q4, q5, q6, q7, ⟨V', v1, v2, v3, v4, v5⟩, q9⟩, hl, hc, hs⟩ := hq
  refine ⟨L, ⟨q1, q2, q3, q4, q5, q6, q7, ⟨V'.cls, v3, V', v1, rfl, by rw [v4, e, hlen], K4, fun i hi => ?_, fun i hi => ?_⟩, q9⟩, hl, hc, by rw [hs, e]⟩
  · have hi' : i < cs.length := by omega
    rw [v5 i (by omega), hcv i hi']; simp [List.getD_eq_getElem?_getD, hi']
  · have hi' : i < cs.length := by omega
    simp only [List.getD_eq_getElem?_getD, List.getElem?_map, List.getElem?_eq_getElem hi', Option.map_some, Option.getD_some]
    exact fits_lo8 _
end StrChars.Road
namespace StrChars.Road
open Jvm Sem ClassFile Op Lib Jvm.Stand Jvm.Free Jvm.Free.XT
/-- WHAT COMES BACK, in the writer's own shape -/
def QV (Z : State) (x : Addr) (N : Int32) (bs : List Int32) (h : Heap) (n0 : Nat) (v : Option Value) (h' : Heap) (L : List Loc) : Prop := v = none ∧ RoadKit.Fr n0 L ∧ RoadKit.Keep h h' [x] ∧ RoadKit.Exa Z h' x ST ∧ RoadKit.Fld Z h' x ST "coder" "B" (.int 0) ∧
  ∃ (t : Addr) (kb : ClassId), n0 ≤ t ∧ h.size ≤ t ∧ ¬ t = x ∧ RoadKit.Fld Z h' x ST "value" "[B" (.ref t) ∧ RoadKit.Arv Z h' t kb .byte N (bs.map Value.int) (.int 0)
/-- **new String(chars) AT A CALL, FOR THE WRITER**: a char[] of n known ints, each 0 to 255 -/
theorem backV {p : Program} {l : Launch} {e : Env} {R : Room} {s : State} {args : Array Value} {below : List Frame} {len W : Nat} {Z : State} {a0 : Array Value} {h : Heap} (hZ : Z.Warmed39 s.vm) (hw : ∀ d ∈ words, d.before a0 Z = true) {kI : Nat} (wi : (Jvm.Cond.instantiable ST kI).before a0 Z = true)
    {x b : Addr} {kC : ClassId} {cs bs : List Int32} {d v0 c0 : Value} {z N : Int32} {n n0 : Nat} (hx0 : n0 ≤ x) (hh0 : n0 ≤ h.size) (E : RoadKit.Exa Z h x ST) (V : RoadKit.Fld Z h x ST "value" "[B" v0) (C : RoadKit.Fld Z h x ST "coder" "B" c0) (K : RoadKit.Arv Z h b kC .char N (cs.map Value.int) d) (S : RoadKit.Sta Z h ST "COMPACT_STRINGS" "Z" (.int z)) (hz : ¬ z = 0)
    (hn : cs.length = n) (hN : N = Int32.ofNat n) (l0 : 0 < n) (l2 : n ≤ 4000) (hp : ∀ c ∈ cs, ¬ c < 0 ∧ ¬ (255 : Int32) < c) (hb : bs = cs.map (fun c => c.toInt8.toInt32)) (hfr : 4 ≤ R.frames) (hlo : W + 65 ≤ R.locals) :
    Back l R p e below s args (⟨"java/lang/String", "<init>", "([C)V"⟩ : MethodName) len W (fun P a => a = #[.ref x, .ref b] ∧ P.U.heap = h ∧ P.cells + 1 ≤ R.cells ∧ P.slots + n ≤ R.slots)
      (fun P _ v B => ∃ L, QV Z x N bs h n0 v B.U.heap L ∧ B.locs = P.locs ++ L ∧ B.cells = P.cells + 1 ∧ B.slots = P.slots + n) := by
  subst hn hN hb
  refine Back.mono (backArv hZ hw wi E V C K S hz (n32 (by omega)) l0 (by omega) (fun c hc => (hp c hc).2) hfr hlo) (fun P a hp => hp) (fun P a v B hp hq => ?_)
  obtain ⟨L, ⟨q1, q2, q3, q4, q5, q6, q7, ⟨kb, v1, v2⟩, q9⟩, hl, hc, hs⟩ := hq
  exact ⟨L, ⟨q1, fun y hy => by rw [q2 y hy]; exact hx0, q3, q5, q7, h.size, kb, hh0, Nat.le_refl _, Nat.ne_of_gt E.lt, q6, by rw [List.map_map]; exact v2⟩, hl, hc, hs⟩
end StrChars.Road
namespace StrChars
open Jvm Sem ClassFile Op Lib Jvm.Stand Jvm.Free.XT Jvm.Free.ALB Jvm.Free.JM Jvm.Free
open Jvm.Lib.Cold (StaticIs)
def hi8 (x : Int32) : Int32 := lo8 (x >>> ((8 : Int32) &&& 31))
/-- what StringUTF16.getChar makes of two bytes -/
def pairCh (u v : Int32) : Int32 := (((u &&& 255) <<< ((0 : Int32) &&& 31)) ||| ((v &&& 255) <<< ((8 : Int32) &&& 31))).toUInt32.toUInt16.toUInt32.toInt32
theorem lo8_and (x : Int32) : (lo8 x &&& 255).toBitVec.toNat = x.toBitVec.toNat % 256 := by
  have h : (lo8 x).toBitVec = (x.toBitVec.signExtend 8).signExtend 32 := by rw [lo8, Int8.toBitVec_toInt32, Int32.toBitVec_toInt8]
  rw [Int32.toBitVec_and, BitVec.toNat_and, h]
  have e : ((x.toBitVec.signExtend 8).signExtend 32).toNat % 256 = x.toBitVec.toNat % 256 := by
    rw [BitVec.toNat_signExtend]
    have hlt := x.toBitVec.isLt
    simp only [BitVec.toNat_setWidth, BitVec.toNat_signExtend]
    split <;> split <;> omega
  rw [← e]
  exact Nat.and_two_pow_sub_one_eq_mod _ 8
theorem pair_says {c : Int32} (h0 : ¬ c < 0) (h1 : ¬ 65535 < c) : pairCh (lo8 c) (hi8 c) = c := by
  rw [Int32.lt_iff_toInt_lt] at h0 h1
  have e0 : (0 : Int32).toInt = 0 := rfl
  have e1 : (65535 : Int32).toInt = 65535 := rfl
  have hc : c.toInt = c.toBitVec.toNat := by
    have := c.toBitVec.isLt
    have e : c.toInt = c.toBitVec.toInt := rfl
    rw [e] at h0 h1
    rw [e]
    rw [BitVec.toInt_eq_toNat_cond] at h0 h1 ⊢
    split at h0 <;> split <;> omega
  have hn : c.toBitVec.toNat < 65536 := by omega
  have a1 := lo8_and c
  have a2 : (hi8 c &&& 255).toBitVec.toNat = c.toBitVec.toNat / 256 := by
    rw [hi8, lo8_and]
    have e : ((8 : Int32) &&& 31) = 8 := by decide
    rw [e, Int32.toBitVec_shiftRight]
    have e2 : ((8 : Int32).toBitVec.smod 32) = 8#32 := by decide
    rw [e2, BitVec.sshiftRight_eq', BitVec.toNat_sshiftRight_of_msb_false (by rw [BitVec.msb_eq_false_iff_two_mul_lt]; omega)]
    show c.toBitVec.toNat >>> 8 % 256 = _
    rw [Nat.shiftRight_eq_div_pow]
    omega
  unfold pairCh
  apply Int32.toBitVec_inj.mp
  apply BitVec.eq_of_toNat_eq
  have f0 : ((0 : Int32) &&& 31) = 0 := by decide
  have f8 : ((8 : Int32) &&& 31) = 8 := by decide
  rw [f0, f8]
  have g : (((lo8 c &&& 255) <<< (0 : Int32)) ||| ((hi8 c &&& 255) <<< (8 : Int32))).toBitVec.toNat = c.toBitVec.toNat := by
    rw [Int32.toBitVec_or, Int32.toBitVec_shiftLeft, Int32.toBitVec_shiftLeft]
    have s0 : ((0 : Int32).toBitVec.smod 32) = 0#32 := by decide
    have s8 : ((8 : Int32).toBitVec.smod 32) = 8#32 := by decide
    rw [s0, s8, BitVec.toNat_or]
    simp only [BitVec.shiftLeft_eq', BitVec.toNat_shiftLeft, a1, a2]
    show (c.toBitVec.toNat % 256) <<< 0 % 2 ^ 32 ||| (c.toBitVec.toNat / 256) <<< 8 % 2 ^ 32 = _
    rw [Nat.shiftLeft_zero, Nat.mod_eq_of_lt (show c.toBitVec.toNat % 256 < 2 ^ 32 by omega), Nat.mod_eq_of_lt (show (c.toBitVec.toNat / 256) <<< 8 < 2 ^ 32 by rw [Nat.shiftLeft_eq]; omega), Nat.or_comm, ← Nat.shiftLeft_add_eq_or_of_lt (by omega), Nat.shiftLeft_eq]
    omega
  show BitVec.toNat (((((lo8 c &&& 255) <<< (0 : Int32)) ||| ((hi8 c &&& 255) <<< (8 : Int32))).toBitVec.setWidth 16).setWidth 32) = _
  rw [BitVec.toNat_setWidth, BitVec.toNat_setWidth, g]
  omega
end StrChars
namespace StrChars
open Jvm Sem ClassFile Op Lib Jvm.Stand Jvm.Free.XT Jvm.Free.ALB Jvm.Free.JM Jvm.Free
open Jvm.Lib.Cold (StaticIs)
/-- charAt's cast of a byte read back -/
def chr8 (u : Int32) : Int32 := (u &&& 255).toUInt32.toUInt16.toUInt32.toInt32
theorem chr8_lo8 {c : Int32} (h0 : ¬ c < 0) (h1 : ¬ 255 < c) : chr8 (lo8 c) = c := by
  have t : ∀ k : Fin 256, (Int32.ofNat k.val).toUInt32.toUInt16.toUInt32.toInt32 = Int32.ofNat k.val := by decide +kernel
  unfold chr8
  rw [lo8_mask h0 h1]
  rw [Int32.lt_iff_toInt_lt] at h0 h1
  have e0 : (0 : Int32).toInt = 0 := rfl
  have e1 : (255 : Int32).toInt = 255 := rfl
  obtain ⟨k, hk⟩ : ∃ k : Nat, c.toInt = k := ⟨c.toInt.toNat, by omega⟩
  have hx : c = Int32.ofNat k := Int32.toInt_inj.mp (by rw [hk, Int32.toInt_ofNat_small (by omega)])
  rw [hx]
  exact t ⟨k, by omega⟩
theorem narrow_ch {c : Int32} (h0 : ¬ c < 0) (h1 : ¬ 65535 < c) : narrow .char (.int c) = .int c := by
  have q : narrow .char (.int (pairCh (lo8 c) (hi8 c))) = .int (pairCh (lo8 c) (hi8 c)) := narrow_c _
  rwa [pair_says h0 h1] at q
/-- the array's cell V codes the n chars f 0 .. f (n - 1) by the coder cd, as the JDK does: coder 1 just where some char is above 255 -/
def Cod (cd : Int32) (n : Nat) (f : Nat → Int32) (V : Cell) : Prop := (cd = 0 ∧ V.slots.size = n ∧ ∀ j, j < n → V.slots[j]? = some (.int (lo8 (f j))) ∧ ¬ 255 < f j) ∨ (cd = 1 ∧ V.slots.size = 2 * n ∧ (∀ j, j < n → V.slots[2 * j]? = some (.int (lo8 (f j))) ∧ V.slots[2 * j + 1]? = some (.int (hi8 (f j)))) ∧ ∃ j, j < n ∧ 255 < f j)
theorem Cod.cd {cd : Int32} {n : Nat} {f : Nat → Int32} {V : Cell} (h : Cod cd n f V) : cd = 0 ∨ cd = 1 := h.imp (fun q => q.1) fun q => q.1
/-- **x is a String of the n chars f 0 .. f (n - 1)**, Latin-1 or UTF-16; its array at t has the cell V -/
def Txt (x t : Addr) (V : Cell) (cd : Int32) (n : Nat) (f : Nat → Int32) (U : State) : Prop := Exact "java/lang/String" x U ∧ Has x "java/lang/String" "value" "[B" (.ref t) U ∧ Has x "java/lang/String" "coder" "B" (.int cd) U ∧ XT.Arr .byte t V U ∧ Cod cd n f V ∧ ∀ j, j < n → ¬ f j < 0 ∧ ¬ 65535 < f j
theorem Txt.mv {x t : Addr} {V : Cell} {cd : Int32} {n : Nat} {f : Nat → Int32} {U U' : State} (h : Txt x t V cd n f U) (hal : U.vm.Alike U'.vm) (hh : U'.heap = U.heap) : Txt x t V cd n f U' := ⟨h.1.mv hal hh, h.2.1.mv hal hh, h.2.2.1.mv hal hh, h.2.2.2.1.mv hal hh, h.2.2.2.2⟩
namespace IsL
def yN : MethodName := ⟨"java/lang/String", "isLatin1", "()Z"⟩
abbrev yB : ByteArray := jdk_42_method_154_code
theorem d0 : decode yB 0 = .ok (.getstatic 38, 3) := by decide +kernel
theorem d3 : decode yB 3 = .ok (.ifCond (.eq) 14, 3) := by decide +kernel
theorem d6 : decode yB 6 = .ok (.aload_n 0, 1) := by decide +kernel
theorem d7 : decode yB 7 = .ok (.getfield 15, 3) := by decide +kernel
theorem d10 : decode yB 10 = .ok (.ifCond (.ne) 7, 3) := by decide +kernel
theorem d13 : decode yB 13 = .ok (.iconst 1, 1) := by decide +kernel
theorem d14 : decode yB 14 = .ok (.goto 4, 3) := by decide +kernel
theorem d17 : decode yB 17 = .ok (.iconst 0, 1) := by decide +kernel
theorem d18 : decode yB 18 = .ok (.ireturn, 1) := by decide +kernel
def site : List Cond := [.fieldLink "java/lang/String" 38 "java/lang/String" "COMPACT_STRINGS" "Z", .fieldLink "java/lang/String" 15 "java/lang/String" "coder" "B"]
def tab : Cond := tabOf yN yB 1 (some .boolean) site
def P (x : Addr) (cd z : Int32) (args : Array Value) (s : State) : Prop := args = #[.ref x] ∧ Has x "java/lang/String" "coder" "B" (.int cd) s ∧ (cd = 0 ∨ cd = 1) ∧ StaticIs s "java/lang/String" "COMPACT_STRINGS" "Z" (.int z) ∧ ¬ z = 0
def E (cd : Int32) (r : Option Value) (s u : State) : Prop := XT.PureE (some (.int (1 - cd))) r s u
theorem law (l : Launch) (x : Addr) (cd z : Int32) : Law l yN 1 0 0 0 yB 1 (some .boolean) site (P x cd z) (E cd) [] 0 0 := by
  refine Law.of_walk (plainFor_of_name (by decide +kernel)) (by decide +kernel) (by decide +kernel) (by decide) (fun _ _ h => by rw [h.1]; rfl) (fun _ U U' hal hh h => ⟨h.1, h.2.1.mv hal hh, h.2.2.1, h.2.2.2.1.there hal hh, h.2.2.2.2⟩) (fun r U U' V V' h1 hal h2 h => XT.PureE.mv r U U' V V' h1 hal h2 h) ?_
  intro p e s m args below meth c s₁ X0 hexec hbytes hml hret hlk hnm hown hh0 W hP
  obtain ⟨rfl, hx, hc, s1, hz⟩ := hP
  have c1 : Steps p.tables e below (s₁.setTop (entryFrame m #[.ref x] 1)) (s₁.setTop (mkF m 0 #[.val (.ref x)] [])) := entry rfl
  obtain ⟨T2, X2, q2, st2⟩ := X0.sget hexec hown (wk W (.fieldLink "java/lang/String" 38 "java/lang/String" "COMPACT_STRINGS" "Z")) s1 (fun _ _ h => by rw [hh0]; exact h) (g := (mkF m 0 #[.val (.ref x)] [])) rfl (hb hbytes d0)
  have hh2 := q2.trans hh0
  have c3 : Steps p.tables e below (s₁.setTop (entryFrame m #[.ref x] 1)) (T2.setTop (mkF m 7 #[.val (.ref x)] [.ref x])) := (c1.trans (st2 _ (Steps.refl _))).trans (by
    refine XS.ifNo X2.here hexec rfl (hb hbytes d3) rfl (i0_eq_f hz) ?_
    refine XS.aloadN X2.here hexec rfl (hb hbytes d6) rfl rfl ?_
    exact Steps.refl _)
  obtain ⟨T4, X4, q4, st4⟩ := X2.hget hexec hown (wk W (.fieldLink "java/lang/String" 15 "java/lang/String" "coder" "B")) (hx.mv X2.warmed.alike hh2) (g := (mkF m 7 #[.val (.ref x)] [.ref x])) rfl (rest := []) rfl (hb hbytes d7)
  have c5 : Steps p.tables e below (s₁.setTop (entryFrame m #[.ref x] 1)) (T4.setTop (mkF m 10 #[.val (.ref x)] [.int cd])) := c3.trans (st4 _ (Steps.refl _))
  have c6 : Steps p.tables e below (s₁.setTop (entryFrame m #[.ref x] 1)) (T4.setTop (mkF m 18 #[.val (.ref x)] [.int (1 - cd)])) := by
    rcases hc with rfl | rfl
    · exact c5.trans (by
        refine XS.ifNo X4.here hexec rfl (hb hbytes d10) rfl (i0_ne_f rfl) ?_
        refine iconstV X4.here hexec rfl 1 (hb hbytes d13) (by decide) ?_
        refine XS.goto X4.here hexec rfl (pc0 := 14) rfl (hb hbytes d14) (by decide) rfl ?_
        exact Steps.refl _)
    · exact c5.trans (by
        refine XS.ifYes X4.here hexec rfl (pc0 := 10) rfl (hb hbytes d10) rfl (i0_ne_t (by decide)) (by decide) rfl ?_
        refine iconstV X4.here hexec rfl 0 (hb hbytes d17) (by decide) ?_
        exact Steps.refl _)
  exact ⟨T4, some (.int (1 - cd)), _, _, _, X4, rfl, rfl, rfl, (fun h => by cases h), ⟨rfl, q4.trans hh2⟩, fun fs hl => c6.trans (X4.ireturnOut hexec hret (by rcases hc with rfl | rfl <;> rfl) (Or.inr (Or.inl rfl)) (hb hbytes d18) hl)⟩
end IsL
namespace LChA
def yN : MethodName := ⟨"java/lang/StringLatin1", "charAt", "([BI)C"⟩
abbrev yB : ByteArray := jdk_43_method_2_code
theorem d0 : decode yB 0 = .ok (.iload_n 1, 1) := by decide +kernel
theorem d1 : decode yB 1 = .ok (.aload_n 0, 1) := by decide +kernel
theorem d2 : decode yB 2 = .ok (.arraylength, 1) := by decide +kernel
theorem d3 : decode yB 3 = .ok (.invokestatic 9, 3) := by decide +kernel
theorem d6 : decode yB 6 = .ok (.aload_n 0, 1) := by decide +kernel
theorem d7 : decode yB 7 = .ok (.iload_n 1, 1) := by decide +kernel
theorem d8 : decode yB 8 = .ok (.baload, 1) := by decide +kernel
theorem d9 : decode yB 9 = .ok (.sipush 255, 3) := by decide +kernel
theorem d12 : decode yB 12 = .ok (.iand, 1) := by decide +kernel
theorem d13 : decode yB 13 = .ok (.i2c, 1) := by decide +kernel
theorem d14 : decode yB 14 = .ok (.ireturn, 1) := by decide +kernel
def site : List Cond := [JO.Str_checkIndex.tab] ++ staticW "java/lang/StringLatin1" 9 JO.Str_checkIndex.yN
def tab : Cond := tabOf yN yB 2 (some .char) site
def P (t : Addr) (V : Cell) (i : Nat) (u : Int32) (fm : Value) (args : Array Value) (s : State) : Prop := args = #[.ref t, .int (Int32.ofNat i)] ∧ XT.Arr .byte t V s ∧ V.slots[i]? = some (.int u) ∧ (StaticIs s "jdk/internal/util/Preconditions" "SIOOBE_FORMATTER" "Ljava/util/function/BiFunction;" fm ∧ fm.isRef = true)
def E (u : Int32) (r : Option Value) (s w : State) : Prop := XT.PureE (some (.int (chr8 u))) r s w
theorem law (l : Launch) (t : Addr) (V : Cell) (i : Nat) (u : Int32) (fm : Value) : Law l yN 2 2 2 27 yB 2 (some .char) site (P t V i u fm) (E u) [] 0 0 := by
  refine Law.of_walk (plainFor_of_name (by decide +kernel)) (by decide +kernel) (by decide +kernel) (by decide) (fun _ _ h => by rw [h.1]; rfl) (fun _ U U' hal hh h => ⟨h.1, h.2.1.mv hal hh, h.2.2.1, h.2.2.2.1.there hal hh, h.2.2.2.2⟩) (fun r U U' V V' h1 hal h2 h => XT.PureE.mv r U U' V V' h1 hal h2 h) ?_
  intro p e s m args below meth c s₁ X0 hexec hbytes hml hret hlk hnm hown hh0 W hP
  obtain ⟨rfl, hV, hu, s1, rf⟩ := hP
  have v31 := hV.2.2.2
  have hi : i < V.slots.size := (Array.getElem?_eq_some_iff.mp hu).1
  have c1 : Steps p.tables e below (s₁.setTop (entryFrame m #[.ref t, .int (Int32.ofNat i)] 2)) (s₁.setTop (mkF m 0 #[.val (.ref t), .val (.int (Int32.ofNat i))] [])) := entry rfl
  have c2 : Steps p.tables e below (s₁.setTop (entryFrame m #[.ref t, .int (Int32.ofNat i)] 2)) (s₁.setTop (mkF m 3 #[.val (.ref t), .val (.int (Int32.ofNat i))] [.int (Int32.ofNat V.slots.size), .int (Int32.ofNat i)])) := c1.trans (by
    refine XS.iloadN X0.here hexec rfl (hb hbytes d0) rfl ?_
    refine XS.aloadN X0.here hexec rfl (hb hbytes d1) rfl rfl ?_
    refine X0.alen hexec (hV.mv X0.warmed.alike hh0) rfl rfl (hb hbytes d2) ?_
    exact Steps.refl _)
  obtain ⟨v3, T3, X3, E3, g3⟩ := X0.callS hexec (JO.Str_checkIndex.law l (Int32.ofNat i) (Int32.ofNat V.slots.size) fm) hown (wks W (staticW "java/lang/StringLatin1" 9 JO.Str_checkIndex.yN)) (wk W JO.Str_checkIndex.tab) (W := 0) (Nat.le_of_ble_eq_true rfl) (Nat.le_of_ble_eq_true rfl) (Nat.le_refl _) (Nat.le_refl _) (g := (mkF m 3 #[.val (.ref t), .val (.int (Int32.ofNat i))] [.int (Int32.ofNat V.slots.size), .int (Int32.ofNat i)])) rfl (by rw [hml]; rfl) c2 (argsL := [.int (Int32.ofNat i), .int (Int32.ofNat V.slots.size)]) (rest := []) rfl rfl (by show 2 * 0 + 0 ≤ _; decide) (hb hbytes d3) (⟨rfl, rf, s1.there X0.warmed.alike hh0, Int32.ofNat_not_neg (by omega), lt32 v31 hi⟩)
  obtain ⟨rfl, q3⟩ := E3
  have hh3 := q3.trans hh0
  have c4 : Steps p.tables e below (s₁.setTop (entryFrame m #[.ref t, .int (Int32.ofNat i)] 2)) (T3.setTop (mkF m 14 #[.val (.ref t), .val (.int (Int32.ofNat i))] [.int (chr8 u)])) := Steps.trans g3 (by
    refine XS.aloadN X3.here hexec rfl (hb hbytes d6) rfl rfl ?_
    refine XS.iloadN X3.here hexec rfl (hb hbytes d7) rfl ?_
    refine X3.aget hexec (hV.mv X3.warmed.alike hh3) rfl hu rfl rfl (hb hbytes d8) ?_
    refine sipushV X3.here hexec rfl 255 (hb hbytes d9) (by decide) ?_
    refine XS.iand X3.here hexec rfl (hb hbytes d12) rfl ?_
    refine i2c X3.here hexec rfl (hb hbytes d13) rfl ?_
    exact Steps.refl _)
  exact ⟨T3, some (.int (chr8 u)), _, _, _, X3, rfl, rfl, rfl, (fun h => by cases h), ⟨rfl, hh3⟩, fun fs hl => c4.trans (X3.ireturnOut hexec hret (narrow_c _) (Or.inr (Or.inr (Or.inr (Or.inl rfl)))) (hb hbytes d14) hl)⟩
end LChA
end StrChars
namespace StrChars.Road
open Jvm Sem ClassFile Op Lib Jvm.Stand Jvm.Free Jvm.Free.XT
open Jvm.Lib.Cold (StaticIs)
theorem consq {a : Array Value} {s : State} {c : Jvm.Cond} {L : List Jvm.Cond} (h0 : c.before a s = true) (h : ∀ w ∈ L, w.before a s = true) : ∀ w ∈ c :: L, w.before a s = true := fun w hw => (List.mem_cons.mp hw).elim (fun e => e ▸ h0) (h w)
/-- the bytes of the chars cs, low before high -/
def wideBytes : List Int32 → List Value
  | [] => []
  | c :: cs => .int (lo8 c) :: .int (hi8 c) :: wideBytes cs
theorem wide_lo (d : Value) : ∀ (cs : List Int32) (j : Nat), j < cs.length → (wideBytes cs).getD (2 * j) d = .int (lo8 (cs.getD j 0))
  | [], j, h => absurd h (Nat.not_lt_zero j)
  | c :: cs, 0, _ => rfl
  | c :: cs, j + 1, h => by
    have q := wide_lo d cs j (by simpa using h)
    rw [show 2 * (j + 1) = 2 * j + 1 + 1 from by omega]
    simpa [wideBytes] using q
theorem wide_hi (d : Value) : ∀ (cs : List Int32) (j : Nat), j < cs.length → (wideBytes cs).getD (2 * j + 1) d = .int (hi8 (cs.getD j 0))
  | [], j, h => absurd h (Nat.not_lt_zero j)
  | c :: cs, 0, _ => rfl
  | c :: cs, j + 1, h => by
    have q := wide_hi d cs j (by simpa using h)
    rw [show 2 * (j + 1) + 1 = 2 * j + 1 + 1 + 1 from by omega]
    simpa [wideBytes] using q
theorem low_at (d : Value) (cs : List Int32) (j : Nat) (h : j < cs.length) : (cs.map fun c => Value.int (lo8 c)).getD j d = .int (lo8 (cs.getD j 0)) := by
  simp [List.getD_eq_getElem?_getD, h]
/-- an array of N2 bytes vs codes the chars cs by the coder cd -/
def CodA (cs : List Int32) (cd N2 : Int32) (vs : List Value) : Prop := (cd = 0 ∧ N2 = Int32.ofNat cs.length ∧ vs = (cs.map fun c => Value.int (lo8 c)) ∧ ∀ c ∈ cs, ¬ 255 < c) ∨ (cd = 1 ∧ N2 = Int32.ofNat (2 * cs.length) ∧ vs = wideBytes cs ∧ ∃ c ∈ cs, 255 < c)
theorem CodA.cod {cs : List Int32} {cd N2 : Int32} {vs : List Value} {V : Cell} (h : CodA cs cd N2 vs) (hn : 2 * cs.length < 2 ^ 31) (hs : V.slots.size = N2.toNatClampNeg) (hv : RoadKit.Has V vs (.int 0)) : Cod cd cs.length (fun j => cs.getD j 0) V := by
  rcases h with ⟨rfl, rfl, rfl, h⟩ | ⟨rfl, rfl, rfl, c, hc, hw⟩
  · rw [n32 (by omega)] at hs
    exact Or.inl ⟨rfl, hs, fun j hj => ⟨by rw [hv j (by omega), low_at _ _ _ hj], by
      have e : cs.getD j 0 = cs[j] := by simp [List.getD_eq_getElem?_getD, hj]
      show ¬ 255 < cs.getD j 0
      rw [e]; exact h _ (List.getElem_mem _)⟩⟩
  · rw [n32 (by omega)] at hs
    obtain ⟨j, hj, rfl⟩ := List.getElem_of_mem hc
    exact Or.inr ⟨rfl, hs, fun j hj => ⟨by rw [hv _ (by omega), wide_lo _ _ _ hj], by rw [hv _ (by omega), wide_hi _ _ _ hj]⟩, j, hj, by
      have e : cs.getD j 0 = cs[j] := by simp [List.getD_eq_getElem?_getD, hj]
      show 255 < cs.getD j 0
      rw [e]; exact hw⟩
/-- an object of exactly java/lang/String, its two fields found: as the laws ask it -/
theorem strObj {Z U : State} {a0 : Array Value} {kI : Nat} (wi : (Jvm.Cond.instantiable ST kI).before a0 Z = true) (al : Z.vm.Alike U.vm) {x : Addr} {v0 c0 : Value} (E : RoadKit.Exa Z U.heap x ST) (V : RoadKit.Fld Z U.heap x ST "value" "[B" v0) (C : RoadKit.Fld Z U.heap x ST "coder" "B" c0) :
    ∃ (D : Cell) (fV fC : Field), Blank ST x D U ∧ Found ST "value" "[B" fV U ∧ Found ST "coder" "B" fC U ∧ D.slots[fV.slot]? = some v0 ∧ D.slots[fC.slot]? = some c0 ∧ RoadKit.slotOf Z ST "value" "[B" = fV.slot ∧ RoadKit.slotOf Z ST "coder" "B" = fC.slot := by
  obtain ⟨D, cfV, kV, iV, fV, hD, gV, stV, knV, obV, asV, slV⟩ := V
  obtain ⟨D', cfC, kC, iC, fC, hD', gC, stC, -, -, asC, slC⟩ := C
  cases hD.symm.trans hD'
  obtain ⟨D2, kD, e1, e2, e3, e4, e5⟩ := E
  cases hD.symm.trans e1
  obtain ⟨c2, k2, i1, i2, i3, -⟩ := Cond.instantiable_spec wi
  cases e2.symm.trans i1
  cases e3.symm.trans i2
  obtain ⟨kU, u1, u2⟩ := al.2.2 _ _ e3
  exact ⟨D, fV, fC, ⟨hD, ⟨knV, fun q hq => by rw [hq] at obV; cases obV⟩, by rw [al.findClass]; exact e2, kU, u1, by rw [u2]; exact i3, by rw [u2]; exact e5 i3⟩, ⟨SBG.found_only al ⟨cfV, kV, iV, gV⟩, stV⟩, ⟨SBG.found_only al ⟨cfC, kC, iC, gC⟩, stC⟩, slV, slC, by simp [RoadKit.slotOf, gV], by simp [RoadKit.slotOf, gC]⟩
theorem sta_is {Z U : State} (al : Z.vm.Alike U.vm) {C n d : String} {v : Value} (S : RoadKit.Sta Z U.heap C n d v) : StaticIs U C n d v := by
  obtain ⟨cfS, iS, kS, fS, st, cS, t1, t2, t3, t4, t5, t6, t7⟩ := S
  exact StaticIs.there (s := { Z with heap := U.heap }) ⟨cfS, iS, kS, fS, st, cS, t1, t2, t3, t4, t5, (fun q => by rw [q] at t6; cases t6), t7⟩ al rfl
end StrChars.Road
namespace StrChars
open Jvm Sem ClassFile Op Lib Jvm.Stand Jvm.Free.XT Jvm.Free.ALB Jvm.Free.JM Jvm.Free
open Jvm.Lib.Cold (StaticIs)
/-- what place i of a byte[]'s cell holds -/
def yv (A : Cell) (i : Nat) : Int32 := match A.slots[i]? with | some (.int x) => x | _ => 0
theorem yv_get {a : Addr} {A : Cell} {U : State} (h : XT.Arr .byte a A U) (ht : Typed .byte A) {i : Nat} (hi : i < A.slots.size) : A.slots[i]? = some (.int (yv A i)) := by
  have e := Array.getElem?_eq_getElem hi
  have f := ht i _ e
  unfold yv; rw [e]
  generalize A.slots[i] = v at f
  cases v <;> simp [fits] at f ⊢
/-- the two arrays are equal, place for place -/
def EqC (A B : Cell) : Prop := A.slots.size = B.slots.size ∧ ∀ i, i < A.slots.size → yv A i = yv B i
/-- a boolean that says whether p -/
def Says01 (q : Prop) (r : Option Value) (s u : State) : Prop := ∃ v : Int32, r = some (.int v) ∧ u.heap = s.heap ∧ ((v = 1 ∧ q) ∨ (v = 0 ∧ ¬ q))
theorem Says01.mv {q : Prop} : ∀ r (U U' V V' : State), U'.heap = U.heap → V.vm.Alike V'.vm → V'.heap = V.heap → Says01 q r U V → Says01 q r U' V' :=
  fun r U U' V V' h1 _ h2 ⟨v, a, b, c⟩ => ⟨v, a, by rw [h1, h2]; exact b, c⟩
namespace LEq
def yN : MethodName := ⟨"java/lang/StringLatin1", "equals", "([B[B)Z"⟩
abbrev yB : ByteArray := jdk_43_method_13_code
theorem d0 : decode yB 0 = .ok (.aload_n 0, 1) := by decide +kernel
theorem d1 : decode yB 1 = .ok (.arraylength, 1) := by decide +kernel
theorem d2 : decode yB 2 = .ok (.aload_n 1, 1) := by decide +kernel
theorem d3 : decode yB 3 = .ok (.arraylength, 1) := by decide +kernel
theorem d4 : decode yB 4 = .ok (.if_icmp (.ne) 30, 3) := by decide +kernel
theorem d7 : decode yB 7 = .ok (.iconst 0, 1) := by decide +kernel
theorem d8 : decode yB 8 = .ok (.istore_n 2, 1) := by decide +kernel
theorem d9 : decode yB 9 = .ok (.iload_n 2, 1) := by decide +kernel
theorem d10 : decode yB 10 = .ok (.aload_n 0, 1) := by decide +kernel
theorem d11 : decode yB 11 = .ok (.arraylength, 1) := by decide +kernel
theorem d12 : decode yB 12 = .ok (.if_icmp (.ge) 20, 3) := by decide +kernel
theorem d15 : decode yB 15 = .ok (.aload_n 0, 1) := by decide +kernel
theorem d16 : decode yB 16 = .ok (.iload_n 2, 1) := by decide +kernel
theorem d17 : decode yB 17 = .ok (.baload, 1) := by decide +kernel
theorem d18 : decode yB 18 = .ok (.aload_n 1, 1) := by decide +kernel
theorem d19 : decode yB 19 = .ok (.iload_n 2, 1) := by decide +kernel
theorem d20 : decode yB 20 = .ok (.baload, 1) := by decide +kernel
theorem d21 : decode yB 21 = .ok (.if_icmp (.eq) 5, 3) := by decide +kernel
theorem d24 : decode yB 24 = .ok (.iconst 0, 1) := by decide +kernel
theorem d25 : decode yB 25 = .ok (.ireturn, 1) := by decide +kernel
theorem d26 : decode yB 26 = .ok (.iinc 2 1, 3) := by decide +kernel
theorem d29 : decode yB 29 = .ok (.goto (-20), 3) := by decide +kernel
theorem d32 : decode yB 32 = .ok (.iconst 1, 1) := by decide +kernel
theorem d33 : decode yB 33 = .ok (.ireturn, 1) := by decide +kernel
theorem d34 : decode yB 34 = .ok (.iconst 0, 1) := by decide +kernel
theorem d35 : decode yB 35 = .ok (.ireturn, 1) := by decide +kernel
def site : List Cond := []
def tab : Cond := tabOf yN yB 3 (some .boolean) site
def P (a : Addr) (A : Cell) (b : Addr) (B : Cell) (args : Array Value) (s : State) : Prop := args = #[.ref a, .ref b] ∧ XT.Arr .byte a A s ∧ Typed .byte A ∧ XT.Arr .byte b B s ∧ Typed .byte B
/-- whether two byte[] are equal, place for place -/
theorem law (l : Launch) (a : Addr) (A : Cell) (b : Addr) (B : Cell) : Law l yN 2 2 0 0 yB 3 (some .boolean) site (P a A b B) (Says01 (EqC A B)) [] 0 0 := by
  refine Law.of_walk (plainFor_of_name (by decide +kernel)) (by decide +kernel) (by decide +kernel) (by decide) (fun _ _ h => by rw [h.1]; rfl) (fun _ U U' hal hh h => ⟨h.1, h.2.1.mv hal hh, h.2.2.1, h.2.2.2.1.mv hal hh, h.2.2.2.2⟩) (fun r U U' V V' h1 hal h2 h => Says01.mv r U U' V V' h1 hal h2 h) ?_
  intro p e s m args below meth c s₁ X0 hexec hbytes hml hret hlk hnm hown hh0 W hP
  obtain ⟨rfl, hA, tA, hB, tB⟩ := hP
  have a31 := hA.2.2.2
  have b31 := hB.2.2.2
  have hA0 := hA.mv X0.warmed.alike hh0
  have hB0 := hB.mv X0.warmed.alike hh0
  have c1 : Steps p.tables e below (s₁.setTop (entryFrame m #[.ref a, .ref b] 3)) (s₁.setTop (mkF m 0 #[.val (.ref a), .val (.ref b), .unset] [])) := entry rfl
  have c2 : Steps p.tables e below (s₁.setTop (entryFrame m #[.ref a, .ref b] 3)) (s₁.setTop (mkF m 4 #[.val (.ref a), .val (.ref b), .unset] [.int (Int32.ofNat B.slots.size), .int (Int32.ofNat A.slots.size)])) := c1.trans (by
    refine XS.aloadN X0.here hexec rfl (hb hbytes d0) rfl rfl ?_
    refine X0.alen hexec hA0 rfl rfl (hb hbytes d1) ?_
    refine XS.aloadN X0.here hexec rfl (hb hbytes d2) rfl rfl ?_
    refine X0.alen hexec hB0 rfl rfl (hb hbytes d3) ?_
    exact Steps.refl _)
  by_cases hs : A.slots.size = B.slots.size
  · have c3 : Steps p.tables e below (s₁.setTop (entryFrame m #[.ref a, .ref b] 3)) (s₁.setTop (mkF m 9 #[.val (.ref a), .val (.ref b), .val (.int 0)] [])) := c2.trans (by
      refine XS.icmpNo X0.here hexec rfl (hb hbytes d4) rfl (ii_ne_f (by rw [hs])) ?_
      refine iconstV X0.here hexec rfl 0 (hb hbytes d7) (by decide) ?_
      refine XS.istoreN X0.here hexec rfl (hb hbytes d8) rfl rfl ?_
      exact Steps.refl _)
    have loop : ∀ (r i : Nat), i + r = A.slots.size → (∀ j, j < i → yv A j = yv B j) → Steps p.tables e below (s₁.setTop (entryFrame m #[.ref a, .ref b] 3)) (s₁.setTop (mkF m 9 #[.val (.ref a), .val (.ref b), .val (.int (Int32.ofNat i))] [])) → ∃ (pc : Nat) (Ls : Array Slot) (v : Int32), (pc = 25 ∨ pc = 33) ∧ ((v = 1 ∧ EqC A B) ∨ (v = 0 ∧ ¬ EqC A B)) ∧ Steps p.tables e below (s₁.setTop (entryFrame m #[.ref a, .ref b] 3)) (s₁.setTop (mkF m pc Ls [.int v])) := by
      intro r
      induction r with
      | zero =>
        intro i hi he cl
        exact ⟨33, _, 1, Or.inr rfl, Or.inl ⟨rfl, hs, fun j hj => he j (by omega)⟩, cl.trans (by
          refine XS.iloadN X0.here hexec rfl (hb hbytes d9) rfl ?_
          refine XS.aloadN X0.here hexec rfl (hb hbytes d10) rfl rfl ?_
          refine X0.alen hexec hA0 rfl rfl (hb hbytes d11) ?_
          refine XS.icmpYes X0.here hexec rfl (pc0 := 12) rfl (hb hbytes d12) rfl (ii_ge_t (nlt32 (by omega) (by omega))) (by decide) rfl ?_
          refine iconstV X0.here hexec rfl 1 (hb hbytes d32) (by decide) ?_
          exact Steps.refl _)⟩
      | succ r ih =>
        intro i hi he cl
        have c4 : Steps p.tables e below (s₁.setTop (entryFrame m #[.ref a, .ref b] 3)) (s₁.setTop (mkF m 21 #[.val (.ref a), .val (.ref b), .val (.int (Int32.ofNat i))] [.int (yv B i), .int (yv A i)])) := cl.trans (by
          refine XS.iloadN X0.here hexec rfl (hb hbytes d9) rfl ?_
          refine XS.aloadN X0.here hexec rfl (hb hbytes d10) rfl rfl ?_
          refine X0.alen hexec hA0 rfl rfl (hb hbytes d11) ?_
          refine XS.icmpNo X0.here hexec rfl (hb hbytes d12) rfl (ii_ge_f (lt32 (by omega) (by omega))) ?_
          refine XS.aloadN X0.here hexec rfl (hb hbytes d15) rfl rfl ?_
          refine XS.iloadN X0.here hexec rfl (hb hbytes d16) rfl ?_
          refine X0.aget hexec hA0 rfl (yv_get hA tA (i := i) (by omega)) rfl rfl (hb hbytes d17) ?_
          refine XS.aloadN X0.here hexec rfl (hb hbytes d18) rfl rfl ?_
          refine XS.iloadN X0.here hexec rfl (hb hbytes d19) rfl ?_
          refine X0.aget hexec hB0 rfl (yv_get hB tB (i := i) (by omega)) rfl rfl (hb hbytes d20) ?_
          exact Steps.refl _)
        by_cases hv : yv A i = yv B i
        · have c5 : Steps p.tables e below (s₁.setTop (entryFrame m #[.ref a, .ref b] 3)) (s₁.setTop (mkF m 9 #[.val (.ref a), .val (.ref b), .val (.int (Int32.ofNat i + 1))] [])) := c4.trans (by
            refine XS.icmpYes X0.here hexec rfl (pc0 := 21) rfl (hb hbytes d21) rfl (ii_eq_t hv) (by decide) rfl ?_
            refine iincV X0.here hexec rfl 1 (hb hbytes d26) (by decide) rfl rfl ?_
            refine XS.goto X0.here hexec rfl (pc0 := 29) rfl (hb hbytes d29) (by decide) rfl ?_
            exact Steps.refl _)
          rw [succ32] at c5
          exact ih (i + 1) (by omega) (fun j hj => by
            by_cases e : j = i
            · rw [e]; exact hv
            · exact he j (by omega)) c5
        · exact ⟨25, _, 0, Or.inl rfl, Or.inr ⟨rfl, fun q => hv (q.2 i (by omega))⟩, c4.trans (by
            refine XS.icmpNo X0.here hexec rfl (hb hbytes d21) rfl (ii_eq_f hv) ?_
            refine iconstV X0.here hexec rfl 0 (hb hbytes d24) (by decide) ?_
            exact Steps.refl _)⟩
    obtain ⟨pc, Ls, v, hpc, hv, cz⟩ := loop A.slots.size 0 (by omega) (fun j hj => absurd hj (Nat.not_lt_zero j)) c3
    have nv : narrow .boolean (.int v) = .int v := by rcases hv with ⟨rfl, -⟩ | ⟨rfl, -⟩ <;> rfl
    rcases hpc with rfl | rfl
    · exact ⟨s₁, some (.int v), _, _, _, X0, rfl, rfl, rfl, (fun h => by cases h), ⟨v, rfl, hh0, hv⟩, fun fs hl => cz.trans (X0.ireturnOut hexec hret nv (Or.inr (Or.inl rfl)) (hb hbytes d25) hl)⟩
    · exact ⟨s₁, some (.int v), _, _, _, X0, rfl, rfl, rfl, (fun h => by cases h), ⟨v, rfl, hh0, hv⟩, fun fs hl => cz.trans (X0.ireturnOut hexec hret nv (Or.inr (Or.inl rfl)) (hb hbytes d33) hl)⟩
  · have c3 : Steps p.tables e below (s₁.setTop (entryFrame m #[.ref a, .ref b] 3)) (s₁.setTop (mkF m 35 #[.val (.ref a), .val (.ref b), .unset] [.int 0])) := c2.trans (by
      refine XS.icmpYes X0.here hexec rfl (pc0 := 4) rfl (hb hbytes d4) rfl (ii_ne_t (ne32 a31 b31 hs)) (by decide) rfl ?_
      refine iconstV X0.here hexec rfl 0 (hb hbytes d34) (by decide) ?_
      exact Steps.refl _)
    exact ⟨s₁, some (.int 0), _, _, _, X0, rfl, rfl, rfl, (fun h => by cases h), ⟨0, rfl, hh0, Or.inr ⟨rfl, fun q => hs q.1⟩⟩, fun fs hl => c3.trans (X0.ireturnOut hexec hret rfl (Or.inr (Or.inl rfl)) (hb hbytes d35) hl)⟩
end LEq
theorem Cod.ty {cd : Int32} {n : Nat} {f : Nat → Int32} {V : Cell} (h : Cod cd n f V) : Typed .byte V := fun i v hv => by
  have hi : i < V.slots.size := (Array.getElem?_eq_some_iff.mp hv).1
  rcases h with ⟨-, k1, k2⟩ | ⟨-, k1, k2, -⟩
  · rw [(k2 i (by omega)).1] at hv; cases hv; exact fits_lo8 _
  · rcases Nat.mod_two_eq_zero_or_one i with e | e
    · obtain ⟨j, rfl⟩ : ∃ j, i = 2 * j := ⟨i / 2, by omega⟩
      rw [(k2 j (by omega)).1] at hv; cases hv; exact fits_lo8 _
    · obtain ⟨j, rfl⟩ : ∃ j, i = 2 * j + 1 := ⟨i / 2, by omega⟩
      rw [(k2 j (by omega)).2] at hv; cases hv; exact fits_lo8 _
/-- the same text -/
def SameT (n : Nat) (f : Nat → Int32) (k : Nat) (g : Nat → Int32) : Prop := n = k ∧ ∀ j, j < n → f j = g j
theorem lo8_inj {x y : Int32} (h0 : ¬ x < 0) (h1 : ¬ 255 < x) (k0 : ¬ y < 0) (k1 : ¬ 255 < y) (h : lo8 x = lo8 y) : x = y := by
  rw [← lo8_mask h0 h1, ← lo8_mask k0 k1, h]
/-- arrays coded by one coder are equal just where the texts are -/
theorem Cod.eqv {cd : Int32} {n k : Nat} {f g : Nat → Int32} {V V' : Cell} (h : Cod cd n f V) (h' : Cod cd k g V') (hf : ∀ j, j < n → ¬ f j < 0 ∧ ¬ 65535 < f j) (hg : ∀ j, j < k → ¬ g j < 0 ∧ ¬ 65535 < g j) : EqC V V' ↔ SameT n f k g := by
  have yvv : ∀ {W : Cell} {i : Nat} {x : Int32}, W.slots[i]? = some (.int x) → yv W i = x := fun q => by unfold yv; rw [q]
  rcases h with ⟨rfl, k1, k2⟩ | ⟨rfl, k1, k2, -⟩
  · rcases h' with ⟨-, m1, m2⟩ | ⟨e, -⟩
    · constructor
      · rintro ⟨e1, e2⟩
        refine ⟨by omega, fun j hj => ?_⟩
        have q := e2 j (by omega)
        rw [yvv (k2 j hj).1, yvv (m2 j (by omega)).1] at q
        exact lo8_inj (hf j hj).1 (k2 j hj).2 (hg j (by omega)).1 (m2 j (by omega)).2 q
      · rintro ⟨rfl, e2⟩
        refine ⟨by omega, fun j hj => ?_⟩
        rw [yvv (k2 j (by omega)).1, yvv (m2 j (by omega)).1, e2 j (by omega)]
    · exact absurd e (by decide)
  · rcases h' with ⟨e, -⟩ | ⟨-, m1, m2, -⟩
    · exact absurd e (by decide)
    · constructor
      · rintro ⟨e1, e2⟩
        refine ⟨by omega, fun j hj => ?_⟩
        have q1 := e2 (2 * j) (by omega)
        have q2 := e2 (2 * j + 1) (by omega)
        rw [yvv (k2 j hj).1, yvv (m2 j (by omega)).1] at q1
        rw [yvv (k2 j hj).2, yvv (m2 j (by omega)).2] at q2
        rw [← pair_says (hf j hj).1 (hf j hj).2, ← pair_says (hg j (by omega)).1 (hg j (by omega)).2, q1, q2]
      · rintro ⟨rfl, e2⟩
        refine ⟨by omega, fun i hi => ?_⟩
        rcases Nat.mod_two_eq_zero_or_one i with e | e
        · obtain ⟨j, rfl⟩ : ∃ j, i = 2 * j := ⟨i / 2, by omega⟩
          rw [yvv (k2 j (by omega)).1, yvv (m2 j (by omega)).1, e2 j (by omega)]
        · obtain ⟨j, rfl⟩ : ∃ j, i = 2 * j + 1 := ⟨i / 2, by omega⟩
          rw [yvv (k2 j (by omega)).2, yvv (m2 j (by omega)).2, e2 j (by omega)]
/-- two codings differ: so do the texts -/
theorem Cod.dif {cd cd' : Int32} {n k : Nat} {f g : Nat → Int32} {V V' : Cell} (h : Cod cd n f V) (h' : Cod cd' k g V') (hne : ¬ cd = cd') : ¬ SameT n f k g := by
  rintro ⟨rfl, e⟩
  rcases h with ⟨rfl, -, k2⟩ | ⟨rfl, -, -, j, hj, hw⟩
  · rcases h' with ⟨rfl, -⟩ | ⟨-, -, -, j, hj, hw⟩
    · exact hne rfl
    · exact (k2 j hj).2 (by rw [e j hj]; exact hw)
  · rcases h' with ⟨-, -, m2⟩ | ⟨rfl, -⟩
    · exact (m2 j hj).2 (by rw [← e j hj]; exact hw)
    · exact hne rfl
/-- an object of exactly C is an instance of C -/
theorem cinst {p : Program} {l : Launch} {e : Env} {R : Room} {s : State} {m : MethodId} {args : Array Value} {below : List Frame} {meth : Method} {c : Code} {T : State} {locs : List Loc} {cells slots : Nat} (X : Stand p l e R s m args below meth c T locs cells slots) (hexec : p.tables.exec = Jvm.exec) {own C : String} {index : Nat} (hown : s.vm.findClass own = some m.cls) (hlink : (Cond.classLink own index C).before args s = true) {a : Addr} (hE : Exact C a T)
    {g : JFrame} (hg : g.method = m) {rest : List Value} (hstack : g.stack = .ref a :: rest) (hdg : decode c.code g.pc = .ok (.instanceof index, 3)) :
    ∃ T', Stand p l e R s m args below meth c T' locs cells slots ∧ T'.heap = T.heap ∧ ∀ target, Steps p.tables e below (T'.setTop { g with pc := g.pc + 3, stack := .int 1 :: rest }) target → Steps p.tables e below (T.setTop g) target := by
  obtain ⟨cB, h1, D, h2, h3, h4⟩ := hE
  have h1' : s.vm.findClass C = some cB := by rw [← X.warmed.alike.findClass]; exact h1
  obtain ⟨vm', X', st⟩ := X.instanceofYes hexec hown hlink h2 h4 h1' (by rw [h3]; exact Jvm.Free.SB.assignable_self _ _) hg hstack hdg
  exact ⟨_, X', rfl, st⟩
theorem cself {p : Program} {l : Launch} {e : Env} {R : Room} {s : State} {m : MethodId} {args : Array Value} {below : List Frame} {meth : Method} {c : Code} {T : State} {locs : List Loc} {cells slots : Nat} (X : Stand p l e R s m args below meth c T locs cells slots) (hexec : p.tables.exec = Jvm.exec) {own C : String} {index : Nat} (hown : s.vm.findClass own = some m.cls) (hlink : (Cond.classLink own index C).before args s = true) {a : Addr} (hE : Exact C a T)
    {g : JFrame} (hg : g.method = m) {rest : List Value} (hstack : g.stack = .ref a :: rest) (hdg : decode c.code g.pc = .ok (.checkcast index, 3)) :
    ∃ T', Stand p l e R s m args below meth c T' locs cells slots ∧ T'.heap = T.heap ∧ ∀ target, Steps p.tables e below (T'.setTop { g with pc := g.pc + 3, stack := .ref a :: rest }) target → Steps p.tables e below (T.setTop g) target := by
  obtain ⟨cB, h1, D, h2, h3, h4⟩ := hE
  have h1' : s.vm.findClass C = some cB := by rw [← X.warmed.alike.findClass]; exact h1
  obtain ⟨vm', X', st⟩ := X.checkcastYes hexec hown hlink h2 h4 h1' (by rw [h3]; exact Jvm.Free.SB.assignable_self _ _) hg hstack hdg
  exact ⟨_, X', rfl, fun t h => st t (by rw [← hstack] at h; exact h)⟩
namespace SEq
def yN : MethodName := ⟨"java/lang/String", "equals", "(Ljava/lang/Object;)Z"⟩
abbrev yB : ByteArray := jdk_42_method_66_code
theorem d0 : decode yB 0 = .ok (.aload_n 0, 1) := by decide +kernel
theorem d1 : decode yB 1 = .ok (.aload_n 1, 1) := by decide +kernel
theorem d2 : decode yB 2 = .ok (.if_acmp (.ne) 5, 3) := by decide +kernel
theorem d5 : decode yB 5 = .ok (.iconst 1, 1) := by decide +kernel
theorem d6 : decode yB 6 = .ok (.ireturn, 1) := by decide +kernel
theorem d7 : decode yB 7 = .ok (.aload_n 1, 1) := by decide +kernel
theorem d8 : decode yB 8 = .ok (.instanceof 10, 3) := by decide +kernel
theorem d11 : decode yB 11 = .ok (.ifCond (.eq) 43, 3) := by decide +kernel
theorem d14 : decode yB 14 = .ok (.aload_n 1, 1) := by decide +kernel
theorem d15 : decode yB 15 = .ok (.checkcast 10, 3) := by decide +kernel
theorem d18 : decode yB 18 = .ok (.astore_n 2, 1) := by decide +kernel
theorem d19 : decode yB 19 = .ok (.getstatic 38, 3) := by decide +kernel
theorem d22 : decode yB 22 = .ok (.ifCond (.eq) 14, 3) := by decide +kernel
theorem d25 : decode yB 25 = .ok (.aload_n 0, 1) := by decide +kernel
theorem d26 : decode yB 26 = .ok (.getfield 15, 3) := by decide +kernel
theorem d29 : decode yB 29 = .ok (.aload_n 2, 1) := by decide +kernel
theorem d30 : decode yB 30 = .ok (.getfield 15, 3) := by decide +kernel
theorem d33 : decode yB 33 = .ok (.if_icmp (.ne) 21, 3) := by decide +kernel
theorem d36 : decode yB 36 = .ok (.aload_n 0, 1) := by decide +kernel
theorem d37 : decode yB 37 = .ok (.getfield 9, 3) := by decide +kernel
theorem d40 : decode yB 40 = .ok (.aload_n 2, 1) := by decide +kernel
theorem d41 : decode yB 41 = .ok (.getfield 9, 3) := by decide +kernel
theorem d44 : decode yB 44 = .ok (.invokestatic 541, 3) := by decide +kernel
theorem d47 : decode yB 47 = .ok (.ifCond (.eq) 7, 3) := by decide +kernel
theorem d50 : decode yB 50 = .ok (.iconst 1, 1) := by decide +kernel
theorem d51 : decode yB 51 = .ok (.goto 4, 3) := by decide +kernel
theorem d54 : decode yB 54 = .ok (.iconst 0, 1) := by decide +kernel
theorem d55 : decode yB 55 = .ok (.ireturn, 1) := by decide +kernel
def site : List Cond := [.classLink "java/lang/String" 10 "java/lang/String", .fieldLink "java/lang/String" 38 "java/lang/String" "COMPACT_STRINGS" "Z", .fieldLink "java/lang/String" 15 "java/lang/String" "coder" "B", .fieldLink "java/lang/String" 9 "java/lang/String" "value" "[B", LEq.tab] ++ staticW "java/lang/String" 541 LEq.yN
def tab : Cond := tabOf yN yB 3 (some .boolean) site
def P (x t : Addr) (V : Cell) (cd : Int32) (n : Nat) (f : Nat → Int32) (y t' : Addr) (V' : Cell) (cd' : Int32) (k : Nat) (g : Nat → Int32) (z : Int32) (args : Array Value) (s : State) : Prop := args = #[.ref x, .ref y] ∧ Txt x t V cd n f s ∧ Txt y t' V' cd' k g s ∧ StaticIs s "java/lang/String" "COMPACT_STRINGS" "Z" (.int z) ∧ ¬ z = 0
/-- equals(Object) of two Strings: whether the texts are the same -/
theorem law (l : Launch) (x t : Addr) (V : Cell) (cd : Int32) (n : Nat) (f : Nat → Int32) (y t' : Addr) (V' : Cell) (cd' : Int32) (k : Nat) (g : Nat → Int32) (z : Int32) : Law l yN 2 1 1 14 yB 3 (some .boolean) site (P x t V cd n f y t' V' cd' k g z) (Says01 (SameT n f k g)) [] 0 0 := by
  refine Law.of_walk (plainFor_of_name (by decide +kernel)) (by decide +kernel) (by decide +kernel) (by decide) (fun _ _ h => by rw [h.1]; rfl) (fun _ U U' hal hh h => ⟨h.1, h.2.1.mv hal hh, h.2.2.1.mv hal hh, h.2.2.2.1.there hal hh, h.2.2.2.2⟩) (fun r U U' V V' h1 hal h2 h => Says01.mv r U U' V V' h1 hal h2 h) ?_
  intro p e s m args below meth c s₁ X0 hexec hbytes hml hret hlk hnm hown hh0 W hP
  obtain ⟨rfl, hx, hy, s1, hz⟩ := hP
  have c1 : Steps p.tables e below (s₁.setTop (entryFrame m #[.ref x, .ref y] 3)) (s₁.setTop (mkF m 2 #[.val (.ref x), .val (.ref y), .unset] [.ref y, .ref x])) := Steps.trans (entry rfl) (by
    show Steps p.tables e below (s₁.setTop (mkF m 0 #[.val (.ref x), .val (.ref y), .unset] [])) _
    refine XS.aloadN X0.here hexec rfl (hb hbytes d0) rfl rfl ?_
    refine XS.aloadN X0.here hexec rfl (hb hbytes d1) rfl rfl ?_
    exact Steps.refl _)
  by_cases hxy : x = y
  · have c2 : Steps p.tables e below (s₁.setTop (entryFrame m #[.ref x, .ref y] 3)) (s₁.setTop (mkF m 6 #[.val (.ref x), .val (.ref y), .unset] [.int 1])) := c1.trans (by
      refine acmpNo X0.here hexec rfl (hb hbytes d2) rfl rfl rfl (by simp [acmp, hxy]) ?_
      refine iconstV X0.here hexec rfl 1 (hb hbytes d5) (by decide) ?_
      exact Steps.refl _)
    subst hxy
    have ec : cd = cd' := by
      obtain ⟨D, fd, a1, a2, a3⟩ := hx.2.2.1
      obtain ⟨D', fd', b1, b2, b3⟩ := hy.2.2.1
      cases a1.symm.trans b1
      obtain ⟨q1, q2, q3, q4⟩ := a2.1
      obtain ⟨r1, r2, r3, r4⟩ := b2.1
      cases q4.symm.trans r4
      cases a3.symm.trans b3; rfl
    have et : t = t' := by
      obtain ⟨D, fd, a1, a2, a3⟩ := hx.2.1
      obtain ⟨D', fd', b1, b2, b3⟩ := hy.2.1
      cases a1.symm.trans b1
      obtain ⟨q1, q2, q3, q4⟩ := a2.1
      obtain ⟨r1, r2, r3, r4⟩ := b2.1
      cases q4.symm.trans r4
      cases a3.symm.trans b3; rfl
    subst ec et
    have ev : V = V' := by cases hx.2.2.2.1.1.symm.trans hy.2.2.2.1.1; rfl
    subst ev
    have hs : SameT n f k g := (Cod.eqv hx.2.2.2.2.1 hy.2.2.2.2.1 hx.2.2.2.2.2 hy.2.2.2.2.2).mp ⟨rfl, fun _ _ => rfl⟩
    exact ⟨s₁, some (.int 1), _, _, _, X0, rfl, rfl, rfl, (fun h => by cases h), ⟨1, rfl, hh0, Or.inl ⟨rfl, hs⟩⟩, fun fs hl => c2.trans (X0.ireturnOut hexec hret rfl (Or.inr (Or.inl rfl)) (hb hbytes d6) hl)⟩
  · have c2 : Steps p.tables e below (s₁.setTop (entryFrame m #[.ref x, .ref y] 3)) (s₁.setTop (mkF m 8 #[.val (.ref x), .val (.ref y), .unset] [.ref y])) := c1.trans (by
      refine acmpYes X0.here hexec rfl (pc0 := 2) rfl (hb hbytes d2) rfl rfl rfl (by simp [acmp, hxy]) (by decide) rfl ?_
      refine XS.aloadN X0.here hexec rfl (hb hbytes d7) rfl rfl ?_
      exact Steps.refl _)
    obtain ⟨T3, X3, q3, st3⟩ := cinst X0 hexec hown (wk W (.classLink "java/lang/String" 10 "java/lang/String")) (hy.mv X0.warmed.alike hh0).1 (g := (mkF m 8 #[.val (.ref x), .val (.ref y), .unset] [.ref y])) rfl (rest := []) rfl (hb hbytes d8)
    have hh3 := q3.trans hh0
    have c4 : Steps p.tables e below (s₁.setTop (entryFrame m #[.ref x, .ref y] 3)) (T3.setTop (mkF m 15 #[.val (.ref x), .val (.ref y), .unset] [.ref y])) := (c2.trans (st3 _ (Steps.refl _))).trans (by
      refine XS.ifNo X3.here hexec rfl (hb hbytes d11) rfl (i0_eq_f (by decide)) ?_
      refine XS.aloadN X3.here hexec rfl (hb hbytes d14) rfl rfl ?_
      exact Steps.refl _)
    obtain ⟨T5, X5, q5, st5⟩ := cself X3 hexec hown (wk W (.classLink "java/lang/String" 10 "java/lang/String")) (hy.mv X3.warmed.alike hh3).1 (g := (mkF m 15 #[.val (.ref x), .val (.ref y), .unset] [.ref y])) rfl (rest := []) rfl (hb hbytes d15)
    have hh5 := q5.trans hh3
    have c6 : Steps p.tables e below (s₁.setTop (entryFrame m #[.ref x, .ref y] 3)) (T5.setTop (mkF m 19 #[.val (.ref x), .val (.ref y), .val (.ref y)] [])) := (c4.trans (st5 _ (Steps.refl _))).trans (by
      refine XS.astoreN X5.here hexec rfl (hb hbytes d18) rfl rfl rfl ?_
      exact Steps.refl _)
    obtain ⟨T7, X7, q7, st7⟩ := X5.sget hexec hown (wk W (.fieldLink "java/lang/String" 38 "java/lang/String" "COMPACT_STRINGS" "Z")) s1 (fun _ _ h => by rw [hh5]; exact h) (g := (mkF m 19 #[.val (.ref x), .val (.ref y), .val (.ref y)] [])) rfl (hb hbytes d19)
    have hh7 := q7.trans hh5
    have c8 : Steps p.tables e below (s₁.setTop (entryFrame m #[.ref x, .ref y] 3)) (T7.setTop (mkF m 26 #[.val (.ref x), .val (.ref y), .val (.ref y)] [.ref x])) := (c6.trans (st7 _ (Steps.refl _))).trans (by
      refine XS.ifNo X7.here hexec rfl (hb hbytes d22) rfl (i0_eq_f hz) ?_
      refine XS.aloadN X7.here hexec rfl (hb hbytes d25) rfl rfl ?_
      exact Steps.refl _)
    obtain ⟨T9, X9, q9, st9⟩ := X7.hget hexec hown (wk W (.fieldLink "java/lang/String" 15 "java/lang/String" "coder" "B")) (hx.mv X7.warmed.alike hh7).2.2.1 (g := (mkF m 26 #[.val (.ref x), .val (.ref y), .val (.ref y)] [.ref x])) rfl (rest := []) rfl (hb hbytes d26)
    have hh9 := q9.trans hh7
    have c10 : Steps p.tables e below (s₁.setTop (entryFrame m #[.ref x, .ref y] 3)) (T9.setTop (mkF m 30 #[.val (.ref x), .val (.ref y), .val (.ref y)] [.ref y, .int cd])) := (c8.trans (st9 _ (Steps.refl _))).trans (by
      refine XS.aloadN X9.here hexec rfl (hb hbytes d29) rfl rfl ?_
      exact Steps.refl _)
    obtain ⟨T11, X11, q11, st11⟩ := X9.hget hexec hown (wk W (.fieldLink "java/lang/String" 15 "java/lang/String" "coder" "B")) (hy.mv X9.warmed.alike hh9).2.2.1 (g := (mkF m 30 #[.val (.ref x), .val (.ref y), .val (.ref y)] [.ref y, .int cd])) rfl (rest := [.int cd]) rfl (hb hbytes d30)
    have hh11 := q11.trans hh9
    have c12 : Steps p.tables e below (s₁.setTop (entryFrame m #[.ref x, .ref y] 3)) (T11.setTop (mkF m 33 #[.val (.ref x), .val (.ref y), .val (.ref y)] [.int cd', .int cd])) := c10.trans (st11 _ (Steps.refl _))
    by_cases hcd : cd = cd'
    · subst hcd
      have c13 : Steps p.tables e below (s₁.setTop (entryFrame m #[.ref x, .ref y] 3)) (T11.setTop (mkF m 37 #[.val (.ref x), .val (.ref y), .val (.ref y)] [.ref x])) := c12.trans (by
        refine XS.icmpNo X11.here hexec rfl (hb hbytes d33) rfl (ii_ne_f rfl) ?_
        refine XS.aloadN X11.here hexec rfl (hb hbytes d36) rfl rfl ?_
        exact Steps.refl _)
      obtain ⟨T14, X14, q14, st14⟩ := X11.hget hexec hown (wk W (.fieldLink "java/lang/String" 9 "java/lang/String" "value" "[B")) (hx.mv X11.warmed.alike hh11).2.1 (g := (mkF m 37 #[.val (.ref x), .val (.ref y), .val (.ref y)] [.ref x])) rfl (rest := []) rfl (hb hbytes d37)
      have hh14 := q14.trans hh11
      have c15 : Steps p.tables e below (s₁.setTop (entryFrame m #[.ref x, .ref y] 3)) (T14.setTop (mkF m 41 #[.val (.ref x), .val (.ref y), .val (.ref y)] [.ref y, .ref t])) := (c13.trans (st14 _ (Steps.refl _))).trans (by
        refine XS.aloadN X14.here hexec rfl (hb hbytes d40) rfl rfl ?_
        exact Steps.refl _)
      obtain ⟨T16, X16, q16, st16⟩ := X14.hget hexec hown (wk W (.fieldLink "java/lang/String" 9 "java/lang/String" "value" "[B")) (hy.mv X14.warmed.alike hh14).2.1 (g := (mkF m 41 #[.val (.ref x), .val (.ref y), .val (.ref y)] [.ref y, .ref t])) rfl (rest := [.ref t]) rfl (hb hbytes d41)
      have hh16 := q16.trans hh14
      have c17 : Steps p.tables e below (s₁.setTop (entryFrame m #[.ref x, .ref y] 3)) (T16.setTop (mkF m 44 #[.val (.ref x), .val (.ref y), .val (.ref y)] [.ref t', .ref t])) := c15.trans (st16 _ (Steps.refl _))
      obtain ⟨v18, T18, X18, E18, g18⟩ := X16.callS hexec (LEq.law l t V t' V') hown (wks W (staticW "java/lang/String" 541 LEq.yN)) (wk W LEq.tab) (W := 0) (Nat.le_of_ble_eq_true rfl) (Nat.le_of_ble_eq_true rfl) (Nat.le_refl _) (Nat.le_refl _) (g := (mkF m 44 #[.val (.ref x), .val (.ref y), .val (.ref y)] [.ref t', .ref t])) rfl (by rw [hml]; rfl) c17 (argsL := [.ref t, .ref t']) (rest := []) rfl rfl (by show 2 * 0 + 0 ≤ _; decide) (hb hbytes d44) (⟨rfl, hx.2.2.2.1.mv X16.warmed.alike hh16, hx.2.2.2.2.1.ty, hy.2.2.2.1.mv X16.warmed.alike hh16, hy.2.2.2.2.1.ty⟩)
      obtain ⟨v, rfl, q18, hv⟩ := E18
      have iff := Cod.eqv hx.2.2.2.2.1 hy.2.2.2.2.1 hx.2.2.2.2.2 hy.2.2.2.2.2
      rcases hv with ⟨rfl, he⟩ | ⟨rfl, he⟩
      · have c19 : Steps p.tables e below (s₁.setTop (entryFrame m #[.ref x, .ref y] 3)) (T18.setTop (mkF m 55 #[.val (.ref x), .val (.ref y), .val (.ref y)] [.int 1])) := Steps.trans g18 (by
          refine XS.ifNo X18.here hexec rfl (hb hbytes d47) rfl (i0_eq_f (by decide)) ?_
          refine iconstV X18.here hexec rfl 1 (hb hbytes d50) (by decide) ?_
          refine XS.goto X18.here hexec rfl (pc0 := 51) rfl (hb hbytes d51) (by decide) rfl ?_
          exact Steps.refl _)
        exact ⟨T18, some (.int 1), _, _, _, X18, rfl, rfl, rfl, (fun h => by cases h), ⟨1, rfl, q18.trans hh16, Or.inl ⟨rfl, iff.mp he⟩⟩, fun fs hl => c19.trans (X18.ireturnOut hexec hret rfl (Or.inr (Or.inl rfl)) (hb hbytes d55) hl)⟩
      · have c19 : Steps p.tables e below (s₁.setTop (entryFrame m #[.ref x, .ref y] 3)) (T18.setTop (mkF m 55 #[.val (.ref x), .val (.ref y), .val (.ref y)] [.int 0])) := Steps.trans g18 (by
          refine XS.ifYes X18.here hexec rfl (pc0 := 47) rfl (hb hbytes d47) rfl (i0_eq_t rfl) (by decide) rfl ?_
          refine iconstV X18.here hexec rfl 0 (hb hbytes d54) (by decide) ?_
          exact Steps.refl _)
        exact ⟨T18, some (.int 0), _, _, _, X18, rfl, rfl, rfl, (fun h => by cases h), ⟨0, rfl, q18.trans hh16, Or.inr ⟨rfl, fun q => he (iff.mpr q)⟩⟩, fun fs hl => c19.trans (X18.ireturnOut hexec hret rfl (Or.inr (Or.inl rfl)) (hb hbytes d55) hl)⟩
    · have c13 : Steps p.tables e below (s₁.setTop (entryFrame m #[.ref x, .ref y] 3)) (T11.setTop (mkF m 55 #[.val (.ref x), .val (.ref y), .val (.ref y)] [.int 0])) := c12.trans (by
        refine XS.icmpYes X11.here hexec rfl (pc0 := 33) rfl (hb hbytes d33) rfl (ii_ne_t hcd) (by decide) rfl ?_
        refine iconstV X11.here hexec rfl 0 (hb hbytes d54) (by decide) ?_
        exact Steps.refl _)
      exact ⟨T11, some (.int 0), _, _, _, X11, rfl, rfl, rfl, (fun h => by cases h), ⟨0, rfl, hh11, Or.inr ⟨rfl, Cod.dif hx.2.2.2.2.1 hy.2.2.2.2.1 hcd⟩⟩, fun fs hl => c13.trans (X11.ireturnOut hexec hret rfl (Or.inr (Or.inl rfl)) (hb hbytes d55) hl)⟩
theorem pays {l : Launch} {R : Room} {p : Program} {e : Env} {below : List Frame} {s : State} {sargs : Array Value} {len W : Nat} (x t : Addr) (V : Cell) (cd : Int32) (n : Nat) (f : Nat → Int32) (y t' : Addr) (V' : Cell) (cd' : Int32) (k : Nat) (g : Nat → Int32) (z : Int32) (htab : tab.before sargs s = true) (hfr : 2 ≤ R.frames) (hlo : W + 28 ≤ R.locals) :
    Back l R p e below s sargs yN len W (fun A₁ a₁ => A₁.cells + 0 ≤ R.cells ∧ A₁.slots + 0 ≤ R.slots ∧ P x t V cd n f y t' V' cd' k g z a₁ A₁.U) (fun A₁ _ v₁ B₁ => Says01 (SameT n f k g) v₁ A₁.U B₁.U ∧ B₁.locs = A₁.locs ++ [] ∧ B₁.cells = A₁.cells + 0 ∧ B₁.slots = A₁.slots + 0) :=
  (law l x t V cd n f y t' V' cd' k g z).pays htab hfr (by omega)
end SEq
end StrChars
namespace StrChars.Road
open Jvm Sem ClassFile Op Lib Jvm.Stand Jvm.Free Jvm.Free.XT
open Jvm.Lib.Cold (StaticIs)
/-- the words of String.equals(Object) -/
abbrev wordsEq : List Jvm.Cond := [.code SEq.yN SEq.yB 3 (some .boolean), .initialized ST, .classLink ST 10 ST, .fieldLink ST 38 ST "COMPACT_STRINGS" "Z", .fieldLink ST 15 ST "coder" "B", .fieldLink ST 9 ST "value" "[B", .methodLink ST 541 LEq.yN, .static LEq.yN, .code LEq.yN LEq.yB 3 (some .boolean), .initialized "java/lang/StringLatin1"]
theorem tabEq_of {a : Array Value} {s : State} (h : ∀ w ∈ wordsEq, w.before a s = true) : SEq.tab.before a s = true := by
  have hl : LEq.tab.before a s = true := unparts (wk h (.code LEq.yN LEq.yB 3 (some .boolean))) (wks h (.initialized LEq.yN.cls :: LEq.site))
  have q := consq hl h
  exact unparts (wk q (.code SEq.yN SEq.yB 3 (some .boolean))) (wks q (.initialized SEq.yN.cls :: SEq.site))
theorem movedEq {Z s : State} {a0 args : Array Value} (hZ : Z.Warmed39 s.vm) (hw : ∀ d ∈ wordsEq, d.before a0 Z = true) : ∀ d ∈ wordsEq, d.before args s = true := fun d hd => by
  have t : ∀ d ∈ wordsEq, (d.onTables && d.keepsFace) = true := by decide +kernel
  exact RoadKit.mv hZ (hw d hd) (t d hd)
/-- the road's facts of a String, as the laws ask it -/
theorem txt_of {Z U : State} {a0 : Array Value} {kI : Nat} (wi : (Jvm.Cond.instantiable ST kI).before a0 Z = true) (al : Z.vm.Alike U.vm) {x t : Addr} {kb : ClassId} {cs : List Int32} {cd N2 : Int32} {vs : List Value} (E : RoadKit.Exa Z U.heap x ST) (V : RoadKit.Fld Z U.heap x ST "value" "[B" (.ref t)) (C : RoadKit.Fld Z U.heap x ST "coder" "B" (.int cd)) (K : RoadKit.Arv Z U.heap t kb .byte N2 vs (.int 0)) (hc : CodA cs cd N2 vs) (hb : ∀ c ∈ cs, ¬ c < 0 ∧ ¬ (65535 : Int32) < c) (l2 : cs.length ≤ 4000) :
    ∃ A, Txt x t A cd cs.length (fun j => cs.getD j 0) U := by
  obtain ⟨A, K1, K2, K3, K4, K5, K6⟩ := K
  have hcod := hc.cod (by omega) K3 K5
  obtain ⟨D, fV, fC, hB, F1, F2, g1, g2, -, -⟩ := strObj wi al E V C
  exact ⟨A, ⟨_, hB.2.2.1, D, hB.1, rfl, by cases q : D.vm <;> first | rfl | exact absurd q (hB.2.1.2 _)⟩, Has.of hB F1 g1, Has.of hB F2 g2, ⟨K1.1, State.isArrayOf_alike al K1.2.1, K1.2.2, by rcases hcod with ⟨-, q, -⟩ | ⟨-, q, -⟩ <;> omega⟩, hcod, fun j hj => by
    have e : cs.getD j 0 = cs[j] := by simp [List.getD_eq_getElem?_getD, hj]
    show ¬ cs.getD j 0 < 0 ∧ ¬ 65535 < cs.getD j 0
    rw [e]; exact hb _ (List.getElem_mem _)⟩
theorem same_list (cs ds : List Int32) : SameT cs.length (fun j => cs.getD j 0) ds.length (fun j => ds.getD j 0) ↔ cs = ds := by
  constructor
  · rintro ⟨e, q⟩
    refine List.ext_getElem e fun j h1 h2 => ?_
    have := q j h1
    simpa [List.getD_eq_getElem?_getD, h1, h2] using this
  · rintro rfl
    exact ⟨rfl, fun _ _ => rfl⟩
/-- **equals(Object) OF TWO SUCH STRINGS**: 1 just where the chars are the same -/
theorem eqW {p : Program} {l : Launch} {e : Env} {R : Room} {s : State} {args : Array Value} {below : List Frame} {len W : Nat} {Z : State} {a0 : Array Value} {h : Heap} (hZ : Z.Warmed39 s.vm) (hw : ∀ d ∈ wordsEq, d.before a0 Z = true) {kI : Nat} (wi : (Jvm.Cond.instantiable ST kI).before a0 Z = true)
    {x t : Addr} {kb : ClassId} {cs : List Int32} {cd N2 : Int32} {vs : List Value} (E : RoadKit.Exa Z h x ST) (V : RoadKit.Fld Z h x ST "value" "[B" (.ref t)) (C : RoadKit.Fld Z h x ST "coder" "B" (.int cd)) (K : RoadKit.Arv Z h t kb .byte N2 vs (.int 0)) (hc : CodA cs cd N2 vs) (hb : ∀ c ∈ cs, ¬ c < 0 ∧ ¬ (65535 : Int32) < c) (l2 : cs.length ≤ 4000)
    {y t' : Addr} {kb' : ClassId} {ds : List Int32} {cd' N2' : Int32} {vs' : List Value} (E' : RoadKit.Exa Z h y ST) (V' : RoadKit.Fld Z h y ST "value" "[B" (.ref t')) (C' : RoadKit.Fld Z h y ST "coder" "B" (.int cd')) (K' : RoadKit.Arv Z h t' kb' .byte N2' vs' (.int 0)) (hc' : CodA ds cd' N2' vs') (hb' : ∀ c ∈ ds, ¬ c < 0 ∧ ¬ (65535 : Int32) < c) (l2' : ds.length ≤ 4000)
    {z : Int32} (S : RoadKit.Sta Z h ST "COMPACT_STRINGS" "Z" (.int z)) (hz : ¬ z = 0) (hfr : 2 ≤ R.frames) (hlo : W + 28 ≤ R.locals) :
    Back l R p e below s args (⟨"java/lang/String", "equals", "(Ljava/lang/Object;)Z"⟩ : MethodName) len W (fun P a => a = #[.ref x, .ref y] ∧ P.U.heap = h ∧ P.cells + 0 ≤ R.cells ∧ P.slots + 0 ≤ R.slots)
      (fun P _ v B => ∃ L, (((v = some (.int 1) ∧ cs = ds) ∨ (v = some (.int 0) ∧ ¬ cs = ds)) ∧ L = [] ∧ B.U.heap = h) ∧ B.locs = P.locs ++ L ∧ B.cells = P.cells + 0 ∧ B.slots = P.slots + 0) := by
  intro m meth c P g ig mk a X hg hsize hdg hW hn hp'
  obtain ⟨rfl, rfl, r1, r2⟩ := hp'
  have al : Z.vm.Alike P.U.vm := hZ.alike.trans X.warmed.alike
  obtain ⟨A, hx⟩ := txt_of wi al E V C K hc hb l2
  obtain ⟨A', hy⟩ := txt_of wi al E' V' C' K' hc' hb' l2'
  obtain ⟨v, B, X', ⟨⟨w, hv, hh, hq⟩, hl, hk, hs⟩, st⟩ := SEq.pays x t A cd cs.length (fun j => cs.getD j 0) y t' A' cd' ds.length (fun j => ds.getD j 0) z (tabEq_of (movedEq hZ hw)) hfr hlo m meth c P g ig mk _ X hg hsize hdg hW hn ⟨r1, r2, rfl, hx, hy, sta_is al S, hz⟩
  refine ⟨v, B, X', ⟨[], ⟨?_, rfl, hh⟩, hl, hk, hs⟩, st⟩
  rcases hq with ⟨rfl, q⟩ | ⟨rfl, q⟩
  · exact Or.inl ⟨hv, (same_list cs ds).mp q⟩
  · exact Or.inr ⟨hv, fun e => q ((same_list cs ds).mpr e)⟩
end StrChars.Road
namespace StrChars
open Jvm Sem ClassFile Op Lib Jvm.Stand Jvm.Free.XT Jvm.Free.ALB Jvm.Free.JM Jvm.Free
open Jvm.Lib.Cold (StaticIs)
namespace ChN
def yN : MethodName := ⟨"java/lang/String", "charAt", "(I)C"⟩
abbrev yB : ByteArray := jdk_42_method_56_code
theorem d0 : decode yB 0 = .ok (.aload_n 0, 1) := by decide +kernel
theorem d1 : decode yB 1 = .ok (.invokevirtual 492, 3) := by decide +kernel
theorem d4 : decode yB 4 = .ok (.ifCond (.eq) 12, 3) := by decide +kernel
theorem d7 : decode yB 7 = .ok (.aload_n 0, 1) := by decide +kernel
theorem d8 : decode yB 8 = .ok (.getfield 9, 3) := by decide +kernel
theorem d11 : decode yB 11 = .ok (.iload_n 1, 1) := by decide +kernel
theorem d12 : decode yB 12 = .ok (.invokestatic 495, 3) := by decide +kernel
theorem d15 : decode yB 15 = .ok (.ireturn, 1) := by decide +kernel
def site : List Cond := [.fieldLink "java/lang/String" 9 "java/lang/String" "value" "[B", IsL.tab, LChA.tab] ++ virtW "java/lang/String" 492 "java/lang/String" IsL.yN IsL.yN ++ staticW "java/lang/String" 495 LChA.yN
def tab : Cond := tabOf yN yB 2 (some .char) site
def P (x t : Addr) (V : Cell) (n : Nat) (f : Nat → Int32) (z : Int32) (fm : Value) (i : Nat) (args : Array Value) (s : State) : Prop := args = #[.ref x, .int (Int32.ofNat i)] ∧ Txt x t V 0 n f s ∧ i < n ∧ StaticIs s "java/lang/String" "COMPACT_STRINGS" "Z" (.int z) ∧ ¬ z = 0 ∧ StaticIs s "jdk/internal/util/Preconditions" "SIOOBE_FORMATTER" "Ljava/util/function/BiFunction;" fm ∧ fm.isRef = true
def E (f : Nat → Int32) (i : Nat) (r : Option Value) (s u : State) : Prop := XT.PureE (some (.int (f i))) r s u
/-- charAt(i) of a Latin-1 String of n chars, i < n: f i -/
theorem law (l : Launch) (x t : Addr) (V : Cell) (n : Nat) (f : Nat → Int32) (z : Int32) (fm : Value) (i : Nat) : Law l yN 2 1 3 40 yB 2 (some .char) site (P x t V n f z fm i) (E f i) [] 0 0 := by
  refine Law.of_walk (plainFor_of_name (by decide +kernel)) (by decide +kernel) (by decide +kernel) (by decide) (fun _ _ h => by rw [h.1]; rfl) (fun _ U U' hal hh h => ⟨h.1, h.2.1.mv hal hh, h.2.2.1, h.2.2.2.1.there hal hh, h.2.2.2.2.1, h.2.2.2.2.2.1.there hal hh, h.2.2.2.2.2.2⟩) (fun r U U' V V' h1 hal h2 h => XT.PureE.mv r U U' V V' h1 hal h2 h) ?_
  intro p e s m args below meth c s₁ X0 hexec hbytes hml hret hlk hnm hown hh0 W hP
  obtain ⟨rfl, hx, hi, s1, hz, s3, rf⟩ := hP
  have v31 := hx.2.2.2.1.2.2.2
  have hr := hx.2.2.2.2.2 i hi
  have hx0 := hx.mv X0.warmed.alike hh0
  have c1 : Steps p.tables e below (s₁.setTop (entryFrame m #[.ref x, .int (Int32.ofNat i)] 2)) (s₁.setTop (mkF m 1 #[.val (.ref x), .val (.int (Int32.ofNat i))] [.ref x])) := Steps.trans (entry rfl) (by
    show Steps p.tables e below (s₁.setTop (mkF m 0 #[.val (.ref x), .val (.int (Int32.ofNat i))] [])) _
    refine XS.aloadN X0.here hexec rfl (hb hbytes d0) rfl rfl ?_
    exact Steps.refl _)
  obtain ⟨v2, T2, X2, E2, g2⟩ := X0.callV hexec (IsL.law l x 0 z) hown (wks W (virtW "java/lang/String" 492 "java/lang/String" IsL.yN IsL.yN)) rfl (by decide) (wk W IsL.tab) (W := 0) (Nat.le_of_ble_eq_true rfl) (Nat.le_of_ble_eq_true rfl) (Nat.le_refl _) (Nat.le_refl _) (hx0.1.fc X0.warmed.alike) hx0.1.is (g := (mkF m 1 #[.val (.ref x), .val (.int (Int32.ofNat i))] [.ref x])) rfl (by rw [hml]; rfl) c1 (argsL := []) (rest := []) rfl rfl (by show 2 * 0 + 0 ≤ _; decide) (hb hbytes d1) (⟨rfl, hx0.2.2.1, hx.2.2.2.2.1.cd, s1.there X0.warmed.alike hh0, hz⟩)
  obtain ⟨rfl, q2⟩ := E2
  have hh2 := q2.trans hh0
  have hx2 := hx.mv X2.warmed.alike hh2
  obtain ⟨-, k1, k2⟩ | ⟨k0, -⟩ := hx.2.2.2.2.1
  · have c3 : Steps p.tables e below (s₁.setTop (entryFrame m #[.ref x, .int (Int32.ofNat i)] 2)) (T2.setTop (mkF m 8 #[.val (.ref x), .val (.int (Int32.ofNat i))] [.ref x])) := Steps.trans g2 (by
      refine XS.ifNo X2.here hexec rfl (hb hbytes d4) rfl (i0_eq_f (by decide)) ?_
      refine XS.aloadN X2.here hexec rfl (hb hbytes d7) rfl rfl ?_
      exact Steps.refl _)
    obtain ⟨T4, X4, q4, st4⟩ := X2.hget hexec hown (wk W (.fieldLink "java/lang/String" 9 "java/lang/String" "value" "[B")) hx2.2.1 (g := (mkF m 8 #[.val (.ref x), .val (.int (Int32.ofNat i))] [.ref x])) rfl (rest := []) rfl (hb hbytes d8)
    have hh4 := q4.trans hh2
    have c5 : Steps p.tables e below (s₁.setTop (entryFrame m #[.ref x, .int (Int32.ofNat i)] 2)) (T4.setTop (mkF m 12 #[.val (.ref x), .val (.int (Int32.ofNat i))] [.int (Int32.ofNat i), .ref t])) := (c3.trans (st4 _ (Steps.refl _))).trans (by
      refine XS.iloadN X4.here hexec rfl (hb hbytes d11) rfl ?_
      exact Steps.refl _)
    obtain ⟨v6, T6, X6, E6, g6⟩ := X4.callS hexec (LChA.law l t V i (lo8 (f i)) fm) hown (wks W (staticW "java/lang/String" 495 LChA.yN)) (wk W LChA.tab) (W := 0) (Nat.le_of_ble_eq_true rfl) (Nat.le_of_ble_eq_true rfl) (Nat.le_refl _) (Nat.le_refl _) (g := (mkF m 12 #[.val (.ref x), .val (.int (Int32.ofNat i))] [.int (Int32.ofNat i), .ref t])) rfl (by rw [hml]; rfl) c5 (argsL := [.ref t, .int (Int32.ofNat i)]) (rest := []) rfl rfl (by show 2 * 0 + 0 ≤ _; decide) (hb hbytes d12) (⟨rfl, hx.2.2.2.1.mv X4.warmed.alike hh4, (k2 i hi).1, s3.there X4.warmed.alike hh4, rf⟩)
    obtain ⟨rfl, q6⟩ := E6
    rw [chr8_lo8 hr.1 (k2 i hi).2] at g6
    exact ⟨T6, some (.int (f i)), _, _, _, X6, rfl, rfl, rfl, (fun h => by cases h), ⟨rfl, q6.trans hh4⟩, fun fs hl => Steps.trans g6 (X6.ireturnOut hexec hret (narrow_ch hr.1 hr.2) (Or.inr (Or.inr (Or.inr (Or.inl rfl)))) (hb hbytes d15) hl)⟩
  · exact absurd k0 (by decide)
theorem pays {l : Launch} {R : Room} {p : Program} {e : Env} {below : List Frame} {s : State} {sargs : Array Value} {len W : Nat} (x t : Addr) (V : Cell) (n : Nat) (f : Nat → Int32) (z : Int32) (fm : Value) (i : Nat) (htab : tab.before sargs s = true) (hfr : 4 ≤ R.frames) (hlo : W + 53 ≤ R.locals) :
    Back l R p e below s sargs yN len W (fun A₁ a₁ => A₁.cells + 0 ≤ R.cells ∧ A₁.slots + 0 ≤ R.slots ∧ P x t V n f z fm i a₁ A₁.U) (fun A₁ _ v₁ B₁ => E f i v₁ A₁.U B₁.U ∧ B₁.locs = A₁.locs ++ [] ∧ B₁.cells = A₁.cells + 0 ∧ B₁.slots = A₁.slots + 0) :=
  (law l x t V n f z fm i).pays htab hfr (by omega)
end ChN
end StrChars
namespace StrChars.Road
open Jvm Sem ClassFile Op Lib Jvm.Stand Jvm.Free Jvm.Free.XT
open Jvm.Lib.Cold (StaticIs)
/-- the words of String.charAt(int), the Latin-1 road alone -/
abbrev wordsChN : List Jvm.Cond := [.code ChN.yN ChN.yB 2 (some .char), .initialized ST, .fieldLink ST 9 ST "value" "[B", .fieldLink ST 38 ST "COMPACT_STRINGS" "Z", .fieldLink ST 15 ST "coder" "B", .code IsL.yN IsL.yB 1 (some .boolean), .methodLink ST 492 IsL.yN, .declares IsL.yN, .selects ST IsL.yN IsL.yN, .instanceMethod IsL.yN,
  .methodLink ST 495 LChA.yN, .static LChA.yN, .code LChA.yN LChA.yB 2 (some .char), .initialized "java/lang/StringLatin1", .methodLink "java/lang/StringLatin1" 9 JO.Str_checkIndex.yN, .static JO.Str_checkIndex.yN, .code JO.Str_checkIndex.yN JO.Str_checkIndex.yB 2 none,
  .fieldLink ST 1053 "jdk/internal/util/Preconditions" "SIOOBE_FORMATTER" "Ljava/util/function/BiFunction;", .methodLink ST 1059 JC.PreCheck.yN, .static JC.PreCheck.yN, .code JC.PreCheck.yN JC.PreCheck.yB 3 (some .int), .initialized "jdk/internal/util/Preconditions"]
theorem tabChN_of {a : Array Value} {s : State} (h : ∀ w ∈ wordsChN, w.before a s = true) : ChN.tab.before a s = true := by
  have hp : JC.PreCheck.tab.before a s = true := unparts (wk h (.code JC.PreCheck.yN JC.PreCheck.yB 3 (some .int))) (wks h (.initialized JC.PreCheck.yN.cls :: JC.PreCheck.site))
  have qk := consq hp h
  have hk : JO.Str_checkIndex.tab.before a s = true := unparts (wk qk (.code JO.Str_checkIndex.yN JO.Str_checkIndex.yB 2 none)) (wks qk (.initialized JO.Str_checkIndex.yN.cls :: JO.Str_checkIndex.site))
  have ql := consq hk h
  have hl : LChA.tab.before a s = true := unparts (wk ql (.code LChA.yN LChA.yB 2 (some .char))) (wks ql (.initialized LChA.yN.cls :: LChA.site))
  have hi : IsL.tab.before a s = true := unparts (wk h (.code IsL.yN IsL.yB 1 (some .boolean))) (wks h (.initialized IsL.yN.cls :: IsL.site))
  have q := consq hi (consq hl h)
  exact unparts (wk q (.code ChN.yN ChN.yB 2 (some .char))) (wks q (.initialized ChN.yN.cls :: ChN.site))
theorem movedChN {Z s : State} {a0 args : Array Value} (hZ : Z.Warmed39 s.vm) (hw : ∀ d ∈ wordsChN, d.before a0 Z = true) : ∀ d ∈ wordsChN, d.before args s = true := fun d hd => by
  have t : ∀ d ∈ wordsChN, (d.onTables && d.keepsFace) = true := by decide +kernel
  exact RoadKit.mv hZ (hw d hd) (t d hd)
/-- **charAt(i) OF A LATIN-1 STRING**, i < n: the char -/
theorem chN {p : Program} {l : Launch} {e : Env} {R : Room} {s : State} {args : Array Value} {below : List Frame} {len W : Nat} {Z : State} {a0 : Array Value} {h : Heap} (hZ : Z.Warmed39 s.vm) (hw : ∀ d ∈ wordsChN, d.before a0 Z = true) {kI : Nat} (wi : (Jvm.Cond.instantiable ST kI).before a0 Z = true)
    {x t : Addr} {kb : ClassId} {cs : List Int32} {N2 z : Int32} {vs : List Value} {fm : Value} {i : Nat} {j : Int32} (E : RoadKit.Exa Z h x ST) (V : RoadKit.Fld Z h x ST "value" "[B" (.ref t)) (C : RoadKit.Fld Z h x ST "coder" "B" (.int 0)) (K : RoadKit.Arv Z h t kb .byte N2 vs (.int 0)) (hc : CodA cs 0 N2 vs) (hb : ∀ c ∈ cs, ¬ c < 0 ∧ ¬ (65535 : Int32) < c)
    (S : RoadKit.Sta Z h ST "COMPACT_STRINGS" "Z" (.int z)) (hz : ¬ z = 0) (F : RoadKit.Sta Z h "jdk/internal/util/Preconditions" "SIOOBE_FORMATTER" "Ljava/util/function/BiFunction;" fm) (rf : fm.isRef = true) (l2 : cs.length ≤ 4000) (hi : i < cs.length) (hj : j = Int32.ofNat i) (hfr : 4 ≤ R.frames) (hlo : W + 53 ≤ R.locals) :
    Back l R p e below s args (⟨"java/lang/String", "charAt", "(I)C"⟩ : MethodName) len W (fun P a => a = #[.ref x, .int j] ∧ P.U.heap = h ∧ P.cells + 0 ≤ R.cells ∧ P.slots + 0 ≤ R.slots)
      (fun P _ v B => ∃ L, (v = some (.int (cs.getD i 0)) ∧ L = [] ∧ B.U.heap = h) ∧ B.locs = P.locs ++ L ∧ B.cells = P.cells + 0 ∧ B.slots = P.slots + 0) := by
  subst hj
  intro m meth c P g ig mk a X hg hsize hdg hW hn hp'
  obtain ⟨rfl, rfl, r1, r2⟩ := hp'
  have al : Z.vm.Alike P.U.vm := hZ.alike.trans X.warmed.alike
  obtain ⟨A, hx⟩ := txt_of wi al E V C K hc hb l2
  obtain ⟨v, B, X', ⟨⟨hv, hh⟩, hl, hk, hs⟩, st⟩ := ChN.pays x t A cs.length (fun j => cs.getD j 0) z fm i (tabChN_of (movedChN hZ hw)) hfr hlo m meth c P g ig mk _ X hg hsize hdg hW hn ⟨r1, r2, rfl, hx, hi, sta_is al S, hz, sta_is al F, rf⟩
  exact ⟨v, B, X', ⟨[], ⟨hv, rfl, hh⟩, hl, hk, hs⟩, st⟩
/-- what backV says of its String, as the contracts of this text ask it: cs's low bytes, coder 0 -/
theorem codOf {cs : List Int32} {n : Nat} (hn : cs.length = n) (hb : ∀ c ∈ cs, ¬ 255 < c) : CodA cs 0 (Int32.ofNat n) ((cs.map lo8).map Value.int) := Or.inl ⟨rfl, by rw [hn], by simp [List.map_map, Function.comp_def], hb⟩
end StrChars.Road
end Jvm.Pilot.@@N@@

namespace Jvm.OwnW
open Jvm Jvm.ClassFile Sem Op Lib Jvm.Free Jvm.Stand Jvm.LawKit Jvm.RoadKit Bundle
/-! OwnW: a walk told forwards. Wk: where the walk stands (tables that may have interned, fresh places alone written, the held constants kept). Fi: from here the body comes to its end as its contract says. One law a step: what is left to show is Fi of the next state. -/
def Wk (p : Program) (l : Launch) (e : Env) (R : Room) (s : State) (m : MethodId) (args : Array Value) (below : List Frame) (meth : Method) (c : Code) (Z : State) (a0 : Array Value) (EL : List (String × Nat)) (own : String) (n0 : Nat) (T : State) (h : Heap) (cells slots : Nat) : Prop :=
  ∃ (vm0 : Vm) (k0 : Nat) (locs : List Loc), Stand p l e R (s.setVm vm0) m args below meth c T locs cells slots ∧ T.heap = h ∧ s.Since vm0 k0 ∧ k0 ≤ h.size ∧ Z.Warmed39 vm0 ∧ vm0.findClass own = some m.cls ∧ Fr n0 locs ∧ CHr Z EL s.vm s.heap vm0 h ∧ EW Z a0 EL
def Fi (p : Program) (e : Env) (below : List Frame) (s : State) (Z : State) (EL : List (String × Nat)) (n0 : Nat) (Q : Option Value → Heap → Prop) (kc ks : Nat) (st : State) : Prop :=
  ∃ s₂ o, Steps p.tables e below st s₂ ∧ s₂.status = .running ∧ Ended s₂ below o ∧ ∃ v L, o = .returned v ∧ (Fr n0 L ∧ Q v s₂.heap) ∧ CHr Z EL s.vm s.heap s₂.vm s₂.heap ∧ ReturnedEndW s o s₂ L kc ks
/-- a body's contract: called with as' over the heap h0 -/
def Con (l : Launch) (Z : State) (EL : List (String × Nat)) (y : MethodName) (bytes : ByteArray) (maxL : Nat) (ret : Option FieldType) (ws : List Jvm.Cond) (rm : Room) (as' : Array Value) (h0 : Heap) (n0 : Nat) (Q : Option Value → Heap → Prop) : Prop :=
  MetFree l y (head1 (Jvm.Cond.code y bytes maxL ret :: ws) rm) (fun a U => a = as' ∧ Z.Warmed39 U.vm ∧ U.heap = h0 ∧ CHv Z EL U.vm h0) (fun _ _ _ _ _ => True)
    (fun _ U o U' => ∃ v L, o = .returned v ∧ (Fr n0 L ∧ Q v U'.heap) ∧ CHr Z EL U.vm U.heap U'.vm U'.heap ∧ ReturnedEndW U o U' L rm.cells rm.slots)
/-- a call that is paid for: by a contract, or by a law of the library -/
def Pay (l : Launch) (R : Room) (p : Program) (e : Env) (below : List Frame) (s : State) (args : Array Value) (Z : State) (EL : List (String × Nat)) (n0 : Nat) (y : MethodName) (Wd : Nat) (as' : Array Value) (h : Heap) (Q : Option Value → Heap → Prop) (k n : Nat) : Prop :=
  ∀ vm0 : Vm, Z.Warmed39 vm0 → CHv Z EL vm0 h →
    BackS l R p e below (s.setVm vm0) args y 3 Wd (fun A a => a = as' ∧ A.U.heap = h ∧ A.cells + k ≤ R.cells ∧ A.slots + n ≤ R.slots)
      (fun A _ v B => ∃ L, (Fr n0 L ∧ Q v B.U.heap) ∧ B.locs = A.locs ++ L ∧ B.cells = A.cells + k ∧ B.slots = A.slots + n ∧ CHr Z EL vm0 h B.U.vm B.U.heap)
section Base
variable {p : Program} {l : Launch} {e : Env} {R : Room} {s : State} {m : MethodId} {args : Array Value} {below : List Frame} {meth : Method} {c : Code} {Z : State} {a0 : Array Value} {EL : List (String × Nat)} {own : String} {n0 : Nat} {T : State} {h h' h1 h2 : Heap} {cells slots : Nat} {Q : Option Value → Heap → Prop} {kc ks : Nat}
theorem Fi.via {st st' : State} (f : Fi p e below s Z EL n0 Q kc ks st') (k : ∀ t, Steps p.tables e below st' t → Steps p.tables e below st t) : Fi p e below s Z EL n0 Q kc ks st := by
  obtain ⟨s₂, o, h1, r⟩ := f
  exact ⟨s₂, o, k _ h1, r⟩
theorem Fi.by' {st st' : State} (k : ∀ t, Steps p.tables e below st' t → Steps p.tables e below st t) (f : Fi p e below s Z EL n0 Q kc ks st') : Fi p e below s Z EL n0 Q kc ks st := f.via k
theorem Fi.cast {g g' : JFrame} (q : g = g') (f : Fi p e below s Z EL n0 Q kc ks (T.setTop g')) : Fi p e below s Z EL n0 Q kc ks (T.setTop g) := q ▸ f
theorem Wk.here (W : Wk p l e R s m args below meth c Z a0 EL own n0 T h cells slots) : At T m c below := by
  obtain ⟨_, _, _, X, -⟩ := W
  exact X.here
theorem Wk.mono (W : Wk p l e R s m args below meth c Z a0 EL own n0 T h cells slots) {k n : Nat} (h1 : cells ≤ k) (h2 : slots ≤ n) : Wk p l e R s m args below meth c Z a0 EL own n0 T h k n := by
  obtain ⟨vm0, k0, locs, X, r⟩ := W
  exact ⟨vm0, k0, locs, X.mono h1 h2, r⟩
theorem Con.intro {y : MethodName} {bytes : ByteArray} {maxL : Nat} {ret : Option FieldType} {ws : List Jvm.Cond} {rm : Room} {as' : Array Value} {h0 : Heap} (ho : y.cls = own) (hpl : plainFor y = true) (hEL : EW Z a0 EL)
    (body : ∀ (p : Program) (e : Env) (s : State) (m : MethodId) (below : List Frame) (meth : Method) (c : Code) (s₁ : State), p.tables.exec = Jvm.exec → c.code = bytes → c.maxLocals = maxL → meth.sig.returnType = ret → meth.locks = false → meth.name = y.name →
      Wk p l e rm s m as' below meth c Z a0 EL own n0 s₁ h0 0 0 → Fi p e below s Z EL n0 Q rm.cells rm.slots (s₁.setTop (entryFrame m as' maxL))) :
    Con l Z EL y bytes maxL ret ws rm as' h0 n0 Q := by
  refine MetFree.of_bodySF hpl hisR ?_
  intro p e s m args below meth c s₁ Bd hml0 hP hK
  obtain ⟨ha, hZ, hh, hC⟩ := hP
  subst ha
  have X0 : Stand p l e rm s m args below meth c s₁ [] 0 0 := Stand.of_body Bd
  have e0 : s₁.heap = h0 := by rw [← hh, Bd.state]; rfl
  have hown : s.vm.findClass own = some m.cls := by rw [← ho]; exact findClass_of_methodNamed Bd.named
  exact body p e s m below meth c s₁ Bd.exec Bd.bytes hml0 Bd.returns Bd.notSynchronized (name_of_methodNamed Bd.named Bd.method).1
    ⟨s.vm, 0, [], X0, e0, (State.WarmedH.refl s).since 0, Nat.zero_le _, hZ, hown, Fr.nil n0, by rw [hh]; exact CHr.refl hC, hEL⟩
theorem Wk.leave (W : Wk p l e R s m args below meth c Z a0 EL own n0 T h cells slots) (hlk : meth.locks = false) {v : Option Value} (hv : meth.sig.returnType = none → v = none) (hq : Q v h) (h1 : cells ≤ kc) (h2 : slots ≤ ks) {g : JFrame}
    (st : ∀ (vm0 : Vm) (locs : List Loc) (_ : Stand p l e R (s.setVm vm0) m args below meth c T locs cells slots) (fs : List Frame), (∀ (f : JFrame) (acts : List Action), f.method = m → f.locked = none → f.entered = [] → (doReturn e (T.setTop f) acts v).1 = T.setFrames fs) → Steps p.tables e below (T.setTop g) (T.setFrames fs)) :
    Fi p e below s Z EL n0 Q kc ks (T.setTop g) := by
  obtain ⟨vm0, k0, locs, X, eT, hS, hk, hZ, ho, N, C, hE⟩ := W
  obtain ⟨fs, hr, hrun, hended, hEnd⟩ := X.leaveW hS (by rw [eT]; exact hk) hv hlk
  have D := C.trans (CHv.at X hZ hE C.1)
  refine ⟨T.setFrames fs, _, st vm0 locs X fs hr, hrun, hended, v, locs, rfl, ⟨N, ?_⟩, ?_, ⟨hEnd.1, hEnd.2.1, hEnd.2.2.1, hEnd.2.2.2.mono h1 h2⟩⟩
  · show Q v T.heap
    rw [eT]; exact hq
  · show CHr Z EL s.vm s.heap T.vm T.heap
    rw [eT]; exact D
theorem Wk.aret (W : Wk p l e R s m args below meth c Z a0 EL own n0 T h cells slots) (hx : p.tables.exec = Jvm.exec) (hlk : meth.locks = false) {t : FieldType} (hret : meth.sig.returnType = some t) (ht : t.isReference = true) {pc : Nat} {Ls : Array Slot} {w : Value} (hw : w.isRef = true)
    (hd : decode c.code pc = .ok (.areturn, 1)) (hq : Q (some w) h) (h1 : cells ≤ kc) (h2 : slots ≤ ks) : Fi p e below s Z EL n0 Q kc ks (T.setTop (mkF m pc Ls [w])) :=
  W.leave hlk (fun q => by rw [hret] at q; cases q) hq h1 h2 fun vm0 locs X fs hl => X.areturnOut hx hw hret ht hd hl
theorem Wk.iret (W : Wk p l e R s m args below meth c Z a0 EL own n0 T h cells slots) (hx : p.tables.exec = Jvm.exec) (hlk : meth.locks = false) {t : FieldType} (hret : meth.sig.returnType = some t) (hti : t = .int ∨ t = .boolean ∨ t = .byte ∨ t = .char ∨ t = .short) {pc : Nat} {Ls : Array Slot} {w : Int32} (hn : narrow t (.int w) = .int w)
    (hd : decode c.code pc = .ok (.ireturn, 1)) (hq : Q (some (.int w)) h) (h1 : cells ≤ kc) (h2 : slots ≤ ks) : Fi p e below s Z EL n0 Q kc ks (T.setTop (mkF m pc Ls [.int w])) :=
  W.leave hlk (fun q => by rw [hret] at q; cases q) hq h1 h2 fun vm0 locs X fs hl => X.ireturnOut hx hret hn hti hd hl
theorem Wk.vret (W : Wk p l e R s m args below meth c Z a0 EL own n0 T h cells slots) (hx : p.tables.exec = Jvm.exec) (hlk : meth.locks = false) (hret : meth.sig.returnType = none) {pc : Nat} {Ls : Array Slot}
    (hd : decode c.code pc = .ok (.return_, 1)) (hq : Q none h) (h1 : cells ≤ kc) (h2 : slots ≤ ks) : Fi p e below s Z EL n0 Q kc ks (T.setTop (mkF m pc Ls [])) :=
  W.leave hlk (fun _ => rfl) hq h1 h2 fun vm0 locs X fs hl => X.returnOut hx hret hd hl
theorem Wk.new (W : Wk p l e R s m args below meth c Z a0 EL own n0 T h cells slots) (hx : p.tables.exec = Jvm.exec) {C : String} {index n : Nat} (w : (Jvm.Cond.classLink own index C).before a0 Z = true) (wi : (Jvm.Cond.instantiable C n).before a0 Z = true) (wz : (Jvm.Cond.initialized C).before a0 Z = true)
    {g : JFrame} (hg : g.method = m) (hd : decode c.code g.pc = .ok (.new index, 3)) (hc : cells + 1 ≤ R.cells) (hl : slots + n ≤ R.slots)
    (k : ∀ (T' : State) (h' : Heap) (a : Addr), @Eq Nat a h.size → Wk p l e R s m args below meth c Z a0 EL own n0 T' h' (cells + 1) (slots + n) → Ext h h' → Exa Z h' a C → (∀ {O nm d : String} {ty : FieldType}, Laid Z a0 C O nm d → parseFieldDescriptor d = some ty → Fld Z h' a O nm d (defaultValue ty)) →
      Fi p e below s Z EL n0 Q kc ks (T'.setTop { g with pc := g.pc + 3, stack := .ref a :: g.stack })) : Fi p e below s Z EL n0 Q kc ks (T.setTop g) := by
  obtain ⟨vm0, k0, locs, X, eT, hS, hk, hZ, ho, N, CC, hE⟩ := W
  obtain ⟨T', h', X', e', E, A, D, -, st⟩ := newO X hx hZ ho w wi wz eT hg hd hc hl
  exact (k T' h' _ rfl ⟨vm0, k0, locs, X', e', hS, Nat.le_trans hk E.1, hZ, ho, N, CC.trans (CHr.ext E CC.1), hE⟩ E A D).via st
theorem Wk.newP (W : Wk p l e R s m args below meth c Z a0 EL own n0 T h cells slots) (hx : p.tables.exec = Jvm.exec) {aty : ArrayType} (w : (Jvm.Cond.arrayClass (newarray.typeOf aty)).before a0 Z = true)
    {g : JFrame} (hg : g.method = m) (hd : decode c.code g.pc = .ok (.newarray aty, 2)) {n : Int32} {rest : List Value} (hs : g.stack = .int n :: rest) (hn : ¬ n < 0) {cap : Nat} (hcap : n.toNatClampNeg ≤ cap) (hb : cap * 8 ≤ 536870912) (hc : cells + 1 ≤ R.cells) (hl : slots + cap ≤ R.slots)
    (k : ∀ (T' : State) (h' : Heap) (a : Addr) (cA : ClassId), @Eq Nat a h.size → Wk p l e R s m args below meth c Z a0 EL own n0 T' h' (cells + 1) (slots + cap) → Ext h h' → Arv Z h' a cA (newarray.typeOf aty) n [] (defaultValue (newarray.typeOf aty)) →
      Fi p e below s Z EL n0 Q kc ks (T'.setTop { g with pc := g.pc + 2, stack := .ref a :: rest })) : Fi p e below s Z EL n0 Q kc ks (T.setTop g) := by
  obtain ⟨vm0, k0, locs, X, eT, hS, hk, hZ, ho, N, CC, hE⟩ := W
  obtain ⟨T', h', cA, X', e', E, A, st⟩ := Jvm.RoadKit.newP X hx hZ w eT hg hd hs hn hcap hb hc hl
  exact (k T' h' _ cA rfl ⟨vm0, k0, locs, X', e', hS, Nat.le_trans hk E.1, hZ, ho, N, CC.trans (CHr.ext E CC.1), hE⟩ E (Arv.new A hn)).via st
theorem Wk.getF (W : Wk p l e R s m args below meth c Z a0 EL own n0 T h cells slots) (hx : p.tables.exec = Jvm.exec) {O n d : String} {index : Nat} (w : (Jvm.Cond.fieldLink own index O n d).before a0 Z = true) {a : Addr} {v : Value} (F : Fld Z h a O n d v)
    {g : JFrame} (hg : g.method = m) {rest : List Value} (hs : g.stack = .ref a :: rest) (hd : decode c.code g.pc = .ok (.getfield index, 3))
    (k : ∀ T' : State, Wk p l e R s m args below meth c Z a0 EL own n0 T' h cells slots → Fi p e below s Z EL n0 Q kc ks (T'.setTop { g with pc := g.pc + 3, stack := v :: rest })) : Fi p e below s Z EL n0 Q kc ks (T.setTop g) := by
  obtain ⟨vm0, k0, locs, X, eT, hS, hk, hZ, ho, N, CC, hE⟩ := W
  obtain ⟨T', X', e', st⟩ := Jvm.RoadKit.getF X hx hZ ho (host := "") (Or.inl w) Via.refl eT F hg hs hd
  exact (k T' ⟨vm0, k0, locs, X', e', hS, hk, hZ, ho, N, CC, hE⟩).via st
theorem Wk.getS (W : Wk p l e R s m args below meth c Z a0 EL own n0 T h cells slots) (hx : p.tables.exec = Jvm.exec) {O n d : String} {index : Nat} (w : (Jvm.Cond.fieldLink own index O n d).before a0 Z = true) {v : Value} (F : Sta Z h O n d v)
    {g : JFrame} (hg : g.method = m) (hd : decode c.code g.pc = .ok (.getstatic index, 3))
    (k : ∀ T' : State, Wk p l e R s m args below meth c Z a0 EL own n0 T' h cells slots → Fi p e below s Z EL n0 Q kc ks (T'.setTop { g with pc := g.pc + 3, stack := v :: g.stack })) : Fi p e below s Z EL n0 Q kc ks (T.setTop g) := by
  obtain ⟨vm0, k0, locs, X, eT, hS, hk, hZ, ho, N, CC, hE⟩ := W
  obtain ⟨T', X', e', st⟩ := Jvm.RoadKit.getS (host := "") X hx hZ ho w Via.refl eT F hg hd
  exact (k T' ⟨vm0, k0, locs, X', e', hS, hk, hZ, ho, N, CC, hE⟩).via st
theorem Wk.putF (W : Wk p l e R s m args below meth c Z a0 EL own n0 T h cells slots) (hx : p.tables.exec = Jvm.exec) {O n d C : String} {index kk : Nat} {ty : FieldType} (w : (Jvm.Cond.fieldLink own index O n d).before a0 Z = true) {a : Addr} {v old : Value} (F : Fld Z h a O n d old) (E : Exa Z h a C)
    (L : (Jvm.Cond.lays C O n d).before a0 Z = true ∨ ((Jvm.Cond.laysFinal C O n d).before a0 Z = true ∧ own = O ∧ meth.name = "<init>")) (wi : (Jvm.Cond.instantiable C kk).before a0 Z = true) (hty : parseFieldDescriptor d = some ty) (hn : narrow ty v = v) (hf : fits ty v = true)
    {g : JFrame} (hg : g.method = m) {rest : List Value} (hs : g.stack = v :: .ref a :: rest) (hd : decode c.code g.pc = .ok (.putfield index, 3)) (ha : n0 ≤ a) (S : ∀ vm : Vm, Z.Warmed39 vm → CHv Z EL vm h → Safe Z EL vm h a)
    (k : ∀ (T' : State) (h' : Heap), Wk p l e R s m args below meth c Z a0 EL own n0 T' h' cells slots → Wr h h' a (Jvm.RoadKit.slotOf Z O n d) v → Fi p e below s Z EL n0 Q kc ks (T'.setTop { g with pc := g.pc + 3, stack := rest })) : Fi p e below s Z EL n0 Q kc ks (T.setTop g) := by
  obtain ⟨vm0, k0, locs, X, eT, hS, hk, hZ, ho, N, CC, hE⟩ := W
  obtain ⟨T', h', X', e', Wr', st⟩ := Jvm.RoadKit.putF X hx hZ ho (host := "") (Or.inl w) Via.refl eT F E L wi hty hn hf hg hs hd
  exact (k T' h' ⟨vm0, k0, _, X', e', hS, by rw [Wr'.size]; exact hk, hZ, ho, Fr.snoc X' N ha, CC.trans (CHr.wr Wr' (S vm0 hZ CC.1) CC.1), hE⟩ Wr').via st
theorem safe_exa {a : Addr} {C : String} (E : Exa Z h a C) (h1 : C ≠ "java/lang/String") (h2 : C ≠ "[B") : ∀ vm : Vm, Z.Warmed39 vm → CHv Z EL vm h → Safe Z EL vm h a := fun vm hZ _ => Safe.exa hZ.alike E h1 h2
theorem Wk.initO (W : Wk p l e R s m args below meth c Z a0 EL own n0 T h cells slots) (hx : p.tables.exec = Jvm.exec) {idx : Nat} (w1 : (Jvm.Cond.methodLink own idx Lib.objectInit).before a0 Z = true) (w2 : (Jvm.Cond.instanceMethod Lib.objectInit).before a0 Z = true) (w3 : (Jvm.Cond.code Lib.objectInit ⟨#[0xb1]⟩ 1 none).before a0 Z = true)
    {g : JFrame} (hg : g.method = m) (hsize : g.locals.size = c.maxLocals) {a : Addr} {rest : List Value} (hs : g.stack = .ref a :: rest) (hd : decode c.code g.pc = .ok (.invokespecial idx, 3)) (hf : 1 ≤ R.frames) {Wd : Nat} (hW : 2 * g.monitorRoom + (rest.map fun v => v.category).sum ≤ Wd) (hl : Wd + 12 ≤ R.locals)
    (k : ∀ T' : State, Wk p l e R s m args below meth c Z a0 EL own n0 T' h cells slots → Fi p e below s Z EL n0 Q kc ks (T'.setTop { g with pc := g.pc + 3, stack := rest })) : Fi p e below s Z EL n0 Q kc ks (T.setTop g) := by
  obtain ⟨vm0, k0, locs, X, eT, hS, hk, hZ, ho, N, CC, hE⟩ := W
  obtain ⟨T', X', e', st⟩ := Jvm.RoadKit.initO X hx hZ ho w1 w2 w3 eT hg hsize hs hd hf hW hl
  exact (k T' ⟨vm0, k0, locs, X', e', hS, hk, hZ, ho, N, CC, hE⟩).via st
/-! ## calls -/
theorem Pay.of_con {y : MethodName} {bytes : ByteArray} {maxL Wd : Nat} {ret : Option FieldType} {rm : Room} {as' : Array Value} (hM : Con l Z EL y bytes maxL ret [] rm as' h n0 Q) (wc : (Jvm.Cond.code y bytes maxL ret).before a0 Z = true) (wz : (Jvm.Cond.initialized y.cls).before a0 Z = true) (hEL : EW Z a0 EL)
    (hf : rm.frames + 1 ≤ R.frames) (hl : Wd + (maxL + 11) + rm.locals ≤ R.locals) : Pay l R p e below s args Z EL n0 y Wd as' h Q rm.cells rm.slots :=
  fun vm0 hZ hC => backOfSH (Q := fun v h L => Fr n0 L ∧ Q v h) hM hZ wc wz hf hl hEL hC
theorem Pay.of_back {y : MethodName} {Wd k n : Nat} {as' : Array Value} {ws : List Addr} (hEL : EW Z a0 EL)
    (hB : ∀ vm0 : Vm, Z.Warmed39 vm0 → Back l R p e below (s.setVm vm0) args y 3 Wd (fun A a => a = as' ∧ A.U.heap = h ∧ A.cells + k ≤ R.cells ∧ A.slots + n ≤ R.slots) (fun A _ v B => ∃ L, (Fr n0 L ∧ Keep h B.U.heap ws ∧ Q v B.U.heap) ∧ B.locs = A.locs ++ L ∧ B.cells = A.cells + k ∧ B.slots = A.slots + n))
    (S : ∀ vm : Vm, Z.Warmed39 vm → CHv Z EL vm h → ∀ x ∈ ws, Safe Z EL vm h x) : Pay l R p e below s args Z EL n0 y Wd as' h Q k n := by
  intro vm0 hZ hC m meth c A g ig mk a X hg hsize hdg hW hn hp
  obtain ⟨v, B, X', ⟨L, ⟨NL, K, hq⟩, l1, l2, l3⟩, hsteps⟩ := hB vm0 hZ m meth c A g ig mk a X hg hsize hdg hW hn hp
  have C1 := CHr.keep K (S vm0 hZ hC) hC
  exact ⟨v, B, X'.retabled X'.warmed.wide, X'.warmed.since _, by rw [hp.2.1]; exact K.1, ⟨L, ⟨NL, hq⟩, l1, l2, l3, C1.trans (CHv.at X' hZ hEL C1.1)⟩, hsteps⟩
theorem Wk.callS (W : Wk p l e R s m args below meth c Z a0 EL own n0 T h cells slots) (hx : p.tables.exec = Jvm.exec) {index : Nat} {y : MethodName} {bytes : ByteArray} {maxL : Nat} {ret : Option FieldType}
    (w1 : (Jvm.Cond.methodLink own index y).before a0 Z = true) (w2 : (Jvm.Cond.static y).before a0 Z = true) (w3 : (Jvm.Cond.initialized y.cls).before a0 Z = true) (w4 : (Jvm.Cond.code y bytes maxL ret).before a0 Z = true) (hy : y.cls ≠ "java/lang/invoke/MethodHandle" ∧ y.cls ≠ "java/lang/invoke/VarHandle")
    {Wd k n : Nat} {as' : Array Value} {Qy : Option Value → Heap → Prop} (P : Pay l R p e below s args Z EL n0 y Wd as' h Qy k n)
    {g : JFrame} (hg : g.method = m) (hsize : g.locals.size = c.maxLocals) {argsL rest : List Value} (hlen : ∀ sig, parseMethodDescriptor y.desc = some sig → argsL.length = sig.parameters.length) (hstack : g.stack = argsL.reverse ++ rest) (has : argsL.toArray = as') (hW : 2 * g.monitorRoom + (rest.map fun v => v.category).sum ≤ Wd)
    (hd : decode c.code g.pc = .ok (.invokestatic index, 3)) (hc : cells + k ≤ R.cells) (hl : slots + n ≤ R.slots)
    (kk : ∀ (v : Option Value) (T' : State) (h' : Heap), Wk p l e R s m args below meth c Z a0 EL own n0 T' h' (cells + k) (slots + n) → h.size ≤ h'.size → Qy v h' → Fi p e below s Z EL n0 Q kc ks (T'.setTop { g with pc := g.pc + 3, stack := v.toList ++ rest })) : Fi p e below s Z EL n0 Q kc ks (T.setTop g) := by
  obtain ⟨vm0, k0, locs, X, eT, hS, hk, hZ, ho, N, CC, hE⟩ := W
  obtain ⟨v, vm1, ⟨U, L', k', n'⟩, -, X', hS', hgr, ⟨L, ⟨NL, hq⟩, l1, l2, l3, hC⟩, st⟩ := callSS X hx ho (mvT hZ w1) (mvT hZ w2) (mvT hZ w3) (mvT hZ w4) hy (P vm0 hZ CC.1) hg hsize hlen hstack hW hd (fun _ _ => ⟨has, eT, hc, hl⟩)
  dsimp only [Pt.U, Pt.locs, Pt.cells, Pt.slots] at X' hS' hgr hq l1 l2 l3 hC st
  subst l1 l2 l3
  rw [eT] at hgr
  obtain ⟨Y1, Y2, Y3, Y4⟩ := rebS hS hk X' hS' hgr hZ ho
  exact (kk v U U.heap ⟨U.vm, _, _, Y1, rfl, Y2, Nat.le_refl _, Y3, Y4, N.app NL, CC.trans hC, hE⟩ hgr hq).via fun t ht => st.trans ht
theorem Wk.callI (W : Wk p l e R s m args below meth c Z a0 EL own n0 T h cells slots) (hx : p.tables.exec = Jvm.exec) {index : Nat} {y : MethodName} {bytes : ByteArray} {maxL : Nat} (hy1 : y.name = "<init>")
    (w1 : (Jvm.Cond.methodLink own index y).before a0 Z = true) (w2 : (Jvm.Cond.instanceMethod y).before a0 Z = true) (w4 : (Jvm.Cond.code y bytes maxL none).before a0 Z = true) (hy : y.cls ≠ "java/lang/invoke/MethodHandle" ∧ y.cls ≠ "java/lang/invoke/VarHandle")
    {Wd k n : Nat} {as' : Array Value} {Qy : Option Value → Heap → Prop} (P : Pay l R p e below s args Z EL n0 y Wd as' h Qy k n)
    {g : JFrame} (hg : g.method = m) (hsize : g.locals.size = c.maxLocals) {a : Addr} {argsL rest : List Value} (hlen : ∀ sig, parseMethodDescriptor y.desc = some sig → argsL.length = sig.parameters.length) (hstack : g.stack = argsL.reverse ++ .ref a :: rest) (has : (Value.ref a :: argsL).toArray = as') (hW : 2 * g.monitorRoom + (rest.map fun v => v.category).sum ≤ Wd)
    (hd : decode c.code g.pc = .ok (.invokespecial index, 3)) (hc : cells + k ≤ R.cells) (hl : slots + n ≤ R.slots)
    (kk : ∀ (v : Option Value) (T' : State) (h' : Heap), Wk p l e R s m args below meth c Z a0 EL own n0 T' h' (cells + k) (slots + n) → h.size ≤ h'.size → Qy v h' → Fi p e below s Z EL n0 Q kc ks (T'.setTop { g with pc := g.pc + 3, stack := v.toList ++ rest })) : Fi p e below s Z EL n0 Q kc ks (T.setTop g) := by
  obtain ⟨vm0, k0, locs, X, eT, hS, hk, hZ, ho, N, CC, hE⟩ := W
  obtain ⟨v, vm1, ⟨U, L', k', n'⟩, -, X', hS', hgr, ⟨L, ⟨NL, hq⟩, l1, l2, l3, hC⟩, st⟩ := X.specialBackS hx hy1 ho (mvT hZ w1) (mvT hZ w2) (mvT hZ w4) hy (P vm0 hZ CC.1) hg hsize (Steps.refl _) hlen hstack hW hd (fun _ _ => ⟨has, eT, hc, hl⟩)
  dsimp only [Pt.U, Pt.locs, Pt.cells, Pt.slots] at X' hS' hgr hq l1 l2 l3 hC st
  subst l1 l2 l3
  rw [eT] at hgr
  obtain ⟨Y1, Y2, Y3, Y4⟩ := rebS hS hk X' hS' hgr hZ ho
  exact (kk v U U.heap ⟨U.vm, _, _, Y1, rfl, Y2, Nat.le_refl _, Y3, Y4, N.app NL, CC.trans hC, hE⟩ hgr hq).via fun t ht => st.trans ht
theorem Wk.callV (W : Wk p l e R s m args below meth c Z a0 EL own n0 T h cells slots) (hx : p.tables.exec = Jvm.exec) {index : Nat} {y : MethodName} {C : String}
    (w1 : (Jvm.Cond.methodLink own index y).before a0 Z = true) (w2 : (Jvm.Cond.declares y).before a0 Z = true) (w3 : (Jvm.Cond.selects C y y).before a0 Z = true) (w4 : (Jvm.Cond.instanceMethod y).before a0 Z = true) (hy : y.cls ≠ "java/lang/invoke/MethodHandle" ∧ y.cls ≠ "java/lang/invoke/VarHandle")
    {Wd k n : Nat} {as' : Array Value} {Qy : Option Value → Heap → Prop} (P : Pay l R p e below s args Z EL n0 y Wd as' h Qy k n) {a : Addr} (E : Exa Z h a C)
    {g : JFrame} (hg : g.method = m) (hsize : g.locals.size = c.maxLocals) {argsL rest : List Value} (hlen : ∀ sig, parseMethodDescriptor y.desc = some sig → argsL.length = sig.parameters.length) (hstack : g.stack = argsL.reverse ++ .ref a :: rest) (has : (Value.ref a :: argsL).toArray = as') (hW : 2 * g.monitorRoom + (rest.map fun v => v.category).sum ≤ Wd)
    (hd : decode c.code g.pc = .ok (.invokevirtual index, 3)) (hc : cells + k ≤ R.cells) (hl : slots + n ≤ R.slots)
    (kk : ∀ (v : Option Value) (T' : State) (h' : Heap), Wk p l e R s m args below meth c Z a0 EL own n0 T' h' (cells + k) (slots + n) → h.size ≤ h'.size → Qy v h' → Fi p e below s Z EL n0 Q kc ks (T'.setTop { g with pc := g.pc + 3, stack := v.toList ++ rest })) : Fi p e below s Z EL n0 Q kc ks (T.setTop g) := by
  obtain ⟨vm0, k0, locs, X, eT, hS, hk, hZ, ho, N, CC, hE⟩ := W
  have hZ' : Z.Warmed39 (s.setVm vm0).vm := hZ
  obtain ⟨cq, kq, qa, qb, qc⟩ := isOf hZ' eT E
  obtain ⟨v, vm1, ⟨U, L', k', n'⟩, -, X', hS', hgr, ⟨L, ⟨NL, hq⟩, l1, l2, l3, hC⟩, st⟩ := X.virtualBackS hx ho (mvT hZ' w1) (mvT hZ' w2) (notFace_of_selects (args := #[]) (mvT hZ' w3)) (mvT hZ' w3) (mvT hZ' w4) hy (P vm0 hZ CC.1) qa qc hg hsize (Steps.refl _) hlen hstack hW hd (fun _ _ => ⟨has, eT, hc, hl⟩)
  dsimp only [Pt.U, Pt.locs, Pt.cells, Pt.slots] at X' hS' hgr hq l1 l2 l3 hC st
  subst l1 l2 l3
  rw [eT] at hgr
  obtain ⟨Y1, Y2, Y3, Y4⟩ := rebS hS hk X' hS' hgr hZ ho
  exact (kk v U U.heap ⟨U.vm, _, _, Y1, rfl, Y2, Nat.le_refl _, Y3, Y4, N.app NL, CC.trans hC, hE⟩ hgr hq).via fun t ht => st.trans ht
/-! ## heaps that grow -/
theorem ext_refl (h : Heap) : Ext h h := ⟨Nat.le_refl _, fun _ _ q => q⟩
theorem ext_trans (E : Ext h h1) (F : Ext h1 h2) : Ext h h2 := ⟨Nat.le_trans E.1 F.1, fun a c q => F.2 a c (E.2 a c q)⟩
theorem ext_keep (E : Ext h h1) {ws : List Addr} (K : Keep h1 h2 ws) (q : ∀ x ∈ ws, h.size ≤ x) : Ext h h2 := ⟨Nat.le_trans E.1 K.1, fun a c r => K.2.1 a c (E.2 a c r) fun z => absurd (Array.getElem?_eq_some_iff.mp r).1 (Nat.not_lt.mpr (q a z))⟩
theorem ext_keep1 (E : Ext h h1) {x : Addr} (K : Keep h1 h2 [x]) (q : h.size ≤ x) : Ext h h2 := ext_keep E K fun y hy => by cases List.mem_singleton.mp hy; exact q
theorem ext_wr (E : Ext h h1) {a : Addr} {sl : Nat} {v : Value} (W : Wr h1 h2 a sl v) (q : h.size ≤ a) : Ext h h2 := ext_keep1 E (Keep.of_wr W) q
/-! ## Strings of known chars below 256 -/
def low8 (x : Int32) : Int32 := x.toInt8.toInt32
def StrL (Z : State) (h : Heap) (x : Addr) (cs : List Int32) : Prop := ∃ (t : Addr) (kb : ClassId), Exa Z h x "java/lang/String" ∧ Fld Z h x "java/lang/String" "value" "[B" (.ref t) ∧ Fld Z h x "java/lang/String" "coder" "B" (.int 0) ∧ Arv Z h t kb .byte (Int32.ofNat cs.length) ((cs.map low8).map Value.int) (.int 0) ∧
  (∀ c ∈ cs, ¬ c < 0 ∧ ¬ (255 : Int32) < c) ∧ cs.length ≤ 4000
theorem StrL.ext {x : Addr} {cs : List Int32} (F : StrL Z h x cs) (E : Ext h h') : StrL Z h' x cs := by
  obtain ⟨t, kb, a1, a2, a3, a4, r⟩ := F
  exact ⟨t, kb, a1.ext E, a2.ext E, a3.ext E, a4.ext E, r⟩
theorem StrL.exa {x : Addr} {cs : List Int32} (F : StrL Z h x cs) : Exa Z h x "java/lang/String" := by
  obtain ⟨_, _, a1, -⟩ := F
  exact a1
theorem StrL.lt {x : Addr} {cs : List Int32} (F : StrL Z h x cs) : x < h.size := F.exa.lt
/-- a String whose value is still null is no booked one -/
theorem safe_null {x : Addr} (E : Exa Z h x "java/lang/String") (V : Fld Z h x "java/lang/String" "value" "[B" .null) {k : Nat} (wi : (Jvm.Cond.instantiable "java/lang/String" k).before a0 Z = true) : ∀ vm : Vm, Z.Warmed39 vm → CHv Z EL vm h → Safe Z EL vm h x := fun vm hZ _ B => by
  have hal : Z.vm.Alike vm := hZ.alike
  obtain ⟨p, -, u, a, -, q, -, F, hy⟩ := B
  obtain ⟨cS, ⟨⟨s1, s2, s3, ⟨cv, kv, iv, s4, s4'⟩, -, s6, s7, s8, s9, s10, s11, -⟩, hfS, hcS⟩, ⟨kS, k1, k2, k3⟩, hB, hbyt⟩ := F
  rcases hy with rfl | rfl
  · obtain ⟨cell, cf, k', i, f, h1, h2, h3, -, -, -, h7⟩ := V
    obtain ⟨k9, e9, -⟩ := State.fieldFound?_setVm (s := { Z with heap := h }) hal h2
    have e1 := (show (Wst Z vm h).fieldFound? "java/lang/String" "value" "[B" = _ from e9).symm.trans s4
    simp only [Option.some.injEq, Prod.mk.injEq] at e1
    have e2 : h[q.sa]? = some q.sC := s1
    cases h1.symm.trans e2
    rw [e1.2.2.2, s8] at h7
    cases h7
  · obtain ⟨cell, k', e1, e2, e3, -, -⟩ := E
    have e4 : h[q.sd]? = some q.SA := s10
    cases e1.symm.trans e4
    have e5 : vm.findClass "[B" = some q.SA.cls := hB
    rw [hal.findClass] at e5
    obtain ⟨k1', q1, q2⟩ := Vm.findClass_spec e5
    obtain ⟨k2', q3, q4⟩ := Vm.findClass_spec e2
    cases q1.symm.trans q3
    exact absurd (q2.symm.trans q4) (by decide)
/-- the chars of a constant's text -/
def lits (t : String) : List Int32 := t.toList.map fun c => Int32.ofNat c.toNat
theorem StrL.keep {x t : Addr} {cs : List Int32} {C : String} {k : Nat} (F : StrL Z h t cs) (K : Keep h h' [x]) (E : Exa Z h x C) (hC : C ≠ "java/lang/String") (wi : (Jvm.Cond.instantiable C k).before a0 Z = true) : StrL Z h' t cs := by
  obtain ⟨b, kb, a1, a2, a3, a4, r⟩ := F
  have n1 : t ∉ [x] := fun q => Exa.ne a1 E (Ne.symm hC) (List.mem_singleton.mp q)
  have n2 : b ∉ [x] := fun q => Exa.neArv E a4 wi (List.mem_singleton.mp q).symm
  exact ⟨b, kb, a1.keep K, a2.keep K n1, a3.keep K n1, a4.keep K n2, r⟩
theorem Wk.ldc (W : Wk p l e R s m args below meth c Z a0 EL own n0 T h cells slots) (hx : p.tables.exec = Jvm.exec) {text : String} {index : Nat} (w : (Jvm.Cond.stringLink own index text).before a0 Z = true) (wS : ∀ a ∈ Bundle.stringAtoms, a.before a0 Z = true) (hmem : (own, index) ∈ EL) (cs : List Int32)
    (ht' : (∀ c ∈ text.toList, c.toNat < 256) ∧ text.toList.map (fun c => Jvm.Lit.byteI c.toNat.toUInt16) = cs.map low8) (hcs : (∀ c ∈ cs, ¬ c < 0 ∧ ¬ (255 : Int32) < c) ∧ cs.length ≤ 4000)
    {g : JFrame} (hg : g.method = m) (hd : decode c.code g.pc = .ok (.ldc index, 2)) {n : Nat} (hn : 4 * text.toList.length ≤ n) (hbig : n ≤ 536870912) (hc : cells + 2 ≤ R.cells) (hl : slots + (n + 4) ≤ R.slots)
    (k : ∀ (T' : State) (h' : Heap) (a : Addr), Wk p l e R s m args below meth c Z a0 EL own n0 T' h' (cells + 2) (slots + (n + 4)) → Ext h h' → StrL Z h' a cs → Fi p e below s Z EL n0 Q kc ks (T'.setTop { g with pc := g.pc + 2, stack := .ref a :: g.stack })) : Fi p e below s Z EL n0 Q kc ks (T.setTop g) := by
  obtain ⟨vm0, k0, locs, X, eT, hS, hk, hZ, ho, N, CC, hE⟩ := W
  have ht : (∀ c ∈ text.toList, c.toNat < 256) ∧ text.toList.map (fun c => Value.int (Jvm.Lit.byteI c.toNat.toUInt16)) = (cs.map low8).map Value.int := ⟨ht'.1, by rw [← ht'.2, List.map_map]; rfl⟩
  have hz : (Int32.ofNat cs.length).toInt = cs.length := len_toInt (by have := hcs.2; omega)
  obtain ⟨a, T', h', k1, b, kb, X', e', E, hS', hk1, hZ', ho', A1, A2, A3, A4, -, -, hC, -, -, st⟩ := ldcCH X hx hZ ho w wS eT hS hk hE hmem CC.1 ht (z := Int32.ofNat cs.length) (by rw [Int32.lt_iff_toInt_lt, hz, show (0 : Int32).toInt = 0 from rfl]; omega) (by simp only [Int32.toNatClampNeg, hz, List.length_map]; omega) hg hd hn hbig hc hl
  exact (k T' h' a ⟨T'.vm, k1, locs, X', e', hS', hk1, hZ', ho', N, CC.trans hC, hE⟩ E ⟨b, kb, A1, A3, A2, A4, hcs.1, hcs.2⟩).via st
theorem all_nil {P : Int32 → Prop} : ∀ c ∈ ([] : List Int32), P c := fun _ q => (nomatch q)
theorem all_cons {P : Int32 → Prop} {a : Int32} {L : List Int32} (q : P a) (r : ∀ c ∈ L, P c) : ∀ c ∈ a :: L, P c := fun c hc => (List.mem_cons.mp hc).elim (fun e => e ▸ q) (r c)
theorem ch_ok {x : Int32} (q : ¬ x < 0 ∧ ¬ (255 : Int32) < x) : nar .char x = x ∧ fits .char (.int x) = true := by
  obtain ⟨h0, h1⟩ := q
  rw [Int32.lt_iff_toInt_lt] at h0 h1
  have e0 : (0 : Int32).toInt = 0 := rfl
  have e1 : (255 : Int32).toInt = 255 := rfl
  obtain ⟨k, hk⟩ : ∃ k : Nat, x.toInt = k := ⟨x.toInt.toNat, by omega⟩
  have hx : x = Int32.ofNat k := Int32.toInt_inj.mp (by rw [hk, Int32.toInt_ofNat_small (by omega)])
  have t : ∀ k : Fin 256, nar .char (Int32.ofNat k.val) = Int32.ofNat k.val ∧ fits .char (.int (Int32.ofNat k.val)) = true := by decide +kernel
  rw [hx]
  exact t ⟨k, by omega⟩
theorem big_ch {x : Int32} (q : ¬ (255 : Int32) < x) : ¬ (65535 : Int32) < x := by
  rw [Int32.lt_iff_toInt_lt] at q ⊢
  rw [show (255 : Int32).toInt = 255 from rfl] at q
  rw [show (65535 : Int32).toInt = 65535 from rfl]
  omega
theorem bnar {x : Int32} (q : x = 0 ∨ x = 1) : narrow .boolean (.int x) = .int x := by rcases q with rfl | rfl <;> rfl
theorem bfit {x : Int32} (q : x = 0 ∨ x = 1) : fits .boolean (.int x) = true := by rcases q with rfl | rfl <;> rfl
theorem and255 (x : Int32) : ¬ (x &&& 255) < 0 ∧ ¬ (255 : Int32) < (x &&& 255) := by
  have h : (x &&& 255).toBitVec.toNat < 256 := by
    simp only [Int32.toBitVec_and, BitVec.toNat_and]
    exact Nat.lt_succ_of_le Nat.and_le_right
  have e : (x &&& 255).toInt = ((x &&& 255).toBitVec.toNat : Int) := by
    show (x &&& 255).toBitVec.toInt = _
    rw [BitVec.toInt_eq_toNat_cond]
    split <;> omega
  rw [Int32.lt_iff_toInt_lt, Int32.lt_iff_toInt_lt, e, show (0 : Int32).toInt = 0 from rfl, show (255 : Int32).toInt = 255 from rfl]
  omega
theorem rng_nat {x : Int32} : (¬ x < 0 ∧ ¬ (255 : Int32) < x) ↔ x.toBitVec.toNat < 256 := by
  have e : x.toInt = x.toBitVec.toInt := rfl
  rw [Int32.lt_iff_toInt_lt, Int32.lt_iff_toInt_lt, e, show (0 : Int32).toInt = 0 from rfl, show (255 : Int32).toInt = 255 from rfl, BitVec.toInt_eq_toNat_cond]
  have := x.toBitVec.isLt
  split <;> omega
theorem xor255 {x y : Int32} (a : ¬ x < 0 ∧ ¬ (255 : Int32) < x) (b : ¬ y < 0 ∧ ¬ (255 : Int32) < y) : ¬ (x ^^^ y) < 0 ∧ ¬ (255 : Int32) < (x ^^^ y) := by
  rw [rng_nat] at a b ⊢
  rw [Int32.toBitVec_xor, BitVec.toNat_xor]
  exact Nat.xor_lt_two_pow (n := 8) a b
theorem b01 {v : Int32} {P : Prop} (q : (P ∧ v = 0) ∨ (¬ P ∧ v = 1)) : v = 0 ∨ v = 1 := q.elim (fun u => Or.inl u.2) (fun u => Or.inr u.2)
theorem r01 {r : Int32} {P : Prop} (q : (r = 1 ∧ P) ∨ (r = 0 ∧ ¬ P)) : r = 0 ∨ r = 1 := q.elim (fun u => Or.inr u.1) (fun u => Or.inl u.1)
theorem and3 (y : Int32) : y &&& 3 = 0 ∨ y &&& 3 = 1 ∨ y &&& 3 = 2 ∨ y &&& 3 = 3 := by
  have h : (y &&& 3).toBitVec.toNat < 4 := by
    simp only [Int32.toBitVec_and, BitVec.toNat_and]
    exact Nat.lt_succ_of_le Nat.and_le_right
  obtain ⟨k, hk⟩ : ∃ k, k = (y &&& 3).toBitVec.toNat := ⟨_, rfl⟩
  rw [← hk] at h
  have e : y &&& 3 = Int32.ofNat k := by
    apply Int32.toBitVec_inj.mp
    apply BitVec.eq_of_toNat_eq
    rw [← hk]
    show k = (BitVec.ofNat 32 k).toNat
    rw [BitVec.toNat_ofNat, Nat.mod_eq_of_lt (by omega)]
  rw [e]
  have : k = 0 ∨ k = 1 ∨ k = 2 ∨ k = 3 := by omega
  rcases this with rfl | rfl | rfl | rfl <;> decide
theorem rem3 {y z : Int32} (q : z = (y &&& 3) - ((y &&& 3) / 3) * 3) : z = 0 ∨ z = 1 ∨ z = 2 := by
  subst q
  rcases and3 y with e | e | e | e <;> rw [e] <;> decide
theorem Wk.castore (W : Wk p l e R s m args below meth c Z a0 EL own n0 T h cells slots) (hx : p.tables.exec = Jvm.exec) {a : Addr} {k : ClassId} {N : Int32} {cs : List Int32} {d : Value} (A : Arv Z h a k .char N (cs.map Value.int) d) {i : Nat} (hi : i < cs.length) {j x : Int32} (hj : j.toNatClampNeg = i) (hj0 : ¬ j < 0) (hN : N.toNatClampNeg = cs.length) (hc : nar .char x = x ∧ fits .char (.int x) = true)
    {g : JFrame} (hg : g.method = m) {rest : List Value} (hs : g.stack = .int x :: .int j :: .ref a :: rest) (hd : decode c.code g.pc = .ok (.castore, 1)) (ha : n0 ≤ a)
    (kk : ∀ (T' : State) (h' : Heap), Wk p l e R s m args below meth c Z a0 EL own n0 T' h' cells slots → Wr h h' a j.toNatClampNeg (.int x) → Arv Z h' a k .char N ((cs.set i x).map Value.int) d → Fi p e below s Z EL n0 Q kc ks (T'.setTop { g with pc := g.pc + 1, stack := rest })) : Fi p e below s Z EL n0 Q kc ks (T.setTop g) := by
  obtain ⟨vm0, k0, locs, X, eT, hS, hk, hZ, ho, N0, CC, hE⟩ := W
  obtain ⟨cl, A1, A2, A3, A4, A5, A6⟩ := id A
  obtain ⟨T', h', X', e', Wr', st⟩ := stC X hx hZ eT A1 (j := j) (x := x) (by rw [A3, hN, hj]; exact fun q => q.elim hj0 (fun q => absurd hi (Nat.not_lt.mpr q))) hg hs hd
  rw [hc.1] at Wr'
  have V := Arv.set A1 A2 A3 A4 A5 A6 hc.2 Wr' i hj (by simpa using hi)
  refine (kk T' h' ⟨vm0, k0, _, X', e', hS, by rw [Wr'.size]; exact hk, hZ, ho, Fr.snoc X' N0 ha, CC.trans (CHr.wr Wr' (Safe.arr hZ.alike A1 (by decide)) CC.1), hE⟩ Wr' ?_).via st
  rw [List.map_set]; exact V
theorem Wk.alen (W : Wk p l e R s m args below meth c Z a0 EL own n0 T h cells slots) (hx : p.tables.exec = Jvm.exec) {a : Addr} {k : ClassId} {ty : FieldType} {N : Int32} {vs : List Value} {d : Value} (A : Arv Z h a k ty N vs d)
    {g : JFrame} (hg : g.method = m) {rest : List Value} (hs : g.stack = .ref a :: rest) (hd : decode c.code g.pc = .ok (.arraylength, 1)) (f : Fi p e below s Z EL n0 Q kc ks (T.setTop { g with pc := g.pc + 1, stack := .int N :: rest })) : Fi p e below s Z EL n0 Q kc ks (T.setTop g) := by
  obtain ⟨vm0, k0, locs, X, eT, hS, hk, hZ, ho, N0, CC, hE⟩ := W
  obtain ⟨cl, A1, A2, A3, A4, A5, A6⟩ := A
  exact f.via fun t ht => X.arraylength hx (by rw [eT]; exact A1.1) (State.isArrayOf_alike (s := Z) hZ.alike A1.2.1) hg hs hd t (by rw [len_of A3 A4]; exact ht)
theorem set_same {α : Type} {A : Array α} {i : Nat} {v : α} (q : A[i]? = some v) : A.setIfInBounds i v = A := by
  apply Array.ext_getElem?
  intro j
  rw [Array.getElem?_setIfInBounds]
  split
  · next e => subst e; rw [if_pos (Array.getElem?_eq_some_iff.mp q).1]; exact q.symm
  · rfl
/-- a field is written with what it holds already: the heap stays -/
theorem Wk.putSame (W : Wk p l e R s m args below meth c Z a0 EL own n0 T h cells slots) (hx : p.tables.exec = Jvm.exec) {O n d C : String} {index kk : Nat} {ty : FieldType} (w : (Jvm.Cond.fieldLink own index O n d).before a0 Z = true) {a : Addr} {v : Value} (F : Fld Z h a O n d v) (E : Exa Z h a C)
    (L : (Jvm.Cond.lays C O n d).before a0 Z = true ∨ ((Jvm.Cond.laysFinal C O n d).before a0 Z = true ∧ own = O ∧ meth.name = "<init>")) (wi : (Jvm.Cond.instantiable C kk).before a0 Z = true) (hty : parseFieldDescriptor d = some ty) (hn : narrow ty v = v) (hf : fits ty v = true)
    {g : JFrame} (hg : g.method = m) {rest : List Value} (hs : g.stack = v :: .ref a :: rest) (hd : decode c.code g.pc = .ok (.putfield index, 3)) (ha : n0 ≤ a)
    (k : ∀ (T' : State), Wk p l e R s m args below meth c Z a0 EL own n0 T' h cells slots → Fi p e below s Z EL n0 Q kc ks (T'.setTop { g with pc := g.pc + 3, stack := rest })) : Fi p e below s Z EL n0 Q kc ks (T.setTop g) := by
  obtain ⟨vm0, k0, locs, X, eT, hS, hk, hZ, ho, N, CC, hE⟩ := W
  obtain ⟨T', h', X', e', Wr', st⟩ := Jvm.RoadKit.putF X hx hZ ho (host := "") (Or.inl w) Via.refl eT F E L wi hty hn hf hg hs hd
  have eh : h' = h := by
    obtain ⟨cell, w1, w2, w3, rfl⟩ := Wr'
    obtain ⟨cell', cf, k', i, f, h1, h2, -, -, -, -, h7⟩ := F
    cases w1.symm.trans h1
    have es : Jvm.RoadKit.slotOf Z O n d = f.slot := by simp [Jvm.RoadKit.slotOf, h2]
    rw [es]
    have ec : cell.setSlot f.slot v = cell := by
      have hb := (Array.getElem?_eq_some_iff.mp h7)
      obtain ⟨hb1, hb2⟩ := hb
      have : cell.slots.setIfInBounds f.slot v = cell.slots := set_same h7
      simp [Cell.setSlot, this]
    rw [ec]
    exact set_same w1
  subst eh
  exact (k T' ⟨vm0, k0, _, X', e', hS, hk, hZ, ho, Fr.snoc X' N ha, CC, hE⟩).via st
end Base
/-! ## plain steps, the value said as it is wanted -/
section Plain
variable {tb : Tables} [Ours tb] {e : Env} {below : List Frame} {T target : State} {m : MethodId} {c : Code} {g : JFrame}
theorem iconstZ (h : At T m c below) (hx : tb.exec = Jvm.exec) (hg : g.method = m) {i : Int} {z : Int32} (hd : decode c.code g.pc = .ok (.iconst i, 1)) (q : Int32.ofInt i = z) (hr : Steps tb e below (T.setTop { g with pc := g.pc + 1, stack := .int z :: g.stack }) target) : Steps tb e below (T.setTop g) target := by
  subst q; exact XS.iconst h hx hg hd hr
theorem bipushZ (h : At T m c below) (hx : tb.exec = Jvm.exec) (hg : g.method = m) {i : Int} {z : Int32} (hd : decode c.code g.pc = .ok (.bipush i, 2)) (q : (Int8.ofInt i).toInt32 = z) (hr : Steps tb e below (T.setTop { g with pc := g.pc + 2, stack := .int z :: g.stack }) target) : Steps tb e below (T.setTop g) target := by
  subst q; exact XS.bipush h hx hg hd hr
theorem sipushZ (h : At T m c below) (hx : tb.exec = Jvm.exec) (hg : g.method = m) {i : Int} {z : Int32} (hd : decode c.code g.pc = .ok (.sipush i, 3)) (q : (Int16.ofInt i).toInt32 = z) (hr : Steps tb e below (T.setTop { g with pc := g.pc + 3, stack := .int z :: g.stack }) target) : Steps tb e below (T.setTop g) target := by
  subst q; exact XS.sipush h hx hg hd hr
theorem i2cZ (h : At T m c below) (hx : tb.exec = Jvm.exec) (hg : g.method = m) {v z : Int32} {rest : List Value} (hd : decode c.code g.pc = .ok (.i2c, 1)) (hs : g.stack = .int v :: rest) (q : v.toUInt32.toUInt16.toUInt32.toInt32 = z) (hr : Steps tb e below (T.setTop { g with pc := g.pc + 1, stack := .int z :: rest }) target) : Steps tb e below (T.setTop g) target := by
  subst q; exact XS.i2c h hx hg hd hs hr
theorem acmpTEq {a b : Addr} (q : a = b) : if_acmp.holds .eq (some a) (some b) = true := by subst q; simp [if_acmp.holds]
theorem acmpTNe {a b : Addr} (q : a = b) : if_acmp.holds .ne (some a) (some b) = false := by subst q; simp [if_acmp.holds]
theorem acmpFEq {a b : Addr} (q : ¬ a = b) : if_acmp.holds .eq (some a) (some b) = false := by simp [if_acmp.holds, q]
theorem acmpFNe {a b : Addr} (q : ¬ a = b) : if_acmp.holds .ne (some a) (some b) = true := by simp [if_acmp.holds, q]
end Plain
end Jvm.OwnW
namespace Jvm.OwnW
open Jvm Jvm.ClassFile Sem Op Lib Jvm.Free Jvm.Stand Jvm.LawKit Jvm.RoadKit Bundle
section Base2
variable {p : Program} {l : Launch} {e : Env} {R : Room} {s : State} {m : MethodId} {args : Array Value} {below : List Frame} {meth : Method} {c : Code} {Z : State} {a0 : Array Value} {EL : List (String × Nat)} {own : String} {n0 : Nat} {T : State} {h h' h1 h2 : Heap} {cells slots : Nat} {Q : Option Value → Heap → Prop} {kc ks : Nat}
/-- the walk stands here, and nothing that is held lies at x -/
def WkS (p : Program) (l : Launch) (e : Env) (R : Room) (s : State) (m : MethodId) (args : Array Value) (below : List Frame) (meth : Method) (c : Code) (Z : State) (a0 : Array Value) (EL : List (String × Nat)) (own : String) (n0 : Nat) (T : State) (h : Heap) (cells slots : Nat) (x : Addr) : Prop :=
  ∃ (vm0 : Vm) (k0 : Nat) (locs : List Loc), (Stand p l e R (s.setVm vm0) m args below meth c T locs cells slots ∧ T.heap = h ∧ s.Since vm0 k0 ∧ k0 ≤ h.size ∧ Z.Warmed39 vm0 ∧ vm0.findClass own = some m.cls ∧ Fr n0 locs ∧ CHr Z EL s.vm s.heap vm0 h ∧ EW Z a0 EL) ∧ Safe Z EL vm0 h x
theorem WkS.wk {x : Addr} (W : WkS p l e R s m args below meth c Z a0 EL own n0 T h cells slots x) : Wk p l e R s m args below meth c Z a0 EL own n0 T h cells slots := by
  obtain ⟨vm0, k0, locs, r, -⟩ := W
  exact ⟨vm0, k0, locs, r⟩
theorem Wk.newPS (W : Wk p l e R s m args below meth c Z a0 EL own n0 T h cells slots) (hx : p.tables.exec = Jvm.exec) {aty : ArrayType} (w : (Jvm.Cond.arrayClass (newarray.typeOf aty)).before a0 Z = true)
    {g : JFrame} (hg : g.method = m) (hd : decode c.code g.pc = .ok (.newarray aty, 2)) {n : Int32} {rest : List Value} (hs : g.stack = .int n :: rest) (hn : ¬ n < 0) {cap : Nat} (hcap : n.toNatClampNeg ≤ cap) (hb : cap * 8 ≤ 536870912) (hc : cells + 1 ≤ R.cells) (hl : slots + cap ≤ R.slots)
    (k : ∀ (T' : State) (h' : Heap) (a : Addr) (cA : ClassId), @Eq Nat a h.size → WkS p l e R s m args below meth c Z a0 EL own n0 T' h' (cells + 1) (slots + cap) a → Ext h h' → Arv Z h' a cA (newarray.typeOf aty) n [] (defaultValue (newarray.typeOf aty)) →
      Fi p e below s Z EL n0 Q kc ks (T'.setTop { g with pc := g.pc + 2, stack := .ref a :: rest })) : Fi p e below s Z EL n0 Q kc ks (T.setTop g) := by
  obtain ⟨vm0, k0, locs, X, eT, hS, hk, hZ, ho, N, CC, hE⟩ := W
  obtain ⟨T', h', cA, X', e', E, A, st⟩ := Jvm.RoadKit.newP X hx hZ w eT hg hd hs hn hcap hb hc hl
  exact (k T' h' _ cA rfl ⟨vm0, k0, locs, ⟨X', e', hS, Nat.le_trans hk E.1, hZ, ho, N, CC.trans (CHr.ext E CC.1), hE⟩, Safe.ext E CC.1 (Safe.new (Nat.le_refl _))⟩ E (Arv.new A hn)).via st
theorem WkS.bastore {a : Addr} (W : WkS p l e R s m args below meth c Z a0 EL own n0 T h cells slots a) (hx : p.tables.exec = Jvm.exec) {k : ClassId} {N : Int32} {cs : List Int32} {d : Value} (A : Arv Z h a k .byte N (cs.map Value.int) d) {i : Nat} (hi : i < cs.length) {j x : Int32} (hj : j.toNatClampNeg = i) (hj0 : ¬ j < 0) (hN : N.toNatClampNeg = cs.length) (hc : nar .byte x = x ∧ fits .byte (.int x) = true)
    {g : JFrame} (hg : g.method = m) {rest : List Value} (hs : g.stack = .int x :: .int j :: .ref a :: rest) (hd : decode c.code g.pc = .ok (.bastore, 1)) (ha : n0 ≤ a)
    (kk : ∀ (T' : State) (h' : Heap), WkS p l e R s m args below meth c Z a0 EL own n0 T' h' cells slots a → Wr h h' a j.toNatClampNeg (.int x) → Arv Z h' a k .byte N ((cs.set i x).map Value.int) d → Fi p e below s Z EL n0 Q kc ks (T'.setTop { g with pc := g.pc + 1, stack := rest })) : Fi p e below s Z EL n0 Q kc ks (T.setTop g) := by
  obtain ⟨vm0, k0, locs, ⟨X, eT, hS, hk, hZ, ho, N0, CC, hE⟩, SA⟩ := W
  obtain ⟨cl, A1, A2, A3, A4, A5, A6⟩ := id A
  obtain ⟨T', h', X', e', Wr', st⟩ := stB X hx hZ eT A1 (j := j) (x := x) (by rw [A3, hN, hj]; exact fun q => q.elim hj0 (fun q => absurd hi (Nat.not_lt.mpr q))) hg hs hd
  rw [hc.1] at Wr'
  have V := Arv.set A1 A2 A3 A4 A5 A6 hc.2 Wr' i hj (by simpa using hi)
  refine (kk T' h' ⟨vm0, k0, _, ⟨X', e', hS, by rw [Wr'.size]; exact hk, hZ, ho, Fr.snoc X' N0 ha, CC.trans (CHr.wr Wr' SA CC.1), hE⟩, Safe.wr Wr' SA CC.1 SA⟩ Wr' ?_).via st
  rw [List.map_set]; exact V
theorem low_ok (x : Int32) : nar .byte (low8 x) = low8 x ∧ fits .byte (.int (low8 x)) = true := by
  refine ⟨?_, ?_⟩
  · show x.toInt8.toInt32.toInt8.toInt32 = x.toInt8.toInt32
    simp
  · show (decide ((-128 : Int32) ≤ x.toInt8.toInt32) && decide (x.toInt8.toInt32 ≤ 127)) = true
    simp only [Bool.and_eq_true, decide_eq_true_eq, Int32.le_iff_toInt_le, Int8.toInt_toInt32, show (-128 : Int32).toInt = -128 from by decide, show (127 : Int32).toInt = 127 from by decide]
    have h1 := Int8.le_toInt x.toInt8
    have h2 := Int8.toInt_lt x.toInt8
    omega
theorem Wk.ldcI (W : Wk p l e R s m args below meth c Z a0 EL own n0 T h cells slots) (hx : p.tables.exec = Jvm.exec) {index : Nat} {v : Int32} (w : (Jvm.Cond.constant own index v).before a0 Z = true) {g : JFrame} (hg : g.method = m) (hd : decode c.code g.pc = .ok (.ldc index, 2))
    (f : Fi p e below s Z EL n0 Q kc ks (T.setTop { g with pc := g.pc + 2, stack := .int v :: g.stack })) : Fi p e below s Z EL n0 Q kc ks (T.setTop g) := by
  obtain ⟨vm0, k0, locs, X, eT, hS, hk, hZ, ho, N, CC, hE⟩ := W
  have hZ' : Z.Warmed39 (s.setVm vm0).vm := hZ
  exact f.via (X.ldcInt hx ho (mvT hZ' w) hg hd)
/-- invokevirtual of a private method of the object's own class -/
theorem Wk.callP (W : Wk p l e R s m args below meth c Z a0 EL own n0 T h cells slots) (hx : p.tables.exec = Jvm.exec) {index : Nat} {y : MethodName} {bytes : ByteArray} {maxL nI : Nat} {ret : Option FieldType}
    (w1 : (Jvm.Cond.methodLink own index y).before a0 Z = true) (w2 : (Jvm.Cond.instanceMethod y).before a0 Z = true) (w3 : (Jvm.Cond.privateMethod y).before a0 Z = true) (w4 : (Jvm.Cond.code y bytes maxL ret).before a0 Z = true) (w5 : (Jvm.Cond.instantiable y.cls nI).before a0 Z = true) (hy : y.cls ≠ "java/lang/invoke/MethodHandle" ∧ y.cls ≠ "java/lang/invoke/VarHandle")
    {Wd k n : Nat} {as' : Array Value} {Qy : Option Value → Heap → Prop} (P : Pay l R p e below s args Z EL n0 y Wd as' h Qy k n) {a : Addr} {C : String} (E : Exa Z h a C)
    {g : JFrame} (hg : g.method = m) (hsize : g.locals.size = c.maxLocals) {argsL rest : List Value} (hlen : ∀ sig, parseMethodDescriptor y.desc = some sig → argsL.length = sig.parameters.length) (hstack : g.stack = argsL.reverse ++ .ref a :: rest) (has : (Value.ref a :: argsL).toArray = as') (hW : 2 * g.monitorRoom + (rest.map fun v => v.category).sum ≤ Wd)
    (hd : decode c.code g.pc = .ok (.invokevirtual index, 3)) (hc : cells + k ≤ R.cells) (hl : slots + n ≤ R.slots)
    (kk : ∀ (v : Option Value) (T' : State) (h' : Heap), Wk p l e R s m args below meth c Z a0 EL own n0 T' h' (cells + k) (slots + n) → h.size ≤ h'.size → Qy v h' → Fi p e below s Z EL n0 Q kc ks (T'.setTop { g with pc := g.pc + 3, stack := v.toList ++ rest })) : Fi p e below s Z EL n0 Q kc ks (T.setTop g) := by
  obtain ⟨vm0, k0, locs, X, eT, hS, hk, hZ, ho, N, CC, hE⟩ := W
  have hZ' : Z.Warmed39 (s.setVm vm0).vm := hZ
  obtain ⟨cell, hcell, hobj⟩ := E.cell
  obtain ⟨mk, methM, hnamed, hmethM, hstM, habM⟩ := Cond.instanceMethod_spec (mvT (args := args) hZ' w2)
  obtain ⟨methM', cM, hmethM', -, -, -, -, -, -, hsigM⟩ := Cond.code_spec hnamed (mvT (args := args) hZ' w4)
  cases hmethM.symm.trans hmethM'
  obtain ⟨cI, kI, i1, i2, i3, i4, -⟩ := Cond.instantiable_spec (mvT (args := args) hZ' w5)
  have hfc := findClass_of_methodNamed hnamed
  cases hfc.symm.trans i1
  have hni : kI.isInterface = false := by
    cases hq : kI.isInterface with
    | false => rfl
    | true => simp [hq] at i4
  have hselP : selectMethod e.platform (s.setVm vm0).vm cell.cls mk = .method mk := selectMethod_private hmethM (Cond.privateMethod_at (mvP (args := args) hZ' w3) mk methM hnamed hmethM)
  obtain ⟨vm₁, X₁, hstep₁⟩ := X.invokevirtual hx ho (mvT hZ' w1) hnamed hmethM hstM i2 hni hy (a := a) (cell := cell) (by rw [eT]; exact hcell) hobj hselP hmethM habM i2 hni (g := g) hg (argsL := argsL) (rest := rest) (hlen _ hsigM) hstack hd
  have hW₁ : (s.setVm vm0).WarmedH vm₁ := X₁.warmed
  obtain ⟨v, ⟨U, L', k', n'⟩, X', hS', hgr, ⟨L, ⟨NL, hq⟩, l1, l2, l3, hC⟩, hsteps⟩ := P vm0 hZ CC.1 m meth c ⟨T.setVm vm₁, locs, cells, slots⟩ { g with stack := rest } (.invokevirtual index) mk (.ref a :: argsL).toArray X₁ hg hsize hd hW (X₁.named hnamed) ⟨has, eT, hc, hl⟩
  dsimp only [Pt.U, Pt.locs, Pt.cells, Pt.slots] at X' hS' hgr hq l1 l2 l3 hC hsteps
  subst l1 l2 l3
  have hgr : h.size ≤ U.heap.size := by rw [← eT]; exact hgr
  obtain ⟨Y1, Y2, Y3, Y4⟩ := rebS hS hk X' hS' hgr hZ ho
  exact (kk v U U.heap ⟨U.vm, _, _, Y1, rfl, Y2, Nat.le_refl _, Y3, Y4, N.app NL, CC.trans hC, hE⟩ hgr hq).via fun t ht => ((hstep₁ _ fun acts => by rw [doInvoke_state]; exact Steps.refl _).trans hsteps).trans ht
end Base2
end Jvm.OwnW
namespace Jvm.OwnW
open Jvm Jvm.ClassFile Sem Op Lib Jvm.Free Jvm.Stand Jvm.LawKit Jvm.RoadKit Bundle
section Base4
variable {p : Program} {l : Launch} {e : Env} {R : Room} {s : State} {m : MethodId} {args : Array Value} {below : List Frame} {meth : Method} {c : Code} {Z : State} {a0 : Array Value} {EL : List (String × Nat)} {own : String} {n0 : Nat} {T : State} {h h' h1 h2 : Heap} {cells slots : Nat} {Q : Option Value → Heap → Prop} {kc ks : Nat}
theorem Wk.ldcL (W : Wk p l e R s m args below meth c Z a0 EL own n0 T h cells slots) (hx : p.tables.exec = Jvm.exec) {index : Nat} {v : Int64} (w : (Jvm.Cond.constantLong own index v).before a0 Z = true) {g : JFrame} (hg : g.method = m) (hd : decode c.code g.pc = .ok (.ldc2_w index, 3))
    (f : Fi p e below s Z EL n0 Q kc ks (T.setTop { g with pc := g.pc + 3, stack := .long v :: g.stack })) : Fi p e below s Z EL n0 Q kc ks (T.setTop g) := by
  obtain ⟨vm0, k0, locs, X, eT, hS, hk, hZ, ho, N, CC, hE⟩ := W
  have hZ' : Z.Warmed39 (s.setVm vm0).vm := hZ
  exact f.via (X.ldc2Long hx ho (mvT hZ' w) hg hd)
theorem Wk.castY (W : Wk p l e R s m args below meth c Z a0 EL own n0 T h cells slots) (hx : p.tables.exec = Jvm.exec) {K : String} {index : Nat} (w : (Jvm.Cond.classLink own index K).before a0 Z = true) {a : Addr} (F : Ins Z h a K true)
    {g : JFrame} (hg : g.method = m) {rest : List Value} (hs : g.stack = .ref a :: rest) (hd : decode c.code g.pc = .ok (.checkcast index, 3))
    (k : ∀ T' : State, Wk p l e R s m args below meth c Z a0 EL own n0 T' h cells slots → Fi p e below s Z EL n0 Q kc ks (T'.setTop { g with pc := g.pc + 3 })) : Fi p e below s Z EL n0 Q kc ks (T.setTop g) := by
  obtain ⟨vm0, k0, locs, X, eT, hS, hk, hZ, ho, N, CC, hE⟩ := W
  obtain ⟨T', X', e', st⟩ := Jvm.RoadKit.castY X hx hZ ho w eT F hg hs hd
  exact (k T' ⟨vm0, k0, locs, X', e', hS, hk, hZ, ho, N, CC, hE⟩).via st
theorem Wk.aaload (W : Wk p l e R s m args below meth c Z a0 EL own n0 T h cells slots) (hx : p.tables.exec = Jvm.exec) {a : Addr} {k : ClassId} {ty : FieldType} {N : Int32} {vs : List Value} {d : Value} (A : Arv Z h a k ty N vs d) (hty : ty.isReference = true) {j : Int32} {v : Value} (hj : ¬ j < 0 ∧ j < N) (hv : vs.getD j.toNatClampNeg d = v)
    {g : JFrame} (hg : g.method = m) {rest : List Value} (hs : g.stack = .int j :: .ref a :: rest) (hd : decode c.code g.pc = .ok (.aaload, 1)) (f : Fi p e below s Z EL n0 Q kc ks (T.setTop { g with pc := g.pc + 1, stack := v :: rest })) : Fi p e below s Z EL n0 Q kc ks (T.setTop g) := by
  obtain ⟨vm0, k0, locs, X, eT, hS, hk, hZ, ho, N0, CC, hE⟩ := W
  obtain ⟨cl, A1, A2, A3, A4, A5, A6⟩ := A
  have hin := inb_of A3 hj
  exact f.via fun t ht => X.aaload hx (by rw [eT]; exact A1.1) (State.isArrayOf_alike (s := Z) hZ.alike A1.2.1) hty A1.2.2 hin (Has.at A5 hin hv) hg hs hd t ht
theorem Wk.cloneV (W : Wk p l e R s m args below meth c Z a0 EL own n0 T h cells slots) (hx : p.tables.exec = Jvm.exec) {ad : String} {index : Nat}
    (w1 : (Jvm.Cond.methodLink own index ⟨ad, "clone", "()Ljava/lang/Object;"⟩).before a0 Z = true) (w2 : (Jvm.Cond.sameMethod ad "java/lang/Object" "clone" "()Ljava/lang/Object;").before a0 Z = true) (w3 : (Jvm.Cond.native ⟨"java/lang/Object", "clone", "()Ljava/lang/Object;"⟩).before a0 Z = true)
    (w4 : (Jvm.Cond.instanceMethod ⟨"java/lang/Object", "clone", "()Ljava/lang/Object;"⟩).before a0 Z = true) (w5 : (Jvm.Cond.selects ad ⟨ad, "clone", "()Ljava/lang/Object;"⟩ ⟨"java/lang/Object", "clone", "()Ljava/lang/Object;"⟩).before a0 Z = true) (w6 : (Jvm.Cond.castable ad "java/lang/Cloneable").before a0 Z = true)
    {a : Addr} {k : ClassId} {ty : FieldType} {N : Int32} {vs : List Value} {d : Value} (A : Arv Z h a k ty N vs d) (E : Exa Z h a ad) {g : JFrame} (hg : g.method = m) (hsize : g.locals.size = c.maxLocals) {rest : List Value} (hs : g.stack = .ref a :: rest) (hd : decode c.code g.pc = .ok (.invokevirtual index, 3))
    (hf : 1 ≤ R.frames) {Wd cap : Nat} (hW : 2 * g.monitorRoom + (rest.map fun v => v.category).sum ≤ Wd) (hl : Wd + 14 ≤ R.locals) (hcap : N.toNatClampNeg ≤ cap) (hc : cells + 1 ≤ R.cells) (hsl : slots + cap ≤ R.slots)
    (kk : ∀ (T' : State) (h' : Heap) (b : Addr), @Eq Nat b h.size → Wk p l e R s m args below meth c Z a0 EL own n0 T' h' (cells + 1) (slots + cap) → Ext h h' → Arv Z h' b k ty N vs d → Exa Z h' b ad → Fi p e below s Z EL n0 Q kc ks (T'.setTop { g with pc := g.pc + 3, stack := .ref b :: rest })) : Fi p e below s Z EL n0 Q kc ks (T.setTop g) := by
  obtain ⟨vm0, k0, locs, X, eT, hS, hk, hZ, ho, N0, CC, hE⟩ := W
  obtain ⟨cl, A1, A2, A3, A4, A5, A6⟩ := A
  have FC : FitC Z cl := fitC_of A1 fun i hi v hv => by rw [A5 i hi] at hv; cases hv; exact A6 i hi
  obtain ⟨T', h', X', e', E', A', Ex', st⟩ := cloneA X hx hZ ho w1 w2 w3 w4 w5 w6 eT A1 E FC hg hsize hs hd hf hW hl (by rw [A3]; exact hcap) hc hsl
  exact (kk T' h' _ rfl ⟨vm0, k0, locs, X', e', hS, Nat.le_trans hk E'.1, hZ, ho, N0, CC.trans (CHr.ext E' CC.1), hE⟩ E' ⟨cloneOf cl, A', A2, A3, A4, A5, A6⟩ Ex').via st
/-- a char[] of which only the range of the chars is told -/
def CA (Z : State) (h : Heap) (a : Addr) (k : ClassId) (N : Int32) : Prop := ∃ cs : List Int32, cs.length = N.toNatClampNeg ∧ (∀ c ∈ cs, ¬ c < 0 ∧ ¬ (255 : Int32) < c) ∧ Arv Z h a k .char N (cs.map Value.int) (.int 0)
theorem CA.ext {a : Addr} {k : ClassId} {N : Int32} (F : CA Z h a k N) (E : Ext h h') : CA Z h' a k N := by
  obtain ⟨cs, q1, q2, q3⟩ := F
  exact ⟨cs, q1, q2, q3.ext E⟩
theorem CA.new {a : Addr} {k : ClassId} {N : Int32} (A : Arv Z h a k .char N [] (.int 0)) : CA Z h a k N := by
  refine ⟨List.replicate N.toNatClampNeg 0, by simp, fun c hc => by rw [List.eq_of_mem_replicate hc]; decide, ?_⟩
  rw [List.map_replicate]
  exact A.pad (pad_rep [] (.int (0 : Int32)) _)
theorem lt_clamp {j N : Int32} (q : ¬ j < 0 ∧ j < N) : j.toNatClampNeg < N.toNatClampNeg := by
  obtain ⟨q1, q2⟩ := q
  have e0 : (0 : Int32).toInt = 0 := rfl
  simp only [Int32.lt_iff_toInt_lt, Int32.toNatClampNeg] at *; omega
theorem Wk.castoreCA (W : Wk p l e R s m args below meth c Z a0 EL own n0 T h cells slots) (hx : p.tables.exec = Jvm.exec) {a : Addr} {k : ClassId} {N : Int32} (A : CA Z h a k N) {j x : Int32} (hj : ¬ j < 0 ∧ j < N) (hr : ¬ x < 0 ∧ ¬ (255 : Int32) < x)
    {g : JFrame} (hg : g.method = m) {rest : List Value} (hs : g.stack = .int x :: .int j :: .ref a :: rest) (hd : decode c.code g.pc = .ok (.castore, 1)) (ha : n0 ≤ a)
    (kk : ∀ (T' : State) (h' : Heap), Wk p l e R s m args below meth c Z a0 EL own n0 T' h' cells slots → Wr h h' a j.toNatClampNeg (.int x) → CA Z h' a k N → Fi p e below s Z EL n0 Q kc ks (T'.setTop { g with pc := g.pc + 1, stack := rest })) : Fi p e below s Z EL n0 Q kc ks (T.setTop g) := by
  obtain ⟨cs, q1, q2, q3⟩ := A
  exact W.castore hx q3 (i := j.toNatClampNeg) (by rw [q1]; exact lt_clamp hj) rfl hj.1 q1.symm (ch_ok hr) hg hs hd ha fun T' h' W' R' V' => kk T' h' W' R' ⟨_, by rw [List.length_set]; exact q1, fun c hc => (List.mem_or_eq_of_mem_set hc).elim (q2 c) (fun e => e ▸ hr), V'⟩
theorem Pay.more {y : MethodName} {Wd k n k' n' : Nat} {as' : Array Value} (P : Pay l R p e below s args Z EL n0 y Wd as' h Q k n) (hk : k ≤ k') (hn : n ≤ n') : Pay l R p e below s args Z EL n0 y Wd as' h Q k' n' := by
  intro vm0 hZ hC m meth c A g ig mk a X hg hsize hdg hW hnm hp
  obtain ⟨v, B, X', r1, r2, ⟨L, q, l1, l2, l3, l4⟩, st⟩ := P vm0 hZ hC m meth c A g ig mk a X hg hsize hdg hW hnm ⟨hp.1, hp.2.1, Nat.le_trans (Nat.add_le_add_left hk _) hp.2.2.1, Nat.le_trans (Nat.add_le_add_left hn _) hp.2.2.2⟩
  exact ⟨v, ⟨B.U, B.locs, A.cells + k', A.slots + n'⟩, X'.mono (by rw [l2]; exact Nat.add_le_add_left hk _) (by rw [l3]; exact Nat.add_le_add_left hn _), r1, r2, ⟨L, q, l1, rfl, rfl, l4⟩, st⟩
theorem Pay.weak {y : MethodName} {Wd k n : Nat} {as' : Array Value} {Q' : Option Value → Heap → Prop} (P : Pay l R p e below s args Z EL n0 y Wd as' h Q k n) (w : ∀ v h', Q v h' → Q' v h') : Pay l R p e below s args Z EL n0 y Wd as' h Q' k n := by
  intro vm0 hZ hC m meth c A g ig mk a X hg hsize hdg hW hnm hp
  obtain ⟨v, B, X', r1, r2, ⟨L, ⟨q, q'⟩, l1, l2, l3, l4⟩, st⟩ := P vm0 hZ hC m meth c A g ig mk a X hg hsize hdg hW hnm hp
  exact ⟨v, B, X', r1, r2, ⟨L, ⟨q, w _ _ q'⟩, l1, l2, l3, l4⟩, st⟩
end Base4
theorem eq_yes {r : Int32} {P : Prop} (h : (r = 1 ∧ P) ∨ (r = 0 ∧ ¬ P)) (q : ¬ r = 0) : P := h.elim (fun u => u.2) (fun u => absurd u.1 q)
theorem eq_no {r : Int32} {P : Prop} (h : (r = 1 ∧ P) ∨ (r = 0 ∧ ¬ P)) (q : r = 0) : ¬ P := h.elim (fun u => absurd (u.1.symm.trans q) (by decide)) (fun u => u.2)
theorem StrL.rng {Z : State} {h : Heap} {x : Addr} {cs : List Int32} (F : StrL Z h x cs) (i : Nat) : ¬ cs.getD i 0 < 0 ∧ ¬ (255 : Int32) < cs.getD i 0 := by
  obtain ⟨_, _, -, -, -, -, q, -⟩ := F
  rw [List.getD_eq_getElem?_getD]
  cases e : cs[i]? with
  | none => decide
  | some v => exact q v (List.mem_of_getElem? e)
theorem and255L (z : Int64) : ¬ (z &&& 255).toInt32 < 0 ∧ ¬ (255 : Int32) < (z &&& 255).toInt32 := by
  rw [rng_nat]
  have e : (z &&& 255).toInt32.toBitVec = (z &&& 255).toBitVec.signExtend 32 := rfl
  rw [e, BitVec.signExtend_eq_setWidth_of_le _ (by decide), BitVec.toNat_setWidth, Int64.toBitVec_and, BitVec.toNat_and]
  refine Nat.lt_of_le_of_lt (Nat.mod_le _ _) (Nat.lt_succ_of_le Nat.and_le_right)
theorem ch_nar {x : Int32} (q : ¬ x < 0 ∧ ¬ (255 : Int32) < x) : narrow .char (.int x) = .int x := congrArg Value.int (ch_ok q).1
/-- (x & MAX) % y for y = 5 | 6 -/
theorem rem_in {x y z : Int32} (hy : y = 5 ∨ y = 6) (e : z = (x &&& 2147483647) - ((x &&& 2147483647) / y) * y) : ¬ z < 0 ∧ z < y := by
  have h0 : 0 ≤ (x &&& 2147483647).toInt := by
    have h : (x &&& 2147483647).toBitVec.toNat ≤ 2147483647 := by
      simp only [Int32.toBitVec_and, BitVec.toNat_and]
      exact Nat.and_le_right
    show 0 ≤ (x &&& 2147483647).toBitVec.toInt
    rw [BitVec.toInt_eq_toNat_cond]
    split <;> omega
  have hp : 0 < y.toInt := by rcases hy with rfl | rfl <;> decide
  have q := (c_iremV (x &&& 2147483647) y).1 h0 hp
  rw [e, irem_eq_mod, Int32.lt_iff_toInt_lt, Int32.lt_iff_toInt_lt, show (0 : Int32).toInt = 0 from rfl]
  omega
/-! ## what the start's words say of arrays and Strings -/
section Start
variable {Z : State} {args : Array Value}
theorem eq_val {a b : Term} {v : Value} (h : (Jvm.Cond.eq a b).value args Z none Z [] = some true) (hb : b.eval args Z none [] Z = some v) (hk : (match v with | .int _ => true | .ref _ => true | .null => true | _ => false) = true := by rfl) : a.eval args Z none [] Z = some v := by
  cases ha : a.eval args Z none [] Z with
  | none => simp [Cond.value, ha] at h
  | some x => cases x <;> cases v <;> simp [Cond.value, ha, hb] at h hk ⊢ <;> exact h
theorem len_start {t : Term} {a : Addr} {cl : Cell} {ty : FieldType} {N : Int32} (A : Arr Z Z.heap a cl ty) (ev : t.eval args Z none [] Z = some (.ref a)) (hq : (Jvm.Cond.eq (.length t) (.int N)).value args Z none Z [] = some true) : cl.slots.size < 2 ^ 31 ∧ cl.slots.size.toInt32 = N := by
  have h := eq_val hq (Term.int_eval N)
  have ha := A.fin (U := Z) (Vm.Alike.refl _)
  simp only [Term.eval, ev, ha, Option.bind_eq_bind, Option.bind_some] at h
  split at h
  · rename_i q
    exact ⟨q, by simpa using h⟩
  · cases h
theorem el_start {t u : Term} {a : Addr} {cl : Cell} {ty : FieldType} {v : Value} {i : Nat} (A : Arr Z Z.heap a cl ty) (ev : t.eval args Z none [] Z = some (.ref a)) (hq : (Jvm.Cond.eq (.elem t (.int (Int32.ofNat i))) u).value args Z none Z [] = some true) (hu : u.eval args Z none [] Z = some v) (hi : (Int32.ofNat i).toNatClampNeg = i) (hk : (match v with | .int _ => true | .ref _ => true | .null => true | _ => false) = true := by rfl) : cl.slots[i]? = some v := by
  have h := (elem_in (eq_val hq hu hk) ev (Term.int_eval _) A.1).2
  rwa [hi] at h
def ElL (args : Array Value) (Z : State) (t : Term) : Nat → List Int32 → Prop
  | _, [] => True
  | i, v :: r => (Jvm.Cond.eq (.elem t (.int (Int32.ofNat i))) (.int v)).value args Z none Z [] = some true ∧ ElL args Z t (i + 1) r
theorem ElL.has {t : Term} {a : Addr} {cl : Cell} {ty : FieldType} (A : Arr Z Z.heap a cl ty) (ev : t.eval args Z none [] Z = some (.ref a)) : ∀ (L : List Int32) (i : Nat), i + L.length < 2 ^ 31 → ElL args Z t i L → HasL cl i (L.map Value.int)
  | [], _, _, _ => trivial
  | v :: r, i, hi, H => ⟨el_start A ev H.1 (Term.int_eval v) (by
      simp only [List.length_cons] at hi
      simp only [Int32.toNatClampNeg, show (Int32.ofNat i).toInt = i from len_toInt (by omega)]; rfl), ElL.has A ev r (i + 1) (by simp only [List.length_cons] at hi; omega) H.2⟩
theorem strl_start (hf : Fit Z) {tn : Term} {n : Addr} (en : tn.eval args Z none [] Z = some (.ref n)) (ex : (Jvm.Cond.exactly tn "java/lang/String").value args Z none Z [] = some true) (ec : (Jvm.Cond.eq (.field tn "java/lang/String" "coder" "B") (.int 0)).value args Z none Z [] = some true)
    (ea : (Jvm.Cond.arrayOf (.field tn "java/lang/String" "value" "[B") .byte).value args Z none Z [] = some true) {N : Int32} (el : (Jvm.Cond.eq (.length (.field tn "java/lang/String" "value" "[B")) (.int N)).value args Z none Z [] = some true) {cs : List Int32} (hN : Int32.ofNat cs.length = N) (hcs : (∀ c ∈ cs, ¬ c < 0 ∧ ¬ (255 : Int32) < c) ∧ cs.length ≤ 4000)
    (hb : ElL args Z (.field tn "java/lang/String" "value" "[B") 0 (cs.map low8)) : StrL Z Z.heap n cs := by
  subst hN
  obtain ⟨t, et⟩ := arr_v ea
  obtain ⟨cl, A⟩ := Arr.start et ea
  obtain ⟨q1, q2⟩ := len_start A et el
  have hz : (Int32.ofNat cs.length).toInt = cs.length := len_toInt (by have := hcs.2; omega)
  refine ⟨t, cl.cls, Exa.start en ex, Fld.start ((fld_at en).symm.trans et), Fld.start ((fld_at en).symm.trans (eq_val ec (Term.int_eval 0))), Arv.start hf A q1 q2 (by rw [Int32.lt_iff_toInt_lt, hz, show (0 : Int32).toInt = 0 from rfl]; omega) (by simp only [Int32.toNatClampNeg, hz, List.length_map]; omega) (ElL.has A et _ 0 (by rw [List.length_map]; have := hcs.2; omega) hb), hcs.1, hcs.2⟩
end Start
end Jvm.OwnW
namespace Jvm.Pilot.@@N@@
open Jvm Jvm.ClassFile Sem Op Lib Jvm.Free Jvm.Stand Jvm.LawKit Jvm.RoadKit Bundle Jvm.OwnW Jvm.Pilot.@@N@@.Jvm.D
theorem ww {a0 : Array Value} {Z : State} (hw : ∀ d ∈ tables_1, d.before a0 Z = true) {i : Nat} {d : Jvm.Cond} (q : tables_1[i]? = some d) : d.before a0 Z = true := hw _ (List.mem_of_getElem? q)
theorem wS {a0 : Array Value} {Z : State} (hw : ∀ d ∈ tables_1, d.before a0 Z = true) : ∀ a ∈ Bundle.stringAtoms, a.before a0 Z = true := fun a ha => hw a ((by decide +kernel : ∀ d ∈ Bundle.stringAtoms, d ∈ tables_1) a ha)
def textAt (i : Nat) : String := match tables_1[i]? with | some (Jvm.Cond.stringLink _ _ t) => t | _ => ""
def EL : List (String × Nat) := [("com/example/exact_roles/exactroles/credentials/ApiNamedPinLaw", 7), ("com/example/exact_roles/exactroles/credentials/ApiNamedPinLaw", 15), ("com/example/exact_roles/exactroles/credentials/ApiNamedPinLaw", 17), ("java/lang/String", 7)]
theorem hEL {a0 : Array Value} {Z : State} (hw : ∀ d ∈ tables_1, d.before a0 Z = true) : EW Z a0 EL := (EW.cons (ww hw (i := 9) rfl) (by decide +kernel) (EW.cons (ww hw (i := 72) rfl) (by decide +kernel) (EW.cons (ww hw (i := 73) rfl) (by decide +kernel) (EW.cons (ww hw (i := 139) rfl) (by decide +kernel) EW.nil))))
theorem d_method_2_code_0 : decode method_2_code 0 = .ok (.iload_n 0, 1) := by decide +kernel
theorem d_method_2_code_1 : decode method_2_code 1 = .ok (.ifCond .ne 10, 3) := by decide +kernel
theorem d_method_2_code_4 : decode method_2_code 4 = .ok (.ldc 7, 2) := by decide +kernel
theorem d_method_2_code_6 : decode method_2_code 6 = .ok (.iload_n 1, 1) := by decide +kernel
theorem d_method_2_code_7 : decode method_2_code 7 = .ok (.invokevirtual 9, 3) := by decide +kernel
theorem d_method_2_code_10 : decode method_2_code 10 = .ok (.ireturn, 1) := by decide +kernel
theorem d_method_2_code_11 : decode method_2_code 11 = .ok (.iload_n 0, 1) := by decide +kernel
theorem d_method_2_code_12 : decode method_2_code 12 = .ok (.iconst 1, 1) := by decide +kernel
theorem d_method_2_code_13 : decode method_2_code 13 = .ok (.if_icmp .ne 10, 3) := by decide +kernel
theorem d_method_2_code_16 : decode method_2_code 16 = .ok (.ldc 15, 2) := by decide +kernel
theorem d_method_2_code_18 : decode method_2_code 18 = .ok (.iload_n 1, 1) := by decide +kernel
theorem d_method_2_code_19 : decode method_2_code 19 = .ok (.invokevirtual 9, 3) := by decide +kernel
theorem d_method_2_code_22 : decode method_2_code 22 = .ok (.ireturn, 1) := by decide +kernel
theorem d_method_2_code_23 : decode method_2_code 23 = .ok (.iload_n 0, 1) := by decide +kernel
theorem d_method_2_code_24 : decode method_2_code 24 = .ok (.iconst 2, 1) := by decide +kernel
theorem d_method_2_code_25 : decode method_2_code 25 = .ok (.if_icmp .ne 10, 3) := by decide +kernel
theorem d_method_2_code_28 : decode method_2_code 28 = .ok (.ldc 17, 2) := by decide +kernel
theorem d_method_2_code_30 : decode method_2_code 30 = .ok (.iload_n 1, 1) := by decide +kernel
theorem d_method_2_code_31 : decode method_2_code 31 = .ok (.invokevirtual 9, 3) := by decide +kernel
theorem d_method_2_code_34 : decode method_2_code 34 = .ok (.ireturn, 1) := by decide +kernel
theorem d_method_2_code_35 : decode method_2_code 35 = .ok (.lload_n 2, 1) := by decide +kernel
theorem d_method_2_code_36 : decode method_2_code 36 = .ok (.bipush 8, 2) := by decide +kernel
theorem d_method_2_code_38 : decode method_2_code 38 = .ok (.iload_n 1, 1) := by decide +kernel
theorem d_method_2_code_39 : decode method_2_code 39 = .ok (.imul, 1) := by decide +kernel
theorem d_method_2_code_40 : decode method_2_code 40 = .ok (.lushr, 1) := by decide +kernel
theorem d_method_2_code_41 : decode method_2_code 41 = .ok (.ldc2_w 19, 3) := by decide +kernel
theorem d_method_2_code_44 : decode method_2_code 44 = .ok (.land, 1) := by decide +kernel
theorem d_method_2_code_45 : decode method_2_code 45 = .ok (.l2i, 1) := by decide +kernel
theorem d_method_2_code_46 : decode method_2_code 46 = .ok (.i2c, 1) := by decide +kernel
theorem d_method_2_code_47 : decode method_2_code 47 = .ok (.ireturn, 1) := by decide +kernel
theorem d_method_3_code_0 : decode method_3_code 0 = .ok (.iload_n 1, 1) := by decide +kernel
theorem d_method_3_code_1 : decode method_3_code 1 = .ok (.iload_n 2, 1) := by decide +kernel
theorem d_method_3_code_2 : decode method_3_code 2 = .ok (.if_icmp .ge 11, 3) := by decide +kernel
theorem d_method_3_code_5 : decode method_3_code 5 = .ok (.iload_n 0, 1) := by decide +kernel
theorem d_method_3_code_6 : decode method_3_code 6 = .ok (.iload_n 1, 1) := by decide +kernel
theorem d_method_3_code_7 : decode method_3_code 7 = .ok (.lload 4, 2) := by decide +kernel
theorem d_method_3_code_9 : decode method_3_code 9 = .ok (.invokestatic 21, 3) := by decide +kernel
theorem d_method_3_code_12 : decode method_3_code 12 = .ok (.ireturn, 1) := by decide +kernel
theorem d_method_3_code_13 : decode method_3_code 13 = .ok (.iload_n 3, 1) := by decide +kernel
theorem d_method_3_code_14 : decode method_3_code 14 = .ok (.sipush 255, 3) := by decide +kernel
theorem d_method_3_code_17 : decode method_3_code 17 = .ok (.iand, 1) := by decide +kernel
theorem d_method_3_code_18 : decode method_3_code 18 = .ok (.i2c, 1) := by decide +kernel
theorem d_method_3_code_19 : decode method_3_code 19 = .ok (.ireturn, 1) := by decide +kernel
theorem d_jdk_32_method_1_code_0 : decode jdk_32_method_1_code 0 = .ok (.getstatic 1, 3) := by decide +kernel
theorem d_jdk_32_method_1_code_3 : decode jdk_32_method_1_code 3 = .ok (.astore_n 0, 1) := by decide +kernel
theorem d_jdk_32_method_1_code_4 : decode jdk_32_method_1_code 4 = .ok (.aload_n 0, 1) := by decide +kernel
theorem d_jdk_32_method_1_code_5 : decode jdk_32_method_1_code 5 = .ok (.areturn, 1) := by decide +kernel
theorem d_jdk_32_method_7_code_0 : decode jdk_32_method_7_code 0 = .ok (.aload_n 0, 1) := by decide +kernel
theorem d_jdk_32_method_7_code_1 : decode jdk_32_method_7_code 1 = .ok (.getfield 13, 3) := by decide +kernel
theorem d_jdk_32_method_7_code_4 : decode jdk_32_method_7_code 4 = .ok (.ifnonnull 7, 3) := by decide +kernel
theorem d_jdk_32_method_7_code_7 : decode jdk_32_method_7_code 7 = .ok (.iconst 1, 1) := by decide +kernel
theorem d_jdk_32_method_7_code_8 : decode jdk_32_method_7_code 8 = .ok (.goto 4, 3) := by decide +kernel
theorem d_jdk_32_method_7_code_12 : decode jdk_32_method_7_code 12 = .ok (.ireturn, 1) := by decide +kernel
theorem d_jdk_32_method_6_code_0 : decode jdk_32_method_6_code 0 = .ok (.aload_n 0, 1) := by decide +kernel
theorem d_jdk_32_method_6_code_1 : decode jdk_32_method_6_code 1 = .ok (.getfield 13, 3) := by decide +kernel
theorem d_jdk_32_method_6_code_4 : decode jdk_32_method_6_code 4 = .ok (.ifnull 7, 3) := by decide +kernel
theorem d_jdk_32_method_6_code_7 : decode jdk_32_method_6_code 7 = .ok (.iconst 1, 1) := by decide +kernel
theorem d_jdk_32_method_6_code_8 : decode jdk_32_method_6_code 8 = .ok (.goto 4, 3) := by decide +kernel
theorem d_jdk_32_method_6_code_12 : decode jdk_32_method_6_code 12 = .ok (.ireturn, 1) := by decide +kernel
theorem d_jdk_32_method_5_code_0 : decode jdk_32_method_5_code 0 = .ok (.aload_n 0, 1) := by decide +kernel
theorem d_jdk_32_method_5_code_1 : decode jdk_32_method_5_code 1 = .ok (.getfield 13, 3) := by decide +kernel
theorem d_jdk_32_method_5_code_4 : decode jdk_32_method_5_code 4 = .ok (.ifnonnull 13, 3) := by decide +kernel
theorem d_jdk_32_method_5_code_17 : decode jdk_32_method_5_code 17 = .ok (.aload_n 0, 1) := by decide +kernel
theorem d_jdk_32_method_5_code_18 : decode jdk_32_method_5_code 18 = .ok (.getfield 13, 3) := by decide +kernel
theorem d_jdk_32_method_5_code_21 : decode jdk_32_method_5_code 21 = .ok (.areturn, 1) := by decide +kernel
theorem d_jdk_31_method_10_code_0 : decode jdk_31_method_10_code 0 = .ok (.aload_n 0, 1) := by decide +kernel
theorem d_jdk_31_method_10_code_1 : decode jdk_31_method_10_code 1 = .ok (.ifnonnull 11, 3) := by decide +kernel
theorem d_jdk_31_method_10_code_12 : decode jdk_31_method_10_code 12 = .ok (.aload_n 0, 1) := by decide +kernel
theorem d_jdk_31_method_10_code_13 : decode jdk_31_method_10_code 13 = .ok (.areturn, 1) := by decide +kernel
theorem d_jdk_32_method_2_code_0 : decode jdk_32_method_2_code 0 = .ok (.aload_n 0, 1) := by decide +kernel
theorem d_jdk_32_method_2_code_1 : decode jdk_32_method_2_code 1 = .ok (.invokespecial 7, 3) := by decide +kernel
theorem d_jdk_32_method_2_code_4 : decode jdk_32_method_2_code 4 = .ok (.aload_n 0, 1) := by decide +kernel
theorem d_jdk_32_method_2_code_5 : decode jdk_32_method_2_code 5 = .ok (.aload_n 1, 1) := by decide +kernel
theorem d_jdk_32_method_2_code_6 : decode jdk_32_method_2_code 6 = .ok (.putfield 13, 3) := by decide +kernel
theorem d_jdk_32_method_2_code_9 : decode jdk_32_method_2_code 9 = .ok (.return_, 1) := by decide +kernel
theorem d_jdk_32_method_3_code_0 : decode jdk_32_method_3_code 0 = .ok (.new 2, 3) := by decide +kernel
theorem d_jdk_32_method_3_code_3 : decode jdk_32_method_3_code 3 = .ok (.dup, 1) := by decide +kernel
theorem d_jdk_32_method_3_code_4 : decode jdk_32_method_3_code 4 = .ok (.aload_n 0, 1) := by decide +kernel
theorem d_jdk_32_method_3_code_5 : decode jdk_32_method_3_code 5 = .ok (.invokestatic 17, 3) := by decide +kernel
theorem d_jdk_32_method_3_code_8 : decode jdk_32_method_3_code 8 = .ok (.invokespecial 23, 3) := by decide +kernel
theorem d_jdk_32_method_3_code_11 : decode jdk_32_method_3_code 11 = .ok (.areturn, 1) := by decide +kernel
theorem d_prog_2_method_1_code_0 : decode prog_2_method_1_code 0 = .ok (.getstatic 13, 3) := by decide +kernel
theorem d_prog_2_method_1_code_3 : decode prog_2_method_1_code 3 = .ok (.invokevirtual 17, 3) := by decide +kernel
theorem d_prog_2_method_1_code_6 : decode prog_2_method_1_code 6 = .ok (.checkcast 18, 3) := by decide +kernel
theorem d_prog_2_method_1_code_9 : decode prog_2_method_1_code 9 = .ok (.areturn, 1) := by decide +kernel
theorem d_prog_2_method_5_code_0 : decode prog_2_method_5_code 0 = .ok (.invokestatic 36, 3) := by decide +kernel
theorem d_prog_2_method_5_code_3 : decode prog_2_method_5_code 3 = .ok (.astore_n 1, 1) := by decide +kernel
theorem d_prog_2_method_5_code_4 : decode prog_2_method_5_code 4 = .ok (.aload_n 1, 1) := by decide +kernel
theorem d_prog_2_method_5_code_5 : decode prog_2_method_5_code 5 = .ok (.arraylength, 1) := by decide +kernel
theorem d_prog_2_method_5_code_6 : decode prog_2_method_5_code 6 = .ok (.istore_n 2, 1) := by decide +kernel
theorem d_prog_2_method_5_code_7 : decode prog_2_method_5_code 7 = .ok (.iconst 0, 1) := by decide +kernel
theorem d_prog_2_method_5_code_8 : decode prog_2_method_5_code 8 = .ok (.istore_n 3, 1) := by decide +kernel
theorem d_prog_2_method_5_code_9 : decode prog_2_method_5_code 9 = .ok (.iload_n 3, 1) := by decide +kernel
theorem d_prog_2_method_5_code_10 : decode prog_2_method_5_code 10 = .ok (.iload_n 2, 1) := by decide +kernel
theorem d_prog_2_method_5_code_11 : decode prog_2_method_5_code 11 = .ok (.if_icmp .ge 32, 3) := by decide +kernel
theorem d_prog_2_method_5_code_14 : decode prog_2_method_5_code 14 = .ok (.aload_n 1, 1) := by decide +kernel
theorem d_prog_2_method_5_code_15 : decode prog_2_method_5_code 15 = .ok (.iload_n 3, 1) := by decide +kernel
theorem d_prog_2_method_5_code_16 : decode prog_2_method_5_code 16 = .ok (.aaload, 1) := by decide +kernel
theorem d_prog_2_method_5_code_17 : decode prog_2_method_5_code 17 = .ok (.astore 4, 2) := by decide +kernel
theorem d_prog_2_method_5_code_19 : decode prog_2_method_5_code 19 = .ok (.aload 4, 2) := by decide +kernel
theorem d_prog_2_method_5_code_21 : decode prog_2_method_5_code 21 = .ok (.getfield 32, 3) := by decide +kernel
theorem d_prog_2_method_5_code_24 : decode prog_2_method_5_code 24 = .ok (.aload_n 0, 1) := by decide +kernel
theorem d_prog_2_method_5_code_25 : decode prog_2_method_5_code 25 = .ok (.invokevirtual 40, 3) := by decide +kernel
theorem d_prog_2_method_5_code_28 : decode prog_2_method_5_code 28 = .ok (.ifCond .eq 9, 3) := by decide +kernel
theorem d_prog_2_method_5_code_37 : decode prog_2_method_5_code 37 = .ok (.iinc 3 1, 3) := by decide +kernel
theorem d_prog_2_method_5_code_40 : decode prog_2_method_5_code 40 = .ok (.goto (-31), 3) := by decide +kernel
theorem d_prog_2_method_5_code_43 : decode prog_2_method_5_code 43 = .ok (.invokestatic 52, 3) := by decide +kernel
theorem d_prog_2_method_5_code_46 : decode prog_2_method_5_code 46 = .ok (.areturn, 1) := by decide +kernel
theorem d_prog_2_method_5_code_31 : decode prog_2_method_5_code 31 = .ok (.aload 4, 2) := by decide +kernel
theorem d_prog_2_method_5_code_33 : decode prog_2_method_5_code 33 = .ok (.invokestatic 46, 3) := by decide +kernel
theorem d_prog_2_method_5_code_36 : decode prog_2_method_5_code 36 = .ok (.areturn, 1) := by decide +kernel
theorem d_jdk_42_method_149_code_0 : decode jdk_42_method_149_code 0 = .ok (.aload_n 0, 1) := by decide +kernel
theorem d_jdk_42_method_149_code_1 : decode jdk_42_method_149_code 1 = .ok (.invokespecial 1, 3) := by decide +kernel
theorem d_jdk_42_method_149_code_4 : decode jdk_42_method_149_code 4 = .ok (.iload_n 3, 1) := by decide +kernel
theorem d_jdk_42_method_149_code_5 : decode jdk_42_method_149_code 5 = .ok (.ifCond .ne 22, 3) := by decide +kernel
theorem d_jdk_42_method_149_code_8 : decode jdk_42_method_149_code 8 = .ok (.aload_n 0, 1) := by decide +kernel
theorem d_jdk_42_method_149_code_9 : decode jdk_42_method_149_code 9 = .ok (.ldc 7, 2) := by decide +kernel
theorem d_jdk_42_method_149_code_11 : decode jdk_42_method_149_code 11 = .ok (.getfield 9, 3) := by decide +kernel
theorem d_jdk_42_method_149_code_14 : decode jdk_42_method_149_code 14 = .ok (.putfield 9, 3) := by decide +kernel
theorem d_jdk_42_method_149_code_17 : decode jdk_42_method_149_code 17 = .ok (.aload_n 0, 1) := by decide +kernel
theorem d_jdk_42_method_149_code_18 : decode jdk_42_method_149_code 18 = .ok (.ldc 7, 2) := by decide +kernel
theorem d_jdk_42_method_149_code_20 : decode jdk_42_method_149_code 20 = .ok (.getfield 15, 3) := by decide +kernel
theorem d_jdk_42_method_149_code_23 : decode jdk_42_method_149_code 23 = .ok (.putfield 15, 3) := by decide +kernel
theorem d_jdk_42_method_149_code_26 : decode jdk_42_method_149_code 26 = .ok (.return_, 1) := by decide +kernel
theorem d_jdk_42_method_3_code_0 : decode jdk_42_method_3_code 0 = .ok (.aload_n 0, 1) := by decide +kernel
theorem d_jdk_42_method_3_code_1 : decode jdk_42_method_3_code 1 = .ok (.aload_n 1, 1) := by decide +kernel
theorem d_jdk_42_method_3_code_2 : decode jdk_42_method_3_code 2 = .ok (.iconst 0, 1) := by decide +kernel
theorem d_jdk_42_method_3_code_3 : decode jdk_42_method_3_code 3 = .ok (.aload_n 1, 1) := by decide +kernel
theorem d_jdk_42_method_3_code_4 : decode jdk_42_method_3_code 4 = .ok (.arraylength, 1) := by decide +kernel
theorem d_jdk_42_method_3_code_5 : decode jdk_42_method_3_code 5 = .ok (.aconst_null, 1) := by decide +kernel
theorem d_jdk_42_method_3_code_6 : decode jdk_42_method_3_code 6 = .ok (.invokespecial 27, 3) := by decide +kernel
theorem d_jdk_42_method_3_code_9 : decode jdk_42_method_3_code 9 = .ok (.return_, 1) := by decide +kernel
theorem pd_0 : parseMethodDescriptor "(I)C" = some ⟨[.int], some .char⟩ := by decide +kernel
theorem pd_1 : parseMethodDescriptor "(IIJ)C" = some ⟨[.int, .int, .long], some .char⟩ := by decide +kernel
theorem pd_2 : parseMethodDescriptor "(Ljava/lang/Object;)Ljava/lang/Object;" = some ⟨[(.object "java/lang/Object")], some (.object "java/lang/Object")⟩ := by decide +kernel
theorem pd_3 : parseMethodDescriptor "(Ljava/lang/Object;)V" = some ⟨[(.object "java/lang/Object")], none⟩ := by decide +kernel
theorem pd_4 : parseMethodDescriptor "()[Lcom/example/exact_roles/exactroles/credentials/Api;" = some ⟨[], some (.array (.object "com/example/exact_roles/exactroles/credentials/Api"))⟩ := by decide +kernel
theorem pd_5 : parseMethodDescriptor "(Ljava/lang/Object;)Z" = some ⟨[(.object "java/lang/Object")], some .boolean⟩ := by decide +kernel
theorem pd_6 : parseMethodDescriptor "()Ljava/util/Optional;" = some ⟨[], some (.object "java/util/Optional")⟩ := by decide +kernel
theorem pd_7 : parseMethodDescriptor "(Ljava/lang/Object;)Ljava/util/Optional;" = some ⟨[(.object "java/lang/Object")], some (.object "java/util/Optional")⟩ := by decide +kernel
theorem pd_8 : parseMethodDescriptor "([C)V" = some ⟨[(.array .char)], none⟩ := by decide +kernel
theorem pd_9 : parseMethodDescriptor "(Ljava/lang/String;)Ljava/util/Optional;" = some ⟨[(.object "java/lang/String")], some (.object "java/util/Optional")⟩ := by decide +kernel
theorem pd_10 : parseMethodDescriptor "()Z" = some ⟨[], some .boolean⟩ := by decide +kernel
theorem pd_11 : parseMethodDescriptor "()Ljava/lang/Object;" = some ⟨[], some (.object "java/lang/Object")⟩ := by decide +kernel
theorem pd_12 : parseMethodDescriptor "(IIIIJ)C" = some ⟨[.int, .int, .int, .int, .long], some .char⟩ := by decide +kernel
theorem pd_13 : parseMethodDescriptor "([CIILjava/lang/Void;)V" = some ⟨[(.array .char), .int, .int, (.object "java/lang/Void")], none⟩ := by decide +kernel
theorem plain_com_example_exact_roles_exactroles_credentials_ApiNamedPinLaw : plainName "com/example/exact_roles/exactroles/credentials/ApiNamedPinLaw" = true := by first | (simp [plainName, overriddenIn]; done) | decide +kernel
theorem plain_java_util_Optional : plainName "java/util/Optional" = true := by first | (simp [plainName, overriddenIn]; done) | decide +kernel
theorem plain_java_util_Objects : plainName "java/util/Objects" = true := by first | (simp [plainName, overriddenIn]; done) | decide +kernel
theorem plain_com_example_exact_roles_exactroles_credentials_Api : plainName "com/example/exact_roles/exactroles/credentials/Api" = true := by first | (simp [plainName, overriddenIn]; done) | decide +kernel
theorem plain_java_lang_String : plainName "java/lang/String" = true := by first | (simp [plainName, overriddenIn]; done) | decide +kernel
set_option maxRecDepth 65536 in
set_option maxHeartbeats 40000000 in
theorem rmE4 (l : Launch) (Z : State) (a0 : Array Value) (hw : ∀ d ∈ tables_1, d.before a0 Z = true) (h0 : Heap) (n0 : Nat) (Z0 : n0 ≤ h0.size) (x b : Addr) (g0 : n0 ≤ x) (A0 : Exa Z h0 x "java/lang/String") (V0 : Fld Z h0 x "java/lang/String" "value" "[B" .null) (C0 : Fld Z h0 x "java/lang/String" "coder" "B" (.int (0 : Int32))) : Con l Z EL (⟨"java/lang/String", "<init>", "([CIILjava/lang/Void;)V"⟩ : MethodName) jdk_42_method_149_code 6 none [] ({ frames := 1, cells := 4, slots := 8, locals := 14 } : Room) #[.ref x, .ref b, .int (0 : Int32), .int (0 : Int32), .null] h0 n0 (fun v h => v = none ∧ Keep h0 h [x] ∧ StrL Z h x []) := by
  refine Con.intro (own := "java/lang/String") rfl (plainFor_of_name plain_java_lang_String) (hEL hw) ?_
  intro p e s m below meth c s₁ hx hby hml hret hlk hnm W0
  refine Fi.cast (show entryFrame m #[.ref x, .ref b, .int (0 : Int32), .int (0 : Int32), .null] 6 = mkF m 0 #[.val (.ref x), .val (.ref b), .val (.int (0 : Int32)), .val (.int (0 : Int32)), .val .null, .unset] [] from by first | (simp [entryFrame, mkF, argsToLocals, Value.category]; done) | rfl) ?_
  refine Fi.by' (st' := (s₁.setTop (mkF m 1 #[.val (.ref x), .val (.ref b), .val (.int (0 : Int32)), .val (.int (0 : Int32)), .val .null, .unset] [.ref x]))) (fun t k => XS.aloadN W0.here hx rfl (hb hby d_jdk_42_method_149_code_0) rfl rfl k) ?_
  refine W0.initO hx (ww hw (i := 50) rfl) (ww hw (i := 51) rfl) (ww hw (i := 52) rfl) (g := (mkF m 1 #[.val (.ref x), .val (.ref b), .val (.int (0 : Int32)), .val (.int (0 : Int32)), .val .null, .unset] [.ref x])) rfl (by rw [hml]; rfl) rfl (hb hby d_jdk_42_method_149_code_1) (by decide) (Wd := 0) (Nat.le_of_ble_eq_true rfl) (by decide) (fun T1 W1 => ?_)
  refine Fi.by' (st' := (T1.setTop (mkF m 9 #[.val (.ref x), .val (.ref b), .val (.int (0 : Int32)), .val (.int (0 : Int32)), .val .null, .unset] [.ref x]))) (fun t k => ?_) ?_
  · refine XS.iloadN W1.here hx rfl (hb hby d_jdk_42_method_149_code_4) rfl ?_
    refine XS.ifNo W1.here hx rfl (hb hby d_jdk_42_method_149_code_5) rfl ((if0 _ _).trans (teq (rfl : (0 : Int32) = 0)).2) ?_
    refine XS.aloadN W1.here hx rfl (hb hby d_jdk_42_method_149_code_8) rfl rfl ?_
    exact k
  refine W1.ldc hx (ww hw (i := 139) rfl) (wS hw) (by decide) ([] : List Int32) (by decide +kernel) (by decide +kernel) (g := (mkF m 9 #[.val (.ref x), .val (.ref b), .val (.int (0 : Int32)), .val (.int (0 : Int32)), .val .null, .unset] [.ref x])) rfl (hb hby d_jdk_42_method_149_code_9) (n := 0) (by decide) (by decide) (by decide) (by decide) (fun T2 h2 a2 W2 E2 F2 => ?_)
  obtain ⟨t2, k2, f1, f2, f3, f4, f5, f6⟩ := F2
  have A2 := Exa.ext E2 A0
  have V2 := Fld.ext E2 V0
  have C2 := Fld.ext E2 C0
  refine W2.getF hx (ww hw (i := 29) rfl) f2 (g := (mkF m 11 #[.val (.ref x), .val (.ref b), .val (.int (0 : Int32)), .val (.int (0 : Int32)), .val .null, .unset] [.ref a2, .ref x])) rfl rfl (hb hby d_jdk_42_method_149_code_11) (fun T3 W3 => ?_)
  refine W3.putF hx (ww hw (i := 29) rfl) V2 A2 (Or.inr ⟨(ww hw (i := 13) rfl), rfl, hnm⟩) (ww hw (i := 11) rfl) (ty := .array .byte) (by decide) rfl rfl (g := (mkF m 14 #[.val (.ref x), .val (.ref b), .val (.int (0 : Int32)), .val (.int (0 : Int32)), .val .null, .unset] [.ref t2, .ref x])) rfl rfl (hb hby d_jdk_42_method_149_code_14) g0 (safe_null A2 V2 (ww hw (i := 11) rfl)) (fun T4 h4 W4 R4 => ?_)
  have A4 := Exa.wr R4 A2
  have V4 : Fld Z h4 x "java/lang/String" "value" "[B" (.ref t2) := Fld.same R4 V2
  have C4 : Fld Z h4 x "java/lang/String" "coder" "B" (.int (0 : Int32)) := Fld.other R4 C2 (Or.inr (slot_ne (Or.inr (ww hw (i := 14) rfl)) (Or.inr (ww hw (i := 13) rfl)) (by decide) (t := .byte) (t' := .array .byte) (by decide) (by decide)))
  have B4 := Arv.other f4 R4 (Ne.symm (Exa.neArv A2 f4 (ww hw (i := 11) rfl)))
  refine Fi.by' (st' := (T4.setTop (mkF m 18 #[.val (.ref x), .val (.ref b), .val (.int (0 : Int32)), .val (.int (0 : Int32)), .val .null, .unset] [.ref x]))) (fun t k => XS.aloadN W4.here hx rfl (hb hby d_jdk_42_method_149_code_17) rfl rfl k) ?_
  refine W4.ldc hx (ww hw (i := 139) rfl) (wS hw) (by decide) ([] : List Int32) (by decide +kernel) (by decide +kernel) (g := (mkF m 18 #[.val (.ref x), .val (.ref b), .val (.int (0 : Int32)), .val (.int (0 : Int32)), .val .null, .unset] [.ref x])) rfl (hb hby d_jdk_42_method_149_code_18) (n := 0) (by decide) (by decide) (by decide) (by decide) (fun T5 h5 a5 W5 E5 F5 => ?_)
  obtain ⟨t5, k5, j1, j2, j3, j4, j5, j6⟩ := F5
  have A5 := Exa.ext E5 A4
  have C5 := Fld.ext E5 C4
  refine W5.getF hx (ww hw (i := 28) rfl) j3 (g := (mkF m 20 #[.val (.ref x), .val (.ref b), .val (.int (0 : Int32)), .val (.int (0 : Int32)), .val .null, .unset] [.ref a5, .ref x])) rfl rfl (hb hby d_jdk_42_method_149_code_20) (fun T6 W6 => ?_)
  refine W6.putSame hx (ww hw (i := 28) rfl) C5 A5 (Or.inr ⟨(ww hw (i := 14) rfl), rfl, hnm⟩) (ww hw (i := 11) rfl) (ty := .byte) (by decide) rfl rfl (g := (mkF m 23 #[.val (.ref x), .val (.ref b), .val (.int (0 : Int32)), .val (.int (0 : Int32)), .val .null, .unset] [.int (0 : Int32), .ref x])) rfl rfl (hb hby d_jdk_42_method_149_code_23) g0 (fun T7 W7 => ?_)
  exact W7.vret hx hlk hret (hb hby d_jdk_42_method_149_code_26) ⟨rfl, (((Keep.refl h0 [x]).ext E2).wr R4 (Or.inl (List.mem_singleton.mpr rfl))).ext E5, t2, k2, A5, Fld.ext E5 V4, C5, B4.ext E5, fun _ q => (nomatch q), by decide⟩ (by decide) (by decide)
set_option maxRecDepth 65536 in
set_option maxHeartbeats 40000000 in
theorem rmE1 (l : Launch) (Z : State) (a0 : Array Value) (hw : ∀ d ∈ tables_1, d.before a0 Z = true) (h0 : Heap) (n0 : Nat) (Z0 : n0 ≤ h0.size) (x b : Addr) (g0 : n0 ≤ x) (A0 : Exa Z h0 x "java/lang/String") (V0 : Fld Z h0 x "java/lang/String" "value" "[B" .null) (C0 : Fld Z h0 x "java/lang/String" "coder" "B" (.int (0 : Int32))) {kC : ClassId} {dv : Value} (B0 : Arv Z h0 b kC .char (0 : Int32) [] dv) : Con l Z EL (⟨"java/lang/String", "<init>", "([C)V"⟩ : MethodName) jdk_42_method_3_code 2 none [] ({ frames := 2, cells := 4, slots := 8, locals := 33 } : Room) #[.ref x, .ref b] h0 n0 (fun v h => v = none ∧ Keep h0 h [x] ∧ StrL Z h x []) := by
  refine Con.intro (own := "java/lang/String") rfl (plainFor_of_name plain_java_lang_String) (hEL hw) ?_
  intro p e s m below meth c s₁ hx hby hml hret hlk hnm W0
  refine Fi.cast (show entryFrame m #[.ref x, .ref b] 2 = mkF m 0 #[.val (.ref x), .val (.ref b)] [] from by first | (simp [entryFrame, mkF, argsToLocals, Value.category]; done) | rfl) ?_
  refine Fi.by' (st' := s₁.setTop (mkF m 4 #[.val (.ref x), .val (.ref b)] [.ref b, .int (0 : Int32), .ref b, .ref x])) (fun t k => ?_) ?_
  · refine XS.aloadN W0.here hx rfl (hb hby d_jdk_42_method_3_code_0) rfl rfl ?_
    refine XS.aloadN W0.here hx rfl (hb hby d_jdk_42_method_3_code_1) rfl rfl ?_
    refine iconstZ W0.here hx rfl (hb hby d_jdk_42_method_3_code_2) rfl ?_
    refine XS.aloadN W0.here hx rfl (hb hby d_jdk_42_method_3_code_3) rfl rfl ?_
    exact k
  refine W0.alen hx B0 (g := (mkF m 4 #[.val (.ref x), .val (.ref b)] [.ref b, .int (0 : Int32), .ref b, .ref x])) rfl rfl (hb hby d_jdk_42_method_3_code_4) ?_
  refine Fi.by' (st' := s₁.setTop (mkF m 6 #[.val (.ref x), .val (.ref b)] [.null, .int (0 : Int32), .int (0 : Int32), .ref b, .ref x])) (fun t k => XS.aconstNull W0.here hx rfl (hb hby d_jdk_42_method_3_code_5) k) ?_
  refine W0.callI hx (y := (⟨"java/lang/String", "<init>", "([CIILjava/lang/Void;)V"⟩ : MethodName)) rfl (ww hw (i := 46) rfl) (ww hw (i := 47) rfl) (ww hw (i := 49) rfl) (by decide) (Pay.of_con (Wd := 0) (rmE4 l Z a0 hw h0 n0 Z0 x b g0 A0 V0 C0) (ww hw (i := 49) rfl) (ww hw (i := 10) rfl) (hEL hw) (by decide) (by decide)) (g := (mkF m 6 #[.val (.ref x), .val (.ref b)] [.null, .int (0 : Int32), .int (0 : Int32), .ref b, .ref x])) rfl (by rw [hml]; rfl) (a := x) (argsL := [.ref b, .int (0 : Int32), .int (0 : Int32), .null]) (rest := []) (lenOf pd_13 rfl) rfl rfl (Nat.le_of_ble_eq_true rfl) (hb hby d_jdk_42_method_3_code_6) (by decide) (by decide) (fun v1 T1 h1 W1 s1 q1 => ?_)
  obtain ⟨rfl, q2, q3⟩ := q1
  exact W1.vret hx hlk hret (hb hby d_jdk_42_method_3_code_9) ⟨rfl, q2, q3⟩ (by decide) (by decide)
section Paid
variable {p : Program} {l : Launch} {e : Env} {R : Room} {s : State} {args : Array Value} {below : List Frame} {Z : State} {a0 : Array Value} {n0 : Nat} {h : Heap}
theorem payE (hw : ∀ d ∈ tables_1, d.before a0 Z = true) {Wd : Nat} {x b : Addr} {kC : ClassId} {dv : Value} (Z0 : n0 ≤ h.size) (g0 : n0 ≤ x) (A0 : Exa Z h x "java/lang/String") (V0 : Fld Z h x "java/lang/String" "value" "[B" .null) (C0 : Fld Z h x "java/lang/String" "coder" "B" (.int (0 : Int32))) (B0 : Arv Z h b kC .char (0 : Int32) [] dv) (hf : 3 ≤ R.frames) (hl : Wd + 46 ≤ R.locals) :
    Pay l R p e below s args Z EL n0 (⟨"java/lang/String", "<init>", "([C)V"⟩ : MethodName) Wd #[.ref x, .ref b] h (fun v h' => v = none ∧ Keep h h' [x] ∧ StrL Z h' x []) 4 8 :=
  Pay.of_con (rm := ({ frames := 2, cells := 4, slots := 8, locals := 33 } : Room)) (rmE1 l Z a0 hw h n0 Z0 x b g0 A0 V0 C0 B0) (ww hw (i := 45) rfl) (ww hw (i := 10) rfl) (hEL hw) hf hl
theorem wsV {a0 : Array Value} {Z : State} (hw : ∀ d ∈ tables_1, d.before a0 Z = true) : ∀ d ∈ StrChars.Road.words, d.before a0 Z = true := fun d hd => hw d ((by decide +kernel : ∀ d ∈ StrChars.Road.words, d ∈ tables_1) d hd)
theorem payS (hw : ∀ d ∈ tables_1, d.before a0 Z = true) {Wd n : Nat} {x b : Addr} {kC : ClassId} {dv : Value} {cs : List Int32} {N z : Int32} (Z0 : n0 ≤ h.size) (g0 : n0 ≤ x) (A0 : Exa Z h x "java/lang/String") (V0 : Fld Z h x "java/lang/String" "value" "[B" .null) (C0 : Fld Z h x "java/lang/String" "coder" "B" (.int (0 : Int32))) (B0 : Arv Z h b kC .char N (cs.map Value.int) dv) (S : Sta Z h "java/lang/String" "COMPACT_STRINGS" "Z" (.int z)) (hz : ¬ z = 0)
    (hn : cs.length = n) (hN : N = Int32.ofNat n) (l0 : 0 < n) (l2 : n ≤ 4000) (hp : ∀ c ∈ cs, ¬ c < 0 ∧ ¬ (255 : Int32) < c) (hf : 4 ≤ R.frames) (hl : Wd + 65 ≤ R.locals) :
    Pay l R p e below s args Z EL n0 (⟨"java/lang/String", "<init>", "([C)V"⟩ : MethodName) Wd #[.ref x, .ref b] h (fun v h' => v = none ∧ Keep h h' [x] ∧ StrL Z h' x cs) 1 n :=
  Pay.of_back (ws := [x]) (hEL hw) (fun vm0 hZ => Back.mono (StrChars.Road.backV (s := s.setVm vm0) hZ (wsV hw) (ww hw (i := 11) rfl) g0 Z0 A0 V0 C0 B0 S hz hn hN l0 l2 hp rfl hf hl) (fun _ _ q => q) (fun _ _ v B _ q => by
    obtain ⟨L, ⟨q1, q2, q3, q4, q5, t, kb, -, -, -, q6, q7⟩, r1, r2, r3⟩ := q
    exact ⟨L, ⟨q2, q3, q1, q3, t, kb, q4, q6, q5, by rw [hn, ← hN]; exact q7, hp, by rw [hn]; exact l2⟩, r1, r2, r3⟩))
    (fun vm hZ hC y hy => by cases List.mem_singleton.mp hy; exact safe_null A0 V0 (ww hw (i := 11) rfl) vm hZ hC)
end Paid
theorem bl_ok {k b : Int32} (h : (k = 2 ∧ b = 6) ∨ (¬ (k = 2) ∧ k = 3 ∧ b = 6) ∨ (¬ (k = 2) ∧ ¬ (k = 3) ∧ b = 5)) : b = 5 ∨ (b = 6 ∧ ¬ k = 0 ∧ ¬ k = 1) := by
  rcases h with ⟨rfl, rfl⟩ | ⟨-, rfl, rfl⟩ | ⟨-, -, rfl⟩
  · exact Or.inr ⟨rfl, by decide, by decide⟩
  · exact Or.inr ⟨rfl, by decide, by decide⟩
  · exact Or.inl rfl
theorem len_ok {x m y z : Int32} (hy : y = 5 ∨ y = 6) (h : (m = 2 ∧ z = (x &&& 2147483647) - ((x &&& 2147483647) / y) * y) ∨ (¬ (m = 2) ∧ m = 3 ∧ z = y + 1) ∨ (¬ (m = 2) ∧ ¬ (m = 3) ∧ z = y)) : (¬ z < 0 ∧ z.toNatClampNeg ≤ 7) ∧ (m = 1 → z = y) := by
  rcases h with ⟨rfl, e⟩ | ⟨-, rfl, rfl⟩ | ⟨-, -, rfl⟩
  · have q := rem_in hy e
    refine ⟨⟨q.1, ?_⟩, fun u => absurd u (by decide)⟩
    have := lt_clamp q
    rcases hy with rfl | rfl
    · exact Nat.le_of_lt (Nat.lt_trans this (by decide))
    · exact Nat.le_of_lt (Nat.lt_trans this (by decide))
  · exact ⟨by rcases hy with rfl | rfl <;> decide, fun u => absurd u (by decide)⟩
  · exact ⟨by rcases hy with rfl | rfl <;> decide, fun _ => rfl⟩
section PaidEq
variable {p : Program} {l : Launch} {e : Env} {R : Room} {s : State} {args : Array Value} {below : List Frame} {Z : State} {a0 : Array Value} {n0 : Nat} {h : Heap}
theorem wsQ {a0 : Array Value} {Z : State} (hw : ∀ d ∈ tables_1, d.before a0 Z = true) : ∀ d ∈ StrChars.Road.wordsEq, d.before a0 Z = true := fun d hd => hw d ((by decide +kernel : ∀ d ∈ StrChars.Road.wordsEq, d ∈ tables_1) d hd)
theorem payQ (hw : ∀ d ∈ tables_1, d.before a0 Z = true) {Wd : Nat} {x y : Addr} {cs ds : List Int32} {z : Int32} (F : StrL Z h x cs) (G : StrL Z h y ds) (S : Sta Z h "java/lang/String" "COMPACT_STRINGS" "Z" (.int z)) (hz : ¬ z = 0) (hf : 2 ≤ R.frames) (hl : Wd + 28 ≤ R.locals) :
    Pay l R p e below s args Z EL n0 (⟨"java/lang/String", "equals", "(Ljava/lang/Object;)Z"⟩ : MethodName) Wd #[.ref x, .ref y] h (fun v h' => (∃ r : Int32, v = some (.int r) ∧ ((r = 1 ∧ cs = ds) ∨ (r = 0 ∧ ¬ cs = ds))) ∧ h = h') 0 0 := by
  obtain ⟨t1, k1, a1, a2, a3, a4, a5, a6⟩ := F
  obtain ⟨t2, k2, b1, b2, b3, b4, b5, b6⟩ := G
  refine Pay.of_back (ws := []) (hEL hw) (fun vm0 hZ => Back.mono (StrChars.Road.eqW (s := s.setVm vm0) hZ (wsQ hw) (ww hw (i := 11) rfl) a1 a2 a3 a4 (StrChars.Road.codOf rfl (fun c hc => (a5 c hc).2)) (fun c hc => ⟨(a5 c hc).1, big_ch (a5 c hc).2⟩) a6 b1 b2 b3 b4 (StrChars.Road.codOf rfl (fun c hc => (b5 c hc).2)) (fun c hc => ⟨(b5 c hc).1, big_ch (b5 c hc).2⟩) b6 S hz hf hl) (fun _ _ q => q) (fun _ _ v B _ q => ?_)) (fun _ _ _ _ q => (nomatch q))
  obtain ⟨L, ⟨q1, rfl, q3⟩, r1, r2, r3⟩ := q
  refine ⟨[], ⟨Fr.nil _, by rw [q3]; exact Keep.refl _ _, ?_, q3.symm⟩, r1, r2, r3⟩
  rcases q1 with ⟨u1, u2⟩ | ⟨u1, u2⟩
  · exact ⟨1, u1, Or.inl ⟨rfl, u2⟩⟩
  · exact ⟨0, u1, Or.inr ⟨rfl, u2⟩⟩
end PaidEq
section Paid1
variable {p : Program} {l : Launch} {e : Env} {R : Room} {s : State} {args : Array Value} {below : List Frame} {Z : State} {a0 : Array Value} {n0 : Nat} {h : Heap}
theorem wsCh {a0 : Array Value} {Z : State} (hw : ∀ d ∈ tables_1, d.before a0 Z = true) : ∀ d ∈ StrChars.Road.wordsChN, d.before a0 Z = true := fun d hd => hw d ((by decide +kernel : ∀ d ∈ StrChars.Road.wordsChN, d ∈ tables_1) d hd)
theorem payCh (hw : ∀ d ∈ tables_1, d.before a0 Z = true) {Wd i : Nat} {x : Addr} {cs : List Int32} {z j : Int32} {fm : Value} (F : StrL Z h x cs) (S : Sta Z h "java/lang/String" "COMPACT_STRINGS" "Z" (.int z)) (hz : ¬ z = 0) (G : Sta Z h "jdk/internal/util/Preconditions" "SIOOBE_FORMATTER" "Ljava/util/function/BiFunction;" fm) (rf : fm.isRef = true) (hi : i < cs.length) (hj : j = Int32.ofNat i) (hf : 4 ≤ R.frames) (hl : Wd + 53 ≤ R.locals) :
    Pay l R p e below s args Z EL n0 (⟨"java/lang/String", "charAt", "(I)C"⟩ : MethodName) Wd #[.ref x, .int j] h (fun v h' => v = some (.int (cs.getD i 0)) ∧ h = h') 0 0 := by
  obtain ⟨t1, k1, a1, a2, a3, a4, a5, a6⟩ := F
  refine Pay.of_back (ws := []) (hEL hw) (fun vm0 hZ => Back.mono (StrChars.Road.chN (s := s.setVm vm0) hZ (wsCh hw) (ww hw (i := 11) rfl) a1 a2 a3 a4 (StrChars.Road.codOf rfl (fun c hc => (a5 c hc).2)) (fun c hc => ⟨(a5 c hc).1, big_ch (a5 c hc).2⟩) S hz G rf a6 hi hj hf hl) (fun _ _ q => q) (fun _ _ v B _ q => ?_)) (fun _ _ _ _ q => (nomatch q))
  obtain ⟨L, ⟨q1, rfl, q3⟩, r1, r2, r3⟩ := q
  exact ⟨[], ⟨Fr.nil _, by rw [q3]; exact Keep.refl _ _, q1, q3.symm⟩, r1, r2, r3⟩
theorem payCA (hw : ∀ d ∈ tables_1, d.before a0 Z = true) {Wd : Nat} {x b : Addr} {kC : ClassId} {N z : Int32} (Z0 : n0 ≤ h.size) (g0 : n0 ≤ x) (A0 : Exa Z h x "java/lang/String") (V0 : Fld Z h x "java/lang/String" "value" "[B" .null) (C0 : Fld Z h x "java/lang/String" "coder" "B" (.int (0 : Int32))) (B0 : CA Z h b kC N) (hN : ¬ N < 0 ∧ N.toNatClampNeg ≤ 7) (S : Sta Z h "java/lang/String" "COMPACT_STRINGS" "Z" (.int z)) (hz : ¬ z = 0) (hf : 4 ≤ R.frames) (hl : Wd + 65 ≤ R.locals) :
    Pay l R p e below s args Z EL n0 (⟨"java/lang/String", "<init>", "([C)V"⟩ : MethodName) Wd #[.ref x, .ref b] h (fun v h' => v = none ∧ Keep h h' [x] ∧ ∃ cs, StrL Z h' x cs) 4 8 := by
  obtain ⟨cs, q1, q2, q3⟩ := B0
  by_cases hc : N.toNatClampNeg = 0
  · have e : N = 0 := by rw [← (back32 hN.1).1, hc]; rfl
    have e2 : cs = [] := List.eq_nil_of_length_eq_zero (q1.trans hc)
    subst e e2
    exact (payE hw Z0 g0 A0 V0 C0 q3 (by omega) (by omega)).weak fun v h' q => ⟨q.1, q.2.1, [], q.2.2⟩
  · exact ((payS hw Z0 g0 A0 V0 C0 q3 S hz q1 (back32 hN.1).1.symm (Nat.pos_of_ne_zero hc) (by have := hN.2; omega) q2 hf hl).weak fun v h' q => ⟨q.1, q.2.1, cs, q.2.2⟩).more (by decide) (by have := hN.2; omega)
theorem base_in {i k : Int32} (h0 : ¬ i < 0) (h1 : i < 5 ∨ (i < 6 ∧ ¬ k = 0 ∧ ¬ k = 1)) : i.toNatClampNeg < 6 ∧ ((k = 0 ∨ k = 1) → i.toNatClampNeg < 5) := by
  rcases h1 with h | ⟨h, h2, h3⟩
  · have := lt_clamp ⟨h0, h⟩
    exact ⟨Nat.lt_trans this (by decide), fun _ => this⟩
  · exact ⟨lt_clamp ⟨h0, h⟩, fun q => absurd q (by rintro (q | q); exact h2 q; exact h3 q)⟩
end Paid1
theorem pick1 {A B C : Prop} {w a b c n : Value} (D : (A ∧ w = a) ∨ (¬ A ∧ B ∧ w = b) ∨ (¬ A ∧ ¬ B ∧ C ∧ w = c) ∨ (¬ A ∧ ¬ B ∧ ¬ C ∧ w = n)) (q : A) : w = a := by
  rcases D with u | u | u | u
  · exact u.2
  all_goals exact absurd q u.1
theorem pick2 {A B C : Prop} {w a b c n : Value} (D : (A ∧ w = a) ∨ (¬ A ∧ B ∧ w = b) ∨ (¬ A ∧ ¬ B ∧ C ∧ w = c) ∨ (¬ A ∧ ¬ B ∧ ¬ C ∧ w = n)) (p : ¬ A) (q : B) : w = b := by
  rcases D with u | u | u | u
  · exact absurd u.1 p
  · exact u.2.2
  all_goals exact absurd q u.2.1
theorem pick3 {A B C : Prop} {w a b c n : Value} (D : (A ∧ w = a) ∨ (¬ A ∧ B ∧ w = b) ∨ (¬ A ∧ ¬ B ∧ C ∧ w = c) ∨ (¬ A ∧ ¬ B ∧ ¬ C ∧ w = n)) (p : ¬ A) (p' : ¬ B) (q : C) : w = c := by
  rcases D with u | u | u | u
  · exact absurd u.1 p
  · exact absurd u.2.1 p'
  · exact u.2.2.2
  · exact absurd q u.2.2.1
theorem pick4 {A B C : Prop} {w a b c n : Value} (D : (A ∧ w = a) ∨ (¬ A ∧ B ∧ w = b) ∨ (¬ A ∧ ¬ B ∧ C ∧ w = c) ∨ (¬ A ∧ ¬ B ∧ ¬ C ∧ w = n)) (p : ¬ A) (p' : ¬ B) (p'' : ¬ C) : w = n := by
  rcases D with u | u | u | u
  · exact absurd u.1 p
  · exact absurd u.2.1 p'
  · exact absurd u.2.2.1 p''
  · exact u.2.2.2
def Q_base (Z : State) (kk ii zc : Int32) (rnd : Int64) (fm : Value) (h0 : Heap) (v : Option Value) (h : Heap) : Prop := ∃ r : Int32, v = some (.int r) ∧ (¬ r < 0 ∧ ¬ (255 : Int32) < r) ∧ Ext h0 h
set_option maxRecDepth 65536 in
set_option maxHeartbeats 40000000 in
theorem rm_base (l : Launch) (Z : State) (a0 : Array Value) (hw : ∀ d ∈ tables_1, d.before a0 Z = true) (kk ii zc : Int32) (rnd : Int64) (fm : Value) (h0 : Heap) (n0 : Nat) (Z0 : n0 ≤ h0.size) (S0 : Sta Z h0 "java/lang/String" "COMPACT_STRINGS" "Z" (.int zc)) (hz : ¬ zc = 0) (G0 : Sta Z h0 "jdk/internal/util/Preconditions" "SIOOBE_FORMATTER" "Ljava/util/function/BiFunction;" fm) (rf : fm.isRef = true) (hi0 : ¬ ii < 0) (hb0 : ii < 5 ∨ (ii < 6 ∧ ¬ kk = 0 ∧ ¬ kk = 1)) :
    Con l Z EL (⟨"com/example/exact_roles/exactroles/credentials/ApiNamedPinLaw", "base", "(IIJ)C"⟩ : MethodName) method_2_code 4 (some .char) [] ({ frames := 4, cells := 2, slots := 28, locals := 53 } : Room) #[(.int kk), (.int ii), (.long rnd)] h0 n0 (Q_base Z kk ii zc rnd fm h0) := by
  refine Con.intro (own := "com/example/exact_roles/exactroles/credentials/ApiNamedPinLaw") rfl (plainFor_of_name plain_com_example_exact_roles_exactroles_credentials_ApiNamedPinLaw) (hEL hw) ?_
  intro p e s m below meth c s₁ hx hby hml hret hlk hnm W0
  refine Fi.cast (show entryFrame m #[(.int kk), (.int ii), (.long rnd)] 4 = (mkF m 0 #[.val (.int kk), .val (.int ii), .val (.long rnd), .second] []) from by first | (simp [entryFrame, mkF, argsToLocals, Value.category]; done) | rfl) ?_
  refine Fi.by' (st' := s₁.setTop (mkF m 1 #[.val (.int kk), .val (.int ii), .val (.long rnd), .second] [(.int kk)])) (fun t k => ?_) ?_
  · refine XS.iloadN W0.here hx rfl (hb hby d_method_2_code_0) rfl ?_
    exact k
  by_cases hc1_1 : kk = (0 : Int32)
  · refine Fi.by' (st' := s₁.setTop (mkF m 4 #[.val (.int kk), .val (.int ii), .val (.long rnd), .second] [])) (fun t k => ?_) ?_
    · refine XS.ifNo W0.here hx rfl (hb hby d_method_2_code_1) rfl ((if0 _ _).trans (teq hc1_1).2) ?_
      exact k
    refine W0.ldc hx (ww hw (i := 9) rfl) (wS hw) (by decide) (lits (textAt 9)) (by decide +kernel) (by decide +kernel) (g := (mkF m 4 #[.val (.int kk), .val (.int ii), .val (.long rnd), .second] [])) rfl (hb hby d_method_2_code_4) (n := 20) (by decide +kernel) (by decide) (by decide) (by decide) (fun T2 h2 a2 W2 E2 F2 => ?_)
    change Fi _ _ _ _ _ _ _ _ _ _ (T2.setTop (mkF m 6 #[.val (.int kk), .val (.int ii), .val (.long rnd), .second] [(.ref a2)]))
    have sz2 := E2.1
    refine Fi.by' (st' := T2.setTop (mkF m 7 #[.val (.int kk), .val (.int ii), .val (.long rnd), .second] [(.int ii), (.ref a2)])) (fun t k => ?_) ?_
    · refine XS.iloadN W2.here hx rfl (hb hby d_method_2_code_6) rfl ?_
      exact k
    refine W2.callV hx (y := (⟨"java/lang/String", "charAt", "(I)C"⟩ : MethodName)) (C := "java/lang/String") (ww hw (i := 17) rfl) (ww hw (i := 18) rfl) (ww hw (i := 20) rfl) (ww hw (i := 19) rfl) (by decide) (payCh (Wd := 0) hw F2 (Sta.ext E2 S0) hz (Sta.ext E2 G0) rf (i := ii.toNatClampNeg) (by have := (base_in hi0 hb0).2 (Or.inl hc1_1); rw [show (lits (textAt 9)).length = 5 from by decide +kernel]; exact this) (back32 hi0).1.symm (by decide) (by decide)) (F2).exa (g := (mkF m 7 #[.val (.int kk), .val (.int ii), .val (.long rnd), .second] [(.int ii), (.ref a2)])) rfl (by rw [hml]; rfl) (argsL := [(.int ii)]) (rest := []) (lenOf pd_0 rfl) rfl rfl (Nat.le_of_ble_eq_true rfl) (hb hby d_method_2_code_7) (by decide) (by decide) (fun v3 T3 h3 W3 sz3 q3 => ?_)
    obtain ⟨rfl, rfl⟩ := q3
    change Fi _ _ _ _ _ _ _ _ _ _ (T3.setTop (mkF m 10 #[.val (.int kk), .val (.int ii), .val (.long rnd), .second] [(.int ((lits (textAt 9)).getD ii.toNatClampNeg 0))]))
    exact W3.iret hx hlk hret (by simp) (ch_nar (StrL.rng F2 _)) (hb hby d_method_2_code_10) ⟨_, rfl, (StrL.rng F2 _), E2⟩ (by decide) (by decide)
  · refine Fi.by' (st' := s₁.setTop (mkF m 13 #[.val (.int kk), .val (.int ii), .val (.long rnd), .second] [(.int (1 : Int32)), (.int kk)])) (fun t k => ?_) ?_
    · refine XS.ifYes W0.here hx rfl (pc0 := 1) (pc' := 11) rfl (hb hby d_method_2_code_1) rfl ((if0 _ _).trans (feq hc1_1).2) (by decide) (by decide) ?_
      refine XS.iloadN W0.here hx rfl (hb hby d_method_2_code_11) rfl ?_
      refine iconstZ W0.here hx rfl (hb hby d_method_2_code_12) (z := (1 : Int32)) rfl ?_
      exact k
    by_cases hc13_4 : kk = (1 : Int32)
    · refine Fi.by' (st' := s₁.setTop (mkF m 16 #[.val (.int kk), .val (.int ii), .val (.long rnd), .second] [])) (fun t k => ?_) ?_
      · refine XS.icmpNo W0.here hx rfl (hb hby d_method_2_code_13) rfl (teq hc13_4).2 ?_
        exact k
      refine W0.ldc hx (ww hw (i := 72) rfl) (wS hw) (by decide) (lits (textAt 72)) (by decide +kernel) (by decide +kernel) (g := (mkF m 16 #[.val (.int kk), .val (.int ii), .val (.long rnd), .second] [])) rfl (hb hby d_method_2_code_16) (n := 20) (by decide +kernel) (by decide) (by decide) (by decide) (fun T5 h5 a5 W5 E5 F5 => ?_)
      change Fi _ _ _ _ _ _ _ _ _ _ (T5.setTop (mkF m 18 #[.val (.int kk), .val (.int ii), .val (.long rnd), .second] [(.ref a5)]))
      have sz5 := E5.1
      refine Fi.by' (st' := T5.setTop (mkF m 19 #[.val (.int kk), .val (.int ii), .val (.long rnd), .second] [(.int ii), (.ref a5)])) (fun t k => ?_) ?_
      · refine XS.iloadN W5.here hx rfl (hb hby d_method_2_code_18) rfl ?_
        exact k
      refine W5.callV hx (y := (⟨"java/lang/String", "charAt", "(I)C"⟩ : MethodName)) (C := "java/lang/String") (ww hw (i := 17) rfl) (ww hw (i := 18) rfl) (ww hw (i := 20) rfl) (ww hw (i := 19) rfl) (by decide) (payCh (Wd := 0) hw F5 (Sta.ext E5 S0) hz (Sta.ext E5 G0) rf (i := ii.toNatClampNeg) (by have := (base_in hi0 hb0).2 (Or.inr hc13_4); rw [show (lits (textAt 72)).length = 5 from by decide +kernel]; exact this) (back32 hi0).1.symm (by decide) (by decide)) (F5).exa (g := (mkF m 19 #[.val (.int kk), .val (.int ii), .val (.long rnd), .second] [(.int ii), (.ref a5)])) rfl (by rw [hml]; rfl) (argsL := [(.int ii)]) (rest := []) (lenOf pd_0 rfl) rfl rfl (Nat.le_of_ble_eq_true rfl) (hb hby d_method_2_code_19) (by decide) (by decide) (fun v6 T6 h6 W6 sz6 q6 => ?_)
      obtain ⟨rfl, rfl⟩ := q6
      change Fi _ _ _ _ _ _ _ _ _ _ (T6.setTop (mkF m 22 #[.val (.int kk), .val (.int ii), .val (.long rnd), .second] [(.int ((lits (textAt 72)).getD ii.toNatClampNeg 0))]))
      exact W6.iret hx hlk hret (by simp) (ch_nar (StrL.rng F5 _)) (hb hby d_method_2_code_22) ⟨_, rfl, (StrL.rng F5 _), E5⟩ (by decide) (by decide)
    · refine Fi.by' (st' := s₁.setTop (mkF m 25 #[.val (.int kk), .val (.int ii), .val (.long rnd), .second] [(.int (2 : Int32)), (.int kk)])) (fun t k => ?_) ?_
      · refine XS.icmpYes W0.here hx rfl (pc0 := 13) (pc' := 23) rfl (hb hby d_method_2_code_13) rfl (feq hc13_4).2 (by decide) (by decide) ?_
        refine XS.iloadN W0.here hx rfl (hb hby d_method_2_code_23) rfl ?_
        refine iconstZ W0.here hx rfl (hb hby d_method_2_code_24) (z := (2 : Int32)) rfl ?_
        exact k
      by_cases hc25_7 : kk = (2 : Int32)
      · refine Fi.by' (st' := s₁.setTop (mkF m 28 #[.val (.int kk), .val (.int ii), .val (.long rnd), .second] [])) (fun t k => ?_) ?_
        · refine XS.icmpNo W0.here hx rfl (hb hby d_method_2_code_25) rfl (teq hc25_7).2 ?_
          exact k
        refine W0.ldc hx (ww hw (i := 73) rfl) (wS hw) (by decide) (lits (textAt 73)) (by decide +kernel) (by decide +kernel) (g := (mkF m 28 #[.val (.int kk), .val (.int ii), .val (.long rnd), .second] [])) rfl (hb hby d_method_2_code_28) (n := 24) (by decide +kernel) (by decide) (by decide) (by decide) (fun T8 h8 a8 W8 E8 F8 => ?_)
        change Fi _ _ _ _ _ _ _ _ _ _ (T8.setTop (mkF m 30 #[.val (.int kk), .val (.int ii), .val (.long rnd), .second] [(.ref a8)]))
        have sz8 := E8.1
        refine Fi.by' (st' := T8.setTop (mkF m 31 #[.val (.int kk), .val (.int ii), .val (.long rnd), .second] [(.int ii), (.ref a8)])) (fun t k => ?_) ?_
        · refine XS.iloadN W8.here hx rfl (hb hby d_method_2_code_30) rfl ?_
          exact k
        refine W8.callV hx (y := (⟨"java/lang/String", "charAt", "(I)C"⟩ : MethodName)) (C := "java/lang/String") (ww hw (i := 17) rfl) (ww hw (i := 18) rfl) (ww hw (i := 20) rfl) (ww hw (i := 19) rfl) (by decide) (payCh (Wd := 0) hw F8 (Sta.ext E8 S0) hz (Sta.ext E8 G0) rf (i := ii.toNatClampNeg) (by have h_ := hc25_7; have := (base_in hi0 hb0).1; rw [show (lits (textAt 73)).length = 6 from by decide +kernel]; exact this) (back32 hi0).1.symm (by decide) (by decide)) (F8).exa (g := (mkF m 31 #[.val (.int kk), .val (.int ii), .val (.long rnd), .second] [(.int ii), (.ref a8)])) rfl (by rw [hml]; rfl) (argsL := [(.int ii)]) (rest := []) (lenOf pd_0 rfl) rfl rfl (Nat.le_of_ble_eq_true rfl) (hb hby d_method_2_code_31) (by decide) (by decide) (fun v9 T9 h9 W9 sz9 q9 => ?_)
        obtain ⟨rfl, rfl⟩ := q9
        change Fi _ _ _ _ _ _ _ _ _ _ (T9.setTop (mkF m 34 #[.val (.int kk), .val (.int ii), .val (.long rnd), .second] [(.int ((lits (textAt 73)).getD ii.toNatClampNeg 0))]))
        exact W9.iret hx hlk hret (by simp) (ch_nar (StrL.rng F8 _)) (hb hby d_method_2_code_34) ⟨_, rfl, (StrL.rng F8 _), E8⟩ (by decide) (by decide)
      · refine Fi.by' (st' := s₁.setTop (mkF m 41 #[.val (.int kk), .val (.int ii), .val (.long rnd), .second] [(.long ((rnd.toUInt64 >>> (((8 : Int32) * ii) &&& 0x3f).toInt64.toUInt64).toInt64))])) (fun t k => ?_) ?_
        · refine XS.icmpYes W0.here hx rfl (pc0 := 25) (pc' := 35) rfl (hb hby d_method_2_code_25) rfl (feq hc25_7).2 (by decide) (by decide) ?_
          refine XS.lloadN W0.here hx rfl (hb hby d_method_2_code_35) rfl ?_
          refine bipushZ W0.here hx rfl (hb hby d_method_2_code_36) (z := (8 : Int32)) rfl ?_
          refine XS.iloadN W0.here hx rfl (hb hby d_method_2_code_38) rfl ?_
          refine XS.imul W0.here hx rfl (hb hby d_method_2_code_39) rfl ?_
          refine XS.lushr W0.here hx rfl (hb hby d_method_2_code_40) rfl ?_
          exact k
        refine W0.ldcL hx (ww hw (i := 136) rfl) (g := (mkF m 41 #[.val (.int kk), .val (.int ii), .val (.long rnd), .second] [(.long ((rnd.toUInt64 >>> (((8 : Int32) * ii) &&& 0x3f).toInt64.toUInt64).toInt64))])) rfl (hb hby d_method_2_code_41) ?_
        change Fi _ _ _ _ _ _ _ _ _ _ (s₁.setTop (mkF m 44 #[.val (.int kk), .val (.int ii), .val (.long rnd), .second] [(.long (255 : Int64)), (.long ((rnd.toUInt64 >>> (((8 : Int32) * ii) &&& 0x3f).toInt64.toUInt64).toInt64))]))
        refine Fi.by' (st' := s₁.setTop (mkF m 46 #[.val (.int kk), .val (.int ii), .val (.long rnd), .second] [(.int ((((rnd.toUInt64 >>> (((8 : Int32) * ii) &&& 0x3f).toInt64.toUInt64).toInt64) &&& (255 : Int64)).toInt32))])) (fun t k => ?_) ?_
        · refine XS.land W0.here hx rfl (hb hby d_method_2_code_44) rfl ?_
          refine XS.l2i W0.here hx rfl (hb hby d_method_2_code_45) rfl ?_
          exact k
        obtain ⟨bq, hbq⟩ : ∃ z : Int32, z = ((((rnd.toUInt64 >>> (((8 : Int32) * ii) &&& 0x3f).toInt64.toUInt64).toInt64) &&& (255 : Int64)).toInt32) := ⟨_, rfl⟩
        rw [← hbq]
        have P_bq : ¬ bq < 0 ∧ ¬ (255 : Int32) < bq := by rw [hbq]; exact and255L _
        refine Fi.by' (st' := s₁.setTop (mkF m 47 #[.val (.int kk), .val (.int ii), .val (.long rnd), .second] [(.int bq)])) (fun t k => ?_) ?_
        · refine i2cZ W0.here hx rfl (hb hby d_method_2_code_46) rfl (z := bq) ((ch_ok P_bq).1) ?_
          exact k
        exact W0.iret hx hlk hret (by simp) (ch_nar P_bq) (hb hby d_method_2_code_47) ⟨_, rfl, P_bq, (ext_refl h0)⟩ (by decide) (by decide)
def Q_cell (Z : State) (kk ii bl ch zc : Int32) (rnd : Int64) (fm : Value) (h0 : Heap) (v : Option Value) (h : Heap) : Prop := ∃ r : Int32, v = some (.int r) ∧ (¬ r < 0 ∧ ¬ (255 : Int32) < r) ∧ Ext h0 h
set_option maxRecDepth 65536 in
set_option maxHeartbeats 40000000 in
theorem rm_cell (l : Launch) (Z : State) (a0 : Array Value) (hw : ∀ d ∈ tables_1, d.before a0 Z = true) (kk ii bl ch zc : Int32) (rnd : Int64) (fm : Value) (h0 : Heap) (n0 : Nat) (Z0 : n0 ≤ h0.size) (S0 : Sta Z h0 "java/lang/String" "COMPACT_STRINGS" "Z" (.int zc)) (hz : ¬ zc = 0) (G0 : Sta Z h0 "jdk/internal/util/Preconditions" "SIOOBE_FORMATTER" "Ljava/util/function/BiFunction;" fm) (rf : fm.isRef = true) (hi0 : ¬ ii < 0) (hbl : bl = 5 ∨ (bl = 6 ∧ ¬ kk = 0 ∧ ¬ kk = 1)) :
    Con l Z EL (⟨"com/example/exact_roles/exactroles/credentials/ApiNamedPinLaw", "cell", "(IIIIJ)C"⟩ : MethodName) method_3_code 6 (some .char) [] ({ frames := 5, cells := 2, slots := 28, locals := 68 } : Room) #[(.int kk), (.int ii), (.int bl), (.int ch), (.long rnd)] h0 n0 (Q_cell Z kk ii bl ch zc rnd fm h0) := by
  refine Con.intro (own := "com/example/exact_roles/exactroles/credentials/ApiNamedPinLaw") rfl (plainFor_of_name plain_com_example_exact_roles_exactroles_credentials_ApiNamedPinLaw) (hEL hw) ?_
  intro p e s m below meth c s₁ hx hby hml hret hlk hnm W0
  refine Fi.cast (show entryFrame m #[(.int kk), (.int ii), (.int bl), (.int ch), (.long rnd)] 6 = (mkF m 0 #[.val (.int kk), .val (.int ii), .val (.int bl), .val (.int ch), .val (.long rnd), .second] []) from by first | (simp [entryFrame, mkF, argsToLocals, Value.category]; done) | rfl) ?_
  refine Fi.by' (st' := s₁.setTop (mkF m 2 #[.val (.int kk), .val (.int ii), .val (.int bl), .val (.int ch), .val (.long rnd), .second] [(.int bl), (.int ii)])) (fun t k => ?_) ?_
  · refine XS.iloadN W0.here hx rfl (hb hby d_method_3_code_0) rfl ?_
    refine XS.iloadN W0.here hx rfl (hb hby d_method_3_code_1) rfl ?_
    exact k
  by_cases hc2_1 : ii < bl
  · refine Fi.by' (st' := s₁.setTop (mkF m 9 #[.val (.int kk), .val (.int ii), .val (.int bl), .val (.int ch), .val (.long rnd), .second] [(.long rnd), (.int ii), (.int kk)])) (fun t k => ?_) ?_
    · refine XS.icmpNo W0.here hx rfl (hb hby d_method_3_code_2) rfl (tlt hc2_1).2.1 ?_
      refine XS.iloadN W0.here hx rfl (hb hby d_method_3_code_5) rfl ?_
      refine XS.iloadN W0.here hx rfl (hb hby d_method_3_code_6) rfl ?_
      refine XS.lload W0.here hx rfl (hb hby d_method_3_code_7) rfl ?_
      exact k
    refine W0.callS hx (y := (⟨"com/example/exact_roles/exactroles/credentials/ApiNamedPinLaw", "base", "(IIJ)C"⟩ : MethodName)) (ww hw (i := 6) rfl) (ww hw (i := 7) rfl) (ww hw (i := 4) rfl) (ww hw (i := 8) rfl) (by decide) (Pay.of_con (Wd := 0) (rm_base l Z a0 hw kk ii zc rnd fm h0 n0 (by omega) S0 hz G0 rf hi0 (hbl.elim (fun u => Or.inl (u ▸ hc2_1)) (fun u => Or.inr ⟨u.1 ▸ hc2_1, u.2⟩))) (ww hw (i := 8) rfl) (ww hw (i := 4) rfl) (hEL hw) (by decide) (by decide)) (g := (mkF m 9 #[.val (.int kk), .val (.int ii), .val (.int bl), .val (.int ch), .val (.long rnd), .second] [(.long rnd), (.int ii), (.int kk)])) rfl (by rw [hml]; rfl) (argsL := [(.int kk), (.int ii), (.long rnd)]) (rest := []) (lenOf pd_1 rfl) rfl rfl (Nat.le_of_ble_eq_true rfl) (hb hby d_method_3_code_9) (by decide) (by decide) (fun v2 T2 h2 W2 sz2 q2 => ?_)
    obtain ⟨r2, rfl, P_r2, E2⟩ := q2
    change Fi _ _ _ _ _ _ _ _ _ _ (T2.setTop (mkF m 12 #[.val (.int kk), .val (.int ii), .val (.int bl), .val (.int ch), .val (.long rnd), .second] [(.int r2)]))
    exact W2.iret hx hlk hret (by simp) (ch_nar P_r2) (hb hby d_method_3_code_12) ⟨_, rfl, P_r2, E2⟩ (by decide) (by decide)
  · refine Fi.by' (st' := s₁.setTop (mkF m 19 #[.val (.int kk), .val (.int ii), .val (.int bl), .val (.int ch), .val (.long rnd), .second] [(.int (ch &&& (255 : Int32)))])) (fun t k => ?_) ?_
    · refine XS.icmpYes W0.here hx rfl (pc0 := 2) (pc' := 13) rfl (hb hby d_method_3_code_2) rfl (flt hc2_1).2.1 (by decide) (by decide) ?_
      refine XS.iloadN W0.here hx rfl (hb hby d_method_3_code_13) rfl ?_
      refine sipushZ W0.here hx rfl (hb hby d_method_3_code_14) (z := (255 : Int32)) rfl ?_
      refine XS.iand W0.here hx rfl (hb hby d_method_3_code_17) rfl ?_
      refine i2cZ W0.here hx rfl (hb hby d_method_3_code_18) rfl (z := (ch &&& (255 : Int32))) (i2c_mask _) ?_
      exact k
    exact W0.iret hx hlk hret (by simp) (ch_nar (and255 _)) (hb hby d_method_3_code_19) ⟨_, rfl, (and255 _), (ext_refl h0)⟩ (by decide) (by decide)
def Q_emp (Z : State) (em : Addr) (h0 : Heap) (v : Option Value) (h : Heap) : Prop := v = some (.ref em) ∧ h0 = h
set_option maxRecDepth 65536 in
set_option maxHeartbeats 40000000 in
theorem rm_emp (l : Launch) (Z : State) (a0 : Array Value) (hw : ∀ d ∈ tables_1, d.before a0 Z = true) (em : Addr) (h0 : Heap) (n0 : Nat) (Z0 : n0 ≤ h0.size) (M0 : Sta Z h0 "java/util/Optional" "EMPTY" "Ljava/util/Optional;" (.ref em)) :
    Con l Z EL (⟨"java/util/Optional", "empty", "()Ljava/util/Optional;"⟩ : MethodName) jdk_32_method_1_code 1 (some (.object "java/util/Optional")) [] ({ frames := 0, cells := 0, slots := 0, locals := 0 } : Room) #[] h0 n0 (Q_emp Z em h0) := by
  refine Con.intro (own := "java/util/Optional") rfl (plainFor_of_name plain_java_util_Optional) (hEL hw) ?_
  intro p e s m below meth c s₁ hx hby hml hret hlk hnm W0
  refine Fi.cast (show entryFrame m #[] 1 = (mkF m 0 #[.unset] []) from by first | (simp [entryFrame, mkF, argsToLocals, Value.category]; done) | rfl) ?_
  refine W0.getS hx (ww hw (i := 103) rfl) M0 (g := (mkF m 0 #[.unset] [])) rfl (hb hby d_jdk_32_method_1_code_0) (fun T1 W1 => ?_)
  change Fi _ _ _ _ _ _ _ _ _ _ (T1.setTop (mkF m 3 #[.unset] [(.ref em)]))
  refine Fi.by' (st' := T1.setTop (mkF m 5 #[.val (.ref em)] [(.ref em)])) (fun t k => ?_) ?_
  · refine XS.astoreN W1.here hx rfl (hb hby d_jdk_32_method_1_code_3) rfl rfl (l' := #[.val (.ref em)]) rfl ?_
    refine XS.aloadN W1.here hx rfl (hb hby d_jdk_32_method_1_code_4) rfl rfl ?_
    exact k
  exact W1.aret hx hlk hret rfl rfl (hb hby d_jdk_32_method_1_code_5) ⟨rfl, rfl⟩ (by decide) (by decide)
def Q_isEmp (Z : State) (x : Addr) (h0 : Heap) (v : Option Value) (h : Heap) : Prop := v = some (.int 1) ∧ h0 = h
set_option maxRecDepth 65536 in
set_option maxHeartbeats 40000000 in
theorem rm_isEmp (l : Launch) (Z : State) (a0 : Array Value) (hw : ∀ d ∈ tables_1, d.before a0 Z = true) (x : Addr) (h0 : Heap) (n0 : Nat) (Z0 : n0 ≤ h0.size) (F0 : Fld Z h0 x "java/util/Optional" "value" "Ljava/lang/Object;" .null) :
    Con l Z EL (⟨"java/util/Optional", "isEmpty", "()Z"⟩ : MethodName) jdk_32_method_7_code 1 (some .boolean) [] ({ frames := 0, cells := 0, slots := 0, locals := 0 } : Room) #[(.ref x)] h0 n0 (Q_isEmp Z x h0) := by
  refine Con.intro (own := "java/util/Optional") rfl (plainFor_of_name plain_java_util_Optional) (hEL hw) ?_
  intro p e s m below meth c s₁ hx hby hml hret hlk hnm W0
  refine Fi.cast (show entryFrame m #[(.ref x)] 1 = (mkF m 0 #[.val (.ref x)] []) from by first | (simp [entryFrame, mkF, argsToLocals, Value.category]; done) | rfl) ?_
  refine Fi.by' (st' := s₁.setTop (mkF m 1 #[.val (.ref x)] [(.ref x)])) (fun t k => ?_) ?_
  · refine XS.aloadN W0.here hx rfl (hb hby d_jdk_32_method_7_code_0) rfl rfl ?_
    exact k
  refine W0.getF hx (ww hw (i := 109) rfl) F0 (g := (mkF m 1 #[.val (.ref x)] [(.ref x)])) rfl rfl (hb hby d_jdk_32_method_7_code_1) (fun T1 W1 => ?_)
  change Fi _ _ _ _ _ _ _ _ _ _ (T1.setTop (mkF m 4 #[.val (.ref x)] [.null]))
  refine Fi.by' (st' := T1.setTop (mkF m 12 #[.val (.ref x)] [(.int (1 : Int32))])) (fun t k => ?_) ?_
  · refine XS.ifnonnullNo W1.here hx rfl (hb hby d_jdk_32_method_7_code_4) rfl ?_
    refine iconstZ W1.here hx rfl (hb hby d_jdk_32_method_7_code_7) (z := (1 : Int32)) rfl ?_
    refine XS.goto W1.here hx rfl (pc0 := 8) (pc' := 12) rfl (hb hby d_jdk_32_method_7_code_8) (by decide) (by decide) ?_
    exact k
  exact W1.iret hx hlk hret (by simp) rfl (hb hby d_jdk_32_method_7_code_12) ⟨rfl, rfl⟩ (by decide) (by decide)
def Q_isPre (Z : State) (x y : Addr) (h0 : Heap) (v : Option Value) (h : Heap) : Prop := v = some (.int 1) ∧ h0 = h
set_option maxRecDepth 65536 in
set_option maxHeartbeats 40000000 in
theorem rm_isPre (l : Launch) (Z : State) (a0 : Array Value) (hw : ∀ d ∈ tables_1, d.before a0 Z = true) (x y : Addr) (h0 : Heap) (n0 : Nat) (Z0 : n0 ≤ h0.size) (F0 : Fld Z h0 x "java/util/Optional" "value" "Ljava/lang/Object;" (.ref y)) :
    Con l Z EL (⟨"java/util/Optional", "isPresent", "()Z"⟩ : MethodName) jdk_32_method_6_code 1 (some .boolean) [] ({ frames := 0, cells := 0, slots := 0, locals := 0 } : Room) #[(.ref x)] h0 n0 (Q_isPre Z x y h0) := by
  refine Con.intro (own := "java/util/Optional") rfl (plainFor_of_name plain_java_util_Optional) (hEL hw) ?_
  intro p e s m below meth c s₁ hx hby hml hret hlk hnm W0
  refine Fi.cast (show entryFrame m #[(.ref x)] 1 = (mkF m 0 #[.val (.ref x)] []) from by first | (simp [entryFrame, mkF, argsToLocals, Value.category]; done) | rfl) ?_
  refine Fi.by' (st' := s₁.setTop (mkF m 1 #[.val (.ref x)] [(.ref x)])) (fun t k => ?_) ?_
  · refine XS.aloadN W0.here hx rfl (hb hby d_jdk_32_method_6_code_0) rfl rfl ?_
    exact k
  refine W0.getF hx (ww hw (i := 109) rfl) F0 (g := (mkF m 1 #[.val (.ref x)] [(.ref x)])) rfl rfl (hb hby d_jdk_32_method_6_code_1) (fun T1 W1 => ?_)
  change Fi _ _ _ _ _ _ _ _ _ _ (T1.setTop (mkF m 4 #[.val (.ref x)] [(.ref y)]))
  refine Fi.by' (st' := T1.setTop (mkF m 12 #[.val (.ref x)] [(.int (1 : Int32))])) (fun t k => ?_) ?_
  · refine XS.ifnullNo W1.here hx rfl (hb hby d_jdk_32_method_6_code_4) rfl ?_
    refine iconstZ W1.here hx rfl (hb hby d_jdk_32_method_6_code_7) (z := (1 : Int32)) rfl ?_
    refine XS.goto W1.here hx rfl (pc0 := 8) (pc' := 12) rfl (hb hby d_jdk_32_method_6_code_8) (by decide) (by decide) ?_
    exact k
  exact W1.iret hx hlk hret (by simp) rfl (hb hby d_jdk_32_method_6_code_12) ⟨rfl, rfl⟩ (by decide) (by decide)
def Q_oget (Z : State) (x y : Addr) (h0 : Heap) (v : Option Value) (h : Heap) : Prop := v = some (.ref y) ∧ h0 = h
set_option maxRecDepth 65536 in
set_option maxHeartbeats 40000000 in
theorem rm_oget (l : Launch) (Z : State) (a0 : Array Value) (hw : ∀ d ∈ tables_1, d.before a0 Z = true) (x y : Addr) (h0 : Heap) (n0 : Nat) (Z0 : n0 ≤ h0.size) (F0 : Fld Z h0 x "java/util/Optional" "value" "Ljava/lang/Object;" (.ref y)) :
    Con l Z EL (⟨"java/util/Optional", "get", "()Ljava/lang/Object;"⟩ : MethodName) jdk_32_method_5_code 1 (some (.object "java/lang/Object")) [] ({ frames := 0, cells := 0, slots := 0, locals := 0 } : Room) #[(.ref x)] h0 n0 (Q_oget Z x y h0) := by
  refine Con.intro (own := "java/util/Optional") rfl (plainFor_of_name plain_java_util_Optional) (hEL hw) ?_
  intro p e s m below meth c s₁ hx hby hml hret hlk hnm W0
  refine Fi.cast (show entryFrame m #[(.ref x)] 1 = (mkF m 0 #[.val (.ref x)] []) from by first | (simp [entryFrame, mkF, argsToLocals, Value.category]; done) | rfl) ?_
  refine Fi.by' (st' := s₁.setTop (mkF m 1 #[.val (.ref x)] [(.ref x)])) (fun t k => ?_) ?_
  · refine XS.aloadN W0.here hx rfl (hb hby d_jdk_32_method_5_code_0) rfl rfl ?_
    exact k
  refine W0.getF hx (ww hw (i := 109) rfl) F0 (g := (mkF m 1 #[.val (.ref x)] [(.ref x)])) rfl rfl (hb hby d_jdk_32_method_5_code_1) (fun T1 W1 => ?_)
  change Fi _ _ _ _ _ _ _ _ _ _ (T1.setTop (mkF m 4 #[.val (.ref x)] [(.ref y)]))
  refine Fi.by' (st' := T1.setTop (mkF m 18 #[.val (.ref x)] [(.ref x)])) (fun t k => ?_) ?_
  · refine XS.ifnonnullYes W1.here hx rfl (pc0 := 4) (pc' := 17) rfl (hb hby d_jdk_32_method_5_code_4) rfl (by decide) (by decide) ?_
    refine XS.aloadN W1.here hx rfl (hb hby d_jdk_32_method_5_code_17) rfl rfl ?_
    exact k
  refine W1.getF hx (ww hw (i := 109) rfl) F0 (g := (mkF m 18 #[.val (.ref x)] [(.ref x)])) rfl rfl (hb hby d_jdk_32_method_5_code_18) (fun T2 W2 => ?_)
  change Fi _ _ _ _ _ _ _ _ _ _ (T2.setTop (mkF m 21 #[.val (.ref x)] [(.ref y)]))
  exact W2.aret hx hlk hret rfl rfl (hb hby d_jdk_32_method_5_code_21) ⟨rfl, rfl⟩ (by decide) (by decide)
def Q_rnn (Z : State) (y : Addr) (h0 : Heap) (v : Option Value) (h : Heap) : Prop := v = some (.ref y) ∧ h0 = h
set_option maxRecDepth 65536 in
set_option maxHeartbeats 40000000 in
theorem rm_rnn (l : Launch) (Z : State) (a0 : Array Value) (hw : ∀ d ∈ tables_1, d.before a0 Z = true) (y : Addr) (h0 : Heap) (n0 : Nat) (Z0 : n0 ≤ h0.size)  :
    Con l Z EL (⟨"java/util/Objects", "requireNonNull", "(Ljava/lang/Object;)Ljava/lang/Object;"⟩ : MethodName) jdk_31_method_10_code 1 (some (.object "java/lang/Object")) [] ({ frames := 0, cells := 0, slots := 0, locals := 0 } : Room) #[(.ref y)] h0 n0 (Q_rnn Z y h0) := by
  refine Con.intro (own := "java/util/Objects") rfl (plainFor_of_name plain_java_util_Objects) (hEL hw) ?_
  intro p e s m below meth c s₁ hx hby hml hret hlk hnm W0
  refine Fi.cast (show entryFrame m #[(.ref y)] 1 = (mkF m 0 #[.val (.ref y)] []) from by first | (simp [entryFrame, mkF, argsToLocals, Value.category]; done) | rfl) ?_
  refine Fi.by' (st' := s₁.setTop (mkF m 13 #[.val (.ref y)] [(.ref y)])) (fun t k => ?_) ?_
  · refine XS.aloadN W0.here hx rfl (hb hby d_jdk_31_method_10_code_0) rfl rfl ?_
    refine XS.ifnonnullYes W0.here hx rfl (pc0 := 1) (pc' := 12) rfl (hb hby d_jdk_31_method_10_code_1) rfl (by decide) (by decide) ?_
    refine XS.aloadN W0.here hx rfl (hb hby d_jdk_31_method_10_code_12) rfl rfl ?_
    exact k
  exact W0.aret hx hlk hret rfl rfl (hb hby d_jdk_31_method_10_code_13) ⟨rfl, rfl⟩ (by decide) (by decide)
def Q_oini (Z : State) (x : Addr) (y : Addr) (h0 : Heap) (v : Option Value) (h : Heap) : Prop := v = none ∧ Keep h0 h [x] ∧ Exa Z h x "java/util/Optional" ∧ Fld Z h x "java/util/Optional" "value" "Ljava/lang/Object;" (.ref y)
set_option maxRecDepth 65536 in
set_option maxHeartbeats 40000000 in
theorem rm_oini (l : Launch) (Z : State) (a0 : Array Value) (hw : ∀ d ∈ tables_1, d.before a0 Z = true) (x : Addr) (y : Addr) (h0 : Heap) (n0 : Nat) (Z0 : n0 ≤ h0.size) (g0 : n0 ≤ x) (A0 : Exa Z h0 x "java/util/Optional") (F0_value : Fld Z h0 x "java/util/Optional" "value" "Ljava/lang/Object;" .null)  :
    Con l Z EL (⟨"java/util/Optional", "<init>", "(Ljava/lang/Object;)V"⟩ : MethodName) jdk_32_method_2_code 2 none [] ({ frames := 1, cells := 0, slots := 0, locals := 12 } : Room) #[(.ref x), (.ref y)] h0 n0 (Q_oini Z x y h0) := by
  refine Con.intro (own := "java/util/Optional") rfl (plainFor_of_name plain_java_util_Optional) (hEL hw) ?_
  intro p e s m below meth c s₁ hx hby hml hret hlk hnm W0
  refine Fi.cast (show entryFrame m #[(.ref x), (.ref y)] 2 = (mkF m 0 #[.val (.ref x), .val (.ref y)] []) from by first | (simp [entryFrame, mkF, argsToLocals, Value.category]; done) | rfl) ?_
  refine Fi.by' (st' := s₁.setTop (mkF m 1 #[.val (.ref x), .val (.ref y)] [(.ref x)])) (fun t k => ?_) ?_
  · refine XS.aloadN W0.here hx rfl (hb hby d_jdk_32_method_2_code_0) rfl rfl ?_
    exact k
  refine W0.initO hx (ww hw (i := 125) rfl) (ww hw (i := 51) rfl) (ww hw (i := 52) rfl) (g := (mkF m 1 #[.val (.ref x), .val (.ref y)] [(.ref x)])) rfl (by rw [hml]; rfl) rfl (hb hby d_jdk_32_method_2_code_1) (by decide) (Wd := 0) (Nat.le_of_ble_eq_true rfl) (by decide) (fun T1 W1 => ?_)
  change Fi _ _ _ _ _ _ _ _ _ _ (T1.setTop (mkF m 4 #[.val (.ref x), .val (.ref y)] []))
  refine Fi.by' (st' := T1.setTop (mkF m 6 #[.val (.ref x), .val (.ref y)] [(.ref y), (.ref x)])) (fun t k => ?_) ?_
  · refine XS.aloadN W1.here hx rfl (hb hby d_jdk_32_method_2_code_4) rfl rfl ?_
    refine XS.aloadN W1.here hx rfl (hb hby d_jdk_32_method_2_code_5) rfl rfl ?_
    exact k
  refine W1.putF hx (ww hw (i := 109) rfl) F0_value A0 (Or.inr ⟨(ww hw (i := 110) rfl), rfl, hnm⟩) (ww hw (i := 116) rfl) (ty := (.object "java/lang/Object")) (by decide) rfl rfl (g := (mkF m 6 #[.val (.ref x), .val (.ref y)] [(.ref y), (.ref x)])) rfl rfl (hb hby d_jdk_32_method_2_code_6) g0 (safe_exa A0 (by decide) (by decide)) (fun T2 h2 W2 R2 => ?_)
  change Fi _ _ _ _ _ _ _ _ _ _ (T2.setTop (mkF m 9 #[.val (.ref x), .val (.ref y)] []))
  have K2 := (Keep.refl h0 [x]).wr R2 (Or.inl (List.mem_singleton.mpr rfl))
  have A2 := Exa.wr R2 A0
  have F2_value := Fld.same R2 F0_value
  exact W2.vret hx hlk hret (hb hby d_jdk_32_method_2_code_9) ⟨rfl, K2, A2, F2_value⟩ (by decide) (by decide)
def Q_oof (Z : State) (y : Addr) (h0 : Heap) (v : Option Value) (h : Heap) : Prop := ∃ o : Addr, v = some (.ref o) ∧ Ext h0 h ∧ Exa Z h o "java/util/Optional" ∧ Fld Z h o "java/util/Optional" "value" "Ljava/lang/Object;" (.ref y)
set_option maxRecDepth 65536 in
set_option maxHeartbeats 40000000 in
theorem rm_oof (l : Launch) (Z : State) (a0 : Array Value) (hw : ∀ d ∈ tables_1, d.before a0 Z = true) (y : Addr) (h0 : Heap) (n0 : Nat) (Z0 : n0 ≤ h0.size)  :
    Con l Z EL (⟨"java/util/Optional", "of", "(Ljava/lang/Object;)Ljava/util/Optional;"⟩ : MethodName) jdk_32_method_3_code 1 (some (.object "java/util/Optional")) [] ({ frames := 2, cells := 1, slots := 1, locals := 26 } : Room) #[(.ref y)] h0 n0 (Q_oof Z y h0) := by
  refine Con.intro (own := "java/util/Optional") rfl (plainFor_of_name plain_java_util_Optional) (hEL hw) ?_
  intro p e s m below meth c s₁ hx hby hml hret hlk hnm W0
  refine Fi.cast (show entryFrame m #[(.ref y)] 1 = (mkF m 0 #[.val (.ref y)] []) from by first | (simp [entryFrame, mkF, argsToLocals, Value.category]; done) | rfl) ?_
  refine W0.new hx (ww hw (i := 115) rfl) (ww hw (i := 116) rfl) (ww hw (i := 101) rfl) (g := (mkF m 0 #[.val (.ref y)] [])) rfl (hb hby d_jdk_32_method_3_code_0) (by decide) (by decide) (fun T1 h1 a1 ha1 W1 E1 A1 D1 => ?_)
  change Fi _ _ _ _ _ _ _ _ _ _ (T1.setTop (mkF m 3 #[.val (.ref y)] [(.ref a1)]))
  have sz1 := E1.1
  refine Fi.by' (st' := T1.setTop (mkF m 5 #[.val (.ref y)] [(.ref y), (.ref a1), (.ref a1)])) (fun t k => ?_) ?_
  · refine XS.dup W1.here hx rfl (hb hby d_jdk_32_method_3_code_3) rfl rfl ?_
    refine XS.aloadN W1.here hx rfl (hb hby d_jdk_32_method_3_code_4) rfl rfl ?_
    exact k
  refine W1.callS hx (y := (⟨"java/util/Objects", "requireNonNull", "(Ljava/lang/Object;)Ljava/lang/Object;"⟩ : MethodName)) (ww hw (i := 117) rfl) (ww hw (i := 118) rfl) (ww hw (i := 119) rfl) (ww hw (i := 120) rfl) (by decide) (Pay.of_con (Wd := 2) (rm_rnn l Z a0 hw y h1 n0 (by omega)) (ww hw (i := 120) rfl) (ww hw (i := 119) rfl) (hEL hw) (by decide) (by decide)) (g := (mkF m 5 #[.val (.ref y)] [(.ref y), (.ref a1), (.ref a1)])) rfl (by rw [hml]; rfl) (argsL := [(.ref y)]) (rest := [(.ref a1), (.ref a1)]) (lenOf pd_2 rfl) rfl rfl (Nat.le_of_ble_eq_true rfl) (hb hby d_jdk_32_method_3_code_5) (by decide) (by decide) (fun v2 T2 h2 W2 sz2 q2 => ?_)
  obtain ⟨rfl, rfl⟩ := q2
  change Fi _ _ _ _ _ _ _ _ _ _ (T2.setTop (mkF m 8 #[.val (.ref y)] [(.ref y), (.ref a1), (.ref a1)]))
  refine W2.callI hx (y := (⟨"java/util/Optional", "<init>", "(Ljava/lang/Object;)V"⟩ : MethodName)) rfl (ww hw (i := 121) rfl) (ww hw (i := 122) rfl) (ww hw (i := 124) rfl) (by decide) (Pay.of_con (Wd := 1) (rm_oini l Z a0 hw a1 y h1 n0 (by omega) (by omega) A1 (D1 (Or.inr (ww hw (i := 110) rfl)) (ty := (.object "java/lang/Object")) (by decide)) ) (ww hw (i := 124) rfl) (ww hw (i := 101) rfl) (hEL hw) (by decide) (by decide)) (a := a1) (g := (mkF m 8 #[.val (.ref y)] [(.ref y), (.ref a1), (.ref a1)])) rfl (by rw [hml]; rfl) (argsL := [(.ref y)]) (rest := [(.ref a1)]) (lenOf pd_3 rfl) rfl rfl (Nat.le_of_ble_eq_true rfl) (hb hby d_jdk_32_method_3_code_8) (by decide) (by decide) (fun v3 T3 h3 W3 sz3 q3 => ?_)
  obtain ⟨rfl, K3, A3, F3_value⟩ := q3
  change Fi _ _ _ _ _ _ _ _ _ _ (T3.setTop (mkF m 11 #[.val (.ref y)] [(.ref a1)]))
  have x3k : Ext h0 h3 := ext_keep1 E1 K3 (by omega)
  exact W3.aret hx hlk hret rfl rfl (hb hby d_jdk_32_method_3_code_11) ⟨a1, rfl, x3k, A3, F3_value⟩ (by decide) (by decide)
def Q_vals (Z : State) (va er eu ec : Addr) (kv : ClassId) (h0 : Heap) (v : Option Value) (h : Heap) : Prop := ∃ b : Addr, v = some (.ref b) ∧ Ext h0 h ∧ Arv Z h b kv (.object "com/example/exact_roles/exactroles/credentials/Api") (3 : Int32) [.ref er, .ref eu, .ref ec] .null
set_option maxRecDepth 65536 in
set_option maxHeartbeats 40000000 in
theorem rm_vals (l : Launch) (Z : State) (a0 : Array Value) (hw : ∀ d ∈ tables_1, d.before a0 Z = true) (va er eu ec : Addr) (kv : ClassId) (h0 : Heap) (n0 : Nat) (Z0 : n0 ≤ h0.size) (V0 : Sta Z h0 "com/example/exact_roles/exactroles/credentials/Api" "$VALUES" "[Lcom/example/exact_roles/exactroles/credentials/Api;" (.ref va)) (A0 : Arv Z h0 va kv (.object "com/example/exact_roles/exactroles/credentials/Api") (3 : Int32) [.ref er, .ref eu, .ref ec] .null) (X0 : Exa Z h0 va "[Lcom/example/exact_roles/exactroles/credentials/Api;") :
    Con l Z EL (⟨"com/example/exact_roles/exactroles/credentials/Api", "values", "()[Lcom/example/exact_roles/exactroles/credentials/Api;"⟩ : MethodName) prog_2_method_1_code 0 (some (.array (.object "com/example/exact_roles/exactroles/credentials/Api"))) [] ({ frames := 1, cells := 1, slots := 3, locals := 14 } : Room) #[] h0 n0 (Q_vals Z va er eu ec kv h0) := by
  refine Con.intro (own := "com/example/exact_roles/exactroles/credentials/Api") rfl (plainFor_of_name plain_com_example_exact_roles_exactroles_credentials_Api) (hEL hw) ?_
  intro p e s m below meth c s₁ hx hby hml hret hlk hnm W0
  refine Fi.cast (show entryFrame m #[] 0 = (mkF m 0 #[] []) from by first | (simp [entryFrame, mkF, argsToLocals, Value.category]; done) | rfl) ?_
  refine W0.getS hx (ww hw (i := 81) rfl) V0 (g := (mkF m 0 #[] [])) rfl (hb hby d_prog_2_method_1_code_0) (fun T1 W1 => ?_)
  change Fi _ _ _ _ _ _ _ _ _ _ (T1.setTop (mkF m 3 #[] [(.ref va)]))
  refine W1.cloneV hx (ad := "[Lcom/example/exact_roles/exactroles/credentials/Api;") (ww hw (i := 83) rfl) (ww hw (i := 84) rfl) (ww hw (i := 88) rfl) (ww hw (i := 86) rfl) (ww hw (i := 87) rfl) (ww hw (i := 89) rfl) A0 X0 (g := (mkF m 3 #[] [(.ref va)])) rfl (by rw [hml]; rfl) rfl (hb hby d_prog_2_method_1_code_3) (by decide) (Wd := 0) (cap := 3) (Nat.le_of_ble_eq_true rfl) (by decide) (by decide) (by decide) (by decide) (fun T2 h2 a2 ha2 W2 E2 B2 X2 => ?_)
  change Fi _ _ _ _ _ _ _ _ _ _ (T2.setTop (mkF m 6 #[] [(.ref a2)]))
  have sz2 := E2.1
  refine W2.castY hx (ww hw (i := 94) rfl) (Ins.self X2) (g := (mkF m 6 #[] [(.ref a2)])) rfl rfl (hb hby d_prog_2_method_1_code_6) (fun T3 W3 => ?_)
  change Fi _ _ _ _ _ _ _ _ _ _ (T3.setTop (mkF m 9 #[] [(.ref a2)]))
  exact W3.aret hx hlk hret rfl rfl (hb hby d_prog_2_method_1_code_9) ⟨a2, rfl, E2, B2⟩ (by decide) (by decide)
def Q_named (Z : State) (x va er eu ec n1 n2 n3 em : Addr) (kv : ClassId) (zc : Int32) (cs : List Int32) (h0 : Heap) (v : Option Value) (h : Heap) : Prop := ∃ (o : Addr) (w : Value), v = some (.ref o) ∧ Ext h0 h ∧ Exa Z h o "java/util/Optional" ∧ Fld Z h o "java/util/Optional" "value" "Ljava/lang/Object;" w ∧ (((lits (textAt 9)) = cs ∧ w = .ref er) ∨ (¬ (lits (textAt 9)) = cs ∧ (lits (textAt 72)) = cs ∧ w = .ref eu) ∨ (¬ (lits (textAt 9)) = cs ∧ ¬ (lits (textAt 72)) = cs ∧ (lits (textAt 73)) = cs ∧ w = .ref ec) ∨ (¬ (lits (textAt 9)) = cs ∧ ¬ (lits (textAt 72)) = cs ∧ ¬ (lits (textAt 73)) = cs ∧ w = .null))
set_option maxRecDepth 65536 in
set_option maxHeartbeats 40000000 in
theorem rm_named (l : Launch) (Z : State) (a0 : Array Value) (hw : ∀ d ∈ tables_1, d.before a0 Z = true) (x va er eu ec n1 n2 n3 em : Addr) (kv : ClassId) (zc : Int32) (cs : List Int32) (h0 : Heap) (n0 : Nat) (Z0 : n0 ≤ h0.size) (S0 : Sta Z h0 "java/lang/String" "COMPACT_STRINGS" "Z" (.int zc)) (hz : ¬ zc = 0) (V0 : Sta Z h0 "com/example/exact_roles/exactroles/credentials/Api" "$VALUES" "[Lcom/example/exact_roles/exactroles/credentials/Api;" (.ref va)) (A0 : Arv Z h0 va kv (.object "com/example/exact_roles/exactroles/credentials/Api") (3 : Int32) [.ref er, .ref eu, .ref ec] .null) (X0 : Exa Z h0 va "[Lcom/example/exact_roles/exactroles/credentials/Api;") (N1 : Fld Z h0 er "com/example/exact_roles/exactroles/credentials/Api" "name" "Ljava/lang/String;" (.ref n1)) (N2 : Fld Z h0 eu "com/example/exact_roles/exactroles/credentials/Api" "name" "Ljava/lang/String;" (.ref n2)) (N3 : Fld Z h0 ec "com/example/exact_roles/exactroles/credentials/Api" "name" "Ljava/lang/String;" (.ref n3)) (U1 : StrL Z h0 n1 (lits (textAt 9))) (U2 : StrL Z h0 n2 (lits (textAt 72))) (U3 : StrL Z h0 n3 (lits (textAt 73))) (M0 : Sta Z h0 "java/util/Optional" "EMPTY" "Ljava/util/Optional;" (.ref em)) (M1 : Exa Z h0 em "java/util/Optional") (M2 : Fld Z h0 em "java/util/Optional" "value" "Ljava/lang/Object;" .null) (K0 : StrL Z h0 x cs) :
    Con l Z EL (⟨"com/example/exact_roles/exactroles/credentials/Api", "named", "(Ljava/lang/String;)Ljava/util/Optional;"⟩ : MethodName) prog_2_method_5_code 5 (some (.object "java/util/Optional")) [] ({ frames := 3, cells := 2, slots := 4, locals := 38 } : Room) #[(.ref x)] h0 n0 (Q_named Z x va er eu ec n1 n2 n3 em kv zc cs h0) := by
  refine Con.intro (own := "com/example/exact_roles/exactroles/credentials/Api") rfl (plainFor_of_name plain_com_example_exact_roles_exactroles_credentials_Api) (hEL hw) ?_
  intro p e s m below meth c s₁ hx hby hml hret hlk hnm W0
  refine Fi.cast (show entryFrame m #[(.ref x)] 5 = (mkF m 0 #[.val (.ref x), .unset, .unset, .unset, .unset] []) from by first | (simp [entryFrame, mkF, argsToLocals, Value.category]; done) | rfl) ?_
  refine W0.callS hx (y := (⟨"com/example/exact_roles/exactroles/credentials/Api", "values", "()[Lcom/example/exact_roles/exactroles/credentials/Api;"⟩ : MethodName)) (ww hw (i := 78) rfl) (ww hw (i := 79) rfl) (ww hw (i := 76) rfl) (ww hw (i := 80) rfl) (by decide) (Pay.of_con (Wd := 0) (rm_vals l Z a0 hw va er eu ec kv h0 n0 (by omega) V0 A0 X0) (ww hw (i := 80) rfl) (ww hw (i := 76) rfl) (hEL hw) (by decide) (by decide)) (g := (mkF m 0 #[.val (.ref x), .unset, .unset, .unset, .unset] [])) rfl (by rw [hml]; rfl) (argsL := []) (rest := []) (lenOf pd_4 rfl) rfl rfl (Nat.le_of_ble_eq_true rfl) (hb hby d_prog_2_method_5_code_0) (by decide) (by decide) (fun v1 T1 h1 W1 sz1 q1 => ?_)
  obtain ⟨a1, rfl, E1, B1⟩ := q1
  change Fi _ _ _ _ _ _ _ _ _ _ (T1.setTop (mkF m 3 #[.val (.ref x), .unset, .unset, .unset, .unset] [(.ref a1)]))
  refine Fi.by' (st' := T1.setTop (mkF m 5 #[.val (.ref x), .val (.ref a1), .unset, .unset, .unset] [(.ref a1)])) (fun t k => ?_) ?_
  · refine XS.astoreN W1.here hx rfl (hb hby d_prog_2_method_5_code_3) rfl rfl (l' := #[.val (.ref x), .val (.ref a1), .unset, .unset, .unset]) rfl ?_
    refine XS.aloadN W1.here hx rfl (hb hby d_prog_2_method_5_code_4) rfl rfl ?_
    exact k
  refine W1.alen hx B1 (g := (mkF m 5 #[.val (.ref x), .val (.ref a1), .unset, .unset, .unset] [(.ref a1)])) rfl rfl (hb hby d_prog_2_method_5_code_5) ?_
  change Fi _ _ _ _ _ _ _ _ _ _ (T1.setTop (mkF m 6 #[.val (.ref x), .val (.ref a1), .unset, .unset, .unset] [(.int (3 : Int32))]))
  refine Fi.by' (st' := T1.setTop (mkF m 16 #[.val (.ref x), .val (.ref a1), .val (.int (3 : Int32)), .val (.int (0 : Int32)), .unset] [(.int (0 : Int32)), (.ref a1)])) (fun t k => ?_) ?_
  · refine XS.istoreN W1.here hx rfl (hb hby d_prog_2_method_5_code_6) rfl (l' := #[.val (.ref x), .val (.ref a1), .val (.int (3 : Int32)), .unset, .unset]) rfl ?_
    refine iconstZ W1.here hx rfl (hb hby d_prog_2_method_5_code_7) (z := (0 : Int32)) rfl ?_
    refine XS.istoreN W1.here hx rfl (hb hby d_prog_2_method_5_code_8) rfl (l' := #[.val (.ref x), .val (.ref a1), .val (.int (3 : Int32)), .val (.int (0 : Int32)), .unset]) rfl ?_
    refine XS.iloadN W1.here hx rfl (hb hby d_prog_2_method_5_code_9) rfl ?_
    refine XS.iloadN W1.here hx rfl (hb hby d_prog_2_method_5_code_10) rfl ?_
    refine XS.icmpNo W1.here hx rfl (hb hby d_prog_2_method_5_code_11) rfl (tlt (by decide : ((0 : Int32) < (3 : Int32)))).2.1 ?_
    refine XS.aloadN W1.here hx rfl (hb hby d_prog_2_method_5_code_14) rfl rfl ?_
    refine XS.iloadN W1.here hx rfl (hb hby d_prog_2_method_5_code_15) rfl ?_
    exact k
  refine W1.aaload hx B1 rfl (j := (0 : Int32)) (v := (.ref er)) (by decide) rfl (g := (mkF m 16 #[.val (.ref x), .val (.ref a1), .val (.int (3 : Int32)), .val (.int (0 : Int32)), .unset] [(.int (0 : Int32)), (.ref a1)])) rfl rfl (hb hby d_prog_2_method_5_code_16) ?_
  change Fi _ _ _ _ _ _ _ _ _ _ (T1.setTop (mkF m 17 #[.val (.ref x), .val (.ref a1), .val (.int (3 : Int32)), .val (.int (0 : Int32)), .unset] [(.ref er)]))
  refine Fi.by' (st' := T1.setTop (mkF m 21 #[.val (.ref x), .val (.ref a1), .val (.int (3 : Int32)), .val (.int (0 : Int32)), .val (.ref er)] [(.ref er)])) (fun t k => ?_) ?_
  · refine XS.astore W1.here hx rfl (hb hby d_prog_2_method_5_code_17) rfl rfl (l' := #[.val (.ref x), .val (.ref a1), .val (.int (3 : Int32)), .val (.int (0 : Int32)), .val (.ref er)]) rfl ?_
    refine XS.aload W1.here hx rfl (hb hby d_prog_2_method_5_code_19) rfl rfl ?_
    exact k
  refine W1.getF hx (ww hw (i := 96) rfl) (Fld.ext E1 N1) (g := (mkF m 21 #[.val (.ref x), .val (.ref a1), .val (.int (3 : Int32)), .val (.int (0 : Int32)), .val (.ref er)] [(.ref er)])) rfl rfl (hb hby d_prog_2_method_5_code_21) (fun T3 W3 => ?_)
  change Fi _ _ _ _ _ _ _ _ _ _ (T3.setTop (mkF m 24 #[.val (.ref x), .val (.ref a1), .val (.int (3 : Int32)), .val (.int (0 : Int32)), .val (.ref er)] [(.ref n1)]))
  refine Fi.by' (st' := T3.setTop (mkF m 25 #[.val (.ref x), .val (.ref a1), .val (.int (3 : Int32)), .val (.int (0 : Int32)), .val (.ref er)] [(.ref x), (.ref n1)])) (fun t k => ?_) ?_
  · refine XS.aloadN W3.here hx rfl (hb hby d_prog_2_method_5_code_24) rfl rfl ?_
    exact k
  refine W3.callV hx (y := (⟨"java/lang/String", "equals", "(Ljava/lang/Object;)Z"⟩ : MethodName)) (C := "java/lang/String") (ww hw (i := 98) rfl) (ww hw (i := 64) rfl) (ww hw (i := 66) rfl) (ww hw (i := 65) rfl) (by decide) (payQ (Wd := 0) hw (U1.ext E1) (K0.ext E1) (Sta.ext E1 S0) hz (by decide) (by decide)) ((U1.ext E1)).exa (g := (mkF m 25 #[.val (.ref x), .val (.ref a1), .val (.int (3 : Int32)), .val (.int (0 : Int32)), .val (.ref er)] [(.ref x), (.ref n1)])) rfl (by rw [hml]; rfl) (argsL := [(.ref x)]) (rest := []) (lenOf pd_5 rfl) rfl rfl (Nat.le_of_ble_eq_true rfl) (hb hby d_prog_2_method_5_code_25) (by decide) (by decide) (fun v4 T4 h4 W4 sz4 q4 => ?_)
  obtain ⟨⟨r4, rfl, hr4⟩, rfl⟩ := q4
  change Fi _ _ _ _ _ _ _ _ _ _ (T4.setTop (mkF m 28 #[.val (.ref x), .val (.ref a1), .val (.int (3 : Int32)), .val (.int (0 : Int32)), .val (.ref er)] [(.int r4)]))
  by_cases hc28_5 : r4 = (0 : Int32)
  · refine Fi.by' (st' := T4.setTop (mkF m 16 #[.val (.ref x), .val (.ref a1), .val (.int (3 : Int32)), .val (.int (1 : Int32)), .val (.ref er)] [(.int (1 : Int32)), (.ref a1)])) (fun t k => ?_) ?_
    · refine XS.ifYes W4.here hx rfl (pc0 := 28) (pc' := 37) rfl (hb hby d_prog_2_method_5_code_28) rfl ((if0 _ _).trans (teq hc28_5).1) (by decide) (by decide) ?_
      refine XS.iinc W4.here hx rfl (hb hby d_prog_2_method_5_code_37) rfl (l' := #[.val (.ref x), .val (.ref a1), .val (.int (3 : Int32)), .val (.int (1 : Int32)), .val (.ref er)]) rfl ?_
      refine XS.goto W4.here hx rfl (pc0 := 40) (pc' := 9) rfl (hb hby d_prog_2_method_5_code_40) (by decide) (by decide) ?_
      refine XS.iloadN W4.here hx rfl (hb hby d_prog_2_method_5_code_9) rfl ?_
      refine XS.iloadN W4.here hx rfl (hb hby d_prog_2_method_5_code_10) rfl ?_
      refine XS.icmpNo W4.here hx rfl (hb hby d_prog_2_method_5_code_11) rfl (tlt (by decide : ((1 : Int32) < (3 : Int32)))).2.1 ?_
      refine XS.aloadN W4.here hx rfl (hb hby d_prog_2_method_5_code_14) rfl rfl ?_
      refine XS.iloadN W4.here hx rfl (hb hby d_prog_2_method_5_code_15) rfl ?_
      exact k
    refine W4.aaload hx B1 rfl (j := (1 : Int32)) (v := (.ref eu)) (by decide) rfl (g := (mkF m 16 #[.val (.ref x), .val (.ref a1), .val (.int (3 : Int32)), .val (.int (1 : Int32)), .val (.ref er)] [(.int (1 : Int32)), (.ref a1)])) rfl rfl (hb hby d_prog_2_method_5_code_16) ?_
    change Fi _ _ _ _ _ _ _ _ _ _ (T4.setTop (mkF m 17 #[.val (.ref x), .val (.ref a1), .val (.int (3 : Int32)), .val (.int (1 : Int32)), .val (.ref er)] [(.ref eu)]))
    refine Fi.by' (st' := T4.setTop (mkF m 21 #[.val (.ref x), .val (.ref a1), .val (.int (3 : Int32)), .val (.int (1 : Int32)), .val (.ref eu)] [(.ref eu)])) (fun t k => ?_) ?_
    · refine XS.astore W4.here hx rfl (hb hby d_prog_2_method_5_code_17) rfl rfl (l' := #[.val (.ref x), .val (.ref a1), .val (.int (3 : Int32)), .val (.int (1 : Int32)), .val (.ref eu)]) rfl ?_
      refine XS.aload W4.here hx rfl (hb hby d_prog_2_method_5_code_19) rfl rfl ?_
      exact k
    refine W4.getF hx (ww hw (i := 96) rfl) (Fld.ext E1 N2) (g := (mkF m 21 #[.val (.ref x), .val (.ref a1), .val (.int (3 : Int32)), .val (.int (1 : Int32)), .val (.ref eu)] [(.ref eu)])) rfl rfl (hb hby d_prog_2_method_5_code_21) (fun T6 W6 => ?_)
    change Fi _ _ _ _ _ _ _ _ _ _ (T6.setTop (mkF m 24 #[.val (.ref x), .val (.ref a1), .val (.int (3 : Int32)), .val (.int (1 : Int32)), .val (.ref eu)] [(.ref n2)]))
    refine Fi.by' (st' := T6.setTop (mkF m 25 #[.val (.ref x), .val (.ref a1), .val (.int (3 : Int32)), .val (.int (1 : Int32)), .val (.ref eu)] [(.ref x), (.ref n2)])) (fun t k => ?_) ?_
    · refine XS.aloadN W6.here hx rfl (hb hby d_prog_2_method_5_code_24) rfl rfl ?_
      exact k
    refine W6.callV hx (y := (⟨"java/lang/String", "equals", "(Ljava/lang/Object;)Z"⟩ : MethodName)) (C := "java/lang/String") (ww hw (i := 98) rfl) (ww hw (i := 64) rfl) (ww hw (i := 66) rfl) (ww hw (i := 65) rfl) (by decide) (payQ (Wd := 0) hw (U2.ext E1) (K0.ext E1) (Sta.ext E1 S0) hz (by decide) (by decide)) ((U2.ext E1)).exa (g := (mkF m 25 #[.val (.ref x), .val (.ref a1), .val (.int (3 : Int32)), .val (.int (1 : Int32)), .val (.ref eu)] [(.ref x), (.ref n2)])) rfl (by rw [hml]; rfl) (argsL := [(.ref x)]) (rest := []) (lenOf pd_5 rfl) rfl rfl (Nat.le_of_ble_eq_true rfl) (hb hby d_prog_2_method_5_code_25) (by decide) (by decide) (fun v7 T7 h7 W7 sz7 q7 => ?_)
    obtain ⟨⟨r7, rfl, hr7⟩, rfl⟩ := q7
    change Fi _ _ _ _ _ _ _ _ _ _ (T7.setTop (mkF m 28 #[.val (.ref x), .val (.ref a1), .val (.int (3 : Int32)), .val (.int (1 : Int32)), .val (.ref eu)] [(.int r7)]))
    by_cases hc28_8 : r7 = (0 : Int32)
    · refine Fi.by' (st' := T7.setTop (mkF m 16 #[.val (.ref x), .val (.ref a1), .val (.int (3 : Int32)), .val (.int (2 : Int32)), .val (.ref eu)] [(.int (2 : Int32)), (.ref a1)])) (fun t k => ?_) ?_
      · refine XS.ifYes W7.here hx rfl (pc0 := 28) (pc' := 37) rfl (hb hby d_prog_2_method_5_code_28) rfl ((if0 _ _).trans (teq hc28_8).1) (by decide) (by decide) ?_
        refine XS.iinc W7.here hx rfl (hb hby d_prog_2_method_5_code_37) rfl (l' := #[.val (.ref x), .val (.ref a1), .val (.int (3 : Int32)), .val (.int (2 : Int32)), .val (.ref eu)]) rfl ?_
        refine XS.goto W7.here hx rfl (pc0 := 40) (pc' := 9) rfl (hb hby d_prog_2_method_5_code_40) (by decide) (by decide) ?_
        refine XS.iloadN W7.here hx rfl (hb hby d_prog_2_method_5_code_9) rfl ?_
        refine XS.iloadN W7.here hx rfl (hb hby d_prog_2_method_5_code_10) rfl ?_
        refine XS.icmpNo W7.here hx rfl (hb hby d_prog_2_method_5_code_11) rfl (tlt (by decide : ((2 : Int32) < (3 : Int32)))).2.1 ?_
        refine XS.aloadN W7.here hx rfl (hb hby d_prog_2_method_5_code_14) rfl rfl ?_
        refine XS.iloadN W7.here hx rfl (hb hby d_prog_2_method_5_code_15) rfl ?_
        exact k
      refine W7.aaload hx B1 rfl (j := (2 : Int32)) (v := (.ref ec)) (by decide) rfl (g := (mkF m 16 #[.val (.ref x), .val (.ref a1), .val (.int (3 : Int32)), .val (.int (2 : Int32)), .val (.ref eu)] [(.int (2 : Int32)), (.ref a1)])) rfl rfl (hb hby d_prog_2_method_5_code_16) ?_
      change Fi _ _ _ _ _ _ _ _ _ _ (T7.setTop (mkF m 17 #[.val (.ref x), .val (.ref a1), .val (.int (3 : Int32)), .val (.int (2 : Int32)), .val (.ref eu)] [(.ref ec)]))
      refine Fi.by' (st' := T7.setTop (mkF m 21 #[.val (.ref x), .val (.ref a1), .val (.int (3 : Int32)), .val (.int (2 : Int32)), .val (.ref ec)] [(.ref ec)])) (fun t k => ?_) ?_
      · refine XS.astore W7.here hx rfl (hb hby d_prog_2_method_5_code_17) rfl rfl (l' := #[.val (.ref x), .val (.ref a1), .val (.int (3 : Int32)), .val (.int (2 : Int32)), .val (.ref ec)]) rfl ?_
        refine XS.aload W7.here hx rfl (hb hby d_prog_2_method_5_code_19) rfl rfl ?_
        exact k
      refine W7.getF hx (ww hw (i := 96) rfl) (Fld.ext E1 N3) (g := (mkF m 21 #[.val (.ref x), .val (.ref a1), .val (.int (3 : Int32)), .val (.int (2 : Int32)), .val (.ref ec)] [(.ref ec)])) rfl rfl (hb hby d_prog_2_method_5_code_21) (fun T9 W9 => ?_)
      change Fi _ _ _ _ _ _ _ _ _ _ (T9.setTop (mkF m 24 #[.val (.ref x), .val (.ref a1), .val (.int (3 : Int32)), .val (.int (2 : Int32)), .val (.ref ec)] [(.ref n3)]))
      refine Fi.by' (st' := T9.setTop (mkF m 25 #[.val (.ref x), .val (.ref a1), .val (.int (3 : Int32)), .val (.int (2 : Int32)), .val (.ref ec)] [(.ref x), (.ref n3)])) (fun t k => ?_) ?_
      · refine XS.aloadN W9.here hx rfl (hb hby d_prog_2_method_5_code_24) rfl rfl ?_
        exact k
      refine W9.callV hx (y := (⟨"java/lang/String", "equals", "(Ljava/lang/Object;)Z"⟩ : MethodName)) (C := "java/lang/String") (ww hw (i := 98) rfl) (ww hw (i := 64) rfl) (ww hw (i := 66) rfl) (ww hw (i := 65) rfl) (by decide) (payQ (Wd := 0) hw (U3.ext E1) (K0.ext E1) (Sta.ext E1 S0) hz (by decide) (by decide)) ((U3.ext E1)).exa (g := (mkF m 25 #[.val (.ref x), .val (.ref a1), .val (.int (3 : Int32)), .val (.int (2 : Int32)), .val (.ref ec)] [(.ref x), (.ref n3)])) rfl (by rw [hml]; rfl) (argsL := [(.ref x)]) (rest := []) (lenOf pd_5 rfl) rfl rfl (Nat.le_of_ble_eq_true rfl) (hb hby d_prog_2_method_5_code_25) (by decide) (by decide) (fun v10 T10 h10 W10 sz10 q10 => ?_)
      obtain ⟨⟨r10, rfl, hr10⟩, rfl⟩ := q10
      change Fi _ _ _ _ _ _ _ _ _ _ (T10.setTop (mkF m 28 #[.val (.ref x), .val (.ref a1), .val (.int (3 : Int32)), .val (.int (2 : Int32)), .val (.ref ec)] [(.int r10)]))
      by_cases hc28_11 : r10 = (0 : Int32)
      · refine Fi.by' (st' := T10.setTop (mkF m 43 #[.val (.ref x), .val (.ref a1), .val (.int (3 : Int32)), .val (.int (3 : Int32)), .val (.ref ec)] [])) (fun t k => ?_) ?_
        · refine XS.ifYes W10.here hx rfl (pc0 := 28) (pc' := 37) rfl (hb hby d_prog_2_method_5_code_28) rfl ((if0 _ _).trans (teq hc28_11).1) (by decide) (by decide) ?_
          refine XS.iinc W10.here hx rfl (hb hby d_prog_2_method_5_code_37) rfl (l' := #[.val (.ref x), .val (.ref a1), .val (.int (3 : Int32)), .val (.int (3 : Int32)), .val (.ref ec)]) rfl ?_
          refine XS.goto W10.here hx rfl (pc0 := 40) (pc' := 9) rfl (hb hby d_prog_2_method_5_code_40) (by decide) (by decide) ?_
          refine XS.iloadN W10.here hx rfl (hb hby d_prog_2_method_5_code_9) rfl ?_
          refine XS.iloadN W10.here hx rfl (hb hby d_prog_2_method_5_code_10) rfl ?_
          refine XS.icmpYes W10.here hx rfl (pc0 := 11) (pc' := 43) rfl (hb hby d_prog_2_method_5_code_11) rfl (flt (by decide : ¬ ((3 : Int32) < (3 : Int32)))).2.1 (by decide) (by decide) ?_
          exact k
        refine W10.callS hx (y := (⟨"java/util/Optional", "empty", "()Ljava/util/Optional;"⟩ : MethodName)) (ww hw (i := 99) rfl) (ww hw (i := 100) rfl) (ww hw (i := 101) rfl) (ww hw (i := 102) rfl) (by decide) (Pay.of_con (Wd := 0) (rm_emp l Z a0 hw em h1 n0 (by omega) (Sta.ext E1 M0)) (ww hw (i := 102) rfl) (ww hw (i := 101) rfl) (hEL hw) (by decide) (by decide)) (g := (mkF m 43 #[.val (.ref x), .val (.ref a1), .val (.int (3 : Int32)), .val (.int (3 : Int32)), .val (.ref ec)] [])) rfl (by rw [hml]; rfl) (argsL := []) (rest := []) (lenOf pd_6 rfl) rfl rfl (Nat.le_of_ble_eq_true rfl) (hb hby d_prog_2_method_5_code_43) (by decide) (by decide) (fun v12 T12 h12 W12 sz12 q12 => ?_)
        obtain ⟨rfl, rfl⟩ := q12
        change Fi _ _ _ _ _ _ _ _ _ _ (T12.setTop (mkF m 46 #[.val (.ref x), .val (.ref a1), .val (.int (3 : Int32)), .val (.int (3 : Int32)), .val (.ref ec)] [(.ref em)]))
        exact W12.aret hx hlk hret rfl rfl (hb hby d_prog_2_method_5_code_46) ⟨em, .null, rfl, E1, (Exa.ext E1 M1), (Fld.ext E1 M2), Or.inr (Or.inr (Or.inr ⟨(eq_no hr4 hc28_5), (eq_no hr7 hc28_8), (eq_no hr10 hc28_11), rfl⟩))⟩ (by decide) (by decide)
      · refine Fi.by' (st' := T10.setTop (mkF m 33 #[.val (.ref x), .val (.ref a1), .val (.int (3 : Int32)), .val (.int (2 : Int32)), .val (.ref ec)] [(.ref ec)])) (fun t k => ?_) ?_
        · refine XS.ifNo W10.here hx rfl (hb hby d_prog_2_method_5_code_28) rfl ((if0 _ _).trans (feq hc28_11).1) ?_
          refine XS.aload W10.here hx rfl (hb hby d_prog_2_method_5_code_31) rfl rfl ?_
          exact k
        refine W10.callS hx (y := (⟨"java/util/Optional", "of", "(Ljava/lang/Object;)Ljava/util/Optional;"⟩ : MethodName)) (ww hw (i := 112) rfl) (ww hw (i := 113) rfl) (ww hw (i := 101) rfl) (ww hw (i := 114) rfl) (by decide) (Pay.of_con (Wd := 0) (rm_oof l Z a0 hw ec h1 n0 (by omega)) (ww hw (i := 114) rfl) (ww hw (i := 101) rfl) (hEL hw) (by decide) (by decide)) (g := (mkF m 33 #[.val (.ref x), .val (.ref a1), .val (.int (3 : Int32)), .val (.int (2 : Int32)), .val (.ref ec)] [(.ref ec)])) rfl (by rw [hml]; rfl) (argsL := [(.ref ec)]) (rest := []) (lenOf pd_7 rfl) rfl rfl (Nat.le_of_ble_eq_true rfl) (hb hby d_prog_2_method_5_code_33) (by decide) (by decide) (fun v13 T13 h13 W13 sz13 q13 => ?_)
        obtain ⟨a13, rfl, E13, X13, F13⟩ := q13
        change Fi _ _ _ _ _ _ _ _ _ _ (T13.setTop (mkF m 36 #[.val (.ref x), .val (.ref a1), .val (.int (3 : Int32)), .val (.int (2 : Int32)), .val (.ref ec)] [(.ref a13)]))
        have x14 : Ext h0 h13 := ext_trans E1 E13
        exact W13.aret hx hlk hret rfl rfl (hb hby d_prog_2_method_5_code_36) ⟨a13, (.ref ec), rfl, x14, X13, F13, Or.inr (Or.inr (Or.inl ⟨(eq_no hr4 hc28_5), (eq_no hr7 hc28_8), eq_yes hr10 hc28_11, rfl⟩))⟩ (by decide) (by decide)
    · refine Fi.by' (st' := T7.setTop (mkF m 33 #[.val (.ref x), .val (.ref a1), .val (.int (3 : Int32)), .val (.int (1 : Int32)), .val (.ref eu)] [(.ref eu)])) (fun t k => ?_) ?_
      · refine XS.ifNo W7.here hx rfl (hb hby d_prog_2_method_5_code_28) rfl ((if0 _ _).trans (feq hc28_8).1) ?_
        refine XS.aload W7.here hx rfl (hb hby d_prog_2_method_5_code_31) rfl rfl ?_
        exact k
      refine W7.callS hx (y := (⟨"java/util/Optional", "of", "(Ljava/lang/Object;)Ljava/util/Optional;"⟩ : MethodName)) (ww hw (i := 112) rfl) (ww hw (i := 113) rfl) (ww hw (i := 101) rfl) (ww hw (i := 114) rfl) (by decide) (Pay.of_con (Wd := 0) (rm_oof l Z a0 hw eu h1 n0 (by omega)) (ww hw (i := 114) rfl) (ww hw (i := 101) rfl) (hEL hw) (by decide) (by decide)) (g := (mkF m 33 #[.val (.ref x), .val (.ref a1), .val (.int (3 : Int32)), .val (.int (1 : Int32)), .val (.ref eu)] [(.ref eu)])) rfl (by rw [hml]; rfl) (argsL := [(.ref eu)]) (rest := []) (lenOf pd_7 rfl) rfl rfl (Nat.le_of_ble_eq_true rfl) (hb hby d_prog_2_method_5_code_33) (by decide) (by decide) (fun v15 T15 h15 W15 sz15 q15 => ?_)
      obtain ⟨a15, rfl, E15, X15, F15⟩ := q15
      change Fi _ _ _ _ _ _ _ _ _ _ (T15.setTop (mkF m 36 #[.val (.ref x), .val (.ref a1), .val (.int (3 : Int32)), .val (.int (1 : Int32)), .val (.ref eu)] [(.ref a15)]))
      have x16 : Ext h0 h15 := ext_trans E1 E15
      exact W15.aret hx hlk hret rfl rfl (hb hby d_prog_2_method_5_code_36) ⟨a15, (.ref eu), rfl, x16, X15, F15, Or.inr (Or.inl ⟨(eq_no hr4 hc28_5), eq_yes hr7 hc28_8, rfl⟩)⟩ (by decide) (by decide)
  · refine Fi.by' (st' := T4.setTop (mkF m 33 #[.val (.ref x), .val (.ref a1), .val (.int (3 : Int32)), .val (.int (0 : Int32)), .val (.ref er)] [(.ref er)])) (fun t k => ?_) ?_
    · refine XS.ifNo W4.here hx rfl (hb hby d_prog_2_method_5_code_28) rfl ((if0 _ _).trans (feq hc28_5).1) ?_
      refine XS.aload W4.here hx rfl (hb hby d_prog_2_method_5_code_31) rfl rfl ?_
      exact k
    refine W4.callS hx (y := (⟨"java/util/Optional", "of", "(Ljava/lang/Object;)Ljava/util/Optional;"⟩ : MethodName)) (ww hw (i := 112) rfl) (ww hw (i := 113) rfl) (ww hw (i := 101) rfl) (ww hw (i := 114) rfl) (by decide) (Pay.of_con (Wd := 0) (rm_oof l Z a0 hw er h1 n0 (by omega)) (ww hw (i := 114) rfl) (ww hw (i := 101) rfl) (hEL hw) (by decide) (by decide)) (g := (mkF m 33 #[.val (.ref x), .val (.ref a1), .val (.int (3 : Int32)), .val (.int (0 : Int32)), .val (.ref er)] [(.ref er)])) rfl (by rw [hml]; rfl) (argsL := [(.ref er)]) (rest := []) (lenOf pd_7 rfl) rfl rfl (Nat.le_of_ble_eq_true rfl) (hb hby d_prog_2_method_5_code_33) (by decide) (by decide) (fun v17 T17 h17 W17 sz17 q17 => ?_)
    obtain ⟨a17, rfl, E17, X17, F17⟩ := q17
    change Fi _ _ _ _ _ _ _ _ _ _ (T17.setTop (mkF m 36 #[.val (.ref x), .val (.ref a1), .val (.int (3 : Int32)), .val (.int (0 : Int32)), .val (.ref er)] [(.ref a17)]))
    have x18 : Ext h0 h17 := ext_trans E1 E17
    exact W17.aret hx hlk hret rfl rfl (hb hby d_prog_2_method_5_code_36) ⟨a17, (.ref er), rfl, x18, X17, F17, Or.inl ⟨eq_yes hr4 hc28_5, rfl⟩⟩ (by decide) (by decide)
def Q_law (Z : State) (p0 p1 p2 p3 : Int32) (p4 : Int64) (va er eu ec n1 n2 n3 em : Addr) (kv : ClassId) (zc : Int32) (fm : Value) (h0 : Heap) (v : Option Value) (h : Heap) : Prop := v = some (.int 1)
set_option maxRecDepth 65536 in
set_option maxHeartbeats 40000000 in
theorem rm_law (l : Launch) (Z : State) (a0 : Array Value) (hw : ∀ d ∈ tables_1, d.before a0 Z = true) (p0 p1 p2 p3 : Int32) (p4 : Int64) (va er eu ec n1 n2 n3 em : Addr) (kv : ClassId) (zc : Int32) (fm : Value) (h0 : Heap) (n0 : Nat) (Z0 : n0 ≤ h0.size) (S0 : Sta Z h0 "java/lang/String" "COMPACT_STRINGS" "Z" (.int zc)) (hz : ¬ zc = 0) (V0 : Sta Z h0 "com/example/exact_roles/exactroles/credentials/Api" "$VALUES" "[Lcom/example/exact_roles/exactroles/credentials/Api;" (.ref va)) (A0 : Arv Z h0 va kv (.object "com/example/exact_roles/exactroles/credentials/Api") (3 : Int32) [.ref er, .ref eu, .ref ec] .null) (X0 : Exa Z h0 va "[Lcom/example/exact_roles/exactroles/credentials/Api;") (N1 : Fld Z h0 er "com/example/exact_roles/exactroles/credentials/Api" "name" "Ljava/lang/String;" (.ref n1)) (N2 : Fld Z h0 eu "com/example/exact_roles/exactroles/credentials/Api" "name" "Ljava/lang/String;" (.ref n2)) (N3 : Fld Z h0 ec "com/example/exact_roles/exactroles/credentials/Api" "name" "Ljava/lang/String;" (.ref n3)) (U1 : StrL Z h0 n1 (lits (textAt 9))) (U2 : StrL Z h0 n2 (lits (textAt 72))) (U3 : StrL Z h0 n3 (lits (textAt 73))) (M0 : Sta Z h0 "java/util/Optional" "EMPTY" "Ljava/util/Optional;" (.ref em)) (M1 : Exa Z h0 em "java/util/Optional") (M2 : Fld Z h0 em "java/util/Optional" "value" "Ljava/lang/Object;" .null) (G0 : Sta Z h0 "jdk/internal/util/Preconditions" "SIOOBE_FORMATTER" "Ljava/util/function/BiFunction;" fm) (rf : fm.isRef = true) (Y1 : Sta Z h0 "com/example/exact_roles/exactroles/credentials/Api" "ROLES" "Lcom/example/exact_roles/exactroles/credentials/Api;" (.ref er)) (Y2 : Sta Z h0 "com/example/exact_roles/exactroles/credentials/Api" "USERS" "Lcom/example/exact_roles/exactroles/credentials/Api;" (.ref eu)) (Y3 : Sta Z h0 "com/example/exact_roles/exactroles/credentials/Api" "CHECKS" "Lcom/example/exact_roles/exactroles/credentials/Api;" (.ref ec)) :
    Con l Z EL x code maxLocals ret tables_1 room_1 #[(.int p0), (.int p1), (.int p2), (.int p3), (.long p4)] h0 n0 (Q_law Z p0 p1 p2 p3 p4 va er eu ec n1 n2 n3 em kv zc fm h0) := by
  refine Con.intro (own := "com/example/exact_roles/exactroles/credentials/ApiNamedPinLaw") rfl (plainFor_of_name plain_com_example_exact_roles_exactroles_credentials_ApiNamedPinLaw) (hEL hw) ?_
  intro p e s m below meth c s₁ hx hby hml hret hlk hnm W0
  refine Fi.cast (show entryFrame m #[(.int p0), (.int p1), (.int p2), (.int p3), (.long p4)] maxLocals = (mkF m 0 #[.val (.int p0), .val (.int p1), .val (.int p2), .val (.int p3), .val (.long p4), .second, .unset, .unset, .unset, .unset, .unset, .unset, .unset, .unset] []) from by first | (simp [entryFrame, mkF, argsToLocals, Value.category, maxLocals]; done) | rfl) ?_
  refine Fi.by' (st' := s₁.setTop (mkF m 1 #[.val (.int p0), .val (.int p1), .val (.int p2), .val (.int p3), .val (.long p4), .second, .unset, .unset, .unset, .unset, .unset, .unset, .unset, .unset] [(.int p0)])) (fun t k => ?_) ?_
  · refine XS.iloadN W0.here hx rfl (hb hby at_0) rfl ?_
    exact k
  refine W0.ldcI hx (ww hw (i := 0) rfl) (g := (mkF m 1 #[.val (.int p0), .val (.int p1), .val (.int p2), .val (.int p3), .val (.long p4), .second, .unset, .unset, .unset, .unset, .unset, .unset, .unset, .unset] [(.int p0)])) rfl (hb hby at_1) ?_
  change Fi _ _ _ _ _ _ _ _ _ _ (s₁.setTop (mkF m 3 #[.val (.int p0), .val (.int p1), .val (.int p2), .val (.int p3), .val (.long p4), .second, .unset, .unset, .unset, .unset, .unset, .unset, .unset, .unset] [(.int (2147483647 : Int32)), (.int p0)]))
  refine Fi.by' (st' := s₁.setTop (mkF m 6 #[.val (.int p0), .val (.int p1), .val (.int p2), .val (.int p3), .val (.long p4), .second, .unset, .unset, .unset, .unset, .unset, .unset, .unset, .unset] [(.int ((p0 &&& (2147483647 : Int32)) - ((p0 &&& (2147483647 : Int32)) / (4 : Int32)) * (4 : Int32)))])) (fun t k => ?_) ?_
  · refine XS.iand W0.here hx rfl (hb hby at_3) rfl ?_
    refine iconstZ W0.here hx rfl (hb hby at_4) (z := (4 : Int32)) rfl ?_
    refine XS.irem W0.here hx rfl (hb hby at_5) rfl (by decide) ?_
    exact k
  obtain ⟨sk, hsk⟩ : ∃ z : Int32, z = ((p0 &&& (2147483647 : Int32)) - ((p0 &&& (2147483647 : Int32)) / (4 : Int32)) * (4 : Int32)) := ⟨_, rfl⟩
  rw [← hsk]
  refine Fi.by' (st' := s₁.setTop (mkF m 11 #[.val (.int p0), .val (.int p1), .val (.int p2), .val (.int p3), .val (.long p4), .second, .val (.int sk), .unset, .unset, .unset, .unset, .unset, .unset, .unset] [(.int (2 : Int32)), (.int sk)])) (fun t k => ?_) ?_
  · refine XS.istore W0.here hx rfl (hb hby at_6) rfl (l' := #[.val (.int p0), .val (.int p1), .val (.int p2), .val (.int p3), .val (.long p4), .second, .val (.int sk), .unset, .unset, .unset, .unset, .unset, .unset, .unset]) rfl ?_
    refine XS.iload W0.here hx rfl (hb hby at_8) rfl ?_
    refine iconstZ W0.here hx rfl (hb hby at_10) (z := (2 : Int32)) rfl ?_
    exact k
  have J11_2 : ∀ (v1 : Int32), (((sk = (2 : Int32)) ∧ (v1 = (6 : Int32))) ∨ ((¬ (sk = (2 : Int32))) ∧ (sk = (3 : Int32)) ∧ (v1 = (6 : Int32))) ∨ ((¬ (sk = (2 : Int32))) ∧ (¬ (sk = (3 : Int32))) ∧ (v1 = (5 : Int32)))) → Fi p e below s Z EL n0 (Q_law Z p0 p1 p2 p3 p4 va er eu ec n1 n2 n3 em kv zc fm h0) room_1.cells room_1.slots (s₁.setTop (mkF m 26 #[.val (.int p0), .val (.int p1), .val (.int p2), .val (.int p3), .val (.long p4), .second, .val (.int sk), .unset, .unset, .unset, .unset, .unset, .unset, .unset] [(.int v1)])) := by
    intro v1 hv1
    have B5 := bl_ok hv1
    have b56 : v1 = 5 ∨ v1 = 6 := B5.elim Or.inl (fun u => Or.inr u.1)
    have nzb : v1 ≠ 0 := by rcases b56 with q | q <;> rw [q] <;> decide
    refine Fi.by' (st' := s₁.setTop (mkF m 31 #[.val (.int p0), .val (.int p1), .val (.int p2), .val (.int p3), .val (.long p4), .second, .val (.int sk), .val (.int v1), .unset, .unset, .unset, .unset, .unset, .unset] [(.int (p1 &&& (3 : Int32)))])) (fun t k => ?_) ?_
    · refine XS.istore W0.here hx rfl (hb hby at_26) rfl (l' := #[.val (.int p0), .val (.int p1), .val (.int p2), .val (.int p3), .val (.long p4), .second, .val (.int sk), .val (.int v1), .unset, .unset, .unset, .unset, .unset, .unset]) rfl ?_
      refine XS.iloadN W0.here hx rfl (hb hby at_28) rfl ?_
      refine iconstZ W0.here hx rfl (hb hby at_29) (z := (3 : Int32)) rfl ?_
      refine XS.iand W0.here hx rfl (hb hby at_30) rfl ?_
      exact k
    obtain ⟨sm, hsm⟩ : ∃ z : Int32, z = (p1 &&& (3 : Int32)) := ⟨_, rfl⟩
    rw [← hsm]
    refine Fi.by' (st' := s₁.setTop (mkF m 36 #[.val (.int p0), .val (.int p1), .val (.int p2), .val (.int p3), .val (.long p4), .second, .val (.int sk), .val (.int v1), .val (.int sm), .unset, .unset, .unset, .unset, .unset] [(.int (2 : Int32)), (.int sm)])) (fun t k => ?_) ?_
    · refine XS.istore W0.here hx rfl (hb hby at_31) rfl (l' := #[.val (.int p0), .val (.int p1), .val (.int p2), .val (.int p3), .val (.long p4), .second, .val (.int sk), .val (.int v1), .val (.int sm), .unset, .unset, .unset, .unset, .unset]) rfl ?_
      refine XS.iload W0.here hx rfl (hb hby at_33) rfl ?_
      refine iconstZ W0.here hx rfl (hb hby at_35) (z := (2 : Int32)) rfl ?_
      exact k
    have J36_4 : ∀ (v3 : Int32), (((sm = (2 : Int32)) ∧ (v3 = ((p2 &&& (2147483647 : Int32)) - ((p2 &&& (2147483647 : Int32)) / v1) * v1))) ∨ ((¬ (sm = (2 : Int32))) ∧ (sm = (3 : Int32)) ∧ (v3 = (v1 + (1 : Int32)))) ∨ ((¬ (sm = (2 : Int32))) ∧ (¬ (sm = (3 : Int32))) ∧ (v3 = v1))) → Fi p e below s Z EL n0 (Q_law Z p0 p1 p2 p3 p4 va er eu ec n1 n2 n3 em kv zc fm h0) room_1.cells room_1.slots (s₁.setTop (mkF m 70 #[.val (.int p0), .val (.int p1), .val (.int p2), .val (.int p3), .val (.long p4), .second, .val (.int sk), .val (.int v1), .val (.int sm), .val (.int v3), .unset, .unset, .unset, .unset] [])) := by
      intro v3 hv3
      have LK := len_ok b56 hv3
      refine Fi.by' (st' := s₁.setTop (mkF m 72 #[.val (.int p0), .val (.int p1), .val (.int p2), .val (.int p3), .val (.long p4), .second, .val (.int sk), .val (.int v1), .val (.int sm), .val (.int v3), .unset, .unset, .unset, .unset] [(.int v3)])) (fun t k => ?_) ?_
      · refine XS.iload W0.here hx rfl (hb hby at_70) rfl ?_
        exact k
      refine W0.newP hx (aty := .char) (ww hw (i := 1) rfl) (g := (mkF m 72 #[.val (.int p0), .val (.int p1), .val (.int p2), .val (.int p3), .val (.long p4), .second, .val (.int sk), .val (.int v1), .val (.int sm), .val (.int v3), .unset, .unset, .unset, .unset] [(.int v3)])) rfl (hb hby at_72) rfl LK.1.1 (cap := 7) LK.1.2 (by decide) (by decide) (by decide) (fun T5 h5 a5 k5 ha5 W5 E5 A5 => ?_)
      change Fi _ _ _ _ _ _ _ _ _ _ (T5.setTop (mkF m 74 #[.val (.int p0), .val (.int p1), .val (.int p2), .val (.int p3), .val (.long p4), .second, .val (.int sk), .val (.int v1), .val (.int sm), .val (.int v3), .unset, .unset, .unset, .unset] [(.ref a5)]))
      have sz5 := E5.1
      have C5 : CA Z h5 a5 k5 v3 := CA.new A5
      refine Fi.by' (st' := T5.setTop (mkF m 76 #[.val (.int p0), .val (.int p1), .val (.int p2), .val (.int p3), .val (.long p4), .second, .val (.int sk), .val (.int v1), .val (.int sm), .val (.int v3), .val (.ref a5), .unset, .unset, .unset] [])) (fun t k => ?_) ?_
      · refine XS.astore W5.here hx rfl (hb hby at_74) rfl rfl (l' := #[.val (.int p0), .val (.int p1), .val (.int p2), .val (.int p3), .val (.long p4), .second, .val (.int sk), .val (.int v1), .val (.int sm), .val (.int v3), .val (.ref a5), .unset, .unset, .unset]) rfl ?_
        exact k
      have J247_6 : ∀ (T : State) (h : Heap), Wk p l e room_1 s m #[(.int p0), (.int p1), (.int p2), (.int p3), (.long p4)] below meth c Z a0 EL "com/example/exact_roles/exactroles/credentials/ApiNamedPinLaw" n0 T h 15 203 → Ext h0 h → CA Z h a5 k5 v3 → Fi p e below s Z EL n0 (Q_law Z p0 p1 p2 p3 p4 va er eu ec n1 n2 n3 em kv zc fm h0) room_1.cells room_1.slots (T.setTop (mkF m 247 #[.val (.int p0), .val (.int p1), .val (.int p2), .val (.int p3), .val (.long p4), .second, .val (.int sk), .val (.int v1), .val (.int sm), .val (.int v3), .val (.ref a5), .unset, .unset, .unset] [])) := by
        intro T6 h6 W6 E6 C6
        have sz6 := E6.1
        refine W6.new hx (ww hw (i := 42) rfl) (ww hw (i := 11) rfl) (ww hw (i := 10) rfl) (g := (mkF m 247 #[.val (.int p0), .val (.int p1), .val (.int p2), .val (.int p3), .val (.long p4), .second, .val (.int sk), .val (.int v1), .val (.int sm), .val (.int v3), .val (.ref a5), .unset, .unset, .unset] [])) rfl (hb hby at_247) (by decide) (by decide) (fun T7 h7 a7 ha7 W7 E7 A7 D7 => ?_)
        change Fi _ _ _ _ _ _ _ _ _ _ (T7.setTop (mkF m 250 #[.val (.int p0), .val (.int p1), .val (.int p2), .val (.int p3), .val (.long p4), .second, .val (.int sk), .val (.int v1), .val (.int sm), .val (.int v3), .val (.ref a5), .unset, .unset, .unset] [(.ref a7)]))
        have sz7 := E7.1
        refine Fi.by' (st' := T7.setTop (mkF m 253 #[.val (.int p0), .val (.int p1), .val (.int p2), .val (.int p3), .val (.long p4), .second, .val (.int sk), .val (.int v1), .val (.int sm), .val (.int v3), .val (.ref a5), .unset, .unset, .unset] [(.ref a5), (.ref a7), (.ref a7)])) (fun t k => ?_) ?_
        · refine XS.dup W7.here hx rfl (hb hby at_250) rfl rfl ?_
          refine XS.aload W7.here hx rfl (hb hby at_251) rfl rfl ?_
          exact k
        have x8 : Ext h0 h7 := ext_trans E6 E7
        refine W7.callI hx (y := (⟨"java/lang/String", "<init>", "([C)V"⟩ : MethodName)) rfl (ww hw (i := 43) rfl) (ww hw (i := 44) rfl) (ww hw (i := 45) rfl) (by decide) (payCA (Wd := 1) hw (by omega) (by omega) A7 (D7 (Or.inr (ww hw (i := 13) rfl)) (ty := (.array .byte)) (by decide)) (D7 (Or.inr (ww hw (i := 14) rfl)) (ty := .byte) (by decide)) (C6.ext E7) LK.1 (Sta.ext x8 S0) hz (by decide) (by decide)) (a := a7) (g := (mkF m 253 #[.val (.int p0), .val (.int p1), .val (.int p2), .val (.int p3), .val (.long p4), .second, .val (.int sk), .val (.int v1), .val (.int sm), .val (.int v3), .val (.ref a5), .unset, .unset, .unset] [(.ref a5), (.ref a7), (.ref a7)])) rfl (by rw [hml]; rfl) (argsL := [(.ref a5)]) (rest := [(.ref a7)]) (lenOf pd_8 rfl) rfl rfl (Nat.le_of_ble_eq_true rfl) (hb hby at_253) (by decide) (by decide) (fun v9 T9 h9 W9 sz9 q9 => ?_)
        obtain ⟨rfl, K9, cs, F9⟩ := q9
        change Fi _ _ _ _ _ _ _ _ _ _ (T9.setTop (mkF m 256 #[.val (.int p0), .val (.int p1), .val (.int p2), .val (.int p3), .val (.long p4), .second, .val (.int sk), .val (.int v1), .val (.int sm), .val (.int v3), .val (.ref a5), .unset, .unset, .unset] [(.ref a7)]))
        have x9k : Ext h6 h9 := ext_keep1 E7 K9 (by omega)
        refine Fi.by' (st' := T9.setTop (mkF m 263 #[.val (.int p0), .val (.int p1), .val (.int p2), .val (.int p3), .val (.long p4), .second, .val (.int sk), .val (.int v1), .val (.int sm), .val (.int v3), .val (.ref a5), .val (.ref a7), .val .null, .unset] [(.ref a7)])) (fun t k => ?_) ?_
        · refine XS.astore W9.here hx rfl (hb hby at_256) rfl rfl (l' := #[.val (.int p0), .val (.int p1), .val (.int p2), .val (.int p3), .val (.long p4), .second, .val (.int sk), .val (.int v1), .val (.int sm), .val (.int v3), .val (.ref a5), .val (.ref a7), .unset, .unset]) rfl ?_
          refine XS.aconstNull W9.here hx rfl (hb hby at_258) ?_
          refine XS.astore W9.here hx rfl (hb hby at_259) rfl rfl (l' := #[.val (.int p0), .val (.int p1), .val (.int p2), .val (.int p3), .val (.long p4), .second, .val (.int sk), .val (.int v1), .val (.int sm), .val (.int v3), .val (.ref a5), .val (.ref a7), .val .null, .unset]) rfl ?_
          refine XS.aload W9.here hx rfl (hb hby at_261) rfl rfl ?_
          exact k
        refine W9.ldc hx (ww hw (i := 9) rfl) (wS hw) (by decide) (lits (textAt 9)) (by decide +kernel) (by decide +kernel) (g := (mkF m 263 #[.val (.int p0), .val (.int p1), .val (.int p2), .val (.int p3), .val (.long p4), .second, .val (.int sk), .val (.int v1), .val (.int sm), .val (.int v3), .val (.ref a5), .val (.ref a7), .val .null, .unset] [(.ref a7)])) rfl (hb hby at_263) (n := 20) (by decide +kernel) (by decide) (by decide) (by decide) (fun T10 h10 a10 W10 E10 F10 => ?_)
        change Fi _ _ _ _ _ _ _ _ _ _ (T10.setTop (mkF m 265 #[.val (.int p0), .val (.int p1), .val (.int p2), .val (.int p3), .val (.long p4), .second, .val (.int sk), .val (.int v1), .val (.int sm), .val (.int v3), .val (.ref a5), .val (.ref a7), .val .null, .unset] [(.ref a10), (.ref a7)]))
        have sz10 := E10.1
        have x11 : Ext h0 h9 := ext_trans E6 x9k
        have x12 : Ext h0 h10 := ext_trans x11 E10
        refine W10.callV hx (y := (⟨"java/lang/String", "equals", "(Ljava/lang/Object;)Z"⟩ : MethodName)) (C := "java/lang/String") (ww hw (i := 63) rfl) (ww hw (i := 64) rfl) (ww hw (i := 66) rfl) (ww hw (i := 65) rfl) (by decide) (payQ (Wd := 0) hw (F9.ext E10) F10 (Sta.ext x12 S0) hz (by decide) (by decide)) ((F9.ext E10)).exa (g := (mkF m 265 #[.val (.int p0), .val (.int p1), .val (.int p2), .val (.int p3), .val (.long p4), .second, .val (.int sk), .val (.int v1), .val (.int sm), .val (.int v3), .val (.ref a5), .val (.ref a7), .val .null, .unset] [(.ref a10), (.ref a7)])) rfl (by rw [hml]; rfl) (argsL := [(.ref a10)]) (rest := []) (lenOf pd_5 rfl) rfl rfl (Nat.le_of_ble_eq_true rfl) (hb hby at_265) (by decide) (by decide) (fun v13 T13 h13 W13 sz13 q13 => ?_)
        obtain ⟨⟨r13, rfl, hr13⟩, rfl⟩ := q13
        change Fi _ _ _ _ _ _ _ _ _ _ (T13.setTop (mkF m 268 #[.val (.int p0), .val (.int p1), .val (.int p2), .val (.int p3), .val (.long p4), .second, .val (.int sk), .val (.int v1), .val (.int sm), .val (.int v3), .val (.ref a5), .val (.ref a7), .val .null, .unset] [(.int r13)]))
        by_cases hc268_14 : r13 = (0 : Int32)
        · refine Fi.by' (st' := T13.setTop (mkF m 281 #[.val (.int p0), .val (.int p1), .val (.int p2), .val (.int p3), .val (.long p4), .second, .val (.int sk), .val (.int v1), .val (.int sm), .val (.int v3), .val (.ref a5), .val (.ref a7), .val .null, .unset] [(.ref a7)])) (fun t k => ?_) ?_
          · refine XS.ifYes W13.here hx rfl (pc0 := 268) (pc' := 279) rfl (hb hby at_268) rfl ((if0 _ _).trans (teq hc268_14).1) (by decide) (by decide) ?_
            refine XS.aload W13.here hx rfl (hb hby at_279) rfl rfl ?_
            exact k
          refine W13.ldc hx (ww hw (i := 72) rfl) (wS hw) (by decide) (lits (textAt 72)) (by decide +kernel) (by decide +kernel) (g := (mkF m 281 #[.val (.int p0), .val (.int p1), .val (.int p2), .val (.int p3), .val (.long p4), .second, .val (.int sk), .val (.int v1), .val (.int sm), .val (.int v3), .val (.ref a5), .val (.ref a7), .val .null, .unset] [(.ref a7)])) rfl (hb hby at_281) (n := 20) (by decide +kernel) (by decide) (by decide) (by decide) (fun T15 h15 a15 W15 E15 F15 => ?_)
          change Fi _ _ _ _ _ _ _ _ _ _ (T15.setTop (mkF m 283 #[.val (.int p0), .val (.int p1), .val (.int p2), .val (.int p3), .val (.long p4), .second, .val (.int sk), .val (.int v1), .val (.int sm), .val (.int v3), .val (.ref a5), .val (.ref a7), .val .null, .unset] [(.ref a15), (.ref a7)]))
          have sz15 := E15.1
          have x16 : Ext h0 h15 := ext_trans x12 E15
          have x17 : Ext h9 h15 := ext_trans E10 E15
          refine W15.callV hx (y := (⟨"java/lang/String", "equals", "(Ljava/lang/Object;)Z"⟩ : MethodName)) (C := "java/lang/String") (ww hw (i := 63) rfl) (ww hw (i := 64) rfl) (ww hw (i := 66) rfl) (ww hw (i := 65) rfl) (by decide) (payQ (Wd := 0) hw (F9.ext x17) F15 (Sta.ext x16 S0) hz (by decide) (by decide)) ((F9.ext x17)).exa (g := (mkF m 283 #[.val (.int p0), .val (.int p1), .val (.int p2), .val (.int p3), .val (.long p4), .second, .val (.int sk), .val (.int v1), .val (.int sm), .val (.int v3), .val (.ref a5), .val (.ref a7), .val .null, .unset] [(.ref a15), (.ref a7)])) rfl (by rw [hml]; rfl) (argsL := [(.ref a15)]) (rest := []) (lenOf pd_5 rfl) rfl rfl (Nat.le_of_ble_eq_true rfl) (hb hby at_283) (by decide) (by decide) (fun v18 T18 h18 W18 sz18 q18 => ?_)
          obtain ⟨⟨r18, rfl, hr18⟩, rfl⟩ := q18
          change Fi _ _ _ _ _ _ _ _ _ _ (T18.setTop (mkF m 286 #[.val (.int p0), .val (.int p1), .val (.int p2), .val (.int p3), .val (.long p4), .second, .val (.int sk), .val (.int v1), .val (.int sm), .val (.int v3), .val (.ref a5), .val (.ref a7), .val .null, .unset] [(.int r18)]))
          by_cases hc286_19 : r18 = (0 : Int32)
          · refine Fi.by' (st' := T18.setTop (mkF m 299 #[.val (.int p0), .val (.int p1), .val (.int p2), .val (.int p3), .val (.long p4), .second, .val (.int sk), .val (.int v1), .val (.int sm), .val (.int v3), .val (.ref a5), .val (.ref a7), .val .null, .unset] [(.ref a7)])) (fun t k => ?_) ?_
            · refine XS.ifYes W18.here hx rfl (pc0 := 286) (pc' := 297) rfl (hb hby at_286) rfl ((if0 _ _).trans (teq hc286_19).1) (by decide) (by decide) ?_
              refine XS.aload W18.here hx rfl (hb hby at_297) rfl rfl ?_
              exact k
            refine W18.ldc hx (ww hw (i := 73) rfl) (wS hw) (by decide) (lits (textAt 73)) (by decide +kernel) (by decide +kernel) (g := (mkF m 299 #[.val (.int p0), .val (.int p1), .val (.int p2), .val (.int p3), .val (.long p4), .second, .val (.int sk), .val (.int v1), .val (.int sm), .val (.int v3), .val (.ref a5), .val (.ref a7), .val .null, .unset] [(.ref a7)])) rfl (hb hby at_299) (n := 24) (by decide +kernel) (by decide) (by decide) (by decide) (fun T20 h20 a20 W20 E20 F20 => ?_)
            change Fi _ _ _ _ _ _ _ _ _ _ (T20.setTop (mkF m 301 #[.val (.int p0), .val (.int p1), .val (.int p2), .val (.int p3), .val (.long p4), .second, .val (.int sk), .val (.int v1), .val (.int sm), .val (.int v3), .val (.ref a5), .val (.ref a7), .val .null, .unset] [(.ref a20), (.ref a7)]))
            have sz20 := E20.1
            have x21 : Ext h0 h20 := ext_trans x16 E20
            have x22 : Ext h9 h20 := ext_trans x17 E20
            refine W20.callV hx (y := (⟨"java/lang/String", "equals", "(Ljava/lang/Object;)Z"⟩ : MethodName)) (C := "java/lang/String") (ww hw (i := 63) rfl) (ww hw (i := 64) rfl) (ww hw (i := 66) rfl) (ww hw (i := 65) rfl) (by decide) (payQ (Wd := 0) hw (F9.ext x22) F20 (Sta.ext x21 S0) hz (by decide) (by decide)) ((F9.ext x22)).exa (g := (mkF m 301 #[.val (.int p0), .val (.int p1), .val (.int p2), .val (.int p3), .val (.long p4), .second, .val (.int sk), .val (.int v1), .val (.int sm), .val (.int v3), .val (.ref a5), .val (.ref a7), .val .null, .unset] [(.ref a20), (.ref a7)])) rfl (by rw [hml]; rfl) (argsL := [(.ref a20)]) (rest := []) (lenOf pd_5 rfl) rfl rfl (Nat.le_of_ble_eq_true rfl) (hb hby at_301) (by decide) (by decide) (fun v23 T23 h23 W23 sz23 q23 => ?_)
            obtain ⟨⟨r23, rfl, hr23⟩, rfl⟩ := q23
            change Fi _ _ _ _ _ _ _ _ _ _ (T23.setTop (mkF m 304 #[.val (.int p0), .val (.int p1), .val (.int p2), .val (.int p3), .val (.long p4), .second, .val (.int sk), .val (.int v1), .val (.int sm), .val (.int v3), .val (.ref a5), .val (.ref a7), .val .null, .unset] [(.int r23)]))
            by_cases hc304_24 : r23 = (0 : Int32)
            · refine Fi.by' (st' := T23.setTop (mkF m 314 #[.val (.int p0), .val (.int p1), .val (.int p2), .val (.int p3), .val (.long p4), .second, .val (.int sk), .val (.int v1), .val (.int sm), .val (.int v3), .val (.ref a5), .val (.ref a7), .val .null, .unset] [(.ref a7)])) (fun t k => ?_) ?_
              · refine XS.ifYes W23.here hx rfl (pc0 := 304) (pc' := 312) rfl (hb hby at_304) rfl ((if0 _ _).trans (teq hc304_24).1) (by decide) (by decide) ?_
                refine XS.aload W23.here hx rfl (hb hby at_312) rfl rfl ?_
                exact k
              refine W23.callS hx (y := (⟨"com/example/exact_roles/exactroles/credentials/Api", "named", "(Ljava/lang/String;)Ljava/util/Optional;"⟩ : MethodName)) (ww hw (i := 74) rfl) (ww hw (i := 75) rfl) (ww hw (i := 76) rfl) (ww hw (i := 77) rfl) (by decide) (Pay.of_con (Wd := 0) (rm_named l Z a0 hw a7 va er eu ec n1 n2 n3 em kv zc cs h20 n0 (by omega) (Sta.ext x21 S0) hz (Sta.ext x21 V0) (A0.ext x21) (Exa.ext x21 X0) (Fld.ext x21 N1) (Fld.ext x21 N2) (Fld.ext x21 N3) (U1.ext x21) (U2.ext x21) (U3.ext x21) (Sta.ext x21 M0) (Exa.ext x21 M1) (Fld.ext x21 M2) (F9.ext x22)) (ww hw (i := 77) rfl) (ww hw (i := 76) rfl) (hEL hw) (by decide) (by decide)) (g := (mkF m 314 #[.val (.int p0), .val (.int p1), .val (.int p2), .val (.int p3), .val (.long p4), .second, .val (.int sk), .val (.int v1), .val (.int sm), .val (.int v3), .val (.ref a5), .val (.ref a7), .val .null, .unset] [(.ref a7)])) rfl (by rw [hml]; rfl) (argsL := [(.ref a7)]) (rest := []) (lenOf pd_9 rfl) rfl rfl (Nat.le_of_ble_eq_true rfl) (hb hby at_314) (by decide) (by decide) (fun v25 T25 h25 W25 sz25 q25 => ?_)
              obtain ⟨a25, w25, rfl, E25, X25, F25, D25⟩ := q25
              obtain rfl : w25 = .null := pick4 D25 (Ne.symm (eq_no hr13 hc268_14)) (Ne.symm (eq_no hr18 hc286_19)) (Ne.symm (eq_no hr23 hc304_24))
              change Fi _ _ _ _ _ _ _ _ _ _ (T25.setTop (mkF m 317 #[.val (.int p0), .val (.int p1), .val (.int p2), .val (.int p3), .val (.long p4), .second, .val (.int sk), .val (.int v1), .val (.int sm), .val (.int v3), .val (.ref a5), .val (.ref a7), .val .null, .unset] [(.ref a25)]))
              refine Fi.by' (st' := T25.setTop (mkF m 326 #[.val (.int p0), .val (.int p1), .val (.int p2), .val (.int p3), .val (.long p4), .second, .val (.int sk), .val (.int v1), .val (.int sm), .val (.int v3), .val (.ref a5), .val (.ref a7), .val .null, .val (.ref a25)] [(.ref a25)])) (fun t k => ?_) ?_
              · refine XS.astore W25.here hx rfl (hb hby at_317) rfl rfl (l' := #[.val (.int p0), .val (.int p1), .val (.int p2), .val (.int p3), .val (.long p4), .second, .val (.int sk), .val (.int v1), .val (.int sm), .val (.int v3), .val (.ref a5), .val (.ref a7), .val .null, .val (.ref a25)]) rfl ?_
                refine XS.aload W25.here hx rfl (hb hby at_319) rfl rfl ?_
                refine XS.ifnonnullNo W25.here hx rfl (hb hby at_321) rfl ?_
                refine XS.aload W25.here hx rfl (hb hby at_324) rfl rfl ?_
                exact k
              refine W25.callV hx (y := (⟨"java/util/Optional", "isEmpty", "()Z"⟩ : MethodName)) (C := "java/util/Optional") (ww hw (i := 104) rfl) (ww hw (i := 105) rfl) (ww hw (i := 107) rfl) (ww hw (i := 106) rfl) (by decide) (Pay.of_con (Wd := 0) (rm_isEmp l Z a0 hw a25 h25 n0 (by omega) F25) (ww hw (i := 108) rfl) (ww hw (i := 101) rfl) (hEL hw) (by decide) (by decide)) X25 (g := (mkF m 326 #[.val (.int p0), .val (.int p1), .val (.int p2), .val (.int p3), .val (.long p4), .second, .val (.int sk), .val (.int v1), .val (.int sm), .val (.int v3), .val (.ref a5), .val (.ref a7), .val .null, .val (.ref a25)] [(.ref a25)])) rfl (by rw [hml]; rfl) (argsL := []) (rest := []) (lenOf pd_10 rfl) rfl rfl (Nat.le_of_ble_eq_true rfl) (hb hby at_326) (by decide) (by decide) (fun v26 T26 h26 W26 sz26 q26 => ?_)
              obtain ⟨rfl, rfl⟩ := q26
              change Fi _ _ _ _ _ _ _ _ _ _ (T26.setTop (mkF m 329 #[.val (.int p0), .val (.int p1), .val (.int p2), .val (.int p3), .val (.long p4), .second, .val (.int sk), .val (.int v1), .val (.int sm), .val (.int v3), .val (.ref a5), .val (.ref a7), .val .null, .val (.ref a25)] [(.int (1 : Int32))]))
              exact W26.iret hx hlk hret (by simp) rfl (hb hby at_329) rfl (by decide) (by decide)
            · refine Fi.by' (st' := T23.setTop (mkF m 307 #[.val (.int p0), .val (.int p1), .val (.int p2), .val (.int p3), .val (.long p4), .second, .val (.int sk), .val (.int v1), .val (.int sm), .val (.int v3), .val (.ref a5), .val (.ref a7), .val .null, .unset] [])) (fun t k => ?_) ?_
              · refine XS.ifNo W23.here hx rfl (hb hby at_304) rfl ((if0 _ _).trans (feq hc304_24).1) ?_
                exact k
              refine W23.getS hx (ww hw (i := 138) rfl) (Sta.ext x21 Y3) (g := (mkF m 307 #[.val (.int p0), .val (.int p1), .val (.int p2), .val (.int p3), .val (.long p4), .second, .val (.int sk), .val (.int v1), .val (.int sm), .val (.int v3), .val (.ref a5), .val (.ref a7), .val .null, .unset] [])) rfl (hb hby at_307) (fun T27 W27 => ?_)
              change Fi _ _ _ _ _ _ _ _ _ _ (T27.setTop (mkF m 310 #[.val (.int p0), .val (.int p1), .val (.int p2), .val (.int p3), .val (.long p4), .second, .val (.int sk), .val (.int v1), .val (.int sm), .val (.int v3), .val (.ref a5), .val (.ref a7), .val .null, .unset] [(.ref ec)]))
              refine Fi.by' (st' := T27.setTop (mkF m 314 #[.val (.int p0), .val (.int p1), .val (.int p2), .val (.int p3), .val (.long p4), .second, .val (.int sk), .val (.int v1), .val (.int sm), .val (.int v3), .val (.ref a5), .val (.ref a7), .val (.ref ec), .unset] [(.ref a7)])) (fun t k => ?_) ?_
              · refine XS.astore W27.here hx rfl (hb hby at_310) rfl rfl (l' := #[.val (.int p0), .val (.int p1), .val (.int p2), .val (.int p3), .val (.long p4), .second, .val (.int sk), .val (.int v1), .val (.int sm), .val (.int v3), .val (.ref a5), .val (.ref a7), .val (.ref ec), .unset]) rfl ?_
                refine XS.aload W27.here hx rfl (hb hby at_312) rfl rfl ?_
                exact k
              refine W27.callS hx (y := (⟨"com/example/exact_roles/exactroles/credentials/Api", "named", "(Ljava/lang/String;)Ljava/util/Optional;"⟩ : MethodName)) (ww hw (i := 74) rfl) (ww hw (i := 75) rfl) (ww hw (i := 76) rfl) (ww hw (i := 77) rfl) (by decide) (Pay.of_con (Wd := 0) (rm_named l Z a0 hw a7 va er eu ec n1 n2 n3 em kv zc cs h20 n0 (by omega) (Sta.ext x21 S0) hz (Sta.ext x21 V0) (A0.ext x21) (Exa.ext x21 X0) (Fld.ext x21 N1) (Fld.ext x21 N2) (Fld.ext x21 N3) (U1.ext x21) (U2.ext x21) (U3.ext x21) (Sta.ext x21 M0) (Exa.ext x21 M1) (Fld.ext x21 M2) (F9.ext x22)) (ww hw (i := 77) rfl) (ww hw (i := 76) rfl) (hEL hw) (by decide) (by decide)) (g := (mkF m 314 #[.val (.int p0), .val (.int p1), .val (.int p2), .val (.int p3), .val (.long p4), .second, .val (.int sk), .val (.int v1), .val (.int sm), .val (.int v3), .val (.ref a5), .val (.ref a7), .val (.ref ec), .unset] [(.ref a7)])) rfl (by rw [hml]; rfl) (argsL := [(.ref a7)]) (rest := []) (lenOf pd_9 rfl) rfl rfl (Nat.le_of_ble_eq_true rfl) (hb hby at_314) (by decide) (by decide) (fun v28 T28 h28 W28 sz28 q28 => ?_)
              obtain ⟨a28, w28, rfl, E28, X28, F28, D28⟩ := q28
              obtain rfl : w28 = (.ref ec) := pick3 D28 (Ne.symm (eq_no hr13 hc268_14)) (Ne.symm (eq_no hr18 hc286_19)) (eq_yes hr23 hc304_24).symm
              change Fi _ _ _ _ _ _ _ _ _ _ (T28.setTop (mkF m 317 #[.val (.int p0), .val (.int p1), .val (.int p2), .val (.int p3), .val (.long p4), .second, .val (.int sk), .val (.int v1), .val (.int sm), .val (.int v3), .val (.ref a5), .val (.ref a7), .val (.ref ec), .unset] [(.ref a28)]))
              refine Fi.by' (st' := T28.setTop (mkF m 332 #[.val (.int p0), .val (.int p1), .val (.int p2), .val (.int p3), .val (.long p4), .second, .val (.int sk), .val (.int v1), .val (.int sm), .val (.int v3), .val (.ref a5), .val (.ref a7), .val (.ref ec), .val (.ref a28)] [(.ref a28)])) (fun t k => ?_) ?_
              · refine XS.astore W28.here hx rfl (hb hby at_317) rfl rfl (l' := #[.val (.int p0), .val (.int p1), .val (.int p2), .val (.int p3), .val (.long p4), .second, .val (.int sk), .val (.int v1), .val (.int sm), .val (.int v3), .val (.ref a5), .val (.ref a7), .val (.ref ec), .val (.ref a28)]) rfl ?_
                refine XS.aload W28.here hx rfl (hb hby at_319) rfl rfl ?_
                refine XS.ifnonnullYes W28.here hx rfl (pc0 := 321) (pc' := 330) rfl (hb hby at_321) rfl (by decide) (by decide) ?_
                refine XS.aload W28.here hx rfl (hb hby at_330) rfl rfl ?_
                exact k
              refine W28.callV hx (y := (⟨"java/util/Optional", "isPresent", "()Z"⟩ : MethodName)) (C := "java/util/Optional") (ww hw (i := 126) rfl) (ww hw (i := 127) rfl) (ww hw (i := 129) rfl) (ww hw (i := 128) rfl) (by decide) (Pay.of_con (Wd := 0) (rm_isPre l Z a0 hw a28 ec h28 n0 (by omega) F28) (ww hw (i := 130) rfl) (ww hw (i := 101) rfl) (hEL hw) (by decide) (by decide)) X28 (g := (mkF m 332 #[.val (.int p0), .val (.int p1), .val (.int p2), .val (.int p3), .val (.long p4), .second, .val (.int sk), .val (.int v1), .val (.int sm), .val (.int v3), .val (.ref a5), .val (.ref a7), .val (.ref ec), .val (.ref a28)] [(.ref a28)])) rfl (by rw [hml]; rfl) (argsL := []) (rest := []) (lenOf pd_10 rfl) rfl rfl (Nat.le_of_ble_eq_true rfl) (hb hby at_332) (by decide) (by decide) (fun v29 T29 h29 W29 sz29 q29 => ?_)
              obtain ⟨rfl, rfl⟩ := q29
              change Fi _ _ _ _ _ _ _ _ _ _ (T29.setTop (mkF m 335 #[.val (.int p0), .val (.int p1), .val (.int p2), .val (.int p3), .val (.long p4), .second, .val (.int sk), .val (.int v1), .val (.int sm), .val (.int v3), .val (.ref a5), .val (.ref a7), .val (.ref ec), .val (.ref a28)] [(.int (1 : Int32))]))
              refine Fi.by' (st' := T29.setTop (mkF m 340 #[.val (.int p0), .val (.int p1), .val (.int p2), .val (.int p3), .val (.long p4), .second, .val (.int sk), .val (.int v1), .val (.int sm), .val (.int v3), .val (.ref a5), .val (.ref a7), .val (.ref ec), .val (.ref a28)] [(.ref a28)])) (fun t k => ?_) ?_
              · refine XS.ifNo W29.here hx rfl (hb hby at_335) rfl ((if0 _ _).trans (feq (by decide : ¬ ((1 : Int32) = (0 : Int32)))).1) ?_
                refine XS.aload W29.here hx rfl (hb hby at_338) rfl rfl ?_
                exact k
              refine W29.callV hx (y := (⟨"java/util/Optional", "get", "()Ljava/lang/Object;"⟩ : MethodName)) (C := "java/util/Optional") (ww hw (i := 131) rfl) (ww hw (i := 132) rfl) (ww hw (i := 134) rfl) (ww hw (i := 133) rfl) (by decide) (Pay.of_con (Wd := 0) (rm_oget l Z a0 hw a28 ec h28 n0 (by omega) F28) (ww hw (i := 135) rfl) (ww hw (i := 101) rfl) (hEL hw) (by decide) (by decide)) X28 (g := (mkF m 340 #[.val (.int p0), .val (.int p1), .val (.int p2), .val (.int p3), .val (.long p4), .second, .val (.int sk), .val (.int v1), .val (.int sm), .val (.int v3), .val (.ref a5), .val (.ref a7), .val (.ref ec), .val (.ref a28)] [(.ref a28)])) rfl (by rw [hml]; rfl) (argsL := []) (rest := []) (lenOf pd_11 rfl) rfl rfl (Nat.le_of_ble_eq_true rfl) (hb hby at_340) (by decide) (by decide) (fun v30 T30 h30 W30 sz30 q30 => ?_)
              obtain ⟨rfl, rfl⟩ := q30
              change Fi _ _ _ _ _ _ _ _ _ _ (T30.setTop (mkF m 343 #[.val (.int p0), .val (.int p1), .val (.int p2), .val (.int p3), .val (.long p4), .second, .val (.int sk), .val (.int v1), .val (.int sm), .val (.int v3), .val (.ref a5), .val (.ref a7), .val (.ref ec), .val (.ref a28)] [(.ref ec)]))
              refine Fi.by' (st' := T30.setTop (mkF m 345 #[.val (.int p0), .val (.int p1), .val (.int p2), .val (.int p3), .val (.long p4), .second, .val (.int sk), .val (.int v1), .val (.int sm), .val (.int v3), .val (.ref a5), .val (.ref a7), .val (.ref ec), .val (.ref a28)] [(.ref ec), (.ref ec)])) (fun t k => ?_) ?_
              · refine XS.aload W30.here hx rfl (hb hby at_343) rfl rfl ?_
                exact k
              refine Fi.by' (st' := T30.setTop (mkF m 353 #[.val (.int p0), .val (.int p1), .val (.int p2), .val (.int p3), .val (.long p4), .second, .val (.int sk), .val (.int v1), .val (.int sm), .val (.int v3), .val (.ref a5), .val (.ref a7), .val (.ref ec), .val (.ref a28)] [(.int (1 : Int32))])) (fun t k => ?_) ?_
              · refine XS.acmpNo W30.here hx rfl (hb hby at_345) rfl (acmpTNe (rfl : ec = ec)) ?_
                refine iconstZ W30.here hx rfl (hb hby at_348) (z := (1 : Int32)) rfl ?_
                refine XS.goto W30.here hx rfl (pc0 := 349) (pc' := 353) rfl (hb hby at_349) (by decide) (by decide) ?_
                exact k
              exact W30.iret hx hlk hret (by simp) rfl (hb hby at_353) rfl (by decide) (by decide)
          · refine Fi.by' (st' := T18.setTop (mkF m 289 #[.val (.int p0), .val (.int p1), .val (.int p2), .val (.int p3), .val (.long p4), .second, .val (.int sk), .val (.int v1), .val (.int sm), .val (.int v3), .val (.ref a5), .val (.ref a7), .val .null, .unset] [])) (fun t k => ?_) ?_
            · refine XS.ifNo W18.here hx rfl (hb hby at_286) rfl ((if0 _ _).trans (feq hc286_19).1) ?_
              exact k
            refine W18.getS hx (ww hw (i := 111) rfl) (Sta.ext x16 Y2) (g := (mkF m 289 #[.val (.int p0), .val (.int p1), .val (.int p2), .val (.int p3), .val (.long p4), .second, .val (.int sk), .val (.int v1), .val (.int sm), .val (.int v3), .val (.ref a5), .val (.ref a7), .val .null, .unset] [])) rfl (hb hby at_289) (fun T31 W31 => ?_)
            change Fi _ _ _ _ _ _ _ _ _ _ (T31.setTop (mkF m 292 #[.val (.int p0), .val (.int p1), .val (.int p2), .val (.int p3), .val (.long p4), .second, .val (.int sk), .val (.int v1), .val (.int sm), .val (.int v3), .val (.ref a5), .val (.ref a7), .val .null, .unset] [(.ref eu)]))
            refine Fi.by' (st' := T31.setTop (mkF m 314 #[.val (.int p0), .val (.int p1), .val (.int p2), .val (.int p3), .val (.long p4), .second, .val (.int sk), .val (.int v1), .val (.int sm), .val (.int v3), .val (.ref a5), .val (.ref a7), .val (.ref eu), .unset] [(.ref a7)])) (fun t k => ?_) ?_
            · refine XS.astore W31.here hx rfl (hb hby at_292) rfl rfl (l' := #[.val (.int p0), .val (.int p1), .val (.int p2), .val (.int p3), .val (.long p4), .second, .val (.int sk), .val (.int v1), .val (.int sm), .val (.int v3), .val (.ref a5), .val (.ref a7), .val (.ref eu), .unset]) rfl ?_
              refine XS.goto W31.here hx rfl (pc0 := 294) (pc' := 312) rfl (hb hby at_294) (by decide) (by decide) ?_
              refine XS.aload W31.here hx rfl (hb hby at_312) rfl rfl ?_
              exact k
            refine W31.callS hx (y := (⟨"com/example/exact_roles/exactroles/credentials/Api", "named", "(Ljava/lang/String;)Ljava/util/Optional;"⟩ : MethodName)) (ww hw (i := 74) rfl) (ww hw (i := 75) rfl) (ww hw (i := 76) rfl) (ww hw (i := 77) rfl) (by decide) (Pay.of_con (Wd := 0) (rm_named l Z a0 hw a7 va er eu ec n1 n2 n3 em kv zc cs h15 n0 (by omega) (Sta.ext x16 S0) hz (Sta.ext x16 V0) (A0.ext x16) (Exa.ext x16 X0) (Fld.ext x16 N1) (Fld.ext x16 N2) (Fld.ext x16 N3) (U1.ext x16) (U2.ext x16) (U3.ext x16) (Sta.ext x16 M0) (Exa.ext x16 M1) (Fld.ext x16 M2) (F9.ext x17)) (ww hw (i := 77) rfl) (ww hw (i := 76) rfl) (hEL hw) (by decide) (by decide)) (g := (mkF m 314 #[.val (.int p0), .val (.int p1), .val (.int p2), .val (.int p3), .val (.long p4), .second, .val (.int sk), .val (.int v1), .val (.int sm), .val (.int v3), .val (.ref a5), .val (.ref a7), .val (.ref eu), .unset] [(.ref a7)])) rfl (by rw [hml]; rfl) (argsL := [(.ref a7)]) (rest := []) (lenOf pd_9 rfl) rfl rfl (Nat.le_of_ble_eq_true rfl) (hb hby at_314) (by decide) (by decide) (fun v32 T32 h32 W32 sz32 q32 => ?_)
            obtain ⟨a32, w32, rfl, E32, X32, F32, D32⟩ := q32
            obtain rfl : w32 = (.ref eu) := pick2 D32 (Ne.symm (eq_no hr13 hc268_14)) (eq_yes hr18 hc286_19).symm
            change Fi _ _ _ _ _ _ _ _ _ _ (T32.setTop (mkF m 317 #[.val (.int p0), .val (.int p1), .val (.int p2), .val (.int p3), .val (.long p4), .second, .val (.int sk), .val (.int v1), .val (.int sm), .val (.int v3), .val (.ref a5), .val (.ref a7), .val (.ref eu), .unset] [(.ref a32)]))
            refine Fi.by' (st' := T32.setTop (mkF m 332 #[.val (.int p0), .val (.int p1), .val (.int p2), .val (.int p3), .val (.long p4), .second, .val (.int sk), .val (.int v1), .val (.int sm), .val (.int v3), .val (.ref a5), .val (.ref a7), .val (.ref eu), .val (.ref a32)] [(.ref a32)])) (fun t k => ?_) ?_
            · refine XS.astore W32.here hx rfl (hb hby at_317) rfl rfl (l' := #[.val (.int p0), .val (.int p1), .val (.int p2), .val (.int p3), .val (.long p4), .second, .val (.int sk), .val (.int v1), .val (.int sm), .val (.int v3), .val (.ref a5), .val (.ref a7), .val (.ref eu), .val (.ref a32)]) rfl ?_
              refine XS.aload W32.here hx rfl (hb hby at_319) rfl rfl ?_
              refine XS.ifnonnullYes W32.here hx rfl (pc0 := 321) (pc' := 330) rfl (hb hby at_321) rfl (by decide) (by decide) ?_
              refine XS.aload W32.here hx rfl (hb hby at_330) rfl rfl ?_
              exact k
            refine W32.callV hx (y := (⟨"java/util/Optional", "isPresent", "()Z"⟩ : MethodName)) (C := "java/util/Optional") (ww hw (i := 126) rfl) (ww hw (i := 127) rfl) (ww hw (i := 129) rfl) (ww hw (i := 128) rfl) (by decide) (Pay.of_con (Wd := 0) (rm_isPre l Z a0 hw a32 eu h32 n0 (by omega) F32) (ww hw (i := 130) rfl) (ww hw (i := 101) rfl) (hEL hw) (by decide) (by decide)) X32 (g := (mkF m 332 #[.val (.int p0), .val (.int p1), .val (.int p2), .val (.int p3), .val (.long p4), .second, .val (.int sk), .val (.int v1), .val (.int sm), .val (.int v3), .val (.ref a5), .val (.ref a7), .val (.ref eu), .val (.ref a32)] [(.ref a32)])) rfl (by rw [hml]; rfl) (argsL := []) (rest := []) (lenOf pd_10 rfl) rfl rfl (Nat.le_of_ble_eq_true rfl) (hb hby at_332) (by decide) (by decide) (fun v33 T33 h33 W33 sz33 q33 => ?_)
            obtain ⟨rfl, rfl⟩ := q33
            change Fi _ _ _ _ _ _ _ _ _ _ (T33.setTop (mkF m 335 #[.val (.int p0), .val (.int p1), .val (.int p2), .val (.int p3), .val (.long p4), .second, .val (.int sk), .val (.int v1), .val (.int sm), .val (.int v3), .val (.ref a5), .val (.ref a7), .val (.ref eu), .val (.ref a32)] [(.int (1 : Int32))]))
            refine Fi.by' (st' := T33.setTop (mkF m 340 #[.val (.int p0), .val (.int p1), .val (.int p2), .val (.int p3), .val (.long p4), .second, .val (.int sk), .val (.int v1), .val (.int sm), .val (.int v3), .val (.ref a5), .val (.ref a7), .val (.ref eu), .val (.ref a32)] [(.ref a32)])) (fun t k => ?_) ?_
            · refine XS.ifNo W33.here hx rfl (hb hby at_335) rfl ((if0 _ _).trans (feq (by decide : ¬ ((1 : Int32) = (0 : Int32)))).1) ?_
              refine XS.aload W33.here hx rfl (hb hby at_338) rfl rfl ?_
              exact k
            refine W33.callV hx (y := (⟨"java/util/Optional", "get", "()Ljava/lang/Object;"⟩ : MethodName)) (C := "java/util/Optional") (ww hw (i := 131) rfl) (ww hw (i := 132) rfl) (ww hw (i := 134) rfl) (ww hw (i := 133) rfl) (by decide) (Pay.of_con (Wd := 0) (rm_oget l Z a0 hw a32 eu h32 n0 (by omega) F32) (ww hw (i := 135) rfl) (ww hw (i := 101) rfl) (hEL hw) (by decide) (by decide)) X32 (g := (mkF m 340 #[.val (.int p0), .val (.int p1), .val (.int p2), .val (.int p3), .val (.long p4), .second, .val (.int sk), .val (.int v1), .val (.int sm), .val (.int v3), .val (.ref a5), .val (.ref a7), .val (.ref eu), .val (.ref a32)] [(.ref a32)])) rfl (by rw [hml]; rfl) (argsL := []) (rest := []) (lenOf pd_11 rfl) rfl rfl (Nat.le_of_ble_eq_true rfl) (hb hby at_340) (by decide) (by decide) (fun v34 T34 h34 W34 sz34 q34 => ?_)
            obtain ⟨rfl, rfl⟩ := q34
            change Fi _ _ _ _ _ _ _ _ _ _ (T34.setTop (mkF m 343 #[.val (.int p0), .val (.int p1), .val (.int p2), .val (.int p3), .val (.long p4), .second, .val (.int sk), .val (.int v1), .val (.int sm), .val (.int v3), .val (.ref a5), .val (.ref a7), .val (.ref eu), .val (.ref a32)] [(.ref eu)]))
            refine Fi.by' (st' := T34.setTop (mkF m 345 #[.val (.int p0), .val (.int p1), .val (.int p2), .val (.int p3), .val (.long p4), .second, .val (.int sk), .val (.int v1), .val (.int sm), .val (.int v3), .val (.ref a5), .val (.ref a7), .val (.ref eu), .val (.ref a32)] [(.ref eu), (.ref eu)])) (fun t k => ?_) ?_
            · refine XS.aload W34.here hx rfl (hb hby at_343) rfl rfl ?_
              exact k
            refine Fi.by' (st' := T34.setTop (mkF m 353 #[.val (.int p0), .val (.int p1), .val (.int p2), .val (.int p3), .val (.long p4), .second, .val (.int sk), .val (.int v1), .val (.int sm), .val (.int v3), .val (.ref a5), .val (.ref a7), .val (.ref eu), .val (.ref a32)] [(.int (1 : Int32))])) (fun t k => ?_) ?_
            · refine XS.acmpNo W34.here hx rfl (hb hby at_345) rfl (acmpTNe (rfl : eu = eu)) ?_
              refine iconstZ W34.here hx rfl (hb hby at_348) (z := (1 : Int32)) rfl ?_
              refine XS.goto W34.here hx rfl (pc0 := 349) (pc' := 353) rfl (hb hby at_349) (by decide) (by decide) ?_
              exact k
            exact W34.iret hx hlk hret (by simp) rfl (hb hby at_353) rfl (by decide) (by decide)
        · refine Fi.by' (st' := T13.setTop (mkF m 271 #[.val (.int p0), .val (.int p1), .val (.int p2), .val (.int p3), .val (.long p4), .second, .val (.int sk), .val (.int v1), .val (.int sm), .val (.int v3), .val (.ref a5), .val (.ref a7), .val .null, .unset] [])) (fun t k => ?_) ?_
          · refine XS.ifNo W13.here hx rfl (hb hby at_268) rfl ((if0 _ _).trans (feq hc268_14).1) ?_
            exact k
          refine W13.getS hx (ww hw (i := 137) rfl) (Sta.ext x12 Y1) (g := (mkF m 271 #[.val (.int p0), .val (.int p1), .val (.int p2), .val (.int p3), .val (.long p4), .second, .val (.int sk), .val (.int v1), .val (.int sm), .val (.int v3), .val (.ref a5), .val (.ref a7), .val .null, .unset] [])) rfl (hb hby at_271) (fun T35 W35 => ?_)
          change Fi _ _ _ _ _ _ _ _ _ _ (T35.setTop (mkF m 274 #[.val (.int p0), .val (.int p1), .val (.int p2), .val (.int p3), .val (.long p4), .second, .val (.int sk), .val (.int v1), .val (.int sm), .val (.int v3), .val (.ref a5), .val (.ref a7), .val .null, .unset] [(.ref er)]))
          refine Fi.by' (st' := T35.setTop (mkF m 314 #[.val (.int p0), .val (.int p1), .val (.int p2), .val (.int p3), .val (.long p4), .second, .val (.int sk), .val (.int v1), .val (.int sm), .val (.int v3), .val (.ref a5), .val (.ref a7), .val (.ref er), .unset] [(.ref a7)])) (fun t k => ?_) ?_
          · refine XS.astore W35.here hx rfl (hb hby at_274) rfl rfl (l' := #[.val (.int p0), .val (.int p1), .val (.int p2), .val (.int p3), .val (.long p4), .second, .val (.int sk), .val (.int v1), .val (.int sm), .val (.int v3), .val (.ref a5), .val (.ref a7), .val (.ref er), .unset]) rfl ?_
            refine XS.goto W35.here hx rfl (pc0 := 276) (pc' := 312) rfl (hb hby at_276) (by decide) (by decide) ?_
            refine XS.aload W35.here hx rfl (hb hby at_312) rfl rfl ?_
            exact k
          refine W35.callS hx (y := (⟨"com/example/exact_roles/exactroles/credentials/Api", "named", "(Ljava/lang/String;)Ljava/util/Optional;"⟩ : MethodName)) (ww hw (i := 74) rfl) (ww hw (i := 75) rfl) (ww hw (i := 76) rfl) (ww hw (i := 77) rfl) (by decide) (Pay.of_con (Wd := 0) (rm_named l Z a0 hw a7 va er eu ec n1 n2 n3 em kv zc cs h10 n0 (by omega) (Sta.ext x12 S0) hz (Sta.ext x12 V0) (A0.ext x12) (Exa.ext x12 X0) (Fld.ext x12 N1) (Fld.ext x12 N2) (Fld.ext x12 N3) (U1.ext x12) (U2.ext x12) (U3.ext x12) (Sta.ext x12 M0) (Exa.ext x12 M1) (Fld.ext x12 M2) (F9.ext E10)) (ww hw (i := 77) rfl) (ww hw (i := 76) rfl) (hEL hw) (by decide) (by decide)) (g := (mkF m 314 #[.val (.int p0), .val (.int p1), .val (.int p2), .val (.int p3), .val (.long p4), .second, .val (.int sk), .val (.int v1), .val (.int sm), .val (.int v3), .val (.ref a5), .val (.ref a7), .val (.ref er), .unset] [(.ref a7)])) rfl (by rw [hml]; rfl) (argsL := [(.ref a7)]) (rest := []) (lenOf pd_9 rfl) rfl rfl (Nat.le_of_ble_eq_true rfl) (hb hby at_314) (by decide) (by decide) (fun v36 T36 h36 W36 sz36 q36 => ?_)
          obtain ⟨a36, w36, rfl, E36, X36, F36, D36⟩ := q36
          obtain rfl : w36 = (.ref er) := pick1 D36 (eq_yes hr13 hc268_14).symm
          change Fi _ _ _ _ _ _ _ _ _ _ (T36.setTop (mkF m 317 #[.val (.int p0), .val (.int p1), .val (.int p2), .val (.int p3), .val (.long p4), .second, .val (.int sk), .val (.int v1), .val (.int sm), .val (.int v3), .val (.ref a5), .val (.ref a7), .val (.ref er), .unset] [(.ref a36)]))
          refine Fi.by' (st' := T36.setTop (mkF m 332 #[.val (.int p0), .val (.int p1), .val (.int p2), .val (.int p3), .val (.long p4), .second, .val (.int sk), .val (.int v1), .val (.int sm), .val (.int v3), .val (.ref a5), .val (.ref a7), .val (.ref er), .val (.ref a36)] [(.ref a36)])) (fun t k => ?_) ?_
          · refine XS.astore W36.here hx rfl (hb hby at_317) rfl rfl (l' := #[.val (.int p0), .val (.int p1), .val (.int p2), .val (.int p3), .val (.long p4), .second, .val (.int sk), .val (.int v1), .val (.int sm), .val (.int v3), .val (.ref a5), .val (.ref a7), .val (.ref er), .val (.ref a36)]) rfl ?_
            refine XS.aload W36.here hx rfl (hb hby at_319) rfl rfl ?_
            refine XS.ifnonnullYes W36.here hx rfl (pc0 := 321) (pc' := 330) rfl (hb hby at_321) rfl (by decide) (by decide) ?_
            refine XS.aload W36.here hx rfl (hb hby at_330) rfl rfl ?_
            exact k
          refine W36.callV hx (y := (⟨"java/util/Optional", "isPresent", "()Z"⟩ : MethodName)) (C := "java/util/Optional") (ww hw (i := 126) rfl) (ww hw (i := 127) rfl) (ww hw (i := 129) rfl) (ww hw (i := 128) rfl) (by decide) (Pay.of_con (Wd := 0) (rm_isPre l Z a0 hw a36 er h36 n0 (by omega) F36) (ww hw (i := 130) rfl) (ww hw (i := 101) rfl) (hEL hw) (by decide) (by decide)) X36 (g := (mkF m 332 #[.val (.int p0), .val (.int p1), .val (.int p2), .val (.int p3), .val (.long p4), .second, .val (.int sk), .val (.int v1), .val (.int sm), .val (.int v3), .val (.ref a5), .val (.ref a7), .val (.ref er), .val (.ref a36)] [(.ref a36)])) rfl (by rw [hml]; rfl) (argsL := []) (rest := []) (lenOf pd_10 rfl) rfl rfl (Nat.le_of_ble_eq_true rfl) (hb hby at_332) (by decide) (by decide) (fun v37 T37 h37 W37 sz37 q37 => ?_)
          obtain ⟨rfl, rfl⟩ := q37
          change Fi _ _ _ _ _ _ _ _ _ _ (T37.setTop (mkF m 335 #[.val (.int p0), .val (.int p1), .val (.int p2), .val (.int p3), .val (.long p4), .second, .val (.int sk), .val (.int v1), .val (.int sm), .val (.int v3), .val (.ref a5), .val (.ref a7), .val (.ref er), .val (.ref a36)] [(.int (1 : Int32))]))
          refine Fi.by' (st' := T37.setTop (mkF m 340 #[.val (.int p0), .val (.int p1), .val (.int p2), .val (.int p3), .val (.long p4), .second, .val (.int sk), .val (.int v1), .val (.int sm), .val (.int v3), .val (.ref a5), .val (.ref a7), .val (.ref er), .val (.ref a36)] [(.ref a36)])) (fun t k => ?_) ?_
          · refine XS.ifNo W37.here hx rfl (hb hby at_335) rfl ((if0 _ _).trans (feq (by decide : ¬ ((1 : Int32) = (0 : Int32)))).1) ?_
            refine XS.aload W37.here hx rfl (hb hby at_338) rfl rfl ?_
            exact k
          refine W37.callV hx (y := (⟨"java/util/Optional", "get", "()Ljava/lang/Object;"⟩ : MethodName)) (C := "java/util/Optional") (ww hw (i := 131) rfl) (ww hw (i := 132) rfl) (ww hw (i := 134) rfl) (ww hw (i := 133) rfl) (by decide) (Pay.of_con (Wd := 0) (rm_oget l Z a0 hw a36 er h36 n0 (by omega) F36) (ww hw (i := 135) rfl) (ww hw (i := 101) rfl) (hEL hw) (by decide) (by decide)) X36 (g := (mkF m 340 #[.val (.int p0), .val (.int p1), .val (.int p2), .val (.int p3), .val (.long p4), .second, .val (.int sk), .val (.int v1), .val (.int sm), .val (.int v3), .val (.ref a5), .val (.ref a7), .val (.ref er), .val (.ref a36)] [(.ref a36)])) rfl (by rw [hml]; rfl) (argsL := []) (rest := []) (lenOf pd_11 rfl) rfl rfl (Nat.le_of_ble_eq_true rfl) (hb hby at_340) (by decide) (by decide) (fun v38 T38 h38 W38 sz38 q38 => ?_)
          obtain ⟨rfl, rfl⟩ := q38
          change Fi _ _ _ _ _ _ _ _ _ _ (T38.setTop (mkF m 343 #[.val (.int p0), .val (.int p1), .val (.int p2), .val (.int p3), .val (.long p4), .second, .val (.int sk), .val (.int v1), .val (.int sm), .val (.int v3), .val (.ref a5), .val (.ref a7), .val (.ref er), .val (.ref a36)] [(.ref er)]))
          refine Fi.by' (st' := T38.setTop (mkF m 345 #[.val (.int p0), .val (.int p1), .val (.int p2), .val (.int p3), .val (.long p4), .second, .val (.int sk), .val (.int v1), .val (.int sm), .val (.int v3), .val (.ref a5), .val (.ref a7), .val (.ref er), .val (.ref a36)] [(.ref er), (.ref er)])) (fun t k => ?_) ?_
          · refine XS.aload W38.here hx rfl (hb hby at_343) rfl rfl ?_
            exact k
          refine Fi.by' (st' := T38.setTop (mkF m 353 #[.val (.int p0), .val (.int p1), .val (.int p2), .val (.int p3), .val (.long p4), .second, .val (.int sk), .val (.int v1), .val (.int sm), .val (.int v3), .val (.ref a5), .val (.ref a7), .val (.ref er), .val (.ref a36)] [(.int (1 : Int32))])) (fun t k => ?_) ?_
          · refine XS.acmpNo W38.here hx rfl (hb hby at_345) rfl (acmpTNe (rfl : er = er)) ?_
            refine iconstZ W38.here hx rfl (hb hby at_348) (z := (1 : Int32)) rfl ?_
            refine XS.goto W38.here hx rfl (pc0 := 349) (pc' := 353) rfl (hb hby at_349) (by decide) (by decide) ?_
            exact k
          exact W38.iret hx hlk hret (by simp) rfl (hb hby at_353) rfl (by decide) (by decide)
      have J225_39 : ∀ (T : State) (h : Heap), Wk p l e room_1 s m #[(.int p0), (.int p1), (.int p2), (.int p3), (.long p4)] below meth c Z a0 EL "com/example/exact_roles/exactroles/credentials/ApiNamedPinLaw" n0 T h 15 203 → Ext h0 h → CA Z h a5 k5 v3 → Fi p e below s Z EL n0 (Q_law Z p0 p1 p2 p3 p4 va er eu ec n1 n2 n3 em kv zc fm h0) room_1.cells room_1.slots (T.setTop (mkF m 225 #[.val (.int p0), .val (.int p1), .val (.int p2), .val (.int p3), .val (.long p4), .second, .val (.int sk), .val (.int v1), .val (.int sm), .val (.int v3), .val (.ref a5), .unset, .unset, .unset] [])) := by
        intro T39 h39 W39 E39 C39
        have sz39 := E39.1
        refine Fi.by' (st' := T39.setTop (mkF m 228 #[.val (.int p0), .val (.int p1), .val (.int p2), .val (.int p3), .val (.long p4), .second, .val (.int sk), .val (.int v1), .val (.int sm), .val (.int v3), .val (.ref a5), .unset, .unset, .unset] [(.int (1 : Int32)), (.int sm)])) (fun t k => ?_) ?_
        · refine XS.iload W39.here hx rfl (hb hby at_225) rfl ?_
          refine iconstZ W39.here hx rfl (hb hby at_227) (z := (1 : Int32)) rfl ?_
          exact k
        by_cases hc228_40 : sm = (1 : Int32)
        · refine Fi.by' (st' := T39.setTop (mkF m 234 #[.val (.int p0), .val (.int p1), .val (.int p2), .val (.int p3), .val (.long p4), .second, .val (.int sk), .val (.int v1), .val (.int sm), .val (.int v3), .val (.ref a5), .unset, .unset, .unset] [(.int p2), (.ref a5)])) (fun t k => ?_) ?_
          · refine XS.icmpNo W39.here hx rfl (hb hby at_228) rfl (teq hc228_40).2 ?_
            refine XS.aload W39.here hx rfl (hb hby at_231) rfl rfl ?_
            refine XS.iloadN W39.here hx rfl (hb hby at_233) rfl ?_
            exact k
          refine W39.ldcI hx (ww hw (i := 0) rfl) (g := (mkF m 234 #[.val (.int p0), .val (.int p1), .val (.int p2), .val (.int p3), .val (.long p4), .second, .val (.int sk), .val (.int v1), .val (.int sm), .val (.int v3), .val (.ref a5), .unset, .unset, .unset] [(.int p2), (.ref a5)])) rfl (hb hby at_234) ?_
          change Fi _ _ _ _ _ _ _ _ _ _ (T39.setTop (mkF m 236 #[.val (.int p0), .val (.int p1), .val (.int p2), .val (.int p3), .val (.long p4), .second, .val (.int sk), .val (.int v1), .val (.int sm), .val (.int v3), .val (.ref a5), .unset, .unset, .unset] [(.int (2147483647 : Int32)), (.int p2), (.ref a5)]))
          refine Fi.by' (st' := T39.setTop (mkF m 240 #[.val (.int p0), .val (.int p1), .val (.int p2), .val (.int p3), .val (.long p4), .second, .val (.int sk), .val (.int v1), .val (.int sm), .val (.int v3), .val (.ref a5), .unset, .unset, .unset] [(.int ((p2 &&& (2147483647 : Int32)) - ((p2 &&& (2147483647 : Int32)) / v1) * v1)), (.ref a5)])) (fun t k => ?_) ?_
          · refine XS.iand W39.here hx rfl (hb hby at_236) rfl ?_
            refine XS.iload W39.here hx rfl (hb hby at_237) rfl ?_
            refine XS.irem W39.here hx rfl (hb hby at_239) rfl nzb ?_
            exact k
          obtain ⟨jr, hjr⟩ : ∃ z : Int32, z = ((p2 &&& (2147483647 : Int32)) - ((p2 &&& (2147483647 : Int32)) / v1) * v1) := ⟨_, rfl⟩
          rw [← hjr]
          have rji := rem_in b56 hjr
          refine Fi.by' (st' := T39.setTop (mkF m 246 #[.val (.int p0), .val (.int p1), .val (.int p2), .val (.int p3), .val (.long p4), .second, .val (.int sk), .val (.int v1), .val (.int sm), .val (.int v3), .val (.ref a5), .unset, .unset, .unset] [(.int (p3 &&& (255 : Int32))), (.int jr), (.ref a5)])) (fun t k => ?_) ?_
          · refine XS.iloadN W39.here hx rfl (hb hby at_240) rfl ?_
            refine sipushZ W39.here hx rfl (hb hby at_241) (z := (255 : Int32)) rfl ?_
            refine XS.iand W39.here hx rfl (hb hby at_244) rfl ?_
            refine i2cZ W39.here hx rfl (hb hby at_245) rfl (z := (p3 &&& (255 : Int32))) (i2c_mask _) ?_
            exact k
          obtain ⟨xc, hxc⟩ : ∃ z : Int32, z = (p3 &&& (255 : Int32)) := ⟨_, rfl⟩
          rw [← hxc]
          have P_xc : ¬ xc < 0 ∧ ¬ (255 : Int32) < xc := by rw [hxc]; exact and255 _
          refine W39.castoreCA hx C39 (j := jr) (⟨rji.1, by rw [LK.2 hc228_40]; exact rji.2⟩) P_xc (g := (mkF m 246 #[.val (.int p0), .val (.int p1), .val (.int p2), .val (.int p3), .val (.long p4), .second, .val (.int sk), .val (.int v1), .val (.int sm), .val (.int v3), .val (.ref a5), .unset, .unset, .unset] [(.int xc), (.int jr), (.ref a5)])) rfl rfl (hb hby at_246) (by omega) (fun T41 h41 W41 R41 C41 => ?_)
          change Fi _ _ _ _ _ _ _ _ _ _ (T41.setTop (mkF m 247 #[.val (.int p0), .val (.int p1), .val (.int p2), .val (.int p3), .val (.long p4), .second, .val (.int sk), .val (.int v1), .val (.int sm), .val (.int v3), .val (.ref a5), .unset, .unset, .unset] []))
          have x41w : Ext h0 h41 := ext_wr E39 R41 (by omega)
          have sz41 := R41.size
          exact J247_6 T41 h41 (W41.mono (by decide) (by decide)) x41w C41
        · refine Fi.by' (st' := T39.setTop (mkF m 247 #[.val (.int p0), .val (.int p1), .val (.int p2), .val (.int p3), .val (.long p4), .second, .val (.int sk), .val (.int v1), .val (.int sm), .val (.int v3), .val (.ref a5), .unset, .unset, .unset] [])) (fun t k => ?_) ?_
          · refine XS.icmpYes W39.here hx rfl (pc0 := 228) (pc' := 247) rfl (hb hby at_228) rfl (feq hc228_40).2 (by decide) (by decide) ?_
            exact k
          exact J247_6 T39 h39 (W39.mono (by decide) (by decide)) E39 C39
      have J201_42 : ∀ (T : State) (h : Heap), Wk p l e room_1 s m #[(.int p0), (.int p1), (.int p2), (.int p3), (.long p4)] below meth c Z a0 EL "com/example/exact_roles/exactroles/credentials/ApiNamedPinLaw" n0 T h 13 175 → Ext h0 h → CA Z h a5 k5 v3 → Fi p e below s Z EL n0 (Q_law Z p0 p1 p2 p3 p4 va er eu ec n1 n2 n3 em kv zc fm h0) room_1.cells room_1.slots (T.setTop (mkF m 201 #[.val (.int p0), .val (.int p1), .val (.int p2), .val (.int p3), .val (.long p4), .second, .val (.int sk), .val (.int v1), .val (.int sm), .val (.int v3), .val (.ref a5), .unset, .unset, .unset] [])) := by
        intro T42 h42 W42 E42 C42
        have sz42 := E42.1
        refine Fi.by' (st' := T42.setTop (mkF m 205 #[.val (.int p0), .val (.int p1), .val (.int p2), .val (.int p3), .val (.long p4), .second, .val (.int sk), .val (.int v1), .val (.int sm), .val (.int v3), .val (.ref a5), .unset, .unset, .unset] [(.int (6 : Int32)), (.int v3)])) (fun t k => ?_) ?_
        · refine XS.iload W42.here hx rfl (hb hby at_201) rfl ?_
          refine bipushZ W42.here hx rfl (hb hby at_203) (z := (6 : Int32)) rfl ?_
          exact k
        by_cases hc205_43 : (6 : Int32) < v3
        · refine Fi.by' (st' := T42.setTop (mkF m 221 #[.val (.int p0), .val (.int p1), .val (.int p2), .val (.int p3), .val (.long p4), .second, .val (.int sk), .val (.int v1), .val (.int sm), .val (.int v3), .val (.ref a5), .unset, .unset, .unset] [(.long p4), (.int p3), (.int v1), (.int (6 : Int32)), (.int sk), (.int (6 : Int32)), (.ref a5)])) (fun t k => ?_) ?_
          · refine XS.icmpNo W42.here hx rfl (hb hby at_205) rfl (tlt hc205_43).2.2.2 ?_
            refine XS.aload W42.here hx rfl (hb hby at_208) rfl rfl ?_
            refine bipushZ W42.here hx rfl (hb hby at_210) (z := (6 : Int32)) rfl ?_
            refine XS.iload W42.here hx rfl (hb hby at_212) rfl ?_
            refine bipushZ W42.here hx rfl (hb hby at_214) (z := (6 : Int32)) rfl ?_
            refine XS.iload W42.here hx rfl (hb hby at_216) rfl ?_
            refine XS.iloadN W42.here hx rfl (hb hby at_218) rfl ?_
            refine XS.lload W42.here hx rfl (hb hby at_219) rfl ?_
            exact k
          refine W42.callS hx (y := (⟨"com/example/exact_roles/exactroles/credentials/ApiNamedPinLaw", "cell", "(IIIIJ)C"⟩ : MethodName)) (ww hw (i := 2) rfl) (ww hw (i := 3) rfl) (ww hw (i := 4) rfl) (ww hw (i := 5) rfl) (by decide) (Pay.of_con (Wd := 2) (rm_cell l Z a0 hw sk (6 : Int32) v1 p3 zc p4 fm h42 n0 (by omega) (Sta.ext E42 S0) hz (Sta.ext E42 G0) rf (by decide) B5) (ww hw (i := 5) rfl) (ww hw (i := 4) rfl) (hEL hw) (by decide) (by decide)) (g := (mkF m 221 #[.val (.int p0), .val (.int p1), .val (.int p2), .val (.int p3), .val (.long p4), .second, .val (.int sk), .val (.int v1), .val (.int sm), .val (.int v3), .val (.ref a5), .unset, .unset, .unset] [(.long p4), (.int p3), (.int v1), (.int (6 : Int32)), (.int sk), (.int (6 : Int32)), (.ref a5)])) rfl (by rw [hml]; rfl) (argsL := [(.int sk), (.int (6 : Int32)), (.int v1), (.int p3), (.long p4)]) (rest := [(.int (6 : Int32)), (.ref a5)]) (lenOf pd_12 rfl) rfl rfl (Nat.le_of_ble_eq_true rfl) (hb hby at_221) (by decide) (by decide) (fun v44 T44 h44 W44 sz44 q44 => ?_)
          obtain ⟨r44, rfl, P_r44, E44⟩ := q44
          change Fi _ _ _ _ _ _ _ _ _ _ (T44.setTop (mkF m 224 #[.val (.int p0), .val (.int p1), .val (.int p2), .val (.int p3), .val (.long p4), .second, .val (.int sk), .val (.int v1), .val (.int sm), .val (.int v3), .val (.ref a5), .unset, .unset, .unset] [(.int r44), (.int (6 : Int32)), (.ref a5)]))
          refine W44.castoreCA hx (C42.ext E44) (j := (6 : Int32)) ⟨by decide, hc205_43⟩ P_r44 (g := (mkF m 224 #[.val (.int p0), .val (.int p1), .val (.int p2), .val (.int p3), .val (.long p4), .second, .val (.int sk), .val (.int v1), .val (.int sm), .val (.int v3), .val (.ref a5), .unset, .unset, .unset] [(.int r44), (.int (6 : Int32)), (.ref a5)])) rfl rfl (hb hby at_224) (by omega) (fun T45 h45 W45 R45 C45 => ?_)
          have x46 : Ext h0 h44 := ext_trans E42 E44
          change Fi _ _ _ _ _ _ _ _ _ _ (T45.setTop (mkF m 225 #[.val (.int p0), .val (.int p1), .val (.int p2), .val (.int p3), .val (.long p4), .second, .val (.int sk), .val (.int v1), .val (.int sm), .val (.int v3), .val (.ref a5), .unset, .unset, .unset] []))
          have x45w : Ext h0 h45 := ext_wr x46 R45 (by omega)
          have sz45 := R45.size
          exact J225_39 T45 h45 (W45.mono (by decide) (by decide)) x45w C45
        · refine Fi.by' (st' := T42.setTop (mkF m 225 #[.val (.int p0), .val (.int p1), .val (.int p2), .val (.int p3), .val (.long p4), .second, .val (.int sk), .val (.int v1), .val (.int sm), .val (.int v3), .val (.ref a5), .unset, .unset, .unset] [])) (fun t k => ?_) ?_
          · refine XS.icmpYes W42.here hx rfl (pc0 := 205) (pc' := 225) rfl (hb hby at_205) rfl (flt hc205_43).2.2.2 (by decide) (by decide) ?_
            exact k
          exact J225_39 T42 h42 (W42.mono (by decide) (by decide)) E42 C42
      have J180_47 : ∀ (T : State) (h : Heap), Wk p l e room_1 s m #[(.int p0), (.int p1), (.int p2), (.int p3), (.long p4)] below meth c Z a0 EL "com/example/exact_roles/exactroles/credentials/ApiNamedPinLaw" n0 T h 11 147 → Ext h0 h → CA Z h a5 k5 v3 → Fi p e below s Z EL n0 (Q_law Z p0 p1 p2 p3 p4 va er eu ec n1 n2 n3 em kv zc fm h0) room_1.cells room_1.slots (T.setTop (mkF m 180 #[.val (.int p0), .val (.int p1), .val (.int p2), .val (.int p3), .val (.long p4), .second, .val (.int sk), .val (.int v1), .val (.int sm), .val (.int v3), .val (.ref a5), .unset, .unset, .unset] [])) := by
        intro T47 h47 W47 E47 C47
        have sz47 := E47.1
        refine Fi.by' (st' := T47.setTop (mkF m 183 #[.val (.int p0), .val (.int p1), .val (.int p2), .val (.int p3), .val (.long p4), .second, .val (.int sk), .val (.int v1), .val (.int sm), .val (.int v3), .val (.ref a5), .unset, .unset, .unset] [(.int (5 : Int32)), (.int v3)])) (fun t k => ?_) ?_
        · refine XS.iload W47.here hx rfl (hb hby at_180) rfl ?_
          refine iconstZ W47.here hx rfl (hb hby at_182) (z := (5 : Int32)) rfl ?_
          exact k
        by_cases hc183_48 : (5 : Int32) < v3
        · refine Fi.by' (st' := T47.setTop (mkF m 197 #[.val (.int p0), .val (.int p1), .val (.int p2), .val (.int p3), .val (.long p4), .second, .val (.int sk), .val (.int v1), .val (.int sm), .val (.int v3), .val (.ref a5), .unset, .unset, .unset] [(.long p4), (.int p3), (.int v1), (.int (5 : Int32)), (.int sk), (.int (5 : Int32)), (.ref a5)])) (fun t k => ?_) ?_
          · refine XS.icmpNo W47.here hx rfl (hb hby at_183) rfl (tlt hc183_48).2.2.2 ?_
            refine XS.aload W47.here hx rfl (hb hby at_186) rfl rfl ?_
            refine iconstZ W47.here hx rfl (hb hby at_188) (z := (5 : Int32)) rfl ?_
            refine XS.iload W47.here hx rfl (hb hby at_189) rfl ?_
            refine iconstZ W47.here hx rfl (hb hby at_191) (z := (5 : Int32)) rfl ?_
            refine XS.iload W47.here hx rfl (hb hby at_192) rfl ?_
            refine XS.iloadN W47.here hx rfl (hb hby at_194) rfl ?_
            refine XS.lload W47.here hx rfl (hb hby at_195) rfl ?_
            exact k
          refine W47.callS hx (y := (⟨"com/example/exact_roles/exactroles/credentials/ApiNamedPinLaw", "cell", "(IIIIJ)C"⟩ : MethodName)) (ww hw (i := 2) rfl) (ww hw (i := 3) rfl) (ww hw (i := 4) rfl) (ww hw (i := 5) rfl) (by decide) (Pay.of_con (Wd := 2) (rm_cell l Z a0 hw sk (5 : Int32) v1 p3 zc p4 fm h47 n0 (by omega) (Sta.ext E47 S0) hz (Sta.ext E47 G0) rf (by decide) B5) (ww hw (i := 5) rfl) (ww hw (i := 4) rfl) (hEL hw) (by decide) (by decide)) (g := (mkF m 197 #[.val (.int p0), .val (.int p1), .val (.int p2), .val (.int p3), .val (.long p4), .second, .val (.int sk), .val (.int v1), .val (.int sm), .val (.int v3), .val (.ref a5), .unset, .unset, .unset] [(.long p4), (.int p3), (.int v1), (.int (5 : Int32)), (.int sk), (.int (5 : Int32)), (.ref a5)])) rfl (by rw [hml]; rfl) (argsL := [(.int sk), (.int (5 : Int32)), (.int v1), (.int p3), (.long p4)]) (rest := [(.int (5 : Int32)), (.ref a5)]) (lenOf pd_12 rfl) rfl rfl (Nat.le_of_ble_eq_true rfl) (hb hby at_197) (by decide) (by decide) (fun v49 T49 h49 W49 sz49 q49 => ?_)
          obtain ⟨r49, rfl, P_r49, E49⟩ := q49
          change Fi _ _ _ _ _ _ _ _ _ _ (T49.setTop (mkF m 200 #[.val (.int p0), .val (.int p1), .val (.int p2), .val (.int p3), .val (.long p4), .second, .val (.int sk), .val (.int v1), .val (.int sm), .val (.int v3), .val (.ref a5), .unset, .unset, .unset] [(.int r49), (.int (5 : Int32)), (.ref a5)]))
          refine W49.castoreCA hx (C47.ext E49) (j := (5 : Int32)) ⟨by decide, hc183_48⟩ P_r49 (g := (mkF m 200 #[.val (.int p0), .val (.int p1), .val (.int p2), .val (.int p3), .val (.long p4), .second, .val (.int sk), .val (.int v1), .val (.int sm), .val (.int v3), .val (.ref a5), .unset, .unset, .unset] [(.int r49), (.int (5 : Int32)), (.ref a5)])) rfl rfl (hb hby at_200) (by omega) (fun T50 h50 W50 R50 C50 => ?_)
          have x51 : Ext h0 h49 := ext_trans E47 E49
          change Fi _ _ _ _ _ _ _ _ _ _ (T50.setTop (mkF m 201 #[.val (.int p0), .val (.int p1), .val (.int p2), .val (.int p3), .val (.long p4), .second, .val (.int sk), .val (.int v1), .val (.int sm), .val (.int v3), .val (.ref a5), .unset, .unset, .unset] []))
          have x50w : Ext h0 h50 := ext_wr x51 R50 (by omega)
          have sz50 := R50.size
          exact J201_42 T50 h50 (W50.mono (by decide) (by decide)) x50w C50
        · refine Fi.by' (st' := T47.setTop (mkF m 201 #[.val (.int p0), .val (.int p1), .val (.int p2), .val (.int p3), .val (.long p4), .second, .val (.int sk), .val (.int v1), .val (.int sm), .val (.int v3), .val (.ref a5), .unset, .unset, .unset] [])) (fun t k => ?_) ?_
          · refine XS.icmpYes W47.here hx rfl (pc0 := 183) (pc' := 201) rfl (hb hby at_183) rfl (flt hc183_48).2.2.2 (by decide) (by decide) ?_
            exact k
          exact J201_42 T47 h47 (W47.mono (by decide) (by decide)) E47 C47
      have J159_52 : ∀ (T : State) (h : Heap), Wk p l e room_1 s m #[(.int p0), (.int p1), (.int p2), (.int p3), (.long p4)] below meth c Z a0 EL "com/example/exact_roles/exactroles/credentials/ApiNamedPinLaw" n0 T h 9 119 → Ext h0 h → CA Z h a5 k5 v3 → Fi p e below s Z EL n0 (Q_law Z p0 p1 p2 p3 p4 va er eu ec n1 n2 n3 em kv zc fm h0) room_1.cells room_1.slots (T.setTop (mkF m 159 #[.val (.int p0), .val (.int p1), .val (.int p2), .val (.int p3), .val (.long p4), .second, .val (.int sk), .val (.int v1), .val (.int sm), .val (.int v3), .val (.ref a5), .unset, .unset, .unset] [])) := by
        intro T52 h52 W52 E52 C52
        have sz52 := E52.1
        refine Fi.by' (st' := T52.setTop (mkF m 162 #[.val (.int p0), .val (.int p1), .val (.int p2), .val (.int p3), .val (.long p4), .second, .val (.int sk), .val (.int v1), .val (.int sm), .val (.int v3), .val (.ref a5), .unset, .unset, .unset] [(.int (4 : Int32)), (.int v3)])) (fun t k => ?_) ?_
        · refine XS.iload W52.here hx rfl (hb hby at_159) rfl ?_
          refine iconstZ W52.here hx rfl (hb hby at_161) (z := (4 : Int32)) rfl ?_
          exact k
        by_cases hc162_53 : (4 : Int32) < v3
        · refine Fi.by' (st' := T52.setTop (mkF m 176 #[.val (.int p0), .val (.int p1), .val (.int p2), .val (.int p3), .val (.long p4), .second, .val (.int sk), .val (.int v1), .val (.int sm), .val (.int v3), .val (.ref a5), .unset, .unset, .unset] [(.long p4), (.int p3), (.int v1), (.int (4 : Int32)), (.int sk), (.int (4 : Int32)), (.ref a5)])) (fun t k => ?_) ?_
          · refine XS.icmpNo W52.here hx rfl (hb hby at_162) rfl (tlt hc162_53).2.2.2 ?_
            refine XS.aload W52.here hx rfl (hb hby at_165) rfl rfl ?_
            refine iconstZ W52.here hx rfl (hb hby at_167) (z := (4 : Int32)) rfl ?_
            refine XS.iload W52.here hx rfl (hb hby at_168) rfl ?_
            refine iconstZ W52.here hx rfl (hb hby at_170) (z := (4 : Int32)) rfl ?_
            refine XS.iload W52.here hx rfl (hb hby at_171) rfl ?_
            refine XS.iloadN W52.here hx rfl (hb hby at_173) rfl ?_
            refine XS.lload W52.here hx rfl (hb hby at_174) rfl ?_
            exact k
          refine W52.callS hx (y := (⟨"com/example/exact_roles/exactroles/credentials/ApiNamedPinLaw", "cell", "(IIIIJ)C"⟩ : MethodName)) (ww hw (i := 2) rfl) (ww hw (i := 3) rfl) (ww hw (i := 4) rfl) (ww hw (i := 5) rfl) (by decide) (Pay.of_con (Wd := 2) (rm_cell l Z a0 hw sk (4 : Int32) v1 p3 zc p4 fm h52 n0 (by omega) (Sta.ext E52 S0) hz (Sta.ext E52 G0) rf (by decide) B5) (ww hw (i := 5) rfl) (ww hw (i := 4) rfl) (hEL hw) (by decide) (by decide)) (g := (mkF m 176 #[.val (.int p0), .val (.int p1), .val (.int p2), .val (.int p3), .val (.long p4), .second, .val (.int sk), .val (.int v1), .val (.int sm), .val (.int v3), .val (.ref a5), .unset, .unset, .unset] [(.long p4), (.int p3), (.int v1), (.int (4 : Int32)), (.int sk), (.int (4 : Int32)), (.ref a5)])) rfl (by rw [hml]; rfl) (argsL := [(.int sk), (.int (4 : Int32)), (.int v1), (.int p3), (.long p4)]) (rest := [(.int (4 : Int32)), (.ref a5)]) (lenOf pd_12 rfl) rfl rfl (Nat.le_of_ble_eq_true rfl) (hb hby at_176) (by decide) (by decide) (fun v54 T54 h54 W54 sz54 q54 => ?_)
          obtain ⟨r54, rfl, P_r54, E54⟩ := q54
          change Fi _ _ _ _ _ _ _ _ _ _ (T54.setTop (mkF m 179 #[.val (.int p0), .val (.int p1), .val (.int p2), .val (.int p3), .val (.long p4), .second, .val (.int sk), .val (.int v1), .val (.int sm), .val (.int v3), .val (.ref a5), .unset, .unset, .unset] [(.int r54), (.int (4 : Int32)), (.ref a5)]))
          refine W54.castoreCA hx (C52.ext E54) (j := (4 : Int32)) ⟨by decide, hc162_53⟩ P_r54 (g := (mkF m 179 #[.val (.int p0), .val (.int p1), .val (.int p2), .val (.int p3), .val (.long p4), .second, .val (.int sk), .val (.int v1), .val (.int sm), .val (.int v3), .val (.ref a5), .unset, .unset, .unset] [(.int r54), (.int (4 : Int32)), (.ref a5)])) rfl rfl (hb hby at_179) (by omega) (fun T55 h55 W55 R55 C55 => ?_)
          have x56 : Ext h0 h54 := ext_trans E52 E54
          change Fi _ _ _ _ _ _ _ _ _ _ (T55.setTop (mkF m 180 #[.val (.int p0), .val (.int p1), .val (.int p2), .val (.int p3), .val (.long p4), .second, .val (.int sk), .val (.int v1), .val (.int sm), .val (.int v3), .val (.ref a5), .unset, .unset, .unset] []))
          have x55w : Ext h0 h55 := ext_wr x56 R55 (by omega)
          have sz55 := R55.size
          exact J180_47 T55 h55 (W55.mono (by decide) (by decide)) x55w C55
        · refine Fi.by' (st' := T52.setTop (mkF m 180 #[.val (.int p0), .val (.int p1), .val (.int p2), .val (.int p3), .val (.long p4), .second, .val (.int sk), .val (.int v1), .val (.int sm), .val (.int v3), .val (.ref a5), .unset, .unset, .unset] [])) (fun t k => ?_) ?_
          · refine XS.icmpYes W52.here hx rfl (pc0 := 162) (pc' := 180) rfl (hb hby at_162) rfl (flt hc162_53).2.2.2 (by decide) (by decide) ?_
            exact k
          exact J180_47 T52 h52 (W52.mono (by decide) (by decide)) E52 C52
      have J138_57 : ∀ (T : State) (h : Heap), Wk p l e room_1 s m #[(.int p0), (.int p1), (.int p2), (.int p3), (.long p4)] below meth c Z a0 EL "com/example/exact_roles/exactroles/credentials/ApiNamedPinLaw" n0 T h 7 91 → Ext h0 h → CA Z h a5 k5 v3 → Fi p e below s Z EL n0 (Q_law Z p0 p1 p2 p3 p4 va er eu ec n1 n2 n3 em kv zc fm h0) room_1.cells room_1.slots (T.setTop (mkF m 138 #[.val (.int p0), .val (.int p1), .val (.int p2), .val (.int p3), .val (.long p4), .second, .val (.int sk), .val (.int v1), .val (.int sm), .val (.int v3), .val (.ref a5), .unset, .unset, .unset] [])) := by
        intro T57 h57 W57 E57 C57
        have sz57 := E57.1
        refine Fi.by' (st' := T57.setTop (mkF m 141 #[.val (.int p0), .val (.int p1), .val (.int p2), .val (.int p3), .val (.long p4), .second, .val (.int sk), .val (.int v1), .val (.int sm), .val (.int v3), .val (.ref a5), .unset, .unset, .unset] [(.int (3 : Int32)), (.int v3)])) (fun t k => ?_) ?_
        · refine XS.iload W57.here hx rfl (hb hby at_138) rfl ?_
          refine iconstZ W57.here hx rfl (hb hby at_140) (z := (3 : Int32)) rfl ?_
          exact k
        by_cases hc141_58 : (3 : Int32) < v3
        · refine Fi.by' (st' := T57.setTop (mkF m 155 #[.val (.int p0), .val (.int p1), .val (.int p2), .val (.int p3), .val (.long p4), .second, .val (.int sk), .val (.int v1), .val (.int sm), .val (.int v3), .val (.ref a5), .unset, .unset, .unset] [(.long p4), (.int p3), (.int v1), (.int (3 : Int32)), (.int sk), (.int (3 : Int32)), (.ref a5)])) (fun t k => ?_) ?_
          · refine XS.icmpNo W57.here hx rfl (hb hby at_141) rfl (tlt hc141_58).2.2.2 ?_
            refine XS.aload W57.here hx rfl (hb hby at_144) rfl rfl ?_
            refine iconstZ W57.here hx rfl (hb hby at_146) (z := (3 : Int32)) rfl ?_
            refine XS.iload W57.here hx rfl (hb hby at_147) rfl ?_
            refine iconstZ W57.here hx rfl (hb hby at_149) (z := (3 : Int32)) rfl ?_
            refine XS.iload W57.here hx rfl (hb hby at_150) rfl ?_
            refine XS.iloadN W57.here hx rfl (hb hby at_152) rfl ?_
            refine XS.lload W57.here hx rfl (hb hby at_153) rfl ?_
            exact k
          refine W57.callS hx (y := (⟨"com/example/exact_roles/exactroles/credentials/ApiNamedPinLaw", "cell", "(IIIIJ)C"⟩ : MethodName)) (ww hw (i := 2) rfl) (ww hw (i := 3) rfl) (ww hw (i := 4) rfl) (ww hw (i := 5) rfl) (by decide) (Pay.of_con (Wd := 2) (rm_cell l Z a0 hw sk (3 : Int32) v1 p3 zc p4 fm h57 n0 (by omega) (Sta.ext E57 S0) hz (Sta.ext E57 G0) rf (by decide) B5) (ww hw (i := 5) rfl) (ww hw (i := 4) rfl) (hEL hw) (by decide) (by decide)) (g := (mkF m 155 #[.val (.int p0), .val (.int p1), .val (.int p2), .val (.int p3), .val (.long p4), .second, .val (.int sk), .val (.int v1), .val (.int sm), .val (.int v3), .val (.ref a5), .unset, .unset, .unset] [(.long p4), (.int p3), (.int v1), (.int (3 : Int32)), (.int sk), (.int (3 : Int32)), (.ref a5)])) rfl (by rw [hml]; rfl) (argsL := [(.int sk), (.int (3 : Int32)), (.int v1), (.int p3), (.long p4)]) (rest := [(.int (3 : Int32)), (.ref a5)]) (lenOf pd_12 rfl) rfl rfl (Nat.le_of_ble_eq_true rfl) (hb hby at_155) (by decide) (by decide) (fun v59 T59 h59 W59 sz59 q59 => ?_)
          obtain ⟨r59, rfl, P_r59, E59⟩ := q59
          change Fi _ _ _ _ _ _ _ _ _ _ (T59.setTop (mkF m 158 #[.val (.int p0), .val (.int p1), .val (.int p2), .val (.int p3), .val (.long p4), .second, .val (.int sk), .val (.int v1), .val (.int sm), .val (.int v3), .val (.ref a5), .unset, .unset, .unset] [(.int r59), (.int (3 : Int32)), (.ref a5)]))
          refine W59.castoreCA hx (C57.ext E59) (j := (3 : Int32)) ⟨by decide, hc141_58⟩ P_r59 (g := (mkF m 158 #[.val (.int p0), .val (.int p1), .val (.int p2), .val (.int p3), .val (.long p4), .second, .val (.int sk), .val (.int v1), .val (.int sm), .val (.int v3), .val (.ref a5), .unset, .unset, .unset] [(.int r59), (.int (3 : Int32)), (.ref a5)])) rfl rfl (hb hby at_158) (by omega) (fun T60 h60 W60 R60 C60 => ?_)
          have x61 : Ext h0 h59 := ext_trans E57 E59
          change Fi _ _ _ _ _ _ _ _ _ _ (T60.setTop (mkF m 159 #[.val (.int p0), .val (.int p1), .val (.int p2), .val (.int p3), .val (.long p4), .second, .val (.int sk), .val (.int v1), .val (.int sm), .val (.int v3), .val (.ref a5), .unset, .unset, .unset] []))
          have x60w : Ext h0 h60 := ext_wr x61 R60 (by omega)
          have sz60 := R60.size
          exact J159_52 T60 h60 (W60.mono (by decide) (by decide)) x60w C60
        · refine Fi.by' (st' := T57.setTop (mkF m 159 #[.val (.int p0), .val (.int p1), .val (.int p2), .val (.int p3), .val (.long p4), .second, .val (.int sk), .val (.int v1), .val (.int sm), .val (.int v3), .val (.ref a5), .unset, .unset, .unset] [])) (fun t k => ?_) ?_
          · refine XS.icmpYes W57.here hx rfl (pc0 := 141) (pc' := 159) rfl (hb hby at_141) rfl (flt hc141_58).2.2.2 (by decide) (by decide) ?_
            exact k
          exact J159_52 T57 h57 (W57.mono (by decide) (by decide)) E57 C57
      have J117_62 : ∀ (T : State) (h : Heap), Wk p l e room_1 s m #[(.int p0), (.int p1), (.int p2), (.int p3), (.long p4)] below meth c Z a0 EL "com/example/exact_roles/exactroles/credentials/ApiNamedPinLaw" n0 T h 5 63 → Ext h0 h → CA Z h a5 k5 v3 → Fi p e below s Z EL n0 (Q_law Z p0 p1 p2 p3 p4 va er eu ec n1 n2 n3 em kv zc fm h0) room_1.cells room_1.slots (T.setTop (mkF m 117 #[.val (.int p0), .val (.int p1), .val (.int p2), .val (.int p3), .val (.long p4), .second, .val (.int sk), .val (.int v1), .val (.int sm), .val (.int v3), .val (.ref a5), .unset, .unset, .unset] [])) := by
        intro T62 h62 W62 E62 C62
        have sz62 := E62.1
        refine Fi.by' (st' := T62.setTop (mkF m 120 #[.val (.int p0), .val (.int p1), .val (.int p2), .val (.int p3), .val (.long p4), .second, .val (.int sk), .val (.int v1), .val (.int sm), .val (.int v3), .val (.ref a5), .unset, .unset, .unset] [(.int (2 : Int32)), (.int v3)])) (fun t k => ?_) ?_
        · refine XS.iload W62.here hx rfl (hb hby at_117) rfl ?_
          refine iconstZ W62.here hx rfl (hb hby at_119) (z := (2 : Int32)) rfl ?_
          exact k
        by_cases hc120_63 : (2 : Int32) < v3
        · refine Fi.by' (st' := T62.setTop (mkF m 134 #[.val (.int p0), .val (.int p1), .val (.int p2), .val (.int p3), .val (.long p4), .second, .val (.int sk), .val (.int v1), .val (.int sm), .val (.int v3), .val (.ref a5), .unset, .unset, .unset] [(.long p4), (.int p3), (.int v1), (.int (2 : Int32)), (.int sk), (.int (2 : Int32)), (.ref a5)])) (fun t k => ?_) ?_
          · refine XS.icmpNo W62.here hx rfl (hb hby at_120) rfl (tlt hc120_63).2.2.2 ?_
            refine XS.aload W62.here hx rfl (hb hby at_123) rfl rfl ?_
            refine iconstZ W62.here hx rfl (hb hby at_125) (z := (2 : Int32)) rfl ?_
            refine XS.iload W62.here hx rfl (hb hby at_126) rfl ?_
            refine iconstZ W62.here hx rfl (hb hby at_128) (z := (2 : Int32)) rfl ?_
            refine XS.iload W62.here hx rfl (hb hby at_129) rfl ?_
            refine XS.iloadN W62.here hx rfl (hb hby at_131) rfl ?_
            refine XS.lload W62.here hx rfl (hb hby at_132) rfl ?_
            exact k
          refine W62.callS hx (y := (⟨"com/example/exact_roles/exactroles/credentials/ApiNamedPinLaw", "cell", "(IIIIJ)C"⟩ : MethodName)) (ww hw (i := 2) rfl) (ww hw (i := 3) rfl) (ww hw (i := 4) rfl) (ww hw (i := 5) rfl) (by decide) (Pay.of_con (Wd := 2) (rm_cell l Z a0 hw sk (2 : Int32) v1 p3 zc p4 fm h62 n0 (by omega) (Sta.ext E62 S0) hz (Sta.ext E62 G0) rf (by decide) B5) (ww hw (i := 5) rfl) (ww hw (i := 4) rfl) (hEL hw) (by decide) (by decide)) (g := (mkF m 134 #[.val (.int p0), .val (.int p1), .val (.int p2), .val (.int p3), .val (.long p4), .second, .val (.int sk), .val (.int v1), .val (.int sm), .val (.int v3), .val (.ref a5), .unset, .unset, .unset] [(.long p4), (.int p3), (.int v1), (.int (2 : Int32)), (.int sk), (.int (2 : Int32)), (.ref a5)])) rfl (by rw [hml]; rfl) (argsL := [(.int sk), (.int (2 : Int32)), (.int v1), (.int p3), (.long p4)]) (rest := [(.int (2 : Int32)), (.ref a5)]) (lenOf pd_12 rfl) rfl rfl (Nat.le_of_ble_eq_true rfl) (hb hby at_134) (by decide) (by decide) (fun v64 T64 h64 W64 sz64 q64 => ?_)
          obtain ⟨r64, rfl, P_r64, E64⟩ := q64
          change Fi _ _ _ _ _ _ _ _ _ _ (T64.setTop (mkF m 137 #[.val (.int p0), .val (.int p1), .val (.int p2), .val (.int p3), .val (.long p4), .second, .val (.int sk), .val (.int v1), .val (.int sm), .val (.int v3), .val (.ref a5), .unset, .unset, .unset] [(.int r64), (.int (2 : Int32)), (.ref a5)]))
          refine W64.castoreCA hx (C62.ext E64) (j := (2 : Int32)) ⟨by decide, hc120_63⟩ P_r64 (g := (mkF m 137 #[.val (.int p0), .val (.int p1), .val (.int p2), .val (.int p3), .val (.long p4), .second, .val (.int sk), .val (.int v1), .val (.int sm), .val (.int v3), .val (.ref a5), .unset, .unset, .unset] [(.int r64), (.int (2 : Int32)), (.ref a5)])) rfl rfl (hb hby at_137) (by omega) (fun T65 h65 W65 R65 C65 => ?_)
          have x66 : Ext h0 h64 := ext_trans E62 E64
          change Fi _ _ _ _ _ _ _ _ _ _ (T65.setTop (mkF m 138 #[.val (.int p0), .val (.int p1), .val (.int p2), .val (.int p3), .val (.long p4), .second, .val (.int sk), .val (.int v1), .val (.int sm), .val (.int v3), .val (.ref a5), .unset, .unset, .unset] []))
          have x65w : Ext h0 h65 := ext_wr x66 R65 (by omega)
          have sz65 := R65.size
          exact J138_57 T65 h65 (W65.mono (by decide) (by decide)) x65w C65
        · refine Fi.by' (st' := T62.setTop (mkF m 138 #[.val (.int p0), .val (.int p1), .val (.int p2), .val (.int p3), .val (.long p4), .second, .val (.int sk), .val (.int v1), .val (.int sm), .val (.int v3), .val (.ref a5), .unset, .unset, .unset] [])) (fun t k => ?_) ?_
          · refine XS.icmpYes W62.here hx rfl (pc0 := 120) (pc' := 138) rfl (hb hby at_120) rfl (flt hc120_63).2.2.2 (by decide) (by decide) ?_
            exact k
          exact J138_57 T62 h62 (W62.mono (by decide) (by decide)) E62 C62
      have J96_67 : ∀ (T : State) (h : Heap), Wk p l e room_1 s m #[(.int p0), (.int p1), (.int p2), (.int p3), (.long p4)] below meth c Z a0 EL "com/example/exact_roles/exactroles/credentials/ApiNamedPinLaw" n0 T h 3 35 → Ext h0 h → CA Z h a5 k5 v3 → Fi p e below s Z EL n0 (Q_law Z p0 p1 p2 p3 p4 va er eu ec n1 n2 n3 em kv zc fm h0) room_1.cells room_1.slots (T.setTop (mkF m 96 #[.val (.int p0), .val (.int p1), .val (.int p2), .val (.int p3), .val (.long p4), .second, .val (.int sk), .val (.int v1), .val (.int sm), .val (.int v3), .val (.ref a5), .unset, .unset, .unset] [])) := by
        intro T67 h67 W67 E67 C67
        have sz67 := E67.1
        refine Fi.by' (st' := T67.setTop (mkF m 99 #[.val (.int p0), .val (.int p1), .val (.int p2), .val (.int p3), .val (.long p4), .second, .val (.int sk), .val (.int v1), .val (.int sm), .val (.int v3), .val (.ref a5), .unset, .unset, .unset] [(.int (1 : Int32)), (.int v3)])) (fun t k => ?_) ?_
        · refine XS.iload W67.here hx rfl (hb hby at_96) rfl ?_
          refine iconstZ W67.here hx rfl (hb hby at_98) (z := (1 : Int32)) rfl ?_
          exact k
        by_cases hc99_68 : (1 : Int32) < v3
        · refine Fi.by' (st' := T67.setTop (mkF m 113 #[.val (.int p0), .val (.int p1), .val (.int p2), .val (.int p3), .val (.long p4), .second, .val (.int sk), .val (.int v1), .val (.int sm), .val (.int v3), .val (.ref a5), .unset, .unset, .unset] [(.long p4), (.int p3), (.int v1), (.int (1 : Int32)), (.int sk), (.int (1 : Int32)), (.ref a5)])) (fun t k => ?_) ?_
          · refine XS.icmpNo W67.here hx rfl (hb hby at_99) rfl (tlt hc99_68).2.2.2 ?_
            refine XS.aload W67.here hx rfl (hb hby at_102) rfl rfl ?_
            refine iconstZ W67.here hx rfl (hb hby at_104) (z := (1 : Int32)) rfl ?_
            refine XS.iload W67.here hx rfl (hb hby at_105) rfl ?_
            refine iconstZ W67.here hx rfl (hb hby at_107) (z := (1 : Int32)) rfl ?_
            refine XS.iload W67.here hx rfl (hb hby at_108) rfl ?_
            refine XS.iloadN W67.here hx rfl (hb hby at_110) rfl ?_
            refine XS.lload W67.here hx rfl (hb hby at_111) rfl ?_
            exact k
          refine W67.callS hx (y := (⟨"com/example/exact_roles/exactroles/credentials/ApiNamedPinLaw", "cell", "(IIIIJ)C"⟩ : MethodName)) (ww hw (i := 2) rfl) (ww hw (i := 3) rfl) (ww hw (i := 4) rfl) (ww hw (i := 5) rfl) (by decide) (Pay.of_con (Wd := 2) (rm_cell l Z a0 hw sk (1 : Int32) v1 p3 zc p4 fm h67 n0 (by omega) (Sta.ext E67 S0) hz (Sta.ext E67 G0) rf (by decide) B5) (ww hw (i := 5) rfl) (ww hw (i := 4) rfl) (hEL hw) (by decide) (by decide)) (g := (mkF m 113 #[.val (.int p0), .val (.int p1), .val (.int p2), .val (.int p3), .val (.long p4), .second, .val (.int sk), .val (.int v1), .val (.int sm), .val (.int v3), .val (.ref a5), .unset, .unset, .unset] [(.long p4), (.int p3), (.int v1), (.int (1 : Int32)), (.int sk), (.int (1 : Int32)), (.ref a5)])) rfl (by rw [hml]; rfl) (argsL := [(.int sk), (.int (1 : Int32)), (.int v1), (.int p3), (.long p4)]) (rest := [(.int (1 : Int32)), (.ref a5)]) (lenOf pd_12 rfl) rfl rfl (Nat.le_of_ble_eq_true rfl) (hb hby at_113) (by decide) (by decide) (fun v69 T69 h69 W69 sz69 q69 => ?_)
          obtain ⟨r69, rfl, P_r69, E69⟩ := q69
          change Fi _ _ _ _ _ _ _ _ _ _ (T69.setTop (mkF m 116 #[.val (.int p0), .val (.int p1), .val (.int p2), .val (.int p3), .val (.long p4), .second, .val (.int sk), .val (.int v1), .val (.int sm), .val (.int v3), .val (.ref a5), .unset, .unset, .unset] [(.int r69), (.int (1 : Int32)), (.ref a5)]))
          refine W69.castoreCA hx (C67.ext E69) (j := (1 : Int32)) ⟨by decide, hc99_68⟩ P_r69 (g := (mkF m 116 #[.val (.int p0), .val (.int p1), .val (.int p2), .val (.int p3), .val (.long p4), .second, .val (.int sk), .val (.int v1), .val (.int sm), .val (.int v3), .val (.ref a5), .unset, .unset, .unset] [(.int r69), (.int (1 : Int32)), (.ref a5)])) rfl rfl (hb hby at_116) (by omega) (fun T70 h70 W70 R70 C70 => ?_)
          have x71 : Ext h0 h69 := ext_trans E67 E69
          change Fi _ _ _ _ _ _ _ _ _ _ (T70.setTop (mkF m 117 #[.val (.int p0), .val (.int p1), .val (.int p2), .val (.int p3), .val (.long p4), .second, .val (.int sk), .val (.int v1), .val (.int sm), .val (.int v3), .val (.ref a5), .unset, .unset, .unset] []))
          have x70w : Ext h0 h70 := ext_wr x71 R70 (by omega)
          have sz70 := R70.size
          exact J117_62 T70 h70 (W70.mono (by decide) (by decide)) x70w C70
        · refine Fi.by' (st' := T67.setTop (mkF m 117 #[.val (.int p0), .val (.int p1), .val (.int p2), .val (.int p3), .val (.long p4), .second, .val (.int sk), .val (.int v1), .val (.int sm), .val (.int v3), .val (.ref a5), .unset, .unset, .unset] [])) (fun t k => ?_) ?_
          · refine XS.icmpYes W67.here hx rfl (pc0 := 99) (pc' := 117) rfl (hb hby at_99) rfl (flt hc99_68).2.2.2 (by decide) (by decide) ?_
            exact k
          exact J117_62 T67 h67 (W67.mono (by decide) (by decide)) E67 C67
      have J76_72 : ∀ (T : State) (h : Heap), Wk p l e room_1 s m #[(.int p0), (.int p1), (.int p2), (.int p3), (.long p4)] below meth c Z a0 EL "com/example/exact_roles/exactroles/credentials/ApiNamedPinLaw" n0 T h 1 7 → Ext h0 h → CA Z h a5 k5 v3 → Fi p e below s Z EL n0 (Q_law Z p0 p1 p2 p3 p4 va er eu ec n1 n2 n3 em kv zc fm h0) room_1.cells room_1.slots (T.setTop (mkF m 76 #[.val (.int p0), .val (.int p1), .val (.int p2), .val (.int p3), .val (.long p4), .second, .val (.int sk), .val (.int v1), .val (.int sm), .val (.int v3), .val (.ref a5), .unset, .unset, .unset] [])) := by
        intro T72 h72 W72 E72 C72
        have sz72 := E72.1
        refine Fi.by' (st' := T72.setTop (mkF m 78 #[.val (.int p0), .val (.int p1), .val (.int p2), .val (.int p3), .val (.long p4), .second, .val (.int sk), .val (.int v1), .val (.int sm), .val (.int v3), .val (.ref a5), .unset, .unset, .unset] [(.int v3)])) (fun t k => ?_) ?_
        · refine XS.iload W72.here hx rfl (hb hby at_76) rfl ?_
          exact k
        by_cases hc78_73 : (0 : Int32) < v3
        · refine Fi.by' (st' := T72.setTop (mkF m 92 #[.val (.int p0), .val (.int p1), .val (.int p2), .val (.int p3), .val (.long p4), .second, .val (.int sk), .val (.int v1), .val (.int sm), .val (.int v3), .val (.ref a5), .unset, .unset, .unset] [(.long p4), (.int p3), (.int v1), (.int (0 : Int32)), (.int sk), (.int (0 : Int32)), (.ref a5)])) (fun t k => ?_) ?_
          · refine XS.ifNo W72.here hx rfl (hb hby at_78) rfl ((if0 _ _).trans (tlt hc78_73).2.2.2) ?_
            refine XS.aload W72.here hx rfl (hb hby at_81) rfl rfl ?_
            refine iconstZ W72.here hx rfl (hb hby at_83) (z := (0 : Int32)) rfl ?_
            refine XS.iload W72.here hx rfl (hb hby at_84) rfl ?_
            refine iconstZ W72.here hx rfl (hb hby at_86) (z := (0 : Int32)) rfl ?_
            refine XS.iload W72.here hx rfl (hb hby at_87) rfl ?_
            refine XS.iloadN W72.here hx rfl (hb hby at_89) rfl ?_
            refine XS.lload W72.here hx rfl (hb hby at_90) rfl ?_
            exact k
          refine W72.callS hx (y := (⟨"com/example/exact_roles/exactroles/credentials/ApiNamedPinLaw", "cell", "(IIIIJ)C"⟩ : MethodName)) (ww hw (i := 2) rfl) (ww hw (i := 3) rfl) (ww hw (i := 4) rfl) (ww hw (i := 5) rfl) (by decide) (Pay.of_con (Wd := 2) (rm_cell l Z a0 hw sk (0 : Int32) v1 p3 zc p4 fm h72 n0 (by omega) (Sta.ext E72 S0) hz (Sta.ext E72 G0) rf (by decide) B5) (ww hw (i := 5) rfl) (ww hw (i := 4) rfl) (hEL hw) (by decide) (by decide)) (g := (mkF m 92 #[.val (.int p0), .val (.int p1), .val (.int p2), .val (.int p3), .val (.long p4), .second, .val (.int sk), .val (.int v1), .val (.int sm), .val (.int v3), .val (.ref a5), .unset, .unset, .unset] [(.long p4), (.int p3), (.int v1), (.int (0 : Int32)), (.int sk), (.int (0 : Int32)), (.ref a5)])) rfl (by rw [hml]; rfl) (argsL := [(.int sk), (.int (0 : Int32)), (.int v1), (.int p3), (.long p4)]) (rest := [(.int (0 : Int32)), (.ref a5)]) (lenOf pd_12 rfl) rfl rfl (Nat.le_of_ble_eq_true rfl) (hb hby at_92) (by decide) (by decide) (fun v74 T74 h74 W74 sz74 q74 => ?_)
          obtain ⟨r74, rfl, P_r74, E74⟩ := q74
          change Fi _ _ _ _ _ _ _ _ _ _ (T74.setTop (mkF m 95 #[.val (.int p0), .val (.int p1), .val (.int p2), .val (.int p3), .val (.long p4), .second, .val (.int sk), .val (.int v1), .val (.int sm), .val (.int v3), .val (.ref a5), .unset, .unset, .unset] [(.int r74), (.int (0 : Int32)), (.ref a5)]))
          refine W74.castoreCA hx (C72.ext E74) (j := (0 : Int32)) ⟨by decide, hc78_73⟩ P_r74 (g := (mkF m 95 #[.val (.int p0), .val (.int p1), .val (.int p2), .val (.int p3), .val (.long p4), .second, .val (.int sk), .val (.int v1), .val (.int sm), .val (.int v3), .val (.ref a5), .unset, .unset, .unset] [(.int r74), (.int (0 : Int32)), (.ref a5)])) rfl rfl (hb hby at_95) (by omega) (fun T75 h75 W75 R75 C75 => ?_)
          have x76 : Ext h0 h74 := ext_trans E72 E74
          change Fi _ _ _ _ _ _ _ _ _ _ (T75.setTop (mkF m 96 #[.val (.int p0), .val (.int p1), .val (.int p2), .val (.int p3), .val (.long p4), .second, .val (.int sk), .val (.int v1), .val (.int sm), .val (.int v3), .val (.ref a5), .unset, .unset, .unset] []))
          have x75w : Ext h0 h75 := ext_wr x76 R75 (by omega)
          have sz75 := R75.size
          exact J96_67 T75 h75 (W75.mono (by decide) (by decide)) x75w C75
        · refine Fi.by' (st' := T72.setTop (mkF m 96 #[.val (.int p0), .val (.int p1), .val (.int p2), .val (.int p3), .val (.long p4), .second, .val (.int sk), .val (.int v1), .val (.int sm), .val (.int v3), .val (.ref a5), .unset, .unset, .unset] [])) (fun t k => ?_) ?_
          · refine XS.ifYes W72.here hx rfl (pc0 := 78) (pc' := 96) rfl (hb hby at_78) rfl ((if0 _ _).trans (flt hc78_73).2.2.2) (by decide) (by decide) ?_
            exact k
          exact J96_67 T72 h72 (W72.mono (by decide) (by decide)) E72 C72
      exact J76_72 T5 h5 W5 E5 C5
    by_cases hc36_77 : sm = (2 : Int32)
    · refine Fi.by' (st' := s₁.setTop (mkF m 40 #[.val (.int p0), .val (.int p1), .val (.int p2), .val (.int p3), .val (.long p4), .second, .val (.int sk), .val (.int v1), .val (.int sm), .unset, .unset, .unset, .unset, .unset] [(.int p2)])) (fun t k => ?_) ?_
      · refine XS.icmpNo W0.here hx rfl (hb hby at_36) rfl (teq hc36_77).2 ?_
        refine XS.iloadN W0.here hx rfl (hb hby at_39) rfl ?_
        exact k
      refine W0.ldcI hx (ww hw (i := 0) rfl) (g := (mkF m 40 #[.val (.int p0), .val (.int p1), .val (.int p2), .val (.int p3), .val (.long p4), .second, .val (.int sk), .val (.int v1), .val (.int sm), .unset, .unset, .unset, .unset, .unset] [(.int p2)])) rfl (hb hby at_40) ?_
      change Fi _ _ _ _ _ _ _ _ _ _ (s₁.setTop (mkF m 42 #[.val (.int p0), .val (.int p1), .val (.int p2), .val (.int p3), .val (.long p4), .second, .val (.int sk), .val (.int v1), .val (.int sm), .unset, .unset, .unset, .unset, .unset] [(.int (2147483647 : Int32)), (.int p2)]))
      refine Fi.by' (st' := s₁.setTop (mkF m 70 #[.val (.int p0), .val (.int p1), .val (.int p2), .val (.int p3), .val (.long p4), .second, .val (.int sk), .val (.int v1), .val (.int sm), .val (.int ((p2 &&& (2147483647 : Int32)) - ((p2 &&& (2147483647 : Int32)) / v1) * v1)), .unset, .unset, .unset, .unset] [])) (fun t k => ?_) ?_
      · refine XS.iand W0.here hx rfl (hb hby at_42) rfl ?_
        refine XS.iload W0.here hx rfl (hb hby at_43) rfl ?_
        refine XS.irem W0.here hx rfl (hb hby at_45) rfl nzb ?_
        refine XS.istore W0.here hx rfl (hb hby at_46) rfl (l' := #[.val (.int p0), .val (.int p1), .val (.int p2), .val (.int p3), .val (.long p4), .second, .val (.int sk), .val (.int v1), .val (.int sm), .val (.int ((p2 &&& (2147483647 : Int32)) - ((p2 &&& (2147483647 : Int32)) / v1) * v1)), .unset, .unset, .unset, .unset]) rfl ?_
        refine XS.goto W0.here hx rfl (pc0 := 48) (pc' := 70) rfl (hb hby at_48) (by decide) (by decide) ?_
        exact k
      exact J36_4 _ (Or.inl ⟨hc36_77, rfl⟩)
    · refine Fi.by' (st' := s₁.setTop (mkF m 54 #[.val (.int p0), .val (.int p1), .val (.int p2), .val (.int p3), .val (.long p4), .second, .val (.int sk), .val (.int v1), .val (.int sm), .unset, .unset, .unset, .unset, .unset] [(.int (3 : Int32)), (.int sm)])) (fun t k => ?_) ?_
      · refine XS.icmpYes W0.here hx rfl (pc0 := 36) (pc' := 51) rfl (hb hby at_36) rfl (feq hc36_77).2 (by decide) (by decide) ?_
        refine XS.iload W0.here hx rfl (hb hby at_51) rfl ?_
        refine iconstZ W0.here hx rfl (hb hby at_53) (z := (3 : Int32)) rfl ?_
        exact k
      by_cases hc54_78 : sm = (3 : Int32)
      · refine Fi.by' (st' := s₁.setTop (mkF m 70 #[.val (.int p0), .val (.int p1), .val (.int p2), .val (.int p3), .val (.long p4), .second, .val (.int sk), .val (.int v1), .val (.int sm), .val (.int (v1 + (1 : Int32))), .unset, .unset, .unset, .unset] [])) (fun t k => ?_) ?_
        · refine XS.icmpNo W0.here hx rfl (hb hby at_54) rfl (teq hc54_78).2 ?_
          refine XS.iload W0.here hx rfl (hb hby at_57) rfl ?_
          refine iconstZ W0.here hx rfl (hb hby at_59) (z := (1 : Int32)) rfl ?_
          refine XS.iadd W0.here hx rfl (hb hby at_60) rfl ?_
          refine XS.istore W0.here hx rfl (hb hby at_61) rfl (l' := #[.val (.int p0), .val (.int p1), .val (.int p2), .val (.int p3), .val (.long p4), .second, .val (.int sk), .val (.int v1), .val (.int sm), .val (.int (v1 + (1 : Int32))), .unset, .unset, .unset, .unset]) rfl ?_
          refine XS.goto W0.here hx rfl (pc0 := 63) (pc' := 70) rfl (hb hby at_63) (by decide) (by decide) ?_
          exact k
        exact J36_4 _ (Or.inr (Or.inl ⟨hc36_77, hc54_78, rfl⟩))
      · refine Fi.by' (st' := s₁.setTop (mkF m 70 #[.val (.int p0), .val (.int p1), .val (.int p2), .val (.int p3), .val (.long p4), .second, .val (.int sk), .val (.int v1), .val (.int sm), .val (.int v1), .unset, .unset, .unset, .unset] [])) (fun t k => ?_) ?_
        · refine XS.icmpYes W0.here hx rfl (pc0 := 54) (pc' := 66) rfl (hb hby at_54) rfl (feq hc54_78).2 (by decide) (by decide) ?_
          refine XS.iload W0.here hx rfl (hb hby at_66) rfl ?_
          refine XS.istore W0.here hx rfl (hb hby at_68) rfl (l' := #[.val (.int p0), .val (.int p1), .val (.int p2), .val (.int p3), .val (.long p4), .second, .val (.int sk), .val (.int v1), .val (.int sm), .val (.int v1), .unset, .unset, .unset, .unset]) rfl ?_
          exact k
        exact J36_4 _ (Or.inr (Or.inr (⟨hc36_77, hc54_78, rfl⟩)))
  by_cases hc11_79 : sk = (2 : Int32)
  · refine Fi.by' (st' := s₁.setTop (mkF m 26 #[.val (.int p0), .val (.int p1), .val (.int p2), .val (.int p3), .val (.long p4), .second, .val (.int sk), .unset, .unset, .unset, .unset, .unset, .unset, .unset] [(.int (6 : Int32))])) (fun t k => ?_) ?_
    · refine XS.icmpYes W0.here hx rfl (pc0 := 11) (pc' := 20) rfl (hb hby at_11) rfl (teq hc11_79).1 (by decide) (by decide) ?_
      refine bipushZ W0.here hx rfl (hb hby at_20) (z := (6 : Int32)) rfl ?_
      refine XS.goto W0.here hx rfl (pc0 := 22) (pc' := 26) rfl (hb hby at_22) (by decide) (by decide) ?_
      exact k
    exact J11_2 _ (Or.inl ⟨hc11_79, rfl⟩)
  · refine Fi.by' (st' := s₁.setTop (mkF m 17 #[.val (.int p0), .val (.int p1), .val (.int p2), .val (.int p3), .val (.long p4), .second, .val (.int sk), .unset, .unset, .unset, .unset, .unset, .unset, .unset] [(.int (3 : Int32)), (.int sk)])) (fun t k => ?_) ?_
    · refine XS.icmpNo W0.here hx rfl (hb hby at_11) rfl (feq hc11_79).1 ?_
      refine XS.iload W0.here hx rfl (hb hby at_14) rfl ?_
      refine iconstZ W0.here hx rfl (hb hby at_16) (z := (3 : Int32)) rfl ?_
      exact k
    by_cases hc17_80 : sk = (3 : Int32)
    · refine Fi.by' (st' := s₁.setTop (mkF m 26 #[.val (.int p0), .val (.int p1), .val (.int p2), .val (.int p3), .val (.long p4), .second, .val (.int sk), .unset, .unset, .unset, .unset, .unset, .unset, .unset] [(.int (6 : Int32))])) (fun t k => ?_) ?_
      · refine XS.icmpNo W0.here hx rfl (hb hby at_17) rfl (teq hc17_80).2 ?_
        refine bipushZ W0.here hx rfl (hb hby at_20) (z := (6 : Int32)) rfl ?_
        refine XS.goto W0.here hx rfl (pc0 := 22) (pc' := 26) rfl (hb hby at_22) (by decide) (by decide) ?_
        exact k
      exact J11_2 _ (Or.inr (Or.inl ⟨hc11_79, hc17_80, rfl⟩))
    · refine Fi.by' (st' := s₁.setTop (mkF m 26 #[.val (.int p0), .val (.int p1), .val (.int p2), .val (.int p3), .val (.long p4), .second, .val (.int sk), .unset, .unset, .unset, .unset, .unset, .unset, .unset] [(.int (5 : Int32))])) (fun t k => ?_) ?_
      · refine XS.icmpYes W0.here hx rfl (pc0 := 17) (pc' := 25) rfl (hb hby at_17) rfl (feq hc17_80).2 (by decide) (by decide) ?_
        refine iconstZ W0.here hx rfl (hb hby at_25) (z := (5 : Int32)) rfl ?_
        exact k
      exact J11_2 _ (Or.inr (Or.inr (⟨hc11_79, hc17_80, rfl⟩)))
set_option maxRecDepth 65536 in
set_option maxHeartbeats 40000000 in
theorem comes_1 {Post : Tables → Env → Array Value → State → Outcome → State → Prop} (hpost : ∀ tb e args s v u, (limb_1_1.after args s (.returned v) u = true ∧ limb_1_2.after args s (.returned v) u = true ∧ True) → ReturnedEndW s (.returned v) u (Jvm.fieldLocs frame_1_writes args s ++ Jvm.arrayLocs frame_1_arrays args s ++ Jvm.staticLocs frame_1_statics s) 32 4224 → Post tb e args s (.returned v) u) :
    ArmFor flags0 classFile x code maxLocals ret World_1 tables_1 room_1 Calls_1 rest_1 Pre_1 Post := by
  intro l hfl _ _ p e ha hc hk s m args below hf hA hF happ hP
  obtain ⟨hcalls, hrest, hpre⟩ := hP
  obtain ⟨-, -, -, hnamed, -, -, -, hat⟩ := (Spec.applies_iff hf).mp happ
  obtain ⟨hg, hn⟩ := and_e (Cond.before_iff.mp (show (Jvm.Cond.and given_1 narrow_1).before args s = true from hpre))
  obtain ⟨g0a, g0b⟩ := and_e hg
  obtain ⟨g1a, g1b⟩ := and_e g0b
  obtain ⟨g2a, g2b⟩ := and_e g1b
  obtain ⟨g3a, g3b⟩ := and_e g2b
  obtain ⟨g4a, g4b⟩ := and_e g3b
  obtain ⟨w0, w1, w2, w3, w4, rfl⟩ : ∃ w0 w1 w2 w3 w4 : Value, args = #[w0, w1, w2, w3, w4] := by
    have hs : args.size = 5 := by simpa [Cond.value, given_1] using g0a
    obtain ⟨L⟩ := args
    match L, hs with
    | [w0, w1, w2, w3, w4], _ => exact ⟨w0, w1, w2, w3, w4, rfl⟩
  have hw := fun d (hd : d ∈ tables_1) => atoms_spec (ws := Jvm.Cond.code x code maxLocals ret :: tables_1) hat d (List.mem_cons_of_mem _ hd)
  have hfit : Fit s := fun {y c} hc i hi => by
    obtain ⟨ha, rfl⟩ := Array.getElem?_eq_some_iff.mp hc
    have q := List.all_eq_true.mp ((Array.all_eq_true_iff_forall_mem.mp hF) _ (Array.getElem_mem ha)) i (List.mem_range.mpr hi)
    simpa [Array.getElem?_eq_getElem hi] using q
  obtain ⟨hsets, hown0⟩ := atoms_of _ (rest_1_c_eq ▸ (show rest_1_c.before _ s = true from hrest))
  obtain ⟨i0, ei0⟩ := is_v g1a
  obtain rfl : w0 = (.int i0) := Option.some.inj ei0
  obtain ⟨i1, ei1⟩ := is_v g2a
  obtain rfl : w1 = (.int i1) := Option.some.inj ei1
  obtain ⟨i2, ei2⟩ := is_v g3a
  obtain rfl : w2 = (.int i2) := Option.some.inj ei2
  obtain ⟨i3, ei3⟩ := is_v g4a
  obtain rfl : w3 = (.int i3) := Option.some.inj ei3
  obtain ⟨i4, ei4⟩ := isL_v g4b
  obtain rfl : w4 = (.long i4) := Option.some.inj ei4
  obtain ⟨zc, ezc⟩ := is_v (Cond.before_iff.mp (hsets _ (List.mem_of_getElem? (i := 1) rfl)))
  have S0 : Sta s s.heap "java/lang/String" "COMPACT_STRINGS" "Z" (.int zc) := Sta.start ezc (Or.inl (hsets _ (List.mem_of_getElem? (i := 0) rfl)))
  have hz : ¬ zc = 0 := fun q => by
    have q1 := not_v (Cond.before_iff.mp (hsets _ (List.mem_of_getElem? (i := 2) rfl)))
    have q2 := eq_i ezc (Term.int_eval (0)) (by rw [q] : (Value.int zc) = .int 0)
    rw [q2] at q1; cases q1
  have hcw : Jvm.Lit.compactW.before _ s = true := hsets _ (List.mem_of_getElem? (i := 2) rfl)
  have H0 : CHv s EL s.vm s.heap := CHv.start (hEL hw) (fun q hq => hcalls.1 q hq) hcw (ww hw (i := 12) rfl) (ww hw (i := 11) rfl)
  obtain ⟨m0, hn⟩ := and_e hn
  obtain ⟨m1, hn⟩ := and_e hn
  obtain ⟨m2, hn⟩ := and_e hn
  obtain ⟨m3, hn⟩ := and_e hn
  obtain ⟨m4, hn⟩ := and_e hn
  obtain ⟨m5, hn⟩ := and_e hn
  obtain ⟨m6, hn⟩ := and_e hn
  obtain ⟨m7, hn⟩ := and_e hn
  obtain ⟨m8, hn⟩ := and_e hn
  obtain ⟨m9, hn⟩ := and_e hn
  obtain ⟨m10, hn⟩ := and_e hn
  obtain ⟨m11, hn⟩ := and_e hn
  obtain ⟨m12, hn⟩ := and_e hn
  obtain ⟨m13, hn⟩ := and_e hn
  obtain ⟨m14, hn⟩ := and_e hn
  obtain ⟨m15, hn⟩ := and_e hn
  obtain ⟨m16, hn⟩ := and_e hn
  obtain ⟨m17, hn⟩ := and_e hn
  obtain ⟨m18, hn⟩ := and_e hn
  obtain ⟨m19, hn⟩ := and_e hn
  obtain ⟨m20, hn⟩ := and_e hn
  obtain ⟨m21, hn⟩ := and_e hn
  obtain ⟨m22, hn⟩ := and_e hn
  obtain ⟨m23, hn⟩ := and_e hn
  obtain ⟨m24, hn⟩ := and_e hn
  obtain ⟨m25, hn⟩ := and_e hn
  obtain ⟨m26, hn⟩ := and_e hn
  obtain ⟨m27, hn⟩ := and_e hn
  obtain ⟨m28, hn⟩ := and_e hn
  obtain ⟨m29, hn⟩ := and_e hn
  obtain ⟨m30, hn⟩ := and_e hn
  obtain ⟨m31, hn⟩ := and_e hn
  obtain ⟨m32, hn⟩ := and_e hn
  obtain ⟨m33, hn⟩ := and_e hn
  obtain ⟨m34, hn⟩ := and_e hn
  obtain ⟨m35, hn⟩ := and_e hn
  have m36 := hn
  obtain ⟨va, eva⟩ := arr_v m0
  obtain ⟨clV, AV⟩ := Arr.start eva m0
  obtain ⟨lq1, lq2⟩ := len_start AV eva m2
  have X0 := Exa.start eva m1
  have V0 : Sta s s.heap "com/example/exact_roles/exactroles/credentials/Api" "$VALUES" "[Lcom/example/exact_roles/exactroles/credentials/Api;" (.ref va) := Sta.start eva (Or.inl (ww hw (i := 93) rfl))
  obtain ⟨er, eer⟩ := exa_v m3
  have Y1 : Sta s s.heap "com/example/exact_roles/exactroles/credentials/Api" "ROLES" "Lcom/example/exact_roles/exactroles/credentials/Api;" (.ref er) := Sta.start eer (Or.inr ⟨(ww hw (i := 76) rfl), (ww hw (i := 90) rfl)⟩)
  obtain ⟨n1, en1⟩ := exa_v m9
  have N1 : Fld s s.heap er "com/example/exact_roles/exactroles/credentials/Api" "name" "Ljava/lang/String;" (.ref n1) := Fld.start ((fld_at eer).symm.trans en1)
  have U1 : StrL s s.heap n1 (lits (textAt 9)) := strl_start hfit en1 m9 m10 m11 m12 (by decide +kernel) (by decide +kernel) (by rw [show (lits (textAt 9)).map low8 = [114, 111, 108, 101, 115] from by decide +kernel]; exact ⟨m21, m22, m23, m24, m25, trivial⟩)
  obtain ⟨eu, eeu⟩ := exa_v m5
  have Y2 : Sta s s.heap "com/example/exact_roles/exactroles/credentials/Api" "USERS" "Lcom/example/exact_roles/exactroles/credentials/Api;" (.ref eu) := Sta.start eeu (Or.inr ⟨(ww hw (i := 76) rfl), (ww hw (i := 91) rfl)⟩)
  obtain ⟨n2, en2⟩ := exa_v m13
  have N2 : Fld s s.heap eu "com/example/exact_roles/exactroles/credentials/Api" "name" "Ljava/lang/String;" (.ref n2) := Fld.start ((fld_at eeu).symm.trans en2)
  have U2 : StrL s s.heap n2 (lits (textAt 72)) := strl_start hfit en2 m13 m14 m15 m16 (by decide +kernel) (by decide +kernel) (by rw [show (lits (textAt 72)).map low8 = [117, 115, 101, 114, 115] from by decide +kernel]; exact ⟨m26, m27, m28, m29, m30, trivial⟩)
  obtain ⟨ec, eec⟩ := exa_v m7
  have Y3 : Sta s s.heap "com/example/exact_roles/exactroles/credentials/Api" "CHECKS" "Lcom/example/exact_roles/exactroles/credentials/Api;" (.ref ec) := Sta.start eec (Or.inr ⟨(ww hw (i := 76) rfl), (ww hw (i := 92) rfl)⟩)
  obtain ⟨n3, en3⟩ := exa_v m17
  have N3 : Fld s s.heap ec "com/example/exact_roles/exactroles/credentials/Api" "name" "Ljava/lang/String;" (.ref n3) := Fld.start ((fld_at eec).symm.trans en3)
  have U3 : StrL s s.heap n3 (lits (textAt 73)) := strl_start hfit en3 m17 m18 m19 m20 (by decide +kernel) (by decide +kernel) (by rw [show (lits (textAt 73)).map low8 = [99, 104, 101, 99, 107, 115] from by decide +kernel]; exact ⟨m31, m32, m33, m34, m35, m36, trivial⟩)
  have A0 : Arv s s.heap va clV.cls (.object "com/example/exact_roles/exactroles/credentials/Api") (3 : Int32) [.ref er, .ref eu, .ref ec] .null := Arv.start hfit AV lq1 lq2 (by decide) rfl ⟨el_start (i := 0) AV eva m4 eer (by decide), el_start (i := 1) AV eva m6 eeu (by decide), el_start (i := 2) AV eva m8 eec (by decide), trivial⟩
  obtain ⟨em, eem⟩ := exa_v (Cond.before_iff.mp (hsets _ (List.mem_of_getElem? (i := 11) rfl)))
  have M0 : Sta s s.heap "java/util/Optional" "EMPTY" "Ljava/util/Optional;" (.ref em) := Sta.start eem (Or.inl (hsets _ (List.mem_of_getElem? (i := 10) rfl)))
  have M1 := Exa.start eem (Cond.before_iff.mp (hsets _ (List.mem_of_getElem? (i := 11) rfl)))
  have M2 : Fld s s.heap em "java/util/Optional" "value" "Ljava/lang/Object;" .null := Fld.start ((fld_at eem).symm.trans (null_v (Cond.before_iff.mp (hsets _ (List.mem_of_getElem? (i := 12) rfl)))))
  obtain ⟨fm, efm, rf⟩ := isR_v (Cond.before_iff.mp (hsets _ (List.mem_of_getElem? (i := 8) rfl)))
  have G0 : Sta s s.heap "jdk/internal/util/Preconditions" "SIOOBE_FORMATTER" "Ljava/util/function/BiFunction;" fm := Sta.start efm (Or.inl (hsets _ (List.mem_of_getElem? (i := 7) rfl)))
  obtain ⟨n, o, h1, h2, h3, _, L, rfl, ⟨N, hv⟩, -, hq⟩ := rm_law l s _ hw  i0 i1 i2 i3 i4 va er eu ec n1 n2 n3 em clV.cls zc fm s.heap s.heap.size (Nat.le_refl _) S0 hz V0 A0 X0 N1 N2 N3 U1 U2 U3 M0 M1 M2 G0 rf Y1 Y2 Y3 p e ha hc hk s m _ below hf ((Spec.applies_iff_loose hf).mp happ).1 ⟨rfl, State.Warmed39.refl s, rfl, H0⟩ trivial
  obtain rfl := hv
  exact ⟨n, _, h1, h2, h3, hpost _ _ _ _ _ _ ⟨Cond.after_iff.mpr rfl, Cond.after_iff.mpr (eq_i res_at (Term.int_eval (1)) rfl), trivial⟩ ⟨hq.1, hq.2.1, hq.2.2.1, (hq.2.2.2.sift fun y hy => Or.inr (N y hy)).mono (by decide) (by decide)⟩⟩
theorem main_1_1 : Claimed_1_1 := comes_1 fun _ _ _ _ _ _ h hF => ⟨h.1, hF⟩
theorem main_1_2 : Claimed_1_2 := comes_1 fun _ _ _ _ _ _ h hF => ⟨h.2.1, hF⟩
end Jvm.Pilot.@@N@@
namespace Jvm.Pilot.@@N@@
open Jvm Jvm.ClassFile Sem Op Lib Jvm.Free Jvm.Stand Jvm.Pilot.@@N@@.Jvm.D
/-! MADE BY PROGRAM (witnessworld.py) out of the Statement's table words and the real class files: 24 classes; the members and pool entries that the words name. The judged class is class 1, her method 3. -/
namespace start1
open Jvm.ClassFile
def u (s : String) : CpInfo := .utf8 (stringToUtf16 s)
/-- a pool by its gaps: so many unusable entries, then the entry; so many at the end -/
def gap : Nat → List CpInfo → List CpInfo
  | 0, r => r
  | n + 1, r => .unusable :: gap n r
def poolList (es : List (Nat × CpInfo)) (last : Nat) : List CpInfo := es.foldr (fun e r => gap e.1 (e.2 :: r)) (gap last [])
def pool (es : List (Nat × CpInfo)) (last : Nat) : Array CpInfo := ⟨poolList es last⟩
def fileOf (pool : Array CpInfo) (this : Nat) (attrs : Array Attribute := #[]) (ms : Array MethodInfo := #[]) (fl : Nat := 33) (sup : Nat := 0) (ifs : Array Nat := #[]) (fds : Array FieldInfo := #[]) : ClassFile where
  minorVersion := 0
  majorVersion := 65
  constantPool := pool
  accessFlags := fl
  thisClass := this
  superClass := sup
  interfaces := ifs
  fields := fds
  methods := ms
  attributes := attrs
def plain (name : String) (sup : Option ClassId) : Class where
  name := name
  kind := .ordinary
  loader := none
  accessFlags := 33
  super := sup
  interfaces := #[]
  cf := none
  fields := #[]
  methods := #[]
  instanceTypes := #[]
  staticTypes := #[]
  resolved := #[]
  callSites := []
  init := .initialized
  statics := none
  mirror := none

def pool0 : Array CpInfo := pool [(5, u "<init>"), (0, u "()V"), (1, .class_ 10), (1, u "java/lang/Object"), (85, u "clone"), (0, u "()Ljava/lang/Object;")] 26

def k0c0 : Code := { maxStack := 0, maxLocals := 1, code := object_method_1_code, exceptionTable := #[], attributes := #[] }
def k0m0 : Method := { name := "<init>", desc := "()V", sig := { parameters := [], returnType := none }, accessFlags := 1, code := some k0c0 }
def k0m1 : Method := { name := "clone", desc := "()Ljava/lang/Object;", sig := { parameters := [], returnType := some (.object "java/lang/Object") }, accessFlags := 260, code := none }
/-- java/lang/Object -/
def k0 : Class := { plain "java/lang/Object" none with
  accessFlags := 33
  interfaces := #[]
  cf := some (fileOf pool0 8 #[] #[{ accessFlags := 1, nameIndex := 5, descriptorIndex := 6, attributes := #[] }, { accessFlags := 260, nameIndex := 96, descriptorIndex := 97, attributes := #[] }] 33 0 #[] #[])
  fields := #[]
  methods := #[k0m0, k0m1]
  instanceTypes := #[]
  staticTypes := #[]
  resolved := Array.replicate 124 none
  statics := none }

def pool1 : Array CpInfo := pool [(2, .class_ 4), (1, u "java/lang/Object"), (0, u "<init>"), (0, u "()V"), (0, .string 8), (0, u "roles"), (0, .methodref 10 11), (0, .class_ 12), (0, .nameAndType 13 14), (0, u "java/lang/String"), (0, u "charAt"), (0, u "(I)C"), (0, .string 16), (0, u "users"), (0, .string 18), (0, u "checks"), (0, .long 255), (1, .methodref 22 23), (0, .class_ 24), (0, .nameAndType 25 26), (0, u "com/example/exact_roles/exactroles/credentials/ApiNamedPinLaw"), (0, u "base"), (0, u "(IIJ)C"), (0, .integer 2147483647), (0, .methodref 22 29), (0, .nameAndType 30 31), (0, u "cell"), (0, u "(IIIIJ)C"), (0, .methodref 10 33), (0, .nameAndType 5 34), (0, u "([C)V"), (0, .methodref 10 36), (0, .nameAndType 37 38), (0, u "equals"), (0, u "(Ljava/lang/Object;)Z"), (0, .fieldref 40 41), (0, .class_ 42), (0, .nameAndType 43 44), (0, u "com/example/exact_roles/exactroles/credentials/Api"), (0, u "ROLES"), (0, u "Lcom/example/exact_roles/exactroles/credentials/Api;"), (0, .fieldref 40 46), (0, .nameAndType 47 44), (0, u "USERS"), (0, .fieldref 40 49), (0, .nameAndType 50 44), (0, u "CHECKS"), (0, .methodref 40 52), (0, .nameAndType 53 54), (0, u "named"), (0, u "(Ljava/lang/String;)Ljava/util/Optional;"), (0, .methodref 56 57), (0, .class_ 58), (0, .nameAndType 59 60), (0, u "java/util/Optional"), (0, u "isEmpty"), (0, u "()Z"), (0, .methodref 56 62), (0, .nameAndType 63 60), (0, u "isPresent"), (0, .methodref 56 65), (0, .nameAndType 66 67), (0, u "get"), (0, u "()Ljava/lang/Object;"), (3, u "law"), (0, u "(IIIIJ)Z")] 4

def k1m0 : Method := { name := "<init>", desc := "()V", sig := { parameters := [], returnType := none }, accessFlags := 1, code := none }
def k1c1 : Code := { maxStack := 4, maxLocals := 4, code := method_2_code, exceptionTable := #[], attributes := #[] }
def k1m1 : Method := { name := "base", desc := "(IIJ)C", sig := { parameters := [.int, .int, .long], returnType := some .char }, accessFlags := 10, code := some k1c1 }
def k1c2 : Code := { maxStack := 4, maxLocals := 6, code := method_3_code, exceptionTable := #[], attributes := #[] }
def k1m2 : Method := { name := "cell", desc := "(IIIIJ)C", sig := { parameters := [.int, .int, .int, .int, .long], returnType := some .char }, accessFlags := 10, code := some k1c2 }
def k1c3 : Code := { maxStack := 8, maxLocals := 14, code := code, exceptionTable := #[], attributes := #[] }
def k1m3 : Method := { name := "law", desc := "(IIIIJ)Z", sig := { parameters := [.int, .int, .int, .int, .long], returnType := some .boolean }, accessFlags := 9, code := some k1c3 }
/-- com/example/exact_roles/exactroles/credentials/ApiNamedPinLaw -/
def k1 : Class := { plain "com/example/exact_roles/exactroles/credentials/ApiNamedPinLaw" (some 0) with
  accessFlags := 49
  interfaces := #[]
  cf := some (fileOf pool1 22 #[] #[{ accessFlags := 1, nameIndex := 5, descriptorIndex := 6, attributes := #[] }, { accessFlags := 10, nameIndex := 25, descriptorIndex := 26, attributes := #[] }, { accessFlags := 10, nameIndex := 30, descriptorIndex := 31, attributes := #[] }, { accessFlags := 9, nameIndex := 71, descriptorIndex := 72, attributes := #[] }] 49 2 #[] #[])
  fields := #[]
  methods := #[k1m0, k1m1, k1m2, k1m3]
  instanceTypes := #[]
  staticTypes := #[]
  resolved := Array.replicate 77 none
  statics := none }

def pool2 : Array CpInfo := pool [(1, .class_ 2), (0, u "java/io/Serializable"), (0, .class_ 4), (0, u "java/lang/Object")] 2

/-- java/io/Serializable -/
def k2 : Class := { plain "java/io/Serializable" (some 0) with
  accessFlags := 1537
  interfaces := #[]
  cf := some (fileOf pool2 1 #[] #[] 1537 3 #[] #[])
  fields := #[]
  methods := #[]
  instanceTypes := #[]
  staticTypes := #[]
  resolved := Array.replicate 7 none
  statics := none }

def pool3 : Array CpInfo := pool [(1, .class_ 2), (0, u "java/lang/Comparable"), (0, .class_ 4), (0, u "java/lang/Object")] 7

/-- java/lang/Comparable -/
def k3 : Class := { plain "java/lang/Comparable" (some 0) with
  accessFlags := 1537
  interfaces := #[]
  cf := some (fileOf pool3 1 #[] #[] 1537 3 #[] #[])
  fields := #[]
  methods := #[]
  instanceTypes := #[]
  staticTypes := #[]
  resolved := Array.replicate 12 none
  statics := none }

def pool4 : Array CpInfo := pool [(2, .class_ 4), (1, u "java/lang/CharSequence"), (42, .class_ 48), (0, u "java/lang/CharSequence$1CodePointIterator"), (10, .class_ 60), (0, u "java/lang/CharSequence$1CharIterator"), (5, .class_ 67), (0, u "java/lang/Object")] 63

/-- java/lang/CharSequence -/
def k4 : Class := { plain "java/lang/CharSequence" (some 0) with
  accessFlags := 1537
  interfaces := #[]
  cf := some (fileOf pool4 2 #[.nestMembers #[47, 59]] #[] 1537 66 #[] #[])
  fields := #[]
  methods := #[]
  instanceTypes := #[]
  staticTypes := #[]
  resolved := Array.replicate 131 none
  statics := none }

def pool5 : Array CpInfo := pool [(1, .class_ 2), (0, u "java/lang/constant/Constable"), (0, .class_ 4), (0, u "java/lang/Object")] 6

/-- java/lang/constant/Constable -/
def k5 : Class := { plain "java/lang/constant/Constable" (some 0) with
  accessFlags := 1537
  interfaces := #[]
  cf := some (fileOf pool5 1 #[] #[] 1537 3 #[] #[])
  fields := #[]
  methods := #[]
  instanceTypes := #[]
  staticTypes := #[]
  resolved := Array.replicate 11 none
  statics := none }

def pool6 : Array CpInfo := pool [(1, .class_ 2), (0, u "java/lang/constant/ConstantDesc"), (0, .class_ 4), (0, u "java/lang/Object")] 32

/-- java/lang/constant/ConstantDesc -/
def k6 : Class := { plain "java/lang/constant/ConstantDesc" (some 0) with
  accessFlags := 1537
  interfaces := #[]
  cf := some (fileOf pool6 1 #[] #[] 1537 3 #[] #[])
  fields := #[]
  methods := #[]
  instanceTypes := #[]
  staticTypes := #[]
  resolved := Array.replicate 37 none
  statics := none }

def pool7 : Array CpInfo := pool [(1, .methodref 2 3), (0, .class_ 4), (0, .nameAndType 5 6), (0, u "java/lang/Object"), (0, u "<init>"), (0, u "()V"), (0, .string 8), (0, u ""), (0, .fieldref 10 11), (0, .class_ 12), (0, .nameAndType 13 14), (0, u "java/lang/String"), (0, u "value"), (0, u "[B"), (0, .fieldref 10 16), (0, .nameAndType 17 18), (0, u "coder"), (0, u "B"), (2, u "hash"), (0, u "I"), (2, u "hashIsZero"), (0, u "Z"), (0, .methodref 10 28), (0, .nameAndType 5 29), (0, u "([CIILjava/lang/Void;)V"), (8, .fieldref 10 39), (0, .nameAndType 40 26), (0, u "COMPACT_STRINGS"), (1, .class_ 44), (1, u "java/lang/StringUTF16"), (0, u "compress"), (1, .methodref 42 48), (0, .nameAndType 49 50), (0, u "coderFromArrayLen"), (0, u "([BI)B"), (56, .class_ 109), (1, u "java/lang/StringLatin1"), (32, u "()Z"), (34, .methodref 42 178), (0, .nameAndType 45 179), (0, u "([CII)[B"), (183, u "([BI)C"), (27, u "(II)V"), (35, u "(I)C"), (64, .methodref 10 493), (0, .nameAndType 494 142), (0, u "isLatin1"), (0, .methodref 107 496), (0, .nameAndType 497 363), (0, u "charAt"), (3, u "checkIndex"), (39, .methodref 107 542), (0, .nameAndType 543 544), (0, u "equals"), (0, u "([B[B)Z"), (28, u "(Ljava/lang/Object;)Z"), (1, .class_ 576), (0, u "java/lang/CharSequence"), (22, u "CASE_INSENSITIVE_ORDER"), (0, u "Ljava/util/Comparator;"), (409, u "([C)V"), (42, .fieldref 1054 1055), (0, .class_ 1056), (0, .nameAndType 1057 1058), (0, u "jdk/internal/util/Preconditions"), (0, u "SIOOBE_FORMATTER"), (0, u "Ljava/util/function/BiFunction;"), (0, .methodref 1054 1060), (0, .nameAndType 501 1061), (0, u "(IILjava/util/function/BiFunction;)I"), (39, u "serialPersistentFields"), (0, u "[Ljava/io/ObjectStreamField;"), (0, .class_ 1104), (0, u "java/lang/String$CaseInsensitiveComparator"), (1, .class_ 1107), (0, u "java/io/Serializable"), (0, .class_ 1109), (0, u "java/lang/Comparable"), (0, .class_ 1111), (0, u "java/lang/constant/Constable"), (0, .class_ 1113), (0, u "java/lang/constant/ConstantDesc"), (2, u "serialVersionUID"), (0, u "J"), (3, u "REPL"), (0, u "C"), (2, u "LATIN1"), (1, u "UTF16")] 323

def k7m0 : Method := { name := "<init>", desc := "()V", sig := { parameters := [], returnType := none }, accessFlags := 1, code := none }
def k7c1 : Code := { maxStack := 5, maxLocals := 2, code := jdk_42_method_3_code, exceptionTable := #[], attributes := #[] }
def k7m1 : Method := { name := "<init>", desc := "([C)V", sig := { parameters := [(.array .char)], returnType := none }, accessFlags := 1, code := some k7c1 }
def k7c2 : Code := { maxStack := 2, maxLocals := 2, code := jdk_42_method_56_code, exceptionTable := #[], attributes := #[] }
def k7m2 : Method := { name := "charAt", desc := "(I)C", sig := { parameters := [.int], returnType := some .char }, accessFlags := 1, code := some k7c2 }
def k7c3 : Code := { maxStack := 2, maxLocals := 3, code := jdk_42_method_66_code, exceptionTable := #[], attributes := #[] }
def k7m3 : Method := { name := "equals", desc := "(Ljava/lang/Object;)Z", sig := { parameters := [(.object "java/lang/Object")], returnType := some .boolean }, accessFlags := 1, code := some k7c3 }
def k7c4 : Code := { maxStack := 4, maxLocals := 6, code := jdk_42_method_149_code, exceptionTable := #[], attributes := #[] }
def k7m4 : Method := { name := "<init>", desc := "([CIILjava/lang/Void;)V", sig := { parameters := [(.array .char), .int, .int, (.object "java/lang/Void")], returnType := none }, accessFlags := 2, code := some k7c4 }
def k7c5 : Code := { maxStack := 1, maxLocals := 1, code := jdk_42_method_154_code, exceptionTable := #[], attributes := #[] }
def k7m5 : Method := { name := "isLatin1", desc := "()Z", sig := { parameters := [], returnType := some .boolean }, accessFlags := 0, code := some k7c5 }
def k7c6 : Code := { maxStack := 3, maxLocals := 2, code := jdk_42_method_155_code, exceptionTable := #[], attributes := #[] }
def k7m6 : Method := { name := "checkIndex", desc := "(II)V", sig := { parameters := [.int, .int], returnType := none }, accessFlags := 8, code := some k7c6 }
/-- java/lang/String -/
def k7 : Class := { plain "java/lang/String" (some 0) with
  accessFlags := 49
  interfaces := #[2, 3, 4, 5, 6]
  cf := some (fileOf pool7 10 #[.nestMembers #[1103]] #[{ accessFlags := 1, nameIndex := 5, descriptorIndex := 6, attributes := #[] }, { accessFlags := 1, nameIndex := 5, descriptorIndex := 1010, attributes := #[] }, { accessFlags := 1, nameIndex := 497, descriptorIndex := 427, attributes := #[] }, { accessFlags := 1, nameIndex := 543, descriptorIndex := 573, attributes := #[] }, { accessFlags := 2, nameIndex := 5, descriptorIndex := 29, attributes := #[] }, { accessFlags := 0, nameIndex := 494, descriptorIndex := 142, attributes := #[] }, { accessFlags := 8, nameIndex := 501, descriptorIndex := 391, attributes := #[] }] 49 2 #[1106, 1108, 575, 1110, 1112] #[{ accessFlags := 18, nameIndex := 13, descriptorIndex := 14, attributes := #[] }, { accessFlags := 18, nameIndex := 17, descriptorIndex := 18, attributes := #[] }, { accessFlags := 2, nameIndex := 21, descriptorIndex := 22, attributes := #[] }, { accessFlags := 2, nameIndex := 25, descriptorIndex := 26, attributes := #[] }, { accessFlags := 26, nameIndex := 1116, descriptorIndex := 1117, attributes := #[] }, { accessFlags := 24, nameIndex := 40, descriptorIndex := 26, attributes := #[] }, { accessFlags := 26, nameIndex := 1101, descriptorIndex := 1102, attributes := #[] }, { accessFlags := 26, nameIndex := 1121, descriptorIndex := 1122, attributes := #[] }, { accessFlags := 25, nameIndex := 599, descriptorIndex := 600, attributes := #[] }, { accessFlags := 24, nameIndex := 1125, descriptorIndex := 18, attributes := #[] }, { accessFlags := 24, nameIndex := 1127, descriptorIndex := 18, attributes := #[] }])
  fields := #[{ name := "value", type := (.array .byte), accessFlags := 18, slot := 0, constantValue := 0 }, { name := "coder", type := .byte, accessFlags := 18, slot := 1, constantValue := 0 }, { name := "hash", type := .int, accessFlags := 2, slot := 2, constantValue := 0 }, { name := "hashIsZero", type := .boolean, accessFlags := 2, slot := 3, constantValue := 0 }, { name := "serialVersionUID", type := .long, accessFlags := 26, slot := 0, constantValue := 0 }, { name := "COMPACT_STRINGS", type := .boolean, accessFlags := 24, slot := 1, constantValue := 0 }, { name := "serialPersistentFields", type := (.array (.object "java/io/ObjectStreamField")), accessFlags := 26, slot := 2, constantValue := 0 }, { name := "REPL", type := .char, accessFlags := 26, slot := 3, constantValue := 0 }, { name := "CASE_INSENSITIVE_ORDER", type := (.object "java/util/Comparator"), accessFlags := 25, slot := 4, constantValue := 0 }, { name := "LATIN1", type := .byte, accessFlags := 24, slot := 5, constantValue := 0 }, { name := "UTF16", type := .byte, accessFlags := 24, slot := 6, constantValue := 0 }]
  methods := #[k7m0, k7m1, k7m2, k7m3, k7m4, k7m5, k7m6]
  instanceTypes := #[(.array .byte), .byte, .int, .boolean]
  staticTypes := #[.long, .boolean, (.array (.object "java/io/ObjectStreamField")), .char, (.object "java/util/Comparator"), .byte, .byte]
  resolved := Array.replicate 1451 none
  statics := some 0 }

def pool8 : Array CpInfo := pool [(1, .class_ 2), (0, u "java/lang/String"), (1, .class_ 6), (1, u "java/lang/Object"), (0, u "<init>"), (0, u "()V"), (0, .methodref 1 10), (0, .nameAndType 11 12), (0, u "checkIndex"), (0, u "(II)V"), (1, .class_ 16), (1, u "java/lang/StringLatin1"), (36, u "([BI)C"), (67, u "$assertionsDisabled"), (0, u "Z"), (98, .class_ 223), (1, u "java/lang/StringLatin1$LinesSpliterator"), (28, u "charAt"), (28, u "equals"), (0, u "([B[B)Z"), (107, .class_ 391), (0, u "java/lang/StringLatin1$CharsSpliterator")] 3

def k8m0 : Method := { name := "<init>", desc := "()V", sig := { parameters := [], returnType := none }, accessFlags := 0, code := none }
def k8c1 : Code := { maxStack := 2, maxLocals := 2, code := jdk_43_method_2_code, exceptionTable := #[], attributes := #[] }
def k8m1 : Method := { name := "charAt", desc := "([BI)C", sig := { parameters := [(.array .byte), .int], returnType := some .char }, accessFlags := 9, code := some k8c1 }
def k8c2 : Code := { maxStack := 3, maxLocals := 3, code := jdk_43_method_13_code, exceptionTable := #[], attributes := #[] }
def k8m2 : Method := { name := "equals", desc := "([B[B)Z", sig := { parameters := [(.array .byte), (.array .byte)], returnType := some .boolean }, accessFlags := 9, code := some k8c2 }
/-- java/lang/StringLatin1 -/
def k8 : Class := { plain "java/lang/StringLatin1" (some 0) with
  accessFlags := 48
  interfaces := #[]
  cf := some (fileOf pool8 14 #[.nestMembers #[390, 221]] #[{ accessFlags := 0, nameIndex := 7, descriptorIndex := 8, attributes := #[] }, { accessFlags := 9, nameIndex := 252, descriptorIndex := 53, attributes := #[] }, { accessFlags := 9, nameIndex := 281, descriptorIndex := 282, attributes := #[] }] 48 4 #[] #[{ accessFlags := 4120, nameIndex := 121, descriptorIndex := 122, attributes := #[] }])
  fields := #[{ name := "$assertionsDisabled", type := .boolean, accessFlags := 4120, slot := 0, constantValue := 0 }]
  methods := #[k8m0, k8m1, k8m2]
  instanceTypes := #[]
  staticTypes := #[.boolean]
  resolved := Array.replicate 395 none
  statics := none }

def pool9 : Array CpInfo := pool [(2, .class_ 4), (1, u "java/lang/Object"), (0, u "<init>"), (0, u "()V"), (17, .class_ 26), (1, u "jdk/internal/util/Preconditions"), (6, u "checkIndex"), (21, .class_ 56), (0, u "jdk/internal/util/Preconditions$4"), (57, .class_ 115), (0, u "jdk/internal/util/Preconditions$1"), (7, u "SIOOBE_FORMATTER"), (0, u "Ljava/util/function/BiFunction;"), (0, .class_ 126), (0, u "jdk/internal/util/Preconditions$2"), (3, u "AIOOBE_FORMATTER"), (0, .class_ 132), (0, u "jdk/internal/util/Preconditions$3"), (3, u "IOOBE_FORMATTER"), (41, u "(IILjava/util/function/BiFunction;)I")] 15

def k9m0 : Method := { name := "<init>", desc := "()V", sig := { parameters := [], returnType := none }, accessFlags := 1, code := none }
def k9c1 : Code := { maxStack := 3, maxLocals := 3, code := jdk_41_method_11_code, exceptionTable := #[], attributes := #[] }
def k9m1 : Method := { name := "checkIndex", desc := "(IILjava/util/function/BiFunction;)I", sig := { parameters := [.int, .int, (.object "java/util/function/BiFunction")], returnType := some .int }, accessFlags := 9, code := some k9c1 }
/-- jdk/internal/util/Preconditions -/
def k9 : Class := { plain "jdk/internal/util/Preconditions" (some 0) with
  accessFlags := 33
  interfaces := #[]
  cf := some (fileOf pool9 24 #[.nestMembers #[55, 131, 125, 114]] #[{ accessFlags := 1, nameIndex := 5, descriptorIndex := 6, attributes := #[] }, { accessFlags := 9, nameIndex := 33, descriptorIndex := 178, attributes := #[] }] 33 2 #[] #[{ accessFlags := 25, nameIndex := 123, descriptorIndex := 124, attributes := #[] }, { accessFlags := 25, nameIndex := 130, descriptorIndex := 124, attributes := #[] }, { accessFlags := 25, nameIndex := 136, descriptorIndex := 124, attributes := #[] }])
  fields := #[{ name := "SIOOBE_FORMATTER", type := (.object "java/util/function/BiFunction"), accessFlags := 25, slot := 0, constantValue := 0 }, { name := "AIOOBE_FORMATTER", type := (.object "java/util/function/BiFunction"), accessFlags := 25, slot := 1, constantValue := 0 }, { name := "IOOBE_FORMATTER", type := (.object "java/util/function/BiFunction"), accessFlags := 25, slot := 2, constantValue := 0 }]
  methods := #[k9m0, k9m1]
  instanceTypes := #[]
  staticTypes := #[(.object "java/util/function/BiFunction"), (.object "java/util/function/BiFunction"), (.object "java/util/function/BiFunction")]
  resolved := Array.replicate 194 none
  statics := some 1 }

def pool10 : Array CpInfo := pool [(6, .class_ 8), (1, u "java/lang/Object"), (0, u "<init>"), (0, u "()V"), (1, .class_ 14), (1, u "java/lang/StringUTF16"), (31, u "$assertionsDisabled"), (0, u "Z"), (13, u "HI_BYTE_SHIFT"), (0, u "I"), (2, u "LO_BYTE_SHIFT"), (49, .methodref 12 116), (0, .nameAndType 117 118), (0, u "compress"), (0, u "([CI[BII)I"), (3, u "([CII)[B"), (138, u "coderFromArrayLen"), (0, u "([BI)B"), (106, .class_ 371), (1, u "java/lang/StringUTF16$LinesSpliterator"), (58, u "MAX_LENGTH"), (196, .class_ 628), (0, u "java/lang/StringUTF16$CodePointsSpliterator"), (0, .class_ 630), (0, u "java/lang/StringUTF16$CharsSpliterator")] 4

def k10m0 : Method := { name := "<init>", desc := "()V", sig := { parameters := [], returnType := none }, accessFlags := 0, code := none }
def k10c1 : Code := { maxStack := 2, maxLocals := 2, code := jdk_52_method_15_code, exceptionTable := #[], attributes := #[] }
def k10m1 : Method := { name := "coderFromArrayLen", desc := "([BI)B", sig := { parameters := [(.array .byte), .int], returnType := some .byte }, accessFlags := 8, code := some k10c1 }
def k10c2 : Code := { maxStack := 5, maxLocals := 6, code := jdk_52_method_16_code, exceptionTable := #[], attributes := #[] }
def k10m2 : Method := { name := "compress", desc := "([CII)[B", sig := { parameters := [(.array .char), .int, .int], returnType := some (.array .byte) }, accessFlags := 9, code := some k10c2 }
def k10c3 : Code := { maxStack := 3, maxLocals := 7, code := jdk_52_method_21_code, exceptionTable := #[], attributes := #[] }
def k10m3 : Method := { name := "compress", desc := "([CI[BII)I", sig := { parameters := [(.array .char), .int, (.array .byte), .int, .int], returnType := some .int }, accessFlags := 9, code := some k10c3 }
/-- java/lang/StringUTF16 -/
def k10 : Class := { plain "java/lang/StringUTF16" (some 0) with
  accessFlags := 48
  interfaces := #[]
  cf := some (fileOf pool10 12 #[.nestMembers #[627, 629, 369]] #[{ accessFlags := 0, nameIndex := 9, descriptorIndex := 10, attributes := #[] }, { accessFlags := 8, nameIndex := 261, descriptorIndex := 262, attributes := #[] }, { accessFlags := 9, nameIndex := 117, descriptorIndex := 122, attributes := #[] }, { accessFlags := 9, nameIndex := 117, descriptorIndex := 118, attributes := #[] }] 48 6 #[] #[{ accessFlags := 26, nameIndex := 61, descriptorIndex := 62, attributes := #[] }, { accessFlags := 26, nameIndex := 65, descriptorIndex := 62, attributes := #[] }, { accessFlags := 24, nameIndex := 430, descriptorIndex := 62, attributes := #[] }, { accessFlags := 4120, nameIndex := 46, descriptorIndex := 47, attributes := #[] }])
  fields := #[{ name := "HI_BYTE_SHIFT", type := .int, accessFlags := 26, slot := 0, constantValue := 0 }, { name := "LO_BYTE_SHIFT", type := .int, accessFlags := 26, slot := 1, constantValue := 0 }, { name := "MAX_LENGTH", type := .int, accessFlags := 24, slot := 2, constantValue := 0 }, { name := "$assertionsDisabled", type := .boolean, accessFlags := 4120, slot := 3, constantValue := 0 }]
  methods := #[k10m0, k10m1, k10m2, k10m3]
  instanceTypes := #[]
  staticTypes := #[.int, .int, .int, .boolean]
  resolved := Array.replicate 635 none
  statics := none }

def pool11 : Array CpInfo := pool [(2, .class_ 4), (1, u "java/lang/Enum"), (0, u "name"), (0, u "Ljava/lang/String;"), (2, u "ordinal"), (0, u "I"), (1, .class_ 14), (1, u "java/lang/Object"), (4, u "hash"), (86, .class_ 108), (1, u "java/lang/Enum$EnumDesc"), (2, .class_ 112), (0, u "java/lang/constant/Constable"), (0, .class_ 114), (0, u "java/lang/Comparable"), (0, .class_ 116), (0, u "java/io/Serializable")] 87

/-- java/lang/Enum -/
def k11 : Class := { plain "java/lang/Enum" (some 0) with
  accessFlags := 1057
  interfaces := #[5, 3, 2]
  cf := some (fileOf pool11 2 #[.nestMembers #[106]] #[] 1057 12 #[111, 113, 115] #[{ accessFlags := 18, nameIndex := 5, descriptorIndex := 6, attributes := #[] }, { accessFlags := 18, nameIndex := 9, descriptorIndex := 10, attributes := #[] }, { accessFlags := 2, nameIndex := 19, descriptorIndex := 10, attributes := #[] }])
  fields := #[{ name := "name", type := (.object "java/lang/String"), accessFlags := 18, slot := 0, constantValue := 0 }, { name := "ordinal", type := .int, accessFlags := 18, slot := 1, constantValue := 0 }, { name := "hash", type := .int, accessFlags := 2, slot := 2, constantValue := 0 }]
  methods := #[]
  instanceTypes := #[(.object "java/lang/String"), .int, .int]
  staticTypes := #[]
  resolved := Array.replicate 204 none
  statics := none }

def pool12 : Array CpInfo := pool [(1, .class_ 2), (0, u "com/example/exact_roles/exactroles/credentials/Api"), (2, u "ROLES"), (0, u "Lcom/example/exact_roles/exactroles/credentials/Api;"), (2, u "USERS"), (2, u "CHECKS"), (0, .fieldref 1 14), (0, .nameAndType 15 16), (0, u "$VALUES"), (0, u "[Lcom/example/exact_roles/exactroles/credentials/Api;"), (0, .methodref 18 19), (0, .class_ 16), (0, .nameAndType 20 21), (0, u "clone"), (0, u "()Ljava/lang/Object;"), (1, .class_ 25), (1, u "java/lang/Enum"), (6, .fieldref 1 33), (0, .nameAndType 34 35), (0, u "name"), (0, u "Ljava/lang/String;"), (0, .methodref 1 37), (0, .nameAndType 38 39), (0, u "values"), (0, u "()[Lcom/example/exact_roles/exactroles/credentials/Api;"), (0, .methodref 41 42), (0, .class_ 43), (0, .nameAndType 44 45), (0, u "java/lang/String"), (0, u "equals"), (0, u "(Ljava/lang/Object;)Z"), (0, .methodref 47 48), (0, .class_ 49), (0, .nameAndType 50 51), (0, u "java/util/Optional"), (0, u "of"), (0, u "(Ljava/lang/Object;)Ljava/util/Optional;"), (0, .methodref 47 53), (0, .nameAndType 54 55), (0, u "empty"), (0, u "()Ljava/util/Optional;"), (23, u "named"), (0, u "(Ljava/lang/String;)Ljava/util/Optional;")] 7

def k12c0 : Code := { maxStack := 1, maxLocals := 0, code := prog_2_method_1_code, exceptionTable := #[], attributes := #[] }
def k12m0 : Method := { name := "values", desc := "()[Lcom/example/exact_roles/exactroles/credentials/Api;", sig := { parameters := [], returnType := some (.array (.object "com/example/exact_roles/exactroles/credentials/Api")) }, accessFlags := 9, code := some k12c0 }
def k12c1 : Code := { maxStack := 2, maxLocals := 5, code := prog_2_method_5_code, exceptionTable := #[], attributes := #[] }
def k12m1 : Method := { name := "named", desc := "(Ljava/lang/String;)Ljava/util/Optional;", sig := { parameters := [(.object "java/lang/String")], returnType := some (.object "java/util/Optional") }, accessFlags := 9, code := some k12c1 }
/-- com/example/exact_roles/exactroles/credentials/Api -/
def k12 : Class := { plain "com/example/exact_roles/exactroles/credentials/Api" (some 11) with
  accessFlags := 16433
  interfaces := #[]
  cf := some (fileOf pool12 1 #[] #[{ accessFlags := 9, nameIndex := 38, descriptorIndex := 39, attributes := #[] }, { accessFlags := 9, nameIndex := 79, descriptorIndex := 80, attributes := #[] }] 16433 23 #[] #[{ accessFlags := 16409, nameIndex := 5, descriptorIndex := 6, attributes := #[] }, { accessFlags := 16409, nameIndex := 9, descriptorIndex := 6, attributes := #[] }, { accessFlags := 16409, nameIndex := 12, descriptorIndex := 6, attributes := #[] }, { accessFlags := 18, nameIndex := 34, descriptorIndex := 35, attributes := #[] }, { accessFlags := 4122, nameIndex := 15, descriptorIndex := 16, attributes := #[] }])
  fields := #[{ name := "ROLES", type := (.object "com/example/exact_roles/exactroles/credentials/Api"), accessFlags := 16409, slot := 0, constantValue := 0 }, { name := "USERS", type := (.object "com/example/exact_roles/exactroles/credentials/Api"), accessFlags := 16409, slot := 1, constantValue := 0 }, { name := "CHECKS", type := (.object "com/example/exact_roles/exactroles/credentials/Api"), accessFlags := 16409, slot := 2, constantValue := 0 }, { name := "name", type := (.object "java/lang/String"), accessFlags := 18, slot := 3, constantValue := 0 }, { name := "$VALUES", type := (.array (.object "com/example/exact_roles/exactroles/credentials/Api")), accessFlags := 4122, slot := 3, constantValue := 0 }]
  methods := #[k12m0, k12m1]
  instanceTypes := #[(.object "java/lang/String"), .int, .int, (.object "java/lang/String")]
  staticTypes := #[(.object "com/example/exact_roles/exactroles/credentials/Api"), (.object "com/example/exact_roles/exactroles/credentials/Api"), (.object "com/example/exact_roles/exactroles/credentials/Api"), (.array (.object "com/example/exact_roles/exactroles/credentials/Api"))]
  resolved := Array.replicate 88 none
  statics := some 2 }

def pool13 : Array CpInfo := pool [(1, .class_ 2), (0, u "java/lang/Cloneable"), (0, .class_ 4), (0, u "java/lang/Object")] 2

/-- java/lang/Cloneable -/
def k13 : Class := { plain "java/lang/Cloneable" (some 0) with
  accessFlags := 1537
  interfaces := #[]
  cf := some (fileOf pool13 1 #[] #[] 1537 3 #[] #[])
  fields := #[]
  methods := #[]
  instanceTypes := #[]
  staticTypes := #[]
  resolved := Array.replicate 7 none
  statics := none }

def pool14 : Array CpInfo := pool [(1, .fieldref 2 3), (0, .class_ 4), (0, .nameAndType 5 6), (0, u "java/util/Optional"), (0, u "EMPTY"), (0, u "Ljava/util/Optional;"), (0, .methodref 8 9), (0, .class_ 10), (0, .nameAndType 11 12), (0, u "java/lang/Object"), (0, u "<init>"), (0, u "()V"), (0, .fieldref 2 14), (0, .nameAndType 15 16), (0, u "value"), (0, u "Ljava/lang/Object;"), (0, .methodref 18 19), (0, .class_ 20), (0, .nameAndType 21 22), (0, u "java/util/Objects"), (0, u "requireNonNull"), (0, u "(Ljava/lang/Object;)Ljava/lang/Object;"), (0, .methodref 2 24), (0, .nameAndType 11 25), (0, u "(Ljava/lang/Object;)V"), (19, u "isEmpty"), (0, u "()Z"), (8, u "empty"), (0, u "()Ljava/util/Optional;"), (8, u "(Ljava/lang/Object;)Ljava/util/Optional;"), (2, u "isPresent"), (4, u "get"), (0, u "()Ljava/lang/Object;"), (7, u "of")] 104

def k14c0 : Code := { maxStack := 1, maxLocals := 1, code := jdk_32_method_1_code, exceptionTable := #[], attributes := #[] }
def k14m0 : Method := { name := "empty", desc := "()Ljava/util/Optional;", sig := { parameters := [], returnType := some (.object "java/util/Optional") }, accessFlags := 9, code := some k14c0 }
def k14c1 : Code := { maxStack := 2, maxLocals := 2, code := jdk_32_method_2_code, exceptionTable := #[], attributes := #[] }
def k14m1 : Method := { name := "<init>", desc := "(Ljava/lang/Object;)V", sig := { parameters := [(.object "java/lang/Object")], returnType := none }, accessFlags := 2, code := some k14c1 }
def k14c2 : Code := { maxStack := 3, maxLocals := 1, code := jdk_32_method_3_code, exceptionTable := #[], attributes := #[] }
def k14m2 : Method := { name := "of", desc := "(Ljava/lang/Object;)Ljava/util/Optional;", sig := { parameters := [(.object "java/lang/Object")], returnType := some (.object "java/util/Optional") }, accessFlags := 9, code := some k14c2 }
def k14c3 : Code := { maxStack := 3, maxLocals := 1, code := jdk_32_method_5_code, exceptionTable := #[], attributes := #[] }
def k14m3 : Method := { name := "get", desc := "()Ljava/lang/Object;", sig := { parameters := [], returnType := some (.object "java/lang/Object") }, accessFlags := 1, code := some k14c3 }
def k14c4 : Code := { maxStack := 1, maxLocals := 1, code := jdk_32_method_6_code, exceptionTable := #[], attributes := #[] }
def k14m4 : Method := { name := "isPresent", desc := "()Z", sig := { parameters := [], returnType := some .boolean }, accessFlags := 1, code := some k14c4 }
def k14c5 : Code := { maxStack := 1, maxLocals := 1, code := jdk_32_method_7_code, exceptionTable := #[], attributes := #[] }
def k14m5 : Method := { name := "isEmpty", desc := "()Z", sig := { parameters := [], returnType := some .boolean }, accessFlags := 1, code := some k14c5 }
/-- java/util/Optional -/
def k14 : Class := { plain "java/util/Optional" (some 0) with
  accessFlags := 49
  interfaces := #[]
  cf := some (fileOf pool14 2 #[] #[{ accessFlags := 9, nameIndex := 55, descriptorIndex := 56, attributes := #[] }, { accessFlags := 2, nameIndex := 11, descriptorIndex := 25, attributes := #[] }, { accessFlags := 9, nameIndex := 82, descriptorIndex := 65, attributes := #[] }, { accessFlags := 1, nameIndex := 73, descriptorIndex := 74, attributes := #[] }, { accessFlags := 1, nameIndex := 68, descriptorIndex := 46, attributes := #[] }, { accessFlags := 1, nameIndex := 45, descriptorIndex := 46, attributes := #[] }] 49 8 #[] #[{ accessFlags := 26, nameIndex := 5, descriptorIndex := 6, attributes := #[] }, { accessFlags := 18, nameIndex := 15, descriptorIndex := 16, attributes := #[] }])
  fields := #[{ name := "EMPTY", type := (.object "java/util/Optional"), accessFlags := 26, slot := 0, constantValue := 0 }, { name := "value", type := (.object "java/lang/Object"), accessFlags := 18, slot := 0, constantValue := 0 }]
  methods := #[k14m0, k14m1, k14m2, k14m3, k14m4, k14m5]
  instanceTypes := #[(.object "java/lang/Object")]
  staticTypes := #[(.object "java/util/Optional")]
  resolved := Array.replicate 187 none
  statics := some 3 }

def pool15 : Array CpInfo := pool [(2, .class_ 4), (1, u "java/lang/Object"), (0, u "<init>"), (0, u "()V"), (35, .class_ 44), (1, u "java/util/Objects"), (0, u "requireNonNull"), (0, u "(Ljava/lang/Object;)Ljava/lang/Object;")] 137

def k15m0 : Method := { name := "<init>", desc := "()V", sig := { parameters := [], returnType := none }, accessFlags := 2, code := none }
def k15c1 : Code := { maxStack := 2, maxLocals := 1, code := jdk_31_method_10_code, exceptionTable := #[], attributes := #[] }
def k15m1 : Method := { name := "requireNonNull", desc := "(Ljava/lang/Object;)Ljava/lang/Object;", sig := { parameters := [(.object "java/lang/Object")], returnType := some (.object "java/lang/Object") }, accessFlags := 9, code := some k15c1 }
/-- java/util/Objects -/
def k15 : Class := { plain "java/util/Objects" (some 0) with
  accessFlags := 49
  interfaces := #[]
  cf := some (fileOf pool15 42 #[] #[{ accessFlags := 2, nameIndex := 5, descriptorIndex := 6, attributes := #[] }, { accessFlags := 9, nameIndex := 45, descriptorIndex := 46, attributes := #[] }] 49 2 #[] #[])
  fields := #[]
  methods := #[k15m0, k15m1]
  instanceTypes := #[]
  staticTypes := #[]
  resolved := Array.replicate 184 none
  statics := none }

def pool16 : Array CpInfo := pool [(9, u "<init>"), (6, .class_ 18), (1, u "java/lang/Object"), (0, u "()V"), (1, .class_ 23), (1, u "jdk/internal/util/ArraysSupport"), (0, u "LOG2_ARRAY_LONG_INDEX_SCALE"), (0, u "I"), (2, u "U"), (0, u "Ljdk/internal/misc/Unsafe;"), (8, u "BIG_ENDIAN"), (0, u "Z"), (8, u "LOG2_BYTE_BIT_SIZE"), (4, u "LOG2_ARRAY_INT_INDEX_SCALE"), (54, u "JLA"), (0, u "Ljdk/internal/access/JavaLangAccess;"), (11, u "LOG2_ARRAY_BOOLEAN_INDEX_SCALE"), (9, u "LOG2_ARRAY_BYTE_INDEX_SCALE"), (5, u "LOG2_ARRAY_CHAR_INDEX_SCALE"), (5, u "LOG2_ARRAY_SHORT_INDEX_SCALE"), (18, u "LOG2_ARRAY_FLOAT_INDEX_SCALE"), (24, u "LOG2_ARRAY_DOUBLE_INDEX_SCALE"), (89, u "T_BOOLEAN"), (2, u "T_CHAR"), (1, u "T_FLOAT"), (1, u "T_DOUBLE"), (1, u "T_BYTE"), (1, u "T_SHORT"), (1, u "T_INT"), (1, u "T_LONG"), (1, u "SOFT_MAX_ARRAY_LENGTH")] 83

def k16m0 : Method := { name := "<init>", desc := "()V", sig := { parameters := [], returnType := none }, accessFlags := 2, code := none }
/-- jdk/internal/util/ArraysSupport -/
def k16 : Class := { plain "jdk/internal/util/ArraysSupport" (some 0) with
  accessFlags := 33
  interfaces := #[]
  cf := some (fileOf pool16 21 #[] #[{ accessFlags := 2, nameIndex := 9, descriptorIndex := 19, attributes := #[] }] 33 16 #[] #[{ accessFlags := 24, nameIndex := 28, descriptorIndex := 29, attributes := #[] }, { accessFlags := 26, nameIndex := 38, descriptorIndex := 39, attributes := #[] }, { accessFlags := 25, nameIndex := 121, descriptorIndex := 25, attributes := #[] }, { accessFlags := 25, nameIndex := 131, descriptorIndex := 25, attributes := #[] }, { accessFlags := 25, nameIndex := 137, descriptorIndex := 25, attributes := #[] }, { accessFlags := 25, nameIndex := 143, descriptorIndex := 25, attributes := #[] }, { accessFlags := 25, nameIndex := 53, descriptorIndex := 25, attributes := #[] }, { accessFlags := 25, nameIndex := 24, descriptorIndex := 25, attributes := #[] }, { accessFlags := 25, nameIndex := 162, descriptorIndex := 25, attributes := #[] }, { accessFlags := 25, nameIndex := 187, descriptorIndex := 25, attributes := #[] }, { accessFlags := 26, nameIndex := 48, descriptorIndex := 25, attributes := #[] }, { accessFlags := 25, nameIndex := 277, descriptorIndex := 25, attributes := #[] }, { accessFlags := 25, nameIndex := 280, descriptorIndex := 25, attributes := #[] }, { accessFlags := 25, nameIndex := 282, descriptorIndex := 25, attributes := #[] }, { accessFlags := 25, nameIndex := 284, descriptorIndex := 25, attributes := #[] }, { accessFlags := 25, nameIndex := 286, descriptorIndex := 25, attributes := #[] }, { accessFlags := 25, nameIndex := 288, descriptorIndex := 25, attributes := #[] }, { accessFlags := 25, nameIndex := 290, descriptorIndex := 25, attributes := #[] }, { accessFlags := 25, nameIndex := 292, descriptorIndex := 25, attributes := #[] }, { accessFlags := 26, nameIndex := 108, descriptorIndex := 109, attributes := #[] }, { accessFlags := 25, nameIndex := 294, descriptorIndex := 25, attributes := #[] }])
  fields := #[{ name := "U", type := (.object "jdk/internal/misc/Unsafe"), accessFlags := 24, slot := 0, constantValue := 0 }, { name := "BIG_ENDIAN", type := .boolean, accessFlags := 26, slot := 1, constantValue := 0 }, { name := "LOG2_ARRAY_BOOLEAN_INDEX_SCALE", type := .int, accessFlags := 25, slot := 2, constantValue := 0 }, { name := "LOG2_ARRAY_BYTE_INDEX_SCALE", type := .int, accessFlags := 25, slot := 3, constantValue := 0 }, { name := "LOG2_ARRAY_CHAR_INDEX_SCALE", type := .int, accessFlags := 25, slot := 4, constantValue := 0 }, { name := "LOG2_ARRAY_SHORT_INDEX_SCALE", type := .int, accessFlags := 25, slot := 5, constantValue := 0 }, { name := "LOG2_ARRAY_INT_INDEX_SCALE", type := .int, accessFlags := 25, slot := 6, constantValue := 0 }, { name := "LOG2_ARRAY_LONG_INDEX_SCALE", type := .int, accessFlags := 25, slot := 7, constantValue := 0 }, { name := "LOG2_ARRAY_FLOAT_INDEX_SCALE", type := .int, accessFlags := 25, slot := 8, constantValue := 0 }, { name := "LOG2_ARRAY_DOUBLE_INDEX_SCALE", type := .int, accessFlags := 25, slot := 9, constantValue := 0 }, { name := "LOG2_BYTE_BIT_SIZE", type := .int, accessFlags := 26, slot := 10, constantValue := 0 }, { name := "T_BOOLEAN", type := .int, accessFlags := 25, slot := 11, constantValue := 0 }, { name := "T_CHAR", type := .int, accessFlags := 25, slot := 12, constantValue := 0 }, { name := "T_FLOAT", type := .int, accessFlags := 25, slot := 13, constantValue := 0 }, { name := "T_DOUBLE", type := .int, accessFlags := 25, slot := 14, constantValue := 0 }, { name := "T_BYTE", type := .int, accessFlags := 25, slot := 15, constantValue := 0 }, { name := "T_SHORT", type := .int, accessFlags := 25, slot := 16, constantValue := 0 }, { name := "T_INT", type := .int, accessFlags := 25, slot := 17, constantValue := 0 }, { name := "T_LONG", type := .int, accessFlags := 25, slot := 18, constantValue := 0 }, { name := "JLA", type := (.object "jdk/internal/access/JavaLangAccess"), accessFlags := 26, slot := 19, constantValue := 0 }, { name := "SOFT_MAX_ARRAY_LENGTH", type := .int, accessFlags := 25, slot := 20, constantValue := 0 }]
  methods := #[k16m0]
  instanceTypes := #[]
  staticTypes := #[(.object "jdk/internal/misc/Unsafe"), .boolean, .int, .int, .int, .int, .int, .int, .int, .int, .int, .int, .int, .int, .int, .int, .int, .int, .int, (.object "jdk/internal/access/JavaLangAccess"), .int]
  resolved := Array.replicate 378 none
  statics := none }

/-- the primitive byte -/
def k17 : Class := { plain "byte" none with kind := .primitive 'B', accessFlags := 0x411 }
/-- [B -/
def k18 : Class := { plain "[B" (some 0) with kind := .array 17 .byte, interfaces := #[13, 2], accessFlags := 1041 }

/-- the primitive char -/
def k19 : Class := { plain "char" none with kind := .primitive 'C', accessFlags := 0x411 }
/-- [C -/
def k20 : Class := { plain "[C" (some 0) with kind := .array 19 .char, interfaces := #[13, 2], accessFlags := 1041 }

/-- the primitive int -/
def k21 : Class := { plain "int" none with kind := .primitive 'I', accessFlags := 0x411 }
/-- [I -/
def k22 : Class := { plain "[I" (some 0) with kind := .array 21 .int, interfaces := #[13, 2], accessFlags := 1041 }

/-- [Lcom/example/exact_roles/exactroles/credentials/Api; -/
def k23 : Class := { plain "[Lcom/example/exact_roles/exactroles/credentials/Api;" (some 0) with kind := .array 12 (.object "com/example/exact_roles/exactroles/credentials/Api"), interfaces := #[13, 2], accessFlags := 1041 }

def heap : Heap := #[{ cls := 7, slots := #[.long 0, .int 1, .null, .int 0, .null, .int 0, .int 0], vm := .statics 7 },
  { cls := 9, slots := #[.null, .null, .null], vm := .statics 9 },
  { cls := 12, slots := #[.ref 5, .ref 6, .ref 7, .ref 4], vm := .statics 12 },
  { cls := 14, slots := #[.ref 14], vm := .statics 14 },
  { cls := 23, slots := #[.ref 5, .ref 6, .ref 7], vm := .none },
  { cls := 12, slots := #[.null, .int 0, .int 0, .ref 8], vm := .none },
  { cls := 12, slots := #[.null, .int 1, .int 0, .ref 9], vm := .none },
  { cls := 12, slots := #[.null, .int 2, .int 0, .ref 10], vm := .none },
  { cls := 7, slots := #[.ref 11, .int 0, .int 0, .int 0], vm := .none },
  { cls := 7, slots := #[.ref 12, .int 0, .int 0, .int 0], vm := .none },
  { cls := 7, slots := #[.ref 13, .int 0, .int 0, .int 0], vm := .none },
  { cls := 18, slots := #[.int 114, .int 111, .int 108, .int 101, .int 115], vm := .none },
  { cls := 18, slots := #[.int 117, .int 115, .int 101, .int 114, .int 115], vm := .none },
  { cls := 18, slots := #[.int 99, .int 104, .int 101, .int 99, .int 107, .int 115], vm := .none },
  { cls := 14, slots := #[.null], vm := .none }]
def classes : Array Class := #[k0, k1, k2, k3, k4, k5, k6, k7, k8, k9, k10, k11, k12, k13, k14, k15, k16, k17, k18, k19, k20, k21, k22, k23]
def interned : List (Array UInt16 × Addr) := []
def slotsUsed : Nat := 59
def theMethod : MethodId := ⟨1, 3⟩
def args0 : Array Value := #[.int 2, .int 0, .int 0, .int 0, .long 0]
def aboutOver (below : List Frame) : State where
  vm := { classes := classes, interned := interned.toArray }
  heap := heap
  slotsUsed := slotsUsed
  threads := #[{ frames := .invoking theMethod args0 :: below }]
def below0 : List Frame := [.native { method := ⟨0, 0⟩, args := #[] }]
def about1 : State := aboutOver below0
def p0 : Program := .bare "" "" ""
def e0 : Env := launch0.env 0 0 0
theorem w_frames : about1.frames = Frame.invoking theMethod args0 :: below0 := rfl
set_option maxRecDepth 65536 in
theorem w_args : argsFit about1.vm theMethod args0 = true := by decide +kernel
set_option maxRecDepth 65536 in
theorem w_heap : heapFits about1 = true := by decide +kernel
set_option maxRecDepth 65536 in
theorem w_runnable : about1.curStatus? = some .runnable := by decide +kernel
set_option maxRecDepth 65536 in
theorem w_alone : about1.alone = true := by decide +kernel
set_option maxRecDepth 65536 in
theorem w_named : about1.methodNamed? x = some theMethod := by decide +kernel
set_option maxRecDepth 65536 in
theorem w_hears : about1.hears theMethod below0 = true := by decide +kernel
set_option maxRecDepth 65536 in
theorem w_ripe : about1.ripe theMethod args0 below0 = true := by decide +kernel
theorem w_running : about1.status = .running := rfl
set_option maxRecDepth 65536 in
theorem w_room : about1.hasRoom e0.platform room_1 = true :=
  launch0.hasRoom_least _ room_1 (by decide +kernel) (by decide +kernel) (by decide +kernel) (by decide +kernel) (by decide +kernel) (by decide +kernel)
theorem allAtoms_all (ts : List Jvm.Cond) (a : Array Jvm.Value) (st : Jvm.State) : (allAtoms ts).before a st = ts.all (fun c => c.before a st) := by
  induction ts with
  | nil => rfl
  | cons c t ih =>
    show (Jvm.Cond.and c (allAtoms t)).before a st = _
    rw [Jvm.Cond.before_and, ih, List.all_cons]
def words1 : List Jvm.Cond := Jvm.Cond.code x code maxLocals ret :: tables_1
/-- a 'code' word, met by the world's own term for the bytes: nothing is compared byte by byte -/
theorem code_word {y : MethodName} {bytes : ByteArray} {mx : Nat} {rt : Option FieldType} {a : Array Value} {s : State} {m : MethodId} {meth : Method} {c : Code} (h1 : s.methodNamed? y = some m) (h2 : s.vm.method? m = some meth) (h3 : meth.code = some c) (h4 : c.code = bytes)
    (h5 : (c.maxLocals == mx && c.exceptionTable.isEmpty && decide (c.maxStack ≤ mostOperands) && decide (meth.sig.returnType = rt) && !meth.locks && decide (parseMethodDescriptor y.desc = some meth.sig)) = true) : (Jvm.Cond.code y bytes mx rt).before a s = true := by
  simp only [Bool.and_eq_true, beq_iff_eq, Bool.not_eq_true', decide_eq_true_eq] at h5
  obtain ⟨⟨⟨⟨⟨g1, g2⟩, g3⟩, g4⟩, g5⟩, g6⟩ := h5
  simp [Cond.before, Cond.holds, Cond.value, h1, h2, h3, h4, g1, g2, g3, g4, g5, g6]
def isCode : Jvm.Cond → Bool
  | .code _ _ _ _ => true
  | _ => false
theorem all_split {L : List Jvm.Cond} {P : Jvm.Cond → Bool} (h1 : L.all (fun c => isCode c || P c) = true) (h2 : ∀ c ∈ L.filter isCode, P c = true) : L.all P = true := by
  refine List.all_eq_true.mpr fun c hc => ?_
  have h := List.all_eq_true.mp h1 c hc
  rcases Bool.eq_false_or_eq_true (isCode c) with hi | hi
  · exact h2 c (List.mem_filter.mpr ⟨hc, hi⟩)
  · simpa [hi] using h
set_option maxRecDepth 65536 in
theorem w_c0 : (Jvm.Cond.code x code maxLocals ret).before args0 about1 = true := code_word (m := ⟨1, 3⟩) (meth := k1m3) (c := k1c3) (by decide +kernel) rfl rfl rfl (by decide +kernel)
set_option maxRecDepth 65536 in
theorem w_c1 : (Jvm.Cond.code ({ cls := "com/example/exact_roles/exactroles/credentials/ApiNamedPinLaw", name := "cell", desc := "(IIIIJ)C" } : Jvm.MethodName) method_3_code (6 : Nat) (Option.some Jvm.ClassFile.FieldType.char)).before args0 about1 = true := code_word (m := ⟨1, 2⟩) (meth := k1m2) (c := k1c2) (by decide +kernel) rfl rfl rfl (by decide +kernel)
set_option maxRecDepth 65536 in
theorem w_c2 : (Jvm.Cond.code ({ cls := "com/example/exact_roles/exactroles/credentials/ApiNamedPinLaw", name := "base", desc := "(IIJ)C" } : Jvm.MethodName) method_2_code (4 : Nat) (Option.some Jvm.ClassFile.FieldType.char)).before args0 about1 = true := code_word (m := ⟨1, 1⟩) (meth := k1m1) (c := k1c1) (by decide +kernel) rfl rfl rfl (by decide +kernel)
set_option maxRecDepth 65536 in
theorem w_c3 : (Jvm.Cond.code ({ cls := "java/lang/String", name := "charAt", desc := "(I)C" } : Jvm.MethodName) jdk_42_method_56_code (2 : Nat) (Option.some Jvm.ClassFile.FieldType.char)).before args0 about1 = true := code_word (m := ⟨7, 2⟩) (meth := k7m2) (c := k7c2) (by decide +kernel) rfl rfl rfl (by decide +kernel)
set_option maxRecDepth 65536 in
theorem w_c4 : (Jvm.Cond.code ({ cls := "java/lang/String", name := "isLatin1", desc := "()Z" } : Jvm.MethodName) jdk_42_method_154_code (1 : Nat) (Option.some Jvm.ClassFile.FieldType.boolean)).before args0 about1 = true := code_word (m := ⟨7, 5⟩) (meth := k7m5) (c := k7c5) (by decide +kernel) rfl rfl rfl (by decide +kernel)
set_option maxRecDepth 65536 in
theorem w_c5 : (Jvm.Cond.code ({ cls := "java/lang/StringLatin1", name := "charAt", desc := "([BI)C" } : Jvm.MethodName) jdk_43_method_2_code (2 : Nat) (Option.some Jvm.ClassFile.FieldType.char)).before args0 about1 = true := code_word (m := ⟨8, 1⟩) (meth := k8m1) (c := k8c1) (by decide +kernel) rfl rfl rfl (by decide +kernel)
set_option maxRecDepth 65536 in
theorem w_c6 : (Jvm.Cond.code ({ cls := "java/lang/String", name := "checkIndex", desc := "(II)V" } : Jvm.MethodName) jdk_42_method_155_code (2 : Nat) (Option.none : Option Jvm.ClassFile.FieldType)).before args0 about1 = true := code_word (m := ⟨7, 6⟩) (meth := k7m6) (c := k7c6) (by decide +kernel) rfl rfl rfl (by decide +kernel)
set_option maxRecDepth 65536 in
theorem w_c7 : (Jvm.Cond.code ({ cls := "jdk/internal/util/Preconditions", name := "checkIndex", desc := "(IILjava/util/function/BiFunction;)I" } : Jvm.MethodName) jdk_41_method_11_code (3 : Nat) (Option.some Jvm.ClassFile.FieldType.int)).before args0 about1 = true := code_word (m := ⟨9, 1⟩) (meth := k9m1) (c := k9c1) (by decide +kernel) rfl rfl rfl (by decide +kernel)
set_option maxRecDepth 65536 in
theorem w_c8 : (Jvm.Cond.code ({ cls := "java/lang/String", name := "<init>", desc := "([C)V" } : Jvm.MethodName) jdk_42_method_3_code (2 : Nat) (Option.none : Option Jvm.ClassFile.FieldType)).before args0 about1 = true := code_word (m := ⟨7, 1⟩) (meth := k7m1) (c := k7c1) (by decide +kernel) rfl rfl rfl (by decide +kernel)
set_option maxRecDepth 65536 in
theorem w_c9 : (Jvm.Cond.code ({ cls := "java/lang/String", name := "<init>", desc := "([CIILjava/lang/Void;)V" } : Jvm.MethodName) jdk_42_method_149_code (6 : Nat) (Option.none : Option Jvm.ClassFile.FieldType)).before args0 about1 = true := code_word (m := ⟨7, 4⟩) (meth := k7m4) (c := k7c4) (by decide +kernel) rfl rfl rfl (by decide +kernel)
set_option maxRecDepth 65536 in
theorem w_c10 : (Jvm.Cond.code ({ cls := "java/lang/Object", name := "<init>", desc := "()V" } : Jvm.MethodName) object_method_1_code (1 : Nat) (Option.none : Option Jvm.ClassFile.FieldType)).before args0 about1 = true := code_word (m := ⟨0, 0⟩) (meth := k0m0) (c := k0c0) (by decide +kernel) rfl rfl rfl (by decide +kernel)
set_option maxRecDepth 65536 in
theorem w_c11 : (Jvm.Cond.code ({ cls := "java/lang/StringUTF16", name := "compress", desc := "([CII)[B" } : Jvm.MethodName) jdk_52_method_16_code (6 : Nat) (Option.some (Jvm.ClassFile.FieldType.array Jvm.ClassFile.FieldType.byte))).before args0 about1 = true := code_word (m := ⟨10, 2⟩) (meth := k10m2) (c := k10c2) (by decide +kernel) rfl rfl rfl (by decide +kernel)
set_option maxRecDepth 65536 in
theorem w_c12 : (Jvm.Cond.code ({ cls := "java/lang/StringUTF16", name := "compress", desc := "([CI[BII)I" } : Jvm.MethodName) jdk_52_method_21_code (7 : Nat) (Option.some Jvm.ClassFile.FieldType.int)).before args0 about1 = true := code_word (m := ⟨10, 3⟩) (meth := k10m3) (c := k10c3) (by decide +kernel) rfl rfl rfl (by decide +kernel)
set_option maxRecDepth 65536 in
theorem w_c13 : (Jvm.Cond.code ({ cls := "java/lang/StringUTF16", name := "coderFromArrayLen", desc := "([BI)B" } : Jvm.MethodName) jdk_52_method_15_code (2 : Nat) (Option.some Jvm.ClassFile.FieldType.byte)).before args0 about1 = true := code_word (m := ⟨10, 1⟩) (meth := k10m1) (c := k10c1) (by decide +kernel) rfl rfl rfl (by decide +kernel)
set_option maxRecDepth 65536 in
theorem w_c14 : (Jvm.Cond.code ({ cls := "java/lang/String", name := "equals", desc := "(Ljava/lang/Object;)Z" } : Jvm.MethodName) jdk_42_method_66_code (3 : Nat) (Option.some Jvm.ClassFile.FieldType.boolean)).before args0 about1 = true := code_word (m := ⟨7, 3⟩) (meth := k7m3) (c := k7c3) (by decide +kernel) rfl rfl rfl (by decide +kernel)
set_option maxRecDepth 65536 in
theorem w_c15 : (Jvm.Cond.code ({ cls := "java/lang/StringLatin1", name := "equals", desc := "([B[B)Z" } : Jvm.MethodName) jdk_43_method_13_code (3 : Nat) (Option.some Jvm.ClassFile.FieldType.boolean)).before args0 about1 = true := code_word (m := ⟨8, 2⟩) (meth := k8m2) (c := k8c2) (by decide +kernel) rfl rfl rfl (by decide +kernel)
set_option maxRecDepth 65536 in
theorem w_c16 : (Jvm.Cond.code ({ cls := "com/example/exact_roles/exactroles/credentials/Api", name := "named", desc := "(Ljava/lang/String;)Ljava/util/Optional;" } : Jvm.MethodName) prog_2_method_5_code (5 : Nat) (Option.some (Jvm.ClassFile.FieldType.object "java/util/Optional"))).before args0 about1 = true := code_word (m := ⟨12, 1⟩) (meth := k12m1) (c := k12c1) (by decide +kernel) rfl rfl rfl (by decide +kernel)
set_option maxRecDepth 65536 in
theorem w_c17 : (Jvm.Cond.code ({ cls := "com/example/exact_roles/exactroles/credentials/Api", name := "values", desc := "()[Lcom/example/exact_roles/exactroles/credentials/Api;" } : Jvm.MethodName) prog_2_method_1_code (0 : Nat) (Option.some (Jvm.ClassFile.FieldType.array (Jvm.ClassFile.FieldType.object "com/example/exact_roles/exactroles/credentials/Api")))).before args0 about1 = true := code_word (m := ⟨12, 0⟩) (meth := k12m0) (c := k12c0) (by decide +kernel) rfl rfl rfl (by decide +kernel)
set_option maxRecDepth 65536 in
theorem w_c18 : (Jvm.Cond.code ({ cls := "java/util/Optional", name := "empty", desc := "()Ljava/util/Optional;" } : Jvm.MethodName) jdk_32_method_1_code (1 : Nat) (Option.some (Jvm.ClassFile.FieldType.object "java/util/Optional"))).before args0 about1 = true := code_word (m := ⟨14, 0⟩) (meth := k14m0) (c := k14c0) (by decide +kernel) rfl rfl rfl (by decide +kernel)
set_option maxRecDepth 65536 in
theorem w_c19 : (Jvm.Cond.code ({ cls := "java/util/Optional", name := "isEmpty", desc := "()Z" } : Jvm.MethodName) jdk_32_method_7_code (1 : Nat) (Option.some Jvm.ClassFile.FieldType.boolean)).before args0 about1 = true := code_word (m := ⟨14, 5⟩) (meth := k14m5) (c := k14c5) (by decide +kernel) rfl rfl rfl (by decide +kernel)
set_option maxRecDepth 65536 in
theorem w_c20 : (Jvm.Cond.code ({ cls := "java/util/Optional", name := "of", desc := "(Ljava/lang/Object;)Ljava/util/Optional;" } : Jvm.MethodName) jdk_32_method_3_code (1 : Nat) (Option.some (Jvm.ClassFile.FieldType.object "java/util/Optional"))).before args0 about1 = true := code_word (m := ⟨14, 2⟩) (meth := k14m2) (c := k14c2) (by decide +kernel) rfl rfl rfl (by decide +kernel)
set_option maxRecDepth 65536 in
theorem w_c21 : (Jvm.Cond.code ({ cls := "java/util/Objects", name := "requireNonNull", desc := "(Ljava/lang/Object;)Ljava/lang/Object;" } : Jvm.MethodName) jdk_31_method_10_code (1 : Nat) (Option.some (Jvm.ClassFile.FieldType.object "java/lang/Object"))).before args0 about1 = true := code_word (m := ⟨15, 1⟩) (meth := k15m1) (c := k15c1) (by decide +kernel) rfl rfl rfl (by decide +kernel)
set_option maxRecDepth 65536 in
theorem w_c22 : (Jvm.Cond.code ({ cls := "java/util/Optional", name := "<init>", desc := "(Ljava/lang/Object;)V" } : Jvm.MethodName) jdk_32_method_2_code (2 : Nat) (Option.none : Option Jvm.ClassFile.FieldType)).before args0 about1 = true := code_word (m := ⟨14, 1⟩) (meth := k14m1) (c := k14c1) (by decide +kernel) rfl rfl rfl (by decide +kernel)
set_option maxRecDepth 65536 in
theorem w_c23 : (Jvm.Cond.code ({ cls := "java/util/Optional", name := "isPresent", desc := "()Z" } : Jvm.MethodName) jdk_32_method_6_code (1 : Nat) (Option.some Jvm.ClassFile.FieldType.boolean)).before args0 about1 = true := code_word (m := ⟨14, 4⟩) (meth := k14m4) (c := k14c4) (by decide +kernel) rfl rfl rfl (by decide +kernel)
set_option maxRecDepth 65536 in
theorem w_c24 : (Jvm.Cond.code ({ cls := "java/util/Optional", name := "get", desc := "()Ljava/lang/Object;" } : Jvm.MethodName) jdk_32_method_5_code (1 : Nat) (Option.some (Jvm.ClassFile.FieldType.object "java/lang/Object"))).before args0 about1 = true := code_word (m := ⟨14, 3⟩) (meth := k14m3) (c := k14c3) (by decide +kernel) rfl rfl rfl (by decide +kernel)
def codes1 : List Jvm.Cond := [Jvm.Cond.code x code maxLocals ret, Jvm.Cond.code ({ cls := "com/example/exact_roles/exactroles/credentials/ApiNamedPinLaw", name := "cell", desc := "(IIIIJ)C" } : Jvm.MethodName) method_3_code (6 : Nat) (Option.some Jvm.ClassFile.FieldType.char), Jvm.Cond.code ({ cls := "com/example/exact_roles/exactroles/credentials/ApiNamedPinLaw", name := "base", desc := "(IIJ)C" } : Jvm.MethodName) method_2_code (4 : Nat) (Option.some Jvm.ClassFile.FieldType.char), Jvm.Cond.code ({ cls := "java/lang/String", name := "charAt", desc := "(I)C" } : Jvm.MethodName) jdk_42_method_56_code (2 : Nat) (Option.some Jvm.ClassFile.FieldType.char), Jvm.Cond.code ({ cls := "java/lang/String", name := "isLatin1", desc := "()Z" } : Jvm.MethodName) jdk_42_method_154_code (1 : Nat) (Option.some Jvm.ClassFile.FieldType.boolean), Jvm.Cond.code ({ cls := "java/lang/StringLatin1", name := "charAt", desc := "([BI)C" } : Jvm.MethodName) jdk_43_method_2_code (2 : Nat) (Option.some Jvm.ClassFile.FieldType.char), Jvm.Cond.code ({ cls := "java/lang/String", name := "checkIndex", desc := "(II)V" } : Jvm.MethodName) jdk_42_method_155_code (2 : Nat) (Option.none : Option Jvm.ClassFile.FieldType), Jvm.Cond.code ({ cls := "jdk/internal/util/Preconditions", name := "checkIndex", desc := "(IILjava/util/function/BiFunction;)I" } : Jvm.MethodName) jdk_41_method_11_code (3 : Nat) (Option.some Jvm.ClassFile.FieldType.int), Jvm.Cond.code ({ cls := "java/lang/String", name := "<init>", desc := "([C)V" } : Jvm.MethodName) jdk_42_method_3_code (2 : Nat) (Option.none : Option Jvm.ClassFile.FieldType), Jvm.Cond.code ({ cls := "java/lang/String", name := "<init>", desc := "([CIILjava/lang/Void;)V" } : Jvm.MethodName) jdk_42_method_149_code (6 : Nat) (Option.none : Option Jvm.ClassFile.FieldType), Jvm.Cond.code ({ cls := "java/lang/Object", name := "<init>", desc := "()V" } : Jvm.MethodName) object_method_1_code (1 : Nat) (Option.none : Option Jvm.ClassFile.FieldType), Jvm.Cond.code ({ cls := "java/lang/StringUTF16", name := "compress", desc := "([CII)[B" } : Jvm.MethodName) jdk_52_method_16_code (6 : Nat) (Option.some (Jvm.ClassFile.FieldType.array Jvm.ClassFile.FieldType.byte)), Jvm.Cond.code ({ cls := "java/lang/StringUTF16", name := "compress", desc := "([CI[BII)I" } : Jvm.MethodName) jdk_52_method_21_code (7 : Nat) (Option.some Jvm.ClassFile.FieldType.int), Jvm.Cond.code ({ cls := "java/lang/StringUTF16", name := "coderFromArrayLen", desc := "([BI)B" } : Jvm.MethodName) jdk_52_method_15_code (2 : Nat) (Option.some Jvm.ClassFile.FieldType.byte), Jvm.Cond.code ({ cls := "java/lang/String", name := "equals", desc := "(Ljava/lang/Object;)Z" } : Jvm.MethodName) jdk_42_method_66_code (3 : Nat) (Option.some Jvm.ClassFile.FieldType.boolean), Jvm.Cond.code ({ cls := "java/lang/StringLatin1", name := "equals", desc := "([B[B)Z" } : Jvm.MethodName) jdk_43_method_13_code (3 : Nat) (Option.some Jvm.ClassFile.FieldType.boolean), Jvm.Cond.code ({ cls := "com/example/exact_roles/exactroles/credentials/Api", name := "named", desc := "(Ljava/lang/String;)Ljava/util/Optional;" } : Jvm.MethodName) prog_2_method_5_code (5 : Nat) (Option.some (Jvm.ClassFile.FieldType.object "java/util/Optional")), Jvm.Cond.code ({ cls := "com/example/exact_roles/exactroles/credentials/Api", name := "values", desc := "()[Lcom/example/exact_roles/exactroles/credentials/Api;" } : Jvm.MethodName) prog_2_method_1_code (0 : Nat) (Option.some (Jvm.ClassFile.FieldType.array (Jvm.ClassFile.FieldType.object "com/example/exact_roles/exactroles/credentials/Api"))), Jvm.Cond.code ({ cls := "java/util/Optional", name := "empty", desc := "()Ljava/util/Optional;" } : Jvm.MethodName) jdk_32_method_1_code (1 : Nat) (Option.some (Jvm.ClassFile.FieldType.object "java/util/Optional")), Jvm.Cond.code ({ cls := "java/util/Optional", name := "isEmpty", desc := "()Z" } : Jvm.MethodName) jdk_32_method_7_code (1 : Nat) (Option.some Jvm.ClassFile.FieldType.boolean), Jvm.Cond.code ({ cls := "java/util/Optional", name := "of", desc := "(Ljava/lang/Object;)Ljava/util/Optional;" } : Jvm.MethodName) jdk_32_method_3_code (1 : Nat) (Option.some (Jvm.ClassFile.FieldType.object "java/util/Optional")), Jvm.Cond.code ({ cls := "java/util/Objects", name := "requireNonNull", desc := "(Ljava/lang/Object;)Ljava/lang/Object;" } : Jvm.MethodName) jdk_31_method_10_code (1 : Nat) (Option.some (Jvm.ClassFile.FieldType.object "java/lang/Object")), Jvm.Cond.code ({ cls := "java/util/Optional", name := "<init>", desc := "(Ljava/lang/Object;)V" } : Jvm.MethodName) jdk_32_method_2_code (2 : Nat) (Option.none : Option Jvm.ClassFile.FieldType), Jvm.Cond.code ({ cls := "java/util/Optional", name := "isPresent", desc := "()Z" } : Jvm.MethodName) jdk_32_method_6_code (1 : Nat) (Option.some Jvm.ClassFile.FieldType.boolean), Jvm.Cond.code ({ cls := "java/util/Optional", name := "get", desc := "()Ljava/lang/Object;" } : Jvm.MethodName) jdk_32_method_5_code (1 : Nat) (Option.some (Jvm.ClassFile.FieldType.object "java/lang/Object"))]
set_option maxRecDepth 65536 in
theorem codes_eq : words1.filter isCode = codes1 := rfl
theorem w_codes : ∀ c ∈ words1.filter isCode, c.before args0 about1 = true := by
  rw [codes_eq]
  intro c hc
  simp only [codes1, List.mem_cons, List.not_mem_nil, or_false] at hc
  rcases hc with rfl | rfl | rfl | rfl | rfl | rfl | rfl | rfl | rfl | rfl | rfl | rfl | rfl | rfl | rfl | rfl | rfl | rfl | rfl | rfl | rfl | rfl | rfl | rfl | rfl
  · exact w_c0
  · exact w_c1
  · exact w_c2
  · exact w_c3
  · exact w_c4
  · exact w_c5
  · exact w_c6
  · exact w_c7
  · exact w_c8
  · exact w_c9
  · exact w_c10
  · exact w_c11
  · exact w_c12
  · exact w_c13
  · exact w_c14
  · exact w_c15
  · exact w_c16
  · exact w_c17
  · exact w_c18
  · exact w_c19
  · exact w_c20
  · exact w_c21
  · exact w_c22
  · exact w_c23
  · exact w_c24
set_option maxRecDepth 65536 in
theorem w_t1 : (words1.take 24).all (fun c => isCode c || c.before args0 about1) = true := by decide +kernel
set_option maxRecDepth 65536 in
theorem w_t2 : ((words1.drop 24).take 24).all (fun c => isCode c || c.before args0 about1) = true := by decide +kernel
set_option maxRecDepth 65536 in
theorem w_t3 : (((words1.drop 24).drop 24).take 24).all (fun c => isCode c || c.before args0 about1) = true := by decide +kernel
set_option maxRecDepth 65536 in
theorem w_t4 : ((((words1.drop 24).drop 24).drop 24).take 24).all (fun c => isCode c || c.before args0 about1) = true := by decide +kernel
set_option maxRecDepth 65536 in
theorem w_t5 : (((((words1.drop 24).drop 24).drop 24).drop 24).take 24).all (fun c => isCode c || c.before args0 about1) = true := by decide +kernel
set_option maxRecDepth 65536 in
theorem w_t6 : (((((words1.drop 24).drop 24).drop 24).drop 24).drop 24).all (fun c => isCode c || c.before args0 about1) = true := by decide +kernel
theorem w_tables : (allAtoms (Jvm.Cond.code x code maxLocals ret :: tables_1)).before args0 about1 = true := by
  rw [allAtoms_all]
  show words1.all (fun c => c.before args0 about1) = true
  refine all_split ?_ w_codes
  rw [← List.take_append_drop 24 words1, List.all_append, w_t1, ← List.take_append_drop 24 (words1.drop 24), List.all_append, w_t2, ← List.take_append_drop 24 ((words1.drop 24).drop 24), List.all_append, w_t3, ← List.take_append_drop 24 (((words1.drop 24).drop 24).drop 24), List.all_append, w_t4, ← List.take_append_drop 24 ((((words1.drop 24).drop 24).drop 24).drop 24), List.all_append, w_t5, w_t6]
  rfl
set_option maxRecDepth 65536 in
theorem w_rest : rest_1_c.before args0 about1 = true := by decide +kernel
set_option maxRecDepth 65536 in
theorem w_case : (Jvm.Cond.and given_1 narrow_1).before args0 about1 = true := by decide +kernel
set_option maxRecDepth 65536 in
theorem w_consts : constsHeld consts_1 about1 := Jvm.Lit.constsHeldB_iff.mp (by decide +kernel)
theorem w_applies : (headSpec (Jvm.Cond.code x code maxLocals ret :: tables_1) room_1).applies x e0.platform about1 = true :=
  (Spec.applies_iff w_frames).mpr ⟨w_running, w_runnable, w_alone, w_named, w_hears, w_ripe, w_room, w_tables⟩
theorem atStart : AtStart classFile x code maxLocals ret World_1 tables_1 room_1 Calls_1 rest_1 Pre_1 launch0 p0 e0 about1 theMethod args0 below0 :=
  ⟨lists_1, trivial, launch0.admits_env _ _ _, launch0.least_env, fairChoices_fair.cas, fairChoices_fair.clock, w_frames, w_args, w_heap, w_applies, ⟨w_consts, trivial⟩, w_rest, w_case⟩
end start1
theorem witness_1 : WitnessClaimed_1 := ⟨start1.p0, start1.e0, start1.about1, start1.theMethod, start1.args0, start1.below0, start1.atStart⟩
end Jvm.Pilot.@@N@@
