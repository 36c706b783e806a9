import JvmDerived
import JvmDerived.Pilot.@@N@@Statement
import JvmDerived.Pilot.@@N@@Code
set_option linter.unusedVariables false
set_option linter.unusedSimpArgs false
/- laws to paste: Road.backV, Road.lenW, Road.chN, Road.codOf (cut by pick.py; bodies as the Statement names them) -/
namespace Jvm.Pilot.@@N@@
namespace StrChars
open Jvm Sem ClassFile Op Lib Jvm.Stand Jvm.Free.XT Jvm.Free.ALB Jvm.Free.JM Jvm.Free
open Jvm.Lib.Cold (StaticIs)
/-- a char array whose places are chars -/
def Ch (a : Addr) (A : Cell) (U : State) : Prop := Arr .char a A U ∧ Typed .char A
theorem Ch.mv {a : Addr} {A : Cell} {U U' : State} (h : Ch a A U) (hal : U.vm.Alike U'.vm) (hh : U'.heap = U.heap) : Ch a A U' := ⟨h.1.mv hal hh, h.2⟩
theorem Ch.keep {a : Addr} {A : Cell} {U U' : State} (h : Ch a A U) (hal : U.vm.Alike U'.vm) (hk : U'.heap[a]? = some A) : Ch a A U' := ⟨h.1.keep hal hk, h.2⟩
/-- what place i of a char[]'s cell holds -/
def cv (A : Cell) (i : Nat) : Int32 := match A.slots[i]? with | some (.int x) => x | _ => 0
theorem Ch.get {a : Addr} {A : Cell} {U : State} (h : Ch a A U) {i : Nat} (hi : i < A.slots.size) : A.slots[i]? = some (.int (cv A i)) := by
  have e := Array.getElem?_eq_getElem hi
  have f := h.2 i _ e
  unfold cv; rw [e]
  generalize A.slots[i] = v at f
  cases v <;> simp [fits] at f ⊢
/-- the byte that i2b leaves of a char -/
def lo8 (x : Int32) : Int32 := x.toInt8.toInt32
theorem fits_lo8 (y : Int32) : fits .byte (.int (lo8 y)) = true := by
  have h1 := y.toInt8.le_toInt
  have h2 := y.toInt8.toInt_lt
  simp only [lo8, fits, Bool.and_eq_true, decide_eq_true_eq, Int32.le_iff_toInt_le, Int8.toInt_toInt32, show (-128 : Int32).toInt = -128 from by decide, show (127 : Int32).toInt = 127 from by decide]
  omega
/-- A' is A but that each place j of lo .. hi - 1 holds f j -/
def Laid (A A' : Cell) (lo hi : Nat) (f : Nat → Value) : Prop := A'.cls = A.cls ∧ A'.vm = A.vm ∧ A'.slots.size = A.slots.size ∧ ∀ i, A'.slots[i]? = if lo ≤ i ∧ i < hi then some (f i) else A.slots[i]?
theorem Laid.zero (A : Cell) (lo : Nat) (f : Nat → Value) : Laid A A lo (lo + 0) f := ⟨rfl, rfl, rfl, fun i => by rw [if_neg (by omega)]⟩
theorem Laid.step {A Ak : Cell} {lo k : Nat} {f : Nat → Value} {v : Value} (h : Laid A Ak lo k f) (hlo : lo ≤ k) (hk : k < Ak.slots.size) (hv : v = f k) : Laid A (Ak.setSlot k v) lo (k + 1) f := by
  refine ⟨h.1, h.2.1, by simpa [Cell.setSlot] using h.2.2.1, fun i => ?_⟩
  by_cases e : k = i
  · subst e; rw [Cell.slots_setSlot_self v hk, if_pos (by omega), hv]
  · rw [Cell.slots_setSlot_ne v e, h.2.2.2 i]
    by_cases q : lo ≤ i ∧ i < k
    · rw [if_pos q, if_pos (by omega)]
    · rw [if_neg q, if_neg (by omega)]
def U16 : String := "java/lang/StringUTF16"
namespace Cmp5
def yN : MethodName := ⟨"java/lang/StringUTF16", "compress", "([CI[BII)I"⟩
abbrev yB : ByteArray := jdk_52_method_21_code
theorem d0 : decode yB 0 = .ok (.iconst 0, 1) := by decide +kernel
theorem d1 : decode yB 1 = .ok (.istore 5, 2) := by decide +kernel
theorem d3 : decode yB 3 = .ok (.iload 5, 2) := by decide +kernel
theorem d5 : decode yB 5 = .ok (.iload 4, 2) := by decide +kernel
theorem d7 : decode yB 7 = .ok (.if_icmp (.ge) 37, 3) := by decide +kernel
theorem d10 : decode yB 10 = .ok (.aload_n 0, 1) := by decide +kernel
theorem d11 : decode yB 11 = .ok (.iload_n 1, 1) := by decide +kernel
theorem d12 : decode yB 12 = .ok (.caload, 1) := by decide +kernel
theorem d13 : decode yB 13 = .ok (.istore 6, 2) := by decide +kernel
theorem d15 : decode yB 15 = .ok (.iload 6, 2) := by decide +kernel
theorem d17 : decode yB 17 = .ok (.sipush 255, 3) := by decide +kernel
theorem d20 : decode yB 20 = .ok (.if_icmp (.le) 6, 3) := by decide +kernel
theorem d26 : decode yB 26 = .ok (.aload_n 2, 1) := by decide +kernel
theorem d27 : decode yB 27 = .ok (.iload_n 3, 1) := by decide +kernel
theorem d28 : decode yB 28 = .ok (.iload 6, 2) := by decide +kernel
theorem d30 : decode yB 30 = .ok (.i2b, 1) := by decide +kernel
theorem d31 : decode yB 31 = .ok (.bastore, 1) := by decide +kernel
theorem d32 : decode yB 32 = .ok (.iinc 1 1, 3) := by decide +kernel
theorem d35 : decode yB 35 = .ok (.iinc 3 1, 3) := by decide +kernel
theorem d38 : decode yB 38 = .ok (.iinc 5 1, 3) := by decide +kernel
theorem d41 : decode yB 41 = .ok (.goto (-38), 3) := by decide +kernel
theorem d44 : decode yB 44 = .ok (.iload 4, 2) := by decide +kernel
theorem d46 : decode yB 46 = .ok (.ireturn, 1) := by decide +kernel
def site : List Cond := []
def tab : Cond := tabOf yN yB 7 (some .int) site
def P (b : Addr) (A : Cell) (d : Addr) (B : Cell) (o q len : Nat) (args : Array Value) (s : State) : Prop := args = #[.ref b, .int (Int32.ofNat o), .ref d, .int (Int32.ofNat q), .int (Int32.ofNat len)] ∧ Ch b A s ∧ Arr .byte d B s ∧ b ≠ d ∧ o + len ≤ A.slots.size ∧ q + len ≤ B.slots.size ∧ ∀ i, i < len → ¬ 255 < cv A (o + i)
def E (b : Addr) (A : Cell) (d : Addr) (B : Cell) (o q len : Nat) (r : Option Value) (s u : State) : Prop := r = some (.int (Int32.ofNat len)) ∧ ∃ B', Put d B' s u ∧ Laid B B' q (q + len) (fun j => Value.int (lo8 (cv A (o + (j - q)))))
/-- no char of the range above 255: len; the places written hold each char's low byte -/
theorem law (l : Launch) (b : Addr) (A : Cell) (d : Addr) (B : Cell) (o q len : Nat) : Law l yN 5 5 0 0 yB 7 (some .int) site (P b A d B o q len) (E b A d B o q len) (copyLocs d q len) 0 0 := by
  refine Law.of_walk (plainFor_of_name (by decide +kernel)) (by decide +kernel) (by decide +kernel) (by decide) (fun _ _ h => by rw [h.1]; rfl) (fun _ U U' hal hh h => ⟨h.1, h.2.1.mv hal hh, h.2.2.1.mv hal hh, h.2.2.2⟩) (fun r U U' V V' h1 hal h2 h => ⟨h.1, h.2.elim fun B' q => ⟨B', q.1.mv h1 h2, q.2⟩⟩) ?_
  intro p e s m args below meth c s₁ X0 hexec hbytes hml hret hlk hnm hown hh0 W hP
  obtain ⟨rfl, hA, hB, hne, l1, l2, hp⟩ := hP
  have c1 : Steps p.tables e below (s₁.setTop (entryFrame m #[.ref b, .int (Int32.ofNat o), .ref d, .int (Int32.ofNat q), .int (Int32.ofNat len)] 7)) (s₁.setTop (mkF m 0 #[.val (.ref b), .val (.int (Int32.ofNat o)), .val (.ref d), .val (.int (Int32.ofNat q)), .val (.int (Int32.ofNat len)), .unset, .unset] [])) := entry rfl
  have hA0 := hA.1.mv X0.warmed.alike hh0
  have hB0 := hB.mv X0.warmed.alike hh0
  have a31 := hA.1.2.2.2
  have c2 : Steps p.tables e below (s₁.setTop (entryFrame m #[.ref b, .int (Int32.ofNat o), .ref d, .int (Int32.ofNat q), .int (Int32.ofNat len)] 7)) (s₁.setTop (mkF m 3 #[.val (.ref b), .val (.int (Int32.ofNat o)), .val (.ref d), .val (.int (Int32.ofNat q)), .val (.int (Int32.ofNat len)), .val (.int 0), .unset] [])) := c1.trans (by
    refine iconstV X0.here hexec rfl 0 (hb hbytes d0) (by decide) ?_
    refine XS.istore X0.here hexec rfl (hb hbytes d1) rfl rfl ?_
    exact Steps.refl _)
  have loop : ∀ (r i : Nat), i + r = len → ∀ (z : Slot), (z = .unset ∨ ∃ w, z = .val w ∧ w.category = 1) → ∀ (Tl : State) (Bk : Cell), Stand p l e { frames := 0, locals := 0, cells := 0, slots := 0 } s m #[.ref b, .int (Int32.ofNat o), .ref d, .int (Int32.ofNat q), .int (Int32.ofNat len)] below meth c Tl ([] ++ copyLocs d q i) 0 0 → Put d Bk s₁ Tl → Laid B Bk q (q + i) (fun j => Value.int (lo8 (cv A (o + (j - q))))) →
      Steps p.tables e below (s₁.setTop (entryFrame m #[.ref b, .int (Int32.ofNat o), .ref d, .int (Int32.ofNat q), .int (Int32.ofNat len)] 7)) (Tl.setTop (mkF m 3 #[.val (.ref b), .val (.int (Int32.ofNat (o + i))), .val (.ref d), .val (.int (Int32.ofNat (q + i))), .val (.int (Int32.ofNat len)), .val (.int (Int32.ofNat i)), z] [])) → ∃ (T' : State) (B' : Cell) (z' : Slot), Stand p l e { frames := 0, locals := 0, cells := 0, slots := 0 } s m #[.ref b, .int (Int32.ofNat o), .ref d, .int (Int32.ofNat q), .int (Int32.ofNat len)] below meth c T' ([] ++ copyLocs d q len) 0 0 ∧ Put d B' s₁ T' ∧ Laid B B' q (q + len) (fun j => Value.int (lo8 (cv A (o + (j - q))))) ∧
      Steps p.tables e below (s₁.setTop (entryFrame m #[.ref b, .int (Int32.ofNat o), .ref d, .int (Int32.ofNat q), .int (Int32.ofNat len)] 7)) (T'.setTop (mkF m 3 #[.val (.ref b), .val (.int (Int32.ofNat (o + len))), .val (.ref d), .val (.int (Int32.ofNat (q + len))), .val (.int (Int32.ofNat len)), .val (.int (Int32.ofNat len)), z'] [])) := by
    intro r
    induction r with
    | zero =>
      intro i hi z hz Tl Bk Xl pl fl cl
      have hil : i = len := by omega
      rw [hil] at Xl fl cl
      exact ⟨Tl, Bk, z, Xl, pl, fl, cl⟩
    | succ r ih =>
      intro i hi z hz Tl Bk Xl pl fl cl
      have all := X0.warmed.alike.symm.trans Xl.warmed.alike
      have hAl := hA0.keep all (pl.other hne hA0.1)
      have hBk := hB0.like all pl.1 fl.1 fl.2.1 fl.2.2.1
      have hlt : q + i < Bk.slots.size := by rw [fl.2.2.1]; omega
      have c3 : Steps p.tables e below (s₁.setTop (entryFrame m #[.ref b, .int (Int32.ofNat o), .ref d, .int (Int32.ofNat q), .int (Int32.ofNat len)] 7)) (Tl.setTop (mkF m 12 #[.val (.ref b), .val (.int (Int32.ofNat (o + i))), .val (.ref d), .val (.int (Int32.ofNat (q + i))), .val (.int (Int32.ofNat len)), .val (.int (Int32.ofNat i)), z] [.int (Int32.ofNat (o + i)), .ref b])) := cl.trans (by
        refine XS.iload Xl.here hexec rfl (hb hbytes d3) rfl ?_
        refine XS.iload Xl.here hexec rfl (hb hbytes d5) rfl ?_
        refine XS.icmpNo Xl.here hexec rfl (hb hbytes d7) rfl (ii_ge_f (lt32 (by omega) (by omega))) ?_
        refine XS.aloadN Xl.here hexec rfl (hb hbytes d10) rfl rfl ?_
        refine XS.iloadN Xl.here hexec rfl (hb hbytes d11) rfl ?_
        exact Steps.refl _)
      have c4 : Steps p.tables e below (s₁.setTop (entryFrame m #[.ref b, .int (Int32.ofNat o), .ref d, .int (Int32.ofNat q), .int (Int32.ofNat len)] 7)) (Tl.setTop (mkF m 13 #[.val (.ref b), .val (.int (Int32.ofNat (o + i))), .val (.ref d), .val (.int (Int32.ofNat (q + i))), .val (.int (Int32.ofNat len)), .val (.int (Int32.ofNat i)), z] [.int (cv A (o + i))])) := c3.trans (by
        refine Xl.aget hexec hAl rfl (hA.get (i := o + i) (by omega)) rfl rfl (hb hbytes d12) ?_
        exact Steps.refl _)
      have c5 : Steps p.tables e below (s₁.setTop (entryFrame m #[.ref b, .int (Int32.ofNat o), .ref d, .int (Int32.ofNat q), .int (Int32.ofNat len)] 7)) (Tl.setTop (mkF m 15 #[.val (.ref b), .val (.int (Int32.ofNat (o + i))), .val (.ref d), .val (.int (Int32.ofNat (q + i))), .val (.int (Int32.ofNat len)), .val (.int (Int32.ofNat i)), .val (.int (cv A (o + i)))] [])) := c4.trans (by
        refine XS.istoreS Xl.here hexec rfl (hb hbytes d13) rfl rfl hz ?_
        exact Steps.refl _)
      have c6 : Steps p.tables e below (s₁.setTop (entryFrame m #[.ref b, .int (Int32.ofNat o), .ref d, .int (Int32.ofNat q), .int (Int32.ofNat len)] 7)) (Tl.setTop (mkF m 31 #[.val (.ref b), .val (.int (Int32.ofNat (o + i))), .val (.ref d), .val (.int (Int32.ofNat (q + i))), .val (.int (Int32.ofNat len)), .val (.int (Int32.ofNat i)), .val (.int (cv A (o + i)))] [.int (lo8 (cv A (o + i))), .int (Int32.ofNat (q + i)), .ref d])) := c5.trans (by
        refine XS.iload Xl.here hexec rfl (hb hbytes d15) rfl ?_
        refine sipushV Xl.here hexec rfl 255 (hb hbytes d17) (by decide) ?_
        refine XS.icmpYes Xl.here hexec rfl (pc0 := 20) rfl (hb hbytes d20) rfl (ii_le_t (hp i (by omega))) (by decide) rfl ?_
        refine XS.aloadN Xl.here hexec rfl (hb hbytes d26) rfl rfl ?_
        refine XS.iloadN Xl.here hexec rfl (hb hbytes d27) rfl ?_
        refine XS.iload Xl.here hexec rfl (hb hbytes d28) rfl ?_
        refine i2b Xl.here hexec rfl (hb hbytes d30) rfl ?_
        exact Steps.refl _)
      obtain ⟨T7, X7, p7, st7⟩ := Xl.aput hexec hBk rfl hlt rfl (fits_lo8 (cv A (o + i))) (g := (mkF m 31 #[.val (.ref b), .val (.int (Int32.ofNat (o + i))), .val (.ref d), .val (.int (Int32.ofNat (q + i))), .val (.int (Int32.ofNat len)), .val (.int (Int32.ofNat i)), .val (.int (cv A (o + i)))] [.int (lo8 (cv A (o + i))), .int (Int32.ofNat (q + i)), .ref d])) rfl (rest := []) rfl (hb hbytes d31)
      have c8 : Steps p.tables e below (s₁.setTop (entryFrame m #[.ref b, .int (Int32.ofNat o), .ref d, .int (Int32.ofNat q), .int (Int32.ofNat len)] 7)) (T7.setTop (mkF m 32 #[.val (.ref b), .val (.int (Int32.ofNat (o + i))), .val (.ref d), .val (.int (Int32.ofNat (q + i))), .val (.int (Int32.ofNat len)), .val (.int (Int32.ofNat i)), .val (.int (cv A (o + i)))] [])) := c6.trans (st7 _ (Steps.refl _))
      have c9 : Steps p.tables e below (s₁.setTop (entryFrame m #[.ref b, .int (Int32.ofNat o), .ref d, .int (Int32.ofNat q), .int (Int32.ofNat len)] 7)) (T7.setTop (mkF m 3 #[.val (.ref b), .val (.int (Int32.ofNat (o + i) + 1)), .val (.ref d), .val (.int (Int32.ofNat (q + i) + 1)), .val (.int (Int32.ofNat len)), .val (.int (Int32.ofNat i + 1)), .val (.int (cv A (o + i)))] [])) := c8.trans (by
        refine iincV X7.here hexec rfl 1 (hb hbytes d32) (by decide) rfl rfl ?_
        refine iincV X7.here hexec rfl 1 (hb hbytes d35) (by decide) rfl rfl ?_
        refine iincV X7.here hexec rfl 1 (hb hbytes d38) (by decide) rfl rfl ?_
        refine XS.goto X7.here hexec rfl (pc0 := 41) rfl (hb hbytes d41) (by decide) rfl ?_
        exact Steps.refl _)
      have c10 : Steps p.tables e below (s₁.setTop (entryFrame m #[.ref b, .int (Int32.ofNat o), .ref d, .int (Int32.ofNat q), .int (Int32.ofNat len)] 7)) (T7.setTop (mkF m 3 #[.val (.ref b), .val (.int (Int32.ofNat (o + (i + 1)))), .val (.ref d), .val (.int (Int32.ofNat (q + (i + 1)))), .val (.int (Int32.ofNat len)), .val (.int (Int32.ofNat (i + 1))), .val (.int (cv A (o + i)))] [])) := by
        have := c9
        rw [succ32, succ32, succ32] at this
        exact this
      exact ih (i + 1) (by omega) _ (Or.inr ⟨_, rfl, rfl⟩) T7 _ (by rw [copyLocs_step, ← List.append_assoc]; exact X7) (pl.trans p7) (fl.step (by omega) hlt (by simp)) c10
  obtain ⟨T9, B9, z9, X9, p9, f9, g9⟩ := loop len 0 (by omega) .unset (Or.inl rfl) s₁ B (by simpa [copyLocs] using X0) ⟨hB0.1, fun _ _ => rfl, rfl⟩ (Laid.zero _ _ _) c2
  have c11 : Steps p.tables e below (s₁.setTop (entryFrame m #[.ref b, .int (Int32.ofNat o), .ref d, .int (Int32.ofNat q), .int (Int32.ofNat len)] 7)) (T9.setTop (mkF m 46 #[.val (.ref b), .val (.int (Int32.ofNat (o + len))), .val (.ref d), .val (.int (Int32.ofNat (q + len))), .val (.int (Int32.ofNat len)), .val (.int (Int32.ofNat len)), z9] [.int (Int32.ofNat len)])) := g9.trans (by
    refine XS.iload X9.here hexec rfl (hb hbytes d3) rfl ?_
    refine XS.iload X9.here hexec rfl (hb hbytes d5) rfl ?_
    refine XS.icmpYes X9.here hexec rfl (pc0 := 7) rfl (hb hbytes d7) rfl (ii_ge_t (nlt32 (by omega) (Nat.le_refl _))) (by decide) rfl ?_
    refine XS.iload X9.here hexec rfl (hb hbytes d44) rfl ?_
    exact Steps.refl _)
  exact ⟨T9, some (.int (Int32.ofNat len)), _, _, _, X9, by simp, rfl, rfl, (fun h => by cases h), ⟨rfl, B9, p9.from hh0, f9⟩, fun fs hl => c11.trans (X9.ireturnOut hexec hret rfl (Or.inl rfl) (hb hbytes d46) hl)⟩
end Cmp5
namespace Cmp3
def yN : MethodName := ⟨"java/lang/StringUTF16", "compress", "([CII)[B"⟩
abbrev yB : ByteArray := jdk_52_method_16_code
theorem d0 : decode yB 0 = .ok (.iload_n 2, 1) := by decide +kernel
theorem d1 : decode yB 1 = .ok (.newarray .byte, 2) := by decide +kernel
theorem d3 : decode yB 3 = .ok (.astore_n 3, 1) := by decide +kernel
theorem d4 : decode yB 4 = .ok (.aload_n 0, 1) := by decide +kernel
theorem d5 : decode yB 5 = .ok (.iload_n 1, 1) := by decide +kernel
theorem d6 : decode yB 6 = .ok (.aload_n 3, 1) := by decide +kernel
theorem d7 : decode yB 7 = .ok (.iconst 0, 1) := by decide +kernel
theorem d8 : decode yB 8 = .ok (.iload_n 2, 1) := by decide +kernel
theorem d9 : decode yB 9 = .ok (.invokestatic 115, 3) := by decide +kernel
theorem d12 : decode yB 12 = .ok (.istore 4, 2) := by decide +kernel
theorem d14 : decode yB 14 = .ok (.iload 4, 2) := by decide +kernel
theorem d16 : decode yB 16 = .ok (.iload_n 2, 1) := by decide +kernel
theorem d17 : decode yB 17 = .ok (.if_icmp (.eq) 40, 3) := by decide +kernel
theorem d57 : decode yB 57 = .ok (.aload_n 3, 1) := by decide +kernel
theorem d58 : decode yB 58 = .ok (.areturn, 1) := by decide +kernel
def site : List Cond := [.arrayClass .byte, Cmp5.tab] ++ staticW U16 115 Cmp5.yN
def tab : Cond := tabOf yN yB 6 (some (.array .byte)) site
def P (b : Addr) (A : Cell) (o len : Nat) (args : Array Value) (s : State) : Prop := args = #[.ref b, .int (Int32.ofNat o), .int (Int32.ofNat len)] ∧ Ch b A s ∧ o + len ≤ A.slots.size ∧ len ≤ 536870912 ∧ ∀ i, i < len → ¬ 255 < cv A (o + i)
def E (b : Addr) (A : Cell) (o len : Nat) (r : Option Value) (s u : State) : Prop := NewArr .byte "[B" len (fun j => .int (lo8 (cv A (o + j)))) r s u ∧ u.heap.size = s.heap.size + 1
/-- no char of the range above 255: a new byte[] of their low bytes -/
theorem law (l : Launch) (b : Addr) (A : Cell) (o len : Nat) : Law l yN 3 3 1 18 yB 6 (some (.array .byte)) site (P b A o len) (E b A o len) [] 1 len := by
  refine Law.of_walk (plainFor_of_name (by decide +kernel)) (by decide +kernel) (by decide +kernel) (by decide) (fun _ _ h => by rw [h.1]; rfl) (fun _ U U' hal hh h => ⟨h.1, h.2.1.mv hal hh, h.2.2⟩) (fun r U U' V V' h1 hal h2 h => ⟨NewArr.mv r U U' V V' h1 hal h2 h.1, by rw [h1, h2]; exact h.2⟩) ?_
  intro p e s m args below meth c s₁ X0 hexec hbytes hml hret hlk hnm hown hh0 W hP
  obtain ⟨rfl, hA, l1, l2, hp⟩ := hP
  have a31 := hA.1.2.2.2
  have c1 : Steps p.tables e below (s₁.setTop (entryFrame m #[.ref b, .int (Int32.ofNat o), .int (Int32.ofNat len)] 6)) (s₁.setTop (mkF m 0 #[.val (.ref b), .val (.int (Int32.ofNat o)), .val (.int (Int32.ofNat len)), .unset, .unset, .unset] [])) := entry rfl
  have c2 : Steps p.tables e below (s₁.setTop (entryFrame m #[.ref b, .int (Int32.ofNat o), .int (Int32.ofNat len)] 6)) (s₁.setTop (mkF m 1 #[.val (.ref b), .val (.int (Int32.ofNat o)), .val (.int (Int32.ofNat len)), .unset, .unset, .unset] [.int (Int32.ofNat len)])) := c1.trans (by
    refine XS.iloadN X0.here hexec rfl (hb hbytes d0) rfl ?_
    exact Steps.refl _)
  obtain ⟨T3, B3, X3, ba3, bs3, bv3, bh3, bf3, st3⟩ := X0.anew hexec (atype := .byte) (wk W (.arrayClass .byte)) rfl (by show len * 1 ≤ _; omega) (by omega) (g := (mkF m 1 #[.val (.ref b), .val (.int (Int32.ofNat o)), .val (.int (Int32.ofNat len)), .unset, .unset, .unset] [.int (Int32.ofNat len)])) rfl (hb hbytes d1) (rest := []) rfl (Nat.le_refl _) (by show 0 + len ≤ len; omega)
  rw [hh0] at ba3 st3
  have kp3 : XT.Kept s T3 := (XT.Kept.of_eq hh0).push bh3
  have hA3 := hA.keep X3.warmed.alike (kp3 _ _ hA.1.1)
  have hne : b ≠ s.heap.size := hA.1.ne
  have c4 : Steps p.tables e below (s₁.setTop (entryFrame m #[.ref b, .int (Int32.ofNat o), .int (Int32.ofNat len)] 6)) (T3.setTop (mkF m 3 #[.val (.ref b), .val (.int (Int32.ofNat o)), .val (.int (Int32.ofNat len)), .unset, .unset, .unset] [.ref s.heap.size])) := c2.trans (st3 _ (Steps.refl _))
  have c5 : Steps p.tables e below (s₁.setTop (entryFrame m #[.ref b, .int (Int32.ofNat o), .int (Int32.ofNat len)] 6)) (T3.setTop (mkF m 9 #[.val (.ref b), .val (.int (Int32.ofNat o)), .val (.int (Int32.ofNat len)), .val (.ref s.heap.size), .unset, .unset] [.int (Int32.ofNat len), .int 0, .ref s.heap.size, .int (Int32.ofNat o), .ref b])) := c4.trans (by
    refine XS.astoreN X3.here hexec rfl (hb hbytes d3) rfl rfl rfl ?_
    refine XS.aloadN X3.here hexec rfl (hb hbytes d4) rfl rfl ?_
    refine XS.iloadN X3.here hexec rfl (hb hbytes d5) rfl ?_
    refine XS.aloadN X3.here hexec rfl (hb hbytes d6) rfl rfl ?_
    refine iconstV X3.here hexec rfl 0 (hb hbytes d7) (by decide) ?_
    refine XS.iloadN X3.here hexec rfl (hb hbytes d8) rfl ?_
    exact Steps.refl _)
  obtain ⟨v6, T6, X6, E6, g6⟩ := X3.callS hexec (Cmp5.law l b A s.heap.size B3 o 0 len) hown (wks W (staticW U16 115 Cmp5.yN)) (wk W Cmp5.tab) (W := 0) (Nat.le_of_ble_eq_true rfl) (Nat.le_of_ble_eq_true rfl) (Nat.le_refl _) (by show 0 + len + 0 ≤ len; omega) (g := (mkF m 9 #[.val (.ref b), .val (.int (Int32.ofNat o)), .val (.int (Int32.ofNat len)), .val (.ref s.heap.size), .unset, .unset] [.int (Int32.ofNat len), .int (Int32.ofNat 0), .ref s.heap.size, .int (Int32.ofNat o), .ref b])) rfl (by rw [hml]; rfl) c5 (argsL := [.ref b, .int (Int32.ofNat o), .ref s.heap.size, .int (Int32.ofNat 0), .int (Int32.ofNat len)]) (rest := []) rfl rfl (by show 2 * 0 + 0 ≤ _; decide) (hb hbytes d9) (⟨rfl, hA3, ba3, hne, l1, by rw [bs3]; simp, hp⟩)
  obtain ⟨rfl, B6, p6, f6⟩ := E6
  have c7 : Steps p.tables e below (s₁.setTop (entryFrame m #[.ref b, .int (Int32.ofNat o), .int (Int32.ofNat len)] 6)) (T6.setTop (mkF m 12 #[.val (.ref b), .val (.int (Int32.ofNat o)), .val (.int (Int32.ofNat len)), .val (.ref s.heap.size), .unset, .unset] [.int (Int32.ofNat len)])) := g6
  have c8 : Steps p.tables e below (s₁.setTop (entryFrame m #[.ref b, .int (Int32.ofNat o), .int (Int32.ofNat len)] 6)) (T6.setTop (mkF m 58 #[.val (.ref b), .val (.int (Int32.ofNat o)), .val (.int (Int32.ofNat len)), .val (.ref s.heap.size), .val (.int (Int32.ofNat len)), .unset] [.ref s.heap.size])) := c7.trans (by
    refine XS.istore X6.here hexec rfl (hb hbytes d12) rfl rfl ?_
    refine XS.iload X6.here hexec rfl (hb hbytes d14) rfl ?_
    refine XS.iloadN X6.here hexec rfl (hb hbytes d16) rfl ?_
    refine XS.icmpYes X6.here hexec rfl (pc0 := 17) rfl (hb hbytes d17) rfl (ii_eq_t rfl) (by decide) rfl ?_
    refine XS.aloadN X6.here hexec rfl (hb hbytes d57) rfl rfl ?_
    exact Steps.refl _)
  have X8 := X6.wide (L' := []) (cells' := 1) (slots' := len) (fun x hx hlt => by
    simp only [List.nil_append, copyLocs, List.mem_map, List.mem_range] at hx
    obtain ⟨i, -, rfl⟩ := hx
    exact absurd hlt (Nat.lt_irrefl _)) (Nat.le_refl _) (by omega)
  exact ⟨T6, some (.ref s.heap.size), _, _, _, X8, rfl, rfl, rfl, (fun h => by cases h), ⟨⟨rfl, B6, ba3.like (X3.warmed.alike.symm.trans X6.warmed.alike) p6.1 f6.1 f6.2.1 f6.2.2.1, f6.2.1.trans bv3, by rw [X6.warmed.alike.findClass, f6.1]; exact bf3, by rw [f6.2.2.1, bs3]; simp, fun j hj => by rw [f6.2.2.2 j, if_pos (by omega)]; rfl, kp3.put p6 (Nat.le_refl _)⟩, by rw [p6.2.2, bh3, hh0]; simp⟩, fun fs hl => c8.trans (X8.areturnOut hexec rfl hret rfl (hb hbytes d58) hl)⟩
end Cmp3
namespace CodL
def yN : MethodName := ⟨"java/lang/StringUTF16", "coderFromArrayLen", "([BI)B"⟩
abbrev yB : ByteArray := jdk_52_method_15_code
theorem d0 : decode yB 0 = .ok (.iload_n 1, 1) := by decide +kernel
theorem d1 : decode yB 1 = .ok (.aload_n 0, 1) := by decide +kernel
theorem d2 : decode yB 2 = .ok (.arraylength, 1) := by decide +kernel
theorem d3 : decode yB 3 = .ok (.isub, 1) := by decide +kernel
theorem d4 : decode yB 4 = .ok (.bipush 31, 2) := by decide +kernel
theorem d6 : decode yB 6 = .ok (.iushr, 1) := by decide +kernel
theorem d7 : decode yB 7 = .ok (.i2b, 1) := by decide +kernel
theorem d8 : decode yB 8 = .ok (.ireturn, 1) := by decide +kernel
def site : List Cond := []
def tab : Cond := tabOf yN yB 2 (some .byte) site
def P (d : Addr) (B : Cell) (args : Array Value) (s : State) : Prop := args = #[.ref d, .int (Int32.ofNat B.slots.size)] ∧ Arr .byte d B s
def E (r : Option Value) (s u : State) : Prop := XT.PureE (some (.int 0)) r s u
/-- an array as long as the number of chars: LATIN1 -/
theorem law (l : Launch) (d : Addr) (B : Cell) : Law l yN 2 2 0 0 yB 2 (some .byte) site (P d B) E [] 0 0 := by
  refine Law.of_walk (plainFor_of_name (by decide +kernel)) (by decide +kernel) (by decide +kernel) (by decide) (fun _ _ h => by rw [h.1]; rfl) (fun _ U U' hal hh h => ⟨h.1, h.2.mv hal hh⟩) (fun r U U' V V' h1 hal h2 h => XT.PureE.mv r U U' V V' h1 hal h2 h) ?_
  intro p e s m args below meth c s₁ X0 hexec hbytes hml hret hlk hnm hown hh0 W hP
  obtain ⟨rfl, hB⟩ := hP
  have hB0 := hB.mv X0.warmed.alike hh0
  have c1 : Steps p.tables e below (s₁.setTop (entryFrame m #[.ref d, .int (Int32.ofNat B.slots.size)] 2)) (s₁.setTop (mkF m 0 #[.val (.ref d), .val (.int (Int32.ofNat B.slots.size))] [])) := entry rfl
  have c2 : Steps p.tables e below (s₁.setTop (entryFrame m #[.ref d, .int (Int32.ofNat B.slots.size)] 2)) (s₁.setTop (mkF m 2 #[.val (.ref d), .val (.int (Int32.ofNat B.slots.size))] [.ref d, .int (Int32.ofNat B.slots.size)])) := c1.trans (by
    refine XS.iloadN X0.here hexec rfl (hb hbytes d0) rfl ?_
    refine XS.aloadN X0.here hexec rfl (hb hbytes d1) rfl rfl ?_
    exact Steps.refl _)
  have c3 : Steps p.tables e below (s₁.setTop (entryFrame m #[.ref d, .int (Int32.ofNat B.slots.size)] 2)) (s₁.setTop (mkF m 8 #[.val (.ref d), .val (.int (Int32.ofNat B.slots.size))] [.int (lo8 (ushr (Int32.ofNat B.slots.size - Int32.ofNat B.slots.size) 31))])) := c2.trans (by
    refine X0.alen hexec hB0 rfl rfl (hb hbytes d2) ?_
    refine XS.isub X0.here hexec rfl (hb hbytes d3) rfl ?_
    refine bipushV X0.here hexec rfl 31 (hb hbytes d4) (by decide) ?_
    refine iushr X0.here hexec rfl (hb hbytes d6) rfl ?_
    refine i2b X0.here hexec rfl (hb hbytes d7) rfl ?_
    exact Steps.refl _)
  have e0 : lo8 (ushr (Int32.ofNat B.slots.size - Int32.ofNat B.slots.size) 31) = 0 := by rw [Int32.sub_self]; decide
  rw [e0] at c3
  exact ⟨s₁, some (.int 0), _, _, _, X0, rfl, rfl, rfl, (fun h => by cases h), ⟨rfl, hh0⟩, fun fs hl => c3.trans (X0.ireturnOut hexec hret rfl (Or.inr (Or.inr (Or.inl rfl))) (hb hbytes d8) hl)⟩
end CodL
/-- the String at a is Latin-1 over a new byte[] (the heap's one new cell): the low bytes of the len chars of A from o on; every cell but a is kept -/
def Got (a : Addr) (D : Cell) (fV fC : Field) (A : Cell) (o len : Nat) (r : Option Value) (s u : State) : Prop := r = none ∧ ∃ D' V : Cell, Blank "java/lang/String" a D' u ∧ Same D D' [fV.slot, fC.slot] ∧ D'.slots[fV.slot]? = some (.ref s.heap.size) ∧ D'.slots[fC.slot]? = some (.int 0) ∧ Arr .byte s.heap.size V u ∧ V.vm = .none ∧ u.vm.findClass "[B" = some V.cls ∧ V.slots.size = len ∧ (∀ j, j < len → V.slots[j]? = some (.int (lo8 (cv A (o + j))))) ∧ (∀ (y : Addr) (c : Cell), y ≠ a → s.heap[y]? = some c → u.heap[y]? = some c) ∧ u.heap.size = s.heap.size + 1
theorem Got.mv {a : Addr} {D A : Cell} {fV fC : Field} {o len : Nat} : ∀ r (U U' V V' : State), U'.heap = U.heap → V.vm.Alike V'.vm → V'.heap = V.heap → Got a D fV fC A o len r U V → Got a D fV fC A o len r U' V' :=
  fun r U U' V V' h1 hal h2 ⟨e0, D', X, a1, a2, a3, a4, a5, a6, a7, a8, a9, a10, a11⟩ => ⟨e0, D', X, a1.mv hal h2, a2, by rw [h1]; exact a3, a4, by rw [h1]; exact a5.mv hal h2, a6, by rw [hal.findClass]; exact a7, a8, a9, by rw [h1, h2]; exact a10, by rw [h1, h2]; exact a11⟩
namespace New4
def yN : MethodName := ⟨"java/lang/String", "<init>", "([CIILjava/lang/Void;)V"⟩
abbrev yB : ByteArray := jdk_42_method_149_code
theorem d0 : decode yB 0 = .ok (.aload_n 0, 1) := by decide +kernel
theorem d1 : decode yB 1 = .ok (.invokespecial 1, 3) := by decide +kernel
theorem d4 : decode yB 4 = .ok (.iload_n 3, 1) := by decide +kernel
theorem d5 : decode yB 5 = .ok (.ifCond (.ne) 22, 3) := by decide +kernel
theorem d27 : decode yB 27 = .ok (.getstatic 38, 3) := by decide +kernel
theorem d30 : decode yB 30 = .ok (.ifCond (.eq) 28, 3) := by decide +kernel
theorem d33 : decode yB 33 = .ok (.aload_n 1, 1) := by decide +kernel
theorem d34 : decode yB 34 = .ok (.iload_n 2, 1) := by decide +kernel
theorem d35 : decode yB 35 = .ok (.iload_n 3, 1) := by decide +kernel
theorem d36 : decode yB 36 = .ok (.invokestatic 177, 3) := by decide +kernel
theorem d39 : decode yB 39 = .ok (.astore 5, 2) := by decide +kernel
theorem d41 : decode yB 41 = .ok (.aload_n 0, 1) := by decide +kernel
theorem d42 : decode yB 42 = .ok (.aload 5, 2) := by decide +kernel
theorem d44 : decode yB 44 = .ok (.iload_n 3, 1) := by decide +kernel
theorem d45 : decode yB 45 = .ok (.invokestatic 47, 3) := by decide +kernel
theorem d48 : decode yB 48 = .ok (.putfield 15, 3) := by decide +kernel
theorem d51 : decode yB 51 = .ok (.aload_n 0, 1) := by decide +kernel
theorem d52 : decode yB 52 = .ok (.aload 5, 2) := by decide +kernel
theorem d54 : decode yB 54 = .ok (.putfield 9, 3) := by decide +kernel
theorem d57 : decode yB 57 = .ok (.return_, 1) := by decide +kernel
def site : List Cond := [.fieldLink "java/lang/String" 38 "java/lang/String" "COMPACT_STRINGS" "Z", Cmp3.tab, CodL.tab, .laysFinal "java/lang/String" "java/lang/String" "value" "[B", .fieldLink "java/lang/String" 9 "java/lang/String" "value" "[B", .laysFinal "java/lang/String" "java/lang/String" "coder" "B", .fieldLink "java/lang/String" 15 "java/lang/String" "coder" "B"] ++ objW "java/lang/String" 1 ++ staticW "java/lang/String" 177 Cmp3.yN ++ staticW "java/lang/String" 47 CodL.yN
def tab : Cond := tabOf yN yB 6 none site
def P (a : Addr) (D : Cell) (fV fC : Field) (b : Addr) (A : Cell) (z : Int32) (o len : Nat) (args : Array Value) (s : State) : Prop := args = #[.ref a, .ref b, .int (Int32.ofNat o), .int (Int32.ofNat len), .null] ∧ Blank "java/lang/String" a D s ∧ Found "java/lang/String" "value" "[B" fV s ∧ Found "java/lang/String" "coder" "B" fC s ∧ Ch b A s ∧ StaticIs s "java/lang/String" "COMPACT_STRINGS" "Z" (.int z) ∧ ¬ z = 0 ∧ 0 < len ∧ o + len ≤ A.slots.size ∧ len ≤ 536870912 ∧ ∀ i, i < len → ¬ 255 < cv A (o + i)
def E (a : Addr) (D : Cell) (fV fC : Field) (A : Cell) (o len : Nat) (r : Option Value) (s u : State) : Prop := Got a D fV fC A o len r s u
/-- len > 0, no char of the range above 255: a Latin-1 String of their low bytes -/
theorem law (l : Launch) (a : Addr) (D : Cell) (fV fC : Field) (b : Addr) (A : Cell) (z : Int32) (o len : Nat) : Law l yN 5 4 2 35 yB 6 none site (P a D fV fC b A z o len) (E a D fV fC A o len) [⟨a, fC.slot⟩, ⟨a, fV.slot⟩] 1 len := by
  refine Law.of_walk (plainFor_of_name (by decide +kernel)) (by decide +kernel) (by decide +kernel) (by decide) (fun _ _ h => by rw [h.1]; rfl) (fun _ U U' hal hh h => ⟨h.1, h.2.1.mv hal hh, h.2.2.1.al hal, h.2.2.2.1.al hal, h.2.2.2.2.1.mv hal hh, h.2.2.2.2.2.1.there hal hh, h.2.2.2.2.2.2⟩) (fun r U U' V V' h1 hal h2 h => Got.mv r U U' V V' h1 hal h2 h) ?_
  intro p e s m args below meth c s₁ X0 hexec hbytes hml hret hlk hnm hown hh0 W hP
  obtain ⟨rfl, hB, f1, f2, hA, s1, hz, l0, l1, l2, hp⟩ := hP
  have a31 := hA.1.2.2.2
  have c1 : Steps p.tables e below (s₁.setTop (entryFrame m #[.ref a, .ref b, .int (Int32.ofNat o), .int (Int32.ofNat len), .null] 6)) (s₁.setTop (mkF m 0 #[.val (.ref a), .val (.ref b), .val (.int (Int32.ofNat o)), .val (.int (Int32.ofNat len)), .val .null, .unset] [])) := entry rfl
  have c2 : Steps p.tables e below (s₁.setTop (entryFrame m #[.ref a, .ref b, .int (Int32.ofNat o), .int (Int32.ofNat len), .null] 6)) (s₁.setTop (mkF m 1 #[.val (.ref a), .val (.ref b), .val (.int (Int32.ofNat o)), .val (.int (Int32.ofNat len)), .val .null, .unset] [.ref a])) := c1.trans (by
    refine XS.aloadN X0.here hexec rfl (hb hbytes d0) rfl rfl ?_
    exact Steps.refl _)
  obtain ⟨T3, X3, q3, st3⟩ := X0.oinit hexec hown (wks W (objW "java/lang/String" 1)) (g := (mkF m 1 #[.val (.ref a), .val (.ref b), .val (.int (Int32.ofNat o)), .val (.int (Int32.ofNat len)), .val .null, .unset] [.ref a])) rfl (by rw [hml]; rfl) (rest := []) rfl (hb hbytes d1) (W := 0) (by show 2 * 0 + 0 ≤ _; decide) (Nat.le_of_ble_eq_true rfl) (Nat.le_of_ble_eq_true rfl)
  have hh3 := q3.trans hh0
  have c4 : Steps p.tables e below (s₁.setTop (entryFrame m #[.ref a, .ref b, .int (Int32.ofNat o), .int (Int32.ofNat len), .null] 6)) (T3.setTop (mkF m 27 #[.val (.ref a), .val (.ref b), .val (.int (Int32.ofNat o)), .val (.int (Int32.ofNat len)), .val .null, .unset] [])) := (c2.trans (st3 _ (Steps.refl _))).trans (by
    refine XS.iloadN X3.here hexec rfl (hb hbytes d4) rfl ?_
    refine XS.ifYes X3.here hexec rfl (pc0 := 5) rfl (hb hbytes d5) rfl (i0_ne_t (nz32 (by omega) l0)) (by decide) rfl ?_
    exact Steps.refl _)
  obtain ⟨T5, X5, q5, st5⟩ := X3.sget hexec hown (wk W (.fieldLink "java/lang/String" 38 "java/lang/String" "COMPACT_STRINGS" "Z")) s1 (fun _ _ h => by rw [hh3]; exact h) (g := (mkF m 27 #[.val (.ref a), .val (.ref b), .val (.int (Int32.ofNat o)), .val (.int (Int32.ofNat len)), .val .null, .unset] [])) rfl (hb hbytes d27)
  have hh5 := q5.trans hh3
  have c6 : Steps p.tables e below (s₁.setTop (entryFrame m #[.ref a, .ref b, .int (Int32.ofNat o), .int (Int32.ofNat len), .null] 6)) (T5.setTop (mkF m 30 #[.val (.ref a), .val (.ref b), .val (.int (Int32.ofNat o)), .val (.int (Int32.ofNat len)), .val .null, .unset] [.int z])) := c4.trans (st5 _ (Steps.refl _))
  have c7 : Steps p.tables e below (s₁.setTop (entryFrame m #[.ref a, .ref b, .int (Int32.ofNat o), .int (Int32.ofNat len), .null] 6)) (T5.setTop (mkF m 36 #[.val (.ref a), .val (.ref b), .val (.int (Int32.ofNat o)), .val (.int (Int32.ofNat len)), .val .null, .unset] [.int (Int32.ofNat len), .int (Int32.ofNat o), .ref b])) := c6.trans (by
    refine XS.ifNo X5.here hexec rfl (hb hbytes d30) rfl (i0_eq_f hz) ?_
    refine XS.aloadN X5.here hexec rfl (hb hbytes d33) rfl rfl ?_
    refine XS.iloadN X5.here hexec rfl (hb hbytes d34) rfl ?_
    refine XS.iloadN X5.here hexec rfl (hb hbytes d35) rfl ?_
    exact Steps.refl _)
  obtain ⟨v8, T8, X8, E8, g8⟩ := X5.callS hexec (Cmp3.law l b A o len) hown (wks W (staticW "java/lang/String" 177 Cmp3.yN)) (wk W Cmp3.tab) (W := 0) (Nat.le_of_ble_eq_true rfl) (Nat.le_of_ble_eq_true rfl) (Nat.le_refl _) (by show 0 + len ≤ len; omega) (g := (mkF m 36 #[.val (.ref a), .val (.ref b), .val (.int (Int32.ofNat o)), .val (.int (Int32.ofNat len)), .val .null, .unset] [.int (Int32.ofNat len), .int (Int32.ofNat o), .ref b])) rfl (by rw [hml]; rfl) c7 (argsL := [.ref b, .int (Int32.ofNat o), .int (Int32.ofNat len)]) (rest := []) rfl rfl (by show 2 * 0 + 0 ≤ _; decide) (hb hbytes d36) (⟨rfl, hA.mv X5.warmed.alike hh5, l1, l2, hp⟩)
  obtain ⟨e8, z8⟩ := E8
  obtain ⟨rfl, N, n1, n2, n3, n4, n5, n6⟩ := NewArr.mv _ T5 s _ _ hh5.symm (Vm.Alike.refl _) rfl e8
  rw [hh5] at z8
  have hB1 := hB.keep X8.warmed.alike (n6 _ _ hB.1)
  have hne : s.heap.size ≠ a := (Nat.ne_of_lt (Array.getElem?_eq_some_iff.mp hB.1).1).symm
  have c9 : Steps p.tables e below (s₁.setTop (entryFrame m #[.ref a, .ref b, .int (Int32.ofNat o), .int (Int32.ofNat len), .null] 6)) (T8.setTop (mkF m 39 #[.val (.ref a), .val (.ref b), .val (.int (Int32.ofNat o)), .val (.int (Int32.ofNat len)), .val .null, .unset] [.ref s.heap.size])) := g8
  have c10 : Steps p.tables e below (s₁.setTop (entryFrame m #[.ref a, .ref b, .int (Int32.ofNat o), .int (Int32.ofNat len), .null] 6)) (T8.setTop (mkF m 45 #[.val (.ref a), .val (.ref b), .val (.int (Int32.ofNat o)), .val (.int (Int32.ofNat len)), .val .null, .val (.ref s.heap.size)] [.int (Int32.ofNat N.slots.size), .ref s.heap.size, .ref a])) := by
    have hc : Steps p.tables e below (s₁.setTop (entryFrame m #[.ref a, .ref b, .int (Int32.ofNat o), .int (Int32.ofNat len), .null] 6)) (T8.setTop (mkF m 45 #[.val (.ref a), .val (.ref b), .val (.int (Int32.ofNat o)), .val (.int (Int32.ofNat len)), .val .null, .val (.ref s.heap.size)] [.int (Int32.ofNat len), .ref s.heap.size, .ref a])) := c9.trans (by
      refine XS.astore X8.here hexec rfl (hb hbytes d39) rfl rfl rfl ?_
      refine XS.aloadN X8.here hexec rfl (hb hbytes d41) rfl rfl ?_
      refine XS.aload X8.here hexec rfl (hb hbytes d42) rfl rfl ?_
      refine XS.iloadN X8.here hexec rfl (hb hbytes d44) rfl ?_
      exact Steps.refl _)
    rw [n4]; exact hc
  obtain ⟨v11, T11, X11, E11, g11⟩ := X8.callS hexec (CodL.law l s.heap.size N) hown (wks W (staticW "java/lang/String" 47 CodL.yN)) (wk W CodL.tab) (W := 1) (Nat.le_of_ble_eq_true rfl) (Nat.le_of_ble_eq_true rfl) (Nat.le_refl _) (by show 0 + len + 0 ≤ len; omega) (g := (mkF m 45 #[.val (.ref a), .val (.ref b), .val (.int (Int32.ofNat o)), .val (.int (Int32.ofNat len)), .val .null, .val (.ref s.heap.size)] [.int (Int32.ofNat N.slots.size), .ref s.heap.size, .ref a])) rfl (by rw [hml]; rfl) c10 (argsL := [.ref s.heap.size, .int (Int32.ofNat N.slots.size)]) (rest := [.ref a]) rfl rfl (by show 2 * 0 + (1 + 0) ≤ _; decide) (hb hbytes d45) (⟨rfl, n1⟩)
  obtain ⟨rfl, q11⟩ := E11
  have hB11 := hB1.mv (X8.warmed.alike.symm.trans X11.warmed.alike) q11
  have c12 : Steps p.tables e below (s₁.setTop (entryFrame m #[.ref a, .ref b, .int (Int32.ofNat o), .int (Int32.ofNat len), .null] 6)) (T11.setTop (mkF m 48 #[.val (.ref a), .val (.ref b), .val (.int (Int32.ofNat o)), .val (.int (Int32.ofNat len)), .val .null, .val (.ref s.heap.size)] [.int 0, .ref a])) := g11
  obtain ⟨T13, X13, p13, bl13, sl13, st13⟩ := X11.finit hexec hown (wk W (.fieldLink "java/lang/String" 15 "java/lang/String" "coder" "B")) (Or.inr ⟨_, (wk W (.laysFinal "java/lang/String" "java/lang/String" "coder" "B"))⟩) (Or.inl ⟨rfl, hnm⟩) f2 (Or.inl rfl) hB11 (t := .byte) (by decide +kernel) rfl (g := (mkF m 48 #[.val (.ref a), .val (.ref b), .val (.int (Int32.ofNat o)), .val (.int (Int32.ofNat len)), .val .null, .val (.ref s.heap.size)] [.int 0, .ref a])) rfl (rest := []) rfl (hb hbytes d48)
  have c14 : Steps p.tables e below (s₁.setTop (entryFrame m #[.ref a, .ref b, .int (Int32.ofNat o), .int (Int32.ofNat len), .null] 6)) (T13.setTop (mkF m 54 #[.val (.ref a), .val (.ref b), .val (.int (Int32.ofNat o)), .val (.int (Int32.ofNat len)), .val .null, .val (.ref s.heap.size)] [.ref s.heap.size, .ref a])) := (c12.trans (st13 _ (Steps.refl _))).trans (by
    refine XS.aloadN X13.here hexec rfl (hb hbytes d51) rfl rfl ?_
    refine XS.aload X13.here hexec rfl (hb hbytes d52) rfl rfl ?_
    exact Steps.refl _)
  obtain ⟨T15, X15, p15, bl15, sl15, st15⟩ := X13.finit hexec hown (wk W (.fieldLink "java/lang/String" 9 "java/lang/String" "value" "[B")) (Or.inr ⟨_, (wk W (.laysFinal "java/lang/String" "java/lang/String" "value" "[B"))⟩) (Or.inl ⟨rfl, hnm⟩) f1 (Or.inl rfl) bl13 (t := (.array .byte)) (by decide +kernel) rfl (g := (mkF m 54 #[.val (.ref a), .val (.ref b), .val (.int (Int32.ofNat o)), .val (.int (Int32.ofNat len)), .val .null, .val (.ref s.heap.size)] [.ref s.heap.size, .ref a])) rfl (rest := []) rfl (hb hbytes d54)
  have c16 : Steps p.tables e below (s₁.setTop (entryFrame m #[.ref a, .ref b, .int (Int32.ofNat o), .int (Int32.ofNat len), .null] 6)) (T15.setTop (mkF m 57 #[.val (.ref a), .val (.ref b), .val (.int (Int32.ofNat o)), .val (.int (Int32.ofNat len)), .val .null, .val (.ref s.heap.size)] [])) := c14.trans (st15 _ (Steps.refl _))
  have ap := apart (Or.inr ⟨_, (wk W (.laysFinal "java/lang/String" "java/lang/String" "value" "[B"))⟩) (Or.inr ⟨_, (wk W (.laysFinal "java/lang/String" "java/lang/String" "coder" "B"))⟩) f1 f2 (t₁ := .array .byte) (t₂ := .byte) (by decide +kernel) (by decide +kernel) (by decide)
  have al := X8.warmed.alike.symm.trans X15.warmed.alike
  have n7 : T11.heap[s.heap.size]? = some N := by rw [q11]; exact n1.1
  exact ⟨T15, none, _, _, _, X15, by simp, rfl, by omega, (fun _ => rfl), ⟨rfl, _, N, bl15, ((Same.refl D _).set _ (by simp)).set _ (by simp), sl15, (Cell.slots_setSlot_ne _ ap).trans sl13, n1.keep al (p15.other hne (p13.other hne n7)), n2, by rw [al.findClass]; exact n3, n4, n5, fun y c h1 h2 => p15.other h1 (p13.other h1 (by rw [q11]; exact n6 y c h2)), by rw [p15.2.2, p13.2.2, q11]; exact z8⟩, fun fs hl => c16.trans (X15.returnOut hexec hret (hb hbytes d57) hl)⟩
end New4
namespace New1
def yN : MethodName := ⟨"java/lang/String", "<init>", "([C)V"⟩
abbrev yB : ByteArray := jdk_42_method_3_code
theorem d0 : decode yB 0 = .ok (.aload_n 0, 1) := by decide +kernel
theorem d1 : decode yB 1 = .ok (.aload_n 1, 1) := by decide +kernel
theorem d2 : decode yB 2 = .ok (.iconst 0, 1) := by decide +kernel
theorem d3 : decode yB 3 = .ok (.aload_n 1, 1) := by decide +kernel
theorem d4 : decode yB 4 = .ok (.arraylength, 1) := by decide +kernel
theorem d5 : decode yB 5 = .ok (.aconst_null, 1) := by decide +kernel
theorem d6 : decode yB 6 = .ok (.invokespecial 27, 3) := by decide +kernel
theorem d9 : decode yB 9 = .ok (.return_, 1) := by decide +kernel
def site : List Cond := [New4.tab] ++ initW "java/lang/String" 27 New4.yN
def tab : Cond := tabOf yN yB 2 none site
def P (a : Addr) (D : Cell) (fV fC : Field) (b : Addr) (A : Cell) (z : Int32) (args : Array Value) (s : State) : Prop := args = #[.ref a, .ref b] ∧ Blank "java/lang/String" a D s ∧ Found "java/lang/String" "value" "[B" fV s ∧ Found "java/lang/String" "coder" "B" fC s ∧ Ch b A s ∧ StaticIs s "java/lang/String" "COMPACT_STRINGS" "Z" (.int z) ∧ ¬ z = 0 ∧ 0 < A.slots.size ∧ A.slots.size ≤ 536870912 ∧ ∀ i, i < A.slots.size → ¬ 255 < cv A i
def E (a : Addr) (D : Cell) (fV fC : Field) (A : Cell) (r : Option Value) (s u : State) : Prop := Got a D fV fC A 0 A.slots.size r s u
/-- new String(chars), not empty, no char above 255: a Latin-1 String of their low bytes -/
theorem law (l : Launch) (a : Addr) (D : Cell) (fV fC : Field) (b : Addr) (A : Cell) (z : Int32) : Law l yN 2 1 3 52 yB 2 none site (P a D fV fC b A z) (E a D fV fC A) [⟨a, fC.slot⟩, ⟨a, fV.slot⟩] 1 A.slots.size := by
  refine Law.of_walk (plainFor_of_name (by decide +kernel)) (by decide +kernel) (by decide +kernel) (by decide) (fun _ _ h => by rw [h.1]; rfl) (fun _ U U' hal hh h => ⟨h.1, h.2.1.mv hal hh, h.2.2.1.al hal, h.2.2.2.1.al hal, h.2.2.2.2.1.mv hal hh, h.2.2.2.2.2.1.there hal hh, h.2.2.2.2.2.2⟩) (fun r U U' V V' h1 hal h2 h => Got.mv r U U' V V' h1 hal h2 h) ?_
  intro p e s m args below meth c s₁ X0 hexec hbytes hml hret hlk hnm hown hh0 W hP
  obtain ⟨rfl, hB, f1, f2, hA, s1, hz, l0, l2, hp⟩ := hP
  have c1 : Steps p.tables e below (s₁.setTop (entryFrame m #[.ref a, .ref b] 2)) (s₁.setTop (mkF m 0 #[.val (.ref a), .val (.ref b)] [])) := entry rfl
  have c2 : Steps p.tables e below (s₁.setTop (entryFrame m #[.ref a, .ref b] 2)) (s₁.setTop (mkF m 6 #[.val (.ref a), .val (.ref b)] [.null, .int (Int32.ofNat A.slots.size), .int 0, .ref b, .ref a])) := c1.trans (by
    refine XS.aloadN X0.here hexec rfl (hb hbytes d0) rfl rfl ?_
    refine XS.aloadN X0.here hexec rfl (hb hbytes d1) rfl rfl ?_
    refine iconstV X0.here hexec rfl 0 (hb hbytes d2) (by decide) ?_
    refine XS.aloadN X0.here hexec rfl (hb hbytes d3) rfl rfl ?_
    refine X0.alen hexec (hA.1.mv X0.warmed.alike hh0) rfl rfl (hb hbytes d4) ?_
    refine XS.aconstNull X0.here hexec rfl (hb hbytes d5) ?_
    exact Steps.refl _)
  obtain ⟨v3, T3, X3, E3, g3⟩ := X0.callN hexec (New4.law l a D fV fC b A z 0 A.slots.size) rfl hown (wks W (initW "java/lang/String" 27 New4.yN)) (W New4.tab (by simp only [site, List.mem_cons, List.mem_append, true_or, or_true])) (W := 0) (Nat.le_of_ble_eq_true rfl) (Nat.le_of_ble_eq_true rfl) (Nat.le_refl _) (by show 0 + A.slots.size ≤ A.slots.size; omega) (g := (mkF m 6 #[.val (.ref a), .val (.ref b)] [.null, .int (Int32.ofNat A.slots.size), .int (Int32.ofNat 0), .ref b, .ref a])) rfl (by rw [hml]; rfl) c2 (argsL := [.ref b, .int (Int32.ofNat 0), .int (Int32.ofNat A.slots.size), .null]) (rest := []) rfl rfl (by show 2 * 0 + 0 ≤ _; decide) (hb hbytes d6) (⟨rfl, hB.mv X0.warmed.alike hh0, f1.al X0.warmed.alike, f2.al X0.warmed.alike, hA.mv X0.warmed.alike hh0, s1.there X0.warmed.alike hh0, hz, l0, by omega, l2, fun i hi => by rw [Nat.zero_add]; exact hp i hi⟩)
  have e0 := Got.mv _ s₁ s _ _ hh0.symm (Vm.Alike.refl _) rfl E3
  obtain rfl := e0.1
  have c4 : Steps p.tables e below (s₁.setTop (entryFrame m #[.ref a, .ref b] 2)) (T3.setTop (mkF m 9 #[.val (.ref a), .val (.ref b)] [])) := g3
  exact ⟨T3, none, _, _, _, X3, by simp, rfl, by omega, (fun _ => rfl), e0, fun fs hl => c4.trans (X3.returnOut hexec hret (hb hbytes d9) hl)⟩
theorem pays {l : Launch} {R : Room} {p : Program} {e : Env} {below : List Frame} {s : State} {sargs : Array Value} {len W : Nat} (a : Addr) (D : Cell) (fV fC : Field) (b : Addr) (A : Cell) (z : Int32) (htab : tab.before sargs s = true) (hfr : 4 ≤ R.frames) (hlo : W + 65 ≤ R.locals) :
    Back l R p e below s sargs yN len W (fun A₁ a₁ => A₁.cells + 1 ≤ R.cells ∧ A₁.slots + A.slots.size ≤ R.slots ∧ P a D fV fC b A z a₁ A₁.U) (fun A₁ _ v₁ B₁ => E a D fV fC A v₁ A₁.U B₁.U ∧ B₁.locs = A₁.locs ++ [⟨a, fC.slot⟩, ⟨a, fV.slot⟩] ∧ B₁.cells = A₁.cells + 1 ∧ B₁.slots = A₁.slots + A.slots.size) :=
  (law l a D fV fC b A z).pays htab hfr (by omega)
end New1
/-- the byte, read back as charAt reads it, is the char -/
theorem lo8_mask {x : Int32} (h0 : ¬ x < 0) (h1 : ¬ 255 < x) : lo8 x &&& 255 = x := by
  have t : ∀ k : Fin 256, lo8 (Int32.ofNat k.val) &&& 255 = Int32.ofNat k.val := by decide +kernel
  rw [Int32.lt_iff_toInt_lt] at h0 h1
  have e0 : (0 : Int32).toInt = 0 := rfl
  have e1 : (255 : Int32).toInt = 255 := rfl
  obtain ⟨k, hk⟩ : ∃ k : Nat, x.toInt = k := ⟨x.toInt.toNat, by omega⟩
  have hx : x = Int32.ofNat k := Int32.toInt_inj.mp (by rw [hk, Int32.toInt_ofNat_small (by omega)])
  rw [hx]
  exact t ⟨k, by omega⟩
end StrChars
namespace StrChars.Road
open Jvm Sem ClassFile Op Lib Jvm.Stand Jvm.Free Jvm.Free.XT
open Jvm.Lib.Cold (StaticIs)
abbrev ST : String := "java/lang/String"
/-- every table word that New1's law asks, flat -/
abbrev words : List Jvm.Cond := [.code New1.yN New1.yB 2 none, .initialized ST, .methodLink ST 27 New4.yN, .instanceMethod New4.yN,
  .code New4.yN New4.yB 6 none, .fieldLink ST 38 ST "COMPACT_STRINGS" "Z", .laysFinal ST ST "value" "[B", .fieldLink ST 9 ST "value" "[B", .laysFinal ST ST "coder" "B", .fieldLink ST 15 ST "coder" "B",
  .methodLink ST 1 Lib.objectInit, .instanceMethod Lib.objectInit, .code Lib.objectInit ⟨#[0xb1]⟩ 1 none, .methodLink ST 177 Cmp3.yN, .static Cmp3.yN, .methodLink ST 47 CodL.yN, .static CodL.yN,
  .code Cmp3.yN Cmp3.yB 6 (some (.array .byte)), .initialized U16, .arrayClass .byte, .methodLink U16 115 Cmp5.yN, .static Cmp5.yN, .code Cmp5.yN Cmp5.yB 7 (some .int), .code CodL.yN CodL.yB 2 (some .byte)]
theorem tab_of {a : Array Value} {s : State} (h : ∀ w ∈ words, w.before a s = true) : New1.tab.before a s = true := by
  have h5 : Cmp5.tab.before a s = true := unparts (wk h (.code Cmp5.yN Cmp5.yB 7 (some .int))) (wks h (.initialized Cmp5.yN.cls :: Cmp5.site))
  have hc : CodL.tab.before a s = true := unparts (wk h (.code CodL.yN CodL.yB 2 (some .byte))) (wks h (.initialized CodL.yN.cls :: CodL.site))
  have q5 : ∀ w ∈ Cmp5.tab :: words, w.before a s = true := fun w hw => (List.mem_cons.mp hw).elim (fun e => e ▸ h5) (h w)
  have h3 : Cmp3.tab.before a s = true := unparts (wk q5 (.code Cmp3.yN Cmp3.yB 6 (some (.array .byte)))) (wks q5 (.initialized Cmp3.yN.cls :: Cmp3.site))
  have q3 : ∀ w ∈ Cmp3.tab :: CodL.tab :: words, w.before a s = true := fun w hw => (List.mem_cons.mp hw).elim (fun e => e ▸ h3) fun hw => (List.mem_cons.mp hw).elim (fun e => e ▸ hc) (h w)
  have h4 : New4.tab.before a s = true := unparts (wk q3 (.code New4.yN New4.yB 6 none)) (wks q3 (.initialized New4.yN.cls :: New4.site))
  have q4 : ∀ w ∈ New4.tab :: words, w.before a s = true := fun w hw => (List.mem_cons.mp hw).elim (fun e => e ▸ h4) (h w)
  exact unparts (wk q4 (.code New1.yN New1.yB 2 none)) (wks q4 (.initialized New1.yN.cls :: New1.site))
/-- the words ride from the start Z to the walk's own state -/
theorem moved {Z s : State} {a0 args : Array Value} (hZ : Z.Warmed39 s.vm) (hw : ∀ d ∈ words, d.before a0 Z = true) : ∀ d ∈ words, d.before args s = true := fun d hd => by
  have q := hw d hd
  have t : ∀ d ∈ words, d = .arrayClass .byte ∨ (d.onTables && d.keepsFace) = true := by decide +kernel
  rcases t d hd with rfl | t
  · exact RoadKit.mvA hZ q
  · exact RoadKit.mv hZ q t
/-- WHAT COMES BACK, over the tables of the start Z: h the heap at the call, h' behind it -/
def Q (Z : State) (x : Addr) (A : Cell) (h : Heap) (v : Option Value) (h' : Heap) (L : List Loc) : Prop := v = none ∧ (∀ y ∈ L, y.base = x) ∧ RoadKit.Keep h h' [x] ∧ h'.size = h.size + 1 ∧ RoadKit.Exa Z h' x ST ∧ RoadKit.Fld Z h' x ST "value" "[B" (.ref h.size) ∧ RoadKit.Fld Z h' x ST "coder" "B" (.int 0) ∧
  (∃ V : Cell, RoadKit.Arr Z h' h.size V .byte ∧ V.vm = .none ∧ Z.vm.findClass "[B" = some V.cls ∧ V.slots.size = A.slots.size ∧ ∀ j, j < A.slots.size → V.slots[j]? = some (.int (lo8 (cv A j)))) ∧
  ∀ (O n d : String) (w : Value), RoadKit.Fld Z h x O n d w → RoadKit.slotOf Z O n d ≠ RoadKit.slotOf Z ST "value" "[B" → RoadKit.slotOf Z O n d ≠ RoadKit.slotOf Z ST "coder" "B" → RoadKit.Fld Z h' x O n d w
/-- **new String(chars) AT A CALL, IN THE ROAD'S FORM**: for specialBack behind newO: x the fresh String, b the char[] with the cell A -/
theorem back {p : Program} {l : Launch} {e : Env} {R : Room} {s : State} {args : Array Value} {below : List Frame} {len W : Nat} {Z : State} {a0 : Array Value} {h : Heap} (hZ : Z.Warmed39 s.vm) (hw : ∀ d ∈ words, d.before a0 Z = true) {kI : Nat} (wi : (Jvm.Cond.instantiable ST kI).before a0 Z = true)
    {x b : Addr} {A : Cell} {z : Int32} {v0 c0 : Value} (E : RoadKit.Exa Z h x ST) (V : RoadKit.Fld Z h x ST "value" "[B" v0) (C : RoadKit.Fld Z h x ST "coder" "B" c0) (K : RoadKit.Arr Z h b A .char) (hty : Typed .char A) (S : RoadKit.Sta Z h ST "COMPACT_STRINGS" "Z" (.int z)) (hz : ¬ z = 0)
    (l0 : 0 < A.slots.size) (l2 : A.slots.size ≤ 536870912) (hp : ∀ i, i < A.slots.size → ¬ 255 < cv A i) (hfr : 4 ≤ R.frames) (hlo : W + 65 ≤ R.locals) :
    Back l R p e below s args New1.yN len W (fun P a => a = #[.ref x, .ref b] ∧ P.U.heap = h ∧ P.cells + 1 ≤ R.cells ∧ P.slots + A.slots.size ≤ R.slots)
      (fun P _ v B => ∃ L, Q Z x A h v B.U.heap L ∧ B.locs = P.locs ++ L ∧ B.cells = P.cells + 1 ∧ B.slots = P.slots + A.slots.size) := by
  intro m meth c P g ig mk a X hg hsize hdg hW hn hp'
  obtain ⟨rfl, rfl, r1, r2⟩ := hp'
  have al : Z.vm.Alike P.U.vm := hZ.alike.trans X.warmed.alike
  obtain ⟨D, cfV, kV, iV, fV, hD, gV, stV, knV, obV, asV, slV⟩ := id V
  obtain ⟨D', cfC, kC, iC, fC, hD', gC, stC, -, -, asC, slC⟩ := id C
  cases hD.symm.trans hD'
  obtain ⟨D2, kD, e1, e2, e3, e4, e5⟩ := id E
  cases hD.symm.trans e1
  obtain ⟨c2, k2, i1, i2, i3, -⟩ := Cond.instantiable_spec wi
  cases e2.symm.trans i1
  cases e3.symm.trans i2
  obtain ⟨kU, u1, u2⟩ := al.2.2 _ _ e3
  have hB : Blank ST x D P.U := ⟨hD, ⟨knV, fun q hq => by rw [hq] at obV; cases obV⟩, by rw [al.findClass]; exact e2, kU, u1, by rw [u2]; exact i3, by rw [u2]; exact e5 i3⟩
  have F1 : Found ST "value" "[B" fV P.U := ⟨SBG.found_only al ⟨cfV, kV, iV, gV⟩, stV⟩
  have F2 : Found ST "coder" "B" fC P.U := ⟨SBG.found_only al ⟨cfC, kC, iC, gC⟩, stC⟩
  have hA : Ch b A P.U := ⟨⟨K.1, State.isArrayOf_alike al K.2.1, K.2.2, by omega⟩, hty⟩
  have hS : StaticIs P.U ST "COMPACT_STRINGS" "Z" (.int z) := by
    obtain ⟨cfS, iS, kS, fS, st, cS, t1, t2, t3, t4, t5, t6, t7⟩ := S
    exact StaticIs.there (s := { Z with heap := P.U.heap }) ⟨cfS, iS, kS, fS, st, cS, t1, t2, t3, t4, t5, (fun q => by rw [q] at t6; cases t6), t7⟩ al rfl
  obtain ⟨v, B, X', ⟨⟨hv, E', V', q1, q2, q3, q4, q5, q6, q7, q8, q9, q10, q11⟩, hl, hc, hs⟩, st⟩ := New1.pays x D fV fC b A z (tab_of (moved hZ hw)) hfr hlo m meth c P g ig mk _ X hg hsize hdg hW hn ⟨r1, r2, rfl, hB, F1, F2, hA, hS, hz, l0, l2, hp⟩
  have al' : Z.vm.Alike B.U.vm := hZ.alike.trans X'.warmed.alike
  have hsz : E'.slots.size = D.slots.size := by
    obtain ⟨-, -, -, kB, w1, w2, w3⟩ := q1
    obtain ⟨kB', y1, y2⟩ := al'.2.2 _ _ e3
    rw [q2.2.1] at w1
    cases w1.symm.trans y1
    rw [w3, e5 i3, y2]
  refine ⟨v, B, X', ⟨_, ⟨hv, ?_, ⟨by omega, fun y cy hy hn' => q10 y cy (by simpa using hn') hy, fun y cy hy => ?_⟩, q11, ⟨E', _, q1.1, by rw [q2.2.1]; exact e2, by rw [q2.2.1]; exact e3, by rw [q2.1]; exact obV, fun _ => by rw [hsz]; exact e5 i3⟩,
    ⟨E', cfV, kV, iV, fV, q1.1, gV, stV, by rw [q2.1]; exact knV, by rw [q2.1]; exact obV, by rw [q2.2.1]; exact asV, q3⟩, ⟨E', cfC, kC, iC, fC, q1.1, gC, stC, by rw [q2.1]; exact knV, by rw [q2.1]; exact obV, by rw [q2.2.1]; exact asC, q4⟩,
    ⟨V', ⟨q5.1, State.isArrayOf_alike al'.symm q5.2.1, q5.2.2.1⟩, q6, by rw [← al'.findClass]; exact q7, q8, fun j hj => by have := q9 j hj; rwa [Nat.zero_add] at this⟩, fun O n d w F n1 n2 => ?_⟩, hl, hc, hs⟩, st⟩
  · intro y hy
    simp only [List.mem_cons, List.not_mem_nil, or_false] at hy
    rcases hy with rfl | rfl <;> rfl
  · by_cases q : y = x
    · subst q
      cases hD.symm.trans hy
      exact ⟨E', q1.1, q2.2.1, q2.1, hsz⟩
    · exact ⟨cy, q10 y cy q hy, rfl, rfl, rfl⟩
  · obtain ⟨D3, cf, k, i, f, g1, g2, g3, g4, g5, g6, g7⟩ := F
    cases hD.symm.trans g1
    simp only [RoadKit.slotOf, g2, gV, gC, Option.map_some, Option.getD_some] at n1 n2
    exact ⟨E', cf, k, i, f, q1.1, g2, g3, by rw [q2.1]; exact g4, by rw [q2.1]; exact g5, by rw [q2.2.1]; exact g6, by rw [q2.2.2 f.slot (by simp [n1, n2])]; exact g7⟩
end StrChars.Road
namespace StrChars.Road
open Jvm Sem ClassFile Op Lib Jvm.Stand Jvm.Free Jvm.Free.XT
/-- WHAT COMES BACK, the byte[] as a list of values -/
def QA (Z : State) (x : Addr) (zn : Int32) (cs : List Int32) (h : Heap) (v : Option Value) (h' : Heap) (L : List Loc) : Prop := v = none ∧ (∀ y ∈ L, y.base = x) ∧ RoadKit.Keep h h' [x] ∧ h'.size = h.size + 1 ∧ RoadKit.Exa Z h' x ST ∧ RoadKit.Fld Z h' x ST "value" "[B" (.ref h.size) ∧ RoadKit.Fld Z h' x ST "coder" "B" (.int 0) ∧
  (∃ kb, Z.vm.findClass "[B" = some kb ∧ RoadKit.Arv Z h' h.size kb .byte zn (cs.map fun c => .int (lo8 c)) (.int 0)) ∧
  ∀ (O n d : String) (w : Value), RoadKit.Fld Z h x O n d w → RoadKit.slotOf Z O n d ≠ RoadKit.slotOf Z ST "value" "[B" → RoadKit.slotOf Z O n d ≠ RoadKit.slotOf Z ST "coder" "B" → RoadKit.Fld Z h' x O n d w
/-- **new String(chars) AT A CALL, THE ARRAYS AS LISTS**: the char[] at b holds cs, not empty, no char above 255 -/
theorem backArv {p : Program} {l : Launch} {e : Env} {R : Room} {s : State} {args : Array Value} {below : List Frame} {len W : Nat} {Z : State} {a0 : Array Value} {h : Heap} (hZ : Z.Warmed39 s.vm) (hw : ∀ d ∈ words, d.before a0 Z = true) {kI : Nat} (wi : (Jvm.Cond.instantiable ST kI).before a0 Z = true)
    {x b : Addr} {k : ClassId} {zn z : Int32} {cs : List Int32} {dv v0 c0 : Value} (E : RoadKit.Exa Z h x ST) (V : RoadKit.Fld Z h x ST "value" "[B" v0) (C : RoadKit.Fld Z h x ST "coder" "B" c0) (K : RoadKit.Arv Z h b k .char zn (cs.map Value.int) dv) (S : RoadKit.Sta Z h ST "COMPACT_STRINGS" "Z" (.int z)) (hz : ¬ z = 0)
    (hlen : zn.toNatClampNeg = cs.length) (h0 : 0 < cs.length) (hbig : cs.length ≤ 536870912) (hall : ∀ c ∈ cs, ¬ 255 < c) (hfr : 4 ≤ R.frames) (hlo : W + 65 ≤ R.locals) :
    Back l R p e below s args New1.yN len W (fun P a => a = #[.ref x, .ref b] ∧ P.U.heap = h ∧ P.cells + 1 ≤ R.cells ∧ P.slots + cs.length ≤ R.slots)
      (fun P _ v B => ∃ L, QA Z x zn cs h v B.U.heap L ∧ B.locs = P.locs ++ L ∧ B.cells = P.cells + 1 ∧ B.slots = P.slots + cs.length) := by
  obtain ⟨A, K1, K2, K3, K4, K5, K6⟩ := K
  have e : A.slots.size = cs.length := K3.trans hlen
  have hat : ∀ (i : Nat) (hi : i < cs.length), A.slots[i]? = some (.int cs[i]) := fun i hi => by rw [K5 i (by omega)]; simp [List.getD_eq_getElem?_getD, hi]
  have hcv : ∀ (i : Nat) (hi : i < cs.length), cv A i = cs[i] := fun i hi => by unfold cv; rw [hat i hi]
  have hty : Typed .char A := fun i v hv => by
    have hi : i < A.slots.size := (Array.getElem?_eq_some_iff.mp hv).1
    have q := K5 i hi
    rw [hv] at q
    rw [Option.some.inj q]
    exact K6 i hi
  refine Back.mono (back hZ hw wi E V C K1 hty S hz (by omega) (by omega) (fun i hi => by rw [hcv i (by omega)]; exact hall _ (List.getElem_mem _)) hfr hlo) (fun P a hp => ⟨hp.1, hp.2.1, hp.2.2.1, by rw [e]; exact hp.2.2.2⟩) (fun P a v B hp hq => ?_)
  obtain ⟨L, ⟨q1, q2, q3, q4, q5, q6, q7, ⟨V', v1, v2, v3, v4, v5⟩, q9⟩, hl, hc, hs⟩ := hq
  refine ⟨L, ⟨q1, q2, q3, q4, q5, q6, q7, ⟨V'.cls, v3, V', v1, rfl, by rw [v4, e, hlen], K4, fun i hi => ?_, fun i hi => ?_⟩, q9⟩, hl, hc, by rw [hs, e]⟩
  · have hi' : i < cs.length := by omega
    rw [v5 i (by omega), hcv i hi']; simp [List.getD_eq_getElem?_getD, hi']
  · have hi' : i < cs.length := by omega
    simp only [List.getD_eq_getElem?_getD, List.getElem?_map, List.getElem?_eq_getElem hi', Option.map_some, Option.getD_some]
    exact fits_lo8 _
end StrChars.Road
namespace StrChars.Road
open Jvm Sem ClassFile Op Lib Jvm.Stand Jvm.Free Jvm.Free.XT
/-- WHAT COMES BACK, in the writer's own shape -/
def QV (Z : State) (x : Addr) (N : Int32) (bs : List Int32) (h : Heap) (n0 : Nat) (v : Option Value) (h' : Heap) (L : List Loc) : Prop := v = none ∧ RoadKit.Fr n0 L ∧ RoadKit.Keep h h' [x] ∧ RoadKit.Exa Z h' x ST ∧ RoadKit.Fld Z h' x ST "coder" "B" (.int 0) ∧
  ∃ (t : Addr) (kb : ClassId), n0 ≤ t ∧ h.size ≤ t ∧ ¬ t = x ∧ RoadKit.Fld Z h' x ST "value" "[B" (.ref t) ∧ RoadKit.Arv Z h' t kb .byte N (bs.map Value.int) (.int 0)
/-- **new String(chars) AT A CALL, FOR THE WRITER**: a char[] of n known ints, each 0 to 255 -/
theorem backV {p : Program} {l : Launch} {e : Env} {R : Room} {s : State} {args : Array Value} {below : List Frame} {len W : Nat} {Z : State} {a0 : Array Value} {h : Heap} (hZ : Z.Warmed39 s.vm) (hw : ∀ d ∈ words, d.before a0 Z = true) {kI : Nat} (wi : (Jvm.Cond.instantiable ST kI).before a0 Z = true)
    {x b : Addr} {kC : ClassId} {cs bs : List Int32} {d v0 c0 : Value} {z N : Int32} {n n0 : Nat} (hx0 : n0 ≤ x) (hh0 : n0 ≤ h.size) (E : RoadKit.Exa Z h x ST) (V : RoadKit.Fld Z h x ST "value" "[B" v0) (C : RoadKit.Fld Z h x ST "coder" "B" c0) (K : RoadKit.Arv Z h b kC .char N (cs.map Value.int) d) (S : RoadKit.Sta Z h ST "COMPACT_STRINGS" "Z" (.int z)) (hz : ¬ z = 0)
    (hn : cs.length = n) (hN : N = Int32.ofNat n) (l0 : 0 < n) (l2 : n ≤ 4000) (hp : ∀ c ∈ cs, ¬ c < 0 ∧ ¬ (255 : Int32) < c) (hb : bs = cs.map (fun c => c.toInt8.toInt32)) (hfr : 4 ≤ R.frames) (hlo : W + 65 ≤ R.locals) :
    Back l R p e below s args (⟨"java/lang/String", "<init>", "([C)V"⟩ : MethodName) len W (fun P a => a = #[.ref x, .ref b] ∧ P.U.heap = h ∧ P.cells + 1 ≤ R.cells ∧ P.slots + n ≤ R.slots)
      (fun P _ v B => ∃ L, QV Z x N bs h n0 v B.U.heap L ∧ B.locs = P.locs ++ L ∧ B.cells = P.cells + 1 ∧ B.slots = P.slots + n) := by
  subst hn hN hb
  refine Back.mono (backArv hZ hw wi E V C K S hz (n32 (by omega)) l0 (by omega) (fun c hc => (hp c hc).2) hfr hlo) (fun P a hp => hp) (fun P a v B hp hq => ?_)
  obtain ⟨L, ⟨q1, q2, q3, q4, q5, q6, q7, ⟨kb, v1, v2⟩, q9⟩, hl, hc, hs⟩ := hq
  exact ⟨L, ⟨q1, fun y hy => by rw [q2 y hy]; exact hx0, q3, q5, q7, h.size, kb, hh0, Nat.le_refl _, Nat.ne_of_gt E.lt, q6, by rw [List.map_map]; exact v2⟩, hl, hc, hs⟩
end StrChars.Road
namespace StrChars
open Jvm Sem ClassFile Op Lib Jvm.Stand Jvm.Free.XT Jvm.Free.ALB Jvm.Free.JM Jvm.Free
open Jvm.Lib.Cold (StaticIs)
def hi8 (x : Int32) : Int32 := lo8 (x >>> ((8 : Int32) &&& 31))
/-- what StringUTF16.getChar makes of two bytes -/
def pairCh (u v : Int32) : Int32 := (((u &&& 255) <<< ((0 : Int32) &&& 31)) ||| ((v &&& 255) <<< ((8 : Int32) &&& 31))).toUInt32.toUInt16.toUInt32.toInt32
theorem shr0 (c : Int32) : c >>> ((0 : Int32) &&& 31) = c := by
  have e : ((0 : Int32) &&& 31) = 0 := by decide
  rw [e]
  apply Int32.toBitVec_inj.mp
  rw [Int32.toBitVec_shiftRight]
  have e1 : ((0 : Int32).toBitVec.smod 32) = 0#32 := by decide
  rw [e1, BitVec.sshiftRight_eq']
  exact BitVec.sshiftRight_zero
theorem lo8_and (x : Int32) : (lo8 x &&& 255).toBitVec.toNat = x.toBitVec.toNat % 256 := by
  have h : (lo8 x).toBitVec = (x.toBitVec.signExtend 8).signExtend 32 := by rw [lo8, Int8.toBitVec_toInt32, Int32.toBitVec_toInt8]
  rw [Int32.toBitVec_and, BitVec.toNat_and, h]
  have e : ((x.toBitVec.signExtend 8).signExtend 32).toNat % 256 = x.toBitVec.toNat % 256 := by
    rw [BitVec.toNat_signExtend]
    have hlt := x.toBitVec.isLt
    simp only [BitVec.toNat_setWidth, BitVec.toNat_signExtend]
    split <;> split <;> omega
  rw [← e]
  exact Nat.and_two_pow_sub_one_eq_mod _ 8
theorem pair_says {c : Int32} (h0 : ¬ c < 0) (h1 : ¬ 65535 < c) : pairCh (lo8 c) (hi8 c) = c := by
  rw [Int32.lt_iff_toInt_lt] at h0 h1
  have e0 : (0 : Int32).toInt = 0 := rfl
  have e1 : (65535 : Int32).toInt = 65535 := rfl
  have hc : c.toInt = c.toBitVec.toNat := by
    have := c.toBitVec.isLt
    have e : c.toInt = c.toBitVec.toInt := rfl
    rw [e] at h0 h1
    rw [e]
    rw [BitVec.toInt_eq_toNat_cond] at h0 h1 ⊢
    split at h0 <;> split <;> omega
  have hn : c.toBitVec.toNat < 65536 := by omega
  have a1 := lo8_and c
  have a2 : (hi8 c &&& 255).toBitVec.toNat = c.toBitVec.toNat / 256 := by
    rw [hi8, lo8_and]
    have e : ((8 : Int32) &&& 31) = 8 := by decide
    rw [e, Int32.toBitVec_shiftRight]
    have e2 : ((8 : Int32).toBitVec.smod 32) = 8#32 := by decide
    rw [e2, BitVec.sshiftRight_eq', BitVec.toNat_sshiftRight_of_msb_false (by rw [BitVec.msb_eq_false_iff_two_mul_lt]; omega)]
    show c.toBitVec.toNat >>> 8 % 256 = _
    rw [Nat.shiftRight_eq_div_pow]
    omega
  unfold pairCh
  apply Int32.toBitVec_inj.mp
  apply BitVec.eq_of_toNat_eq
  have f0 : ((0 : Int32) &&& 31) = 0 := by decide
  have f8 : ((8 : Int32) &&& 31) = 8 := by decide
  rw [f0, f8]
  have g : (((lo8 c &&& 255) <<< (0 : Int32)) ||| ((hi8 c &&& 255) <<< (8 : Int32))).toBitVec.toNat = c.toBitVec.toNat := by
    rw [Int32.toBitVec_or, Int32.toBitVec_shiftLeft, Int32.toBitVec_shiftLeft]
    have s0 : ((0 : Int32).toBitVec.smod 32) = 0#32 := by decide
    have s8 : ((8 : Int32).toBitVec.smod 32) = 8#32 := by decide
    rw [s0, s8, BitVec.toNat_or]
    simp only [BitVec.shiftLeft_eq', BitVec.toNat_shiftLeft, a1, a2]
    show (c.toBitVec.toNat % 256) <<< 0 % 2 ^ 32 ||| (c.toBitVec.toNat / 256) <<< 8 % 2 ^ 32 = _
    rw [Nat.shiftLeft_zero, Nat.mod_eq_of_lt (show c.toBitVec.toNat % 256 < 2 ^ 32 by omega), Nat.mod_eq_of_lt (show (c.toBitVec.toNat / 256) <<< 8 < 2 ^ 32 by rw [Nat.shiftLeft_eq]; omega), Nat.or_comm, ← Nat.shiftLeft_add_eq_or_of_lt (by omega), Nat.shiftLeft_eq]
    omega
  show BitVec.toNat (((((lo8 c &&& 255) <<< (0 : Int32)) ||| ((hi8 c &&& 255) <<< (8 : Int32))).toBitVec.setWidth 16).setWidth 32) = _
  rw [BitVec.toNat_setWidth, BitVec.toNat_setWidth, g]
  omega
end StrChars
namespace StrChars
open Jvm Sem ClassFile Op Lib Jvm.Stand Jvm.Free.XT Jvm.Free.ALB Jvm.Free.JM Jvm.Free
open Jvm.Lib.Cold (StaticIs)
theorem shr1 {n : Nat} (h : 2 * n < 2 ^ 31) : Int32.ofNat (2 * n) >>> ((1 : Int32) &&& 31) = Int32.ofNat n := by
  have e : ((1 : Int32) &&& 31) = 1 := by decide
  rw [e]
  apply Int32.toBitVec_inj.mp
  rw [Int32.toBitVec_shiftRight]
  have e1 : ((1 : Int32).toBitVec.smod 32) = 1#32 := by decide
  have hm : (BitVec.ofNat 32 (2 * n)).toNat = 2 * n := by rw [BitVec.toNat_ofNat, Nat.mod_eq_of_lt (by omega)]
  rw [e1, BitVec.sshiftRight_eq']
  apply BitVec.eq_of_toNat_eq
  show ((BitVec.ofNat 32 (2 * n)).sshiftRight 1).toNat = (BitVec.ofNat 32 n).toNat
  rw [BitVec.toNat_sshiftRight_of_msb_false (by rw [BitVec.msb_eq_false_iff_two_mul_lt, hm]; omega), hm, BitVec.toNat_ofNat, Nat.shiftRight_eq_div_pow]
  omega
/-- charAt's cast of a byte read back -/
def chr8 (u : Int32) : Int32 := (u &&& 255).toUInt32.toUInt16.toUInt32.toInt32
theorem chr8_lo8 {c : Int32} (h0 : ¬ c < 0) (h1 : ¬ 255 < c) : chr8 (lo8 c) = c := by
  have t : ∀ k : Fin 256, (Int32.ofNat k.val).toUInt32.toUInt16.toUInt32.toInt32 = Int32.ofNat k.val := by decide +kernel
  unfold chr8
  rw [lo8_mask h0 h1]
  rw [Int32.lt_iff_toInt_lt] at h0 h1
  have e0 : (0 : Int32).toInt = 0 := rfl
  have e1 : (255 : Int32).toInt = 255 := rfl
  obtain ⟨k, hk⟩ : ∃ k : Nat, c.toInt = k := ⟨c.toInt.toNat, by omega⟩
  have hx : c = Int32.ofNat k := Int32.toInt_inj.mp (by rw [hk, Int32.toInt_ofNat_small (by omega)])
  rw [hx]
  exact t ⟨k, by omega⟩
theorem narrow_ch {c : Int32} (h0 : ¬ c < 0) (h1 : ¬ 65535 < c) : narrow .char (.int c) = .int c := by
  have q : narrow .char (.int (pairCh (lo8 c) (hi8 c))) = .int (pairCh (lo8 c) (hi8 c)) := narrow_c _
  rwa [pair_says h0 h1] at q
/-- the array's cell V codes the n chars f 0 .. f (n - 1) by the coder cd, as the JDK does: coder 1 just where some char is above 255 -/
def Cod (cd : Int32) (n : Nat) (f : Nat → Int32) (V : Cell) : Prop := (cd = 0 ∧ V.slots.size = n ∧ ∀ j, j < n → V.slots[j]? = some (.int (lo8 (f j))) ∧ ¬ 255 < f j) ∨ (cd = 1 ∧ V.slots.size = 2 * n ∧ (∀ j, j < n → V.slots[2 * j]? = some (.int (lo8 (f j))) ∧ V.slots[2 * j + 1]? = some (.int (hi8 (f j)))) ∧ ∃ j, j < n ∧ 255 < f j)
theorem Cod.cd {cd : Int32} {n : Nat} {f : Nat → Int32} {V : Cell} (h : Cod cd n f V) : cd = 0 ∨ cd = 1 := h.imp (fun q => q.1) fun q => q.1
theorem Cod.len {cd : Int32} {n : Nat} {f : Nat → Int32} {V : Cell} (h : Cod cd n f V) (hs : V.slots.size < 2 ^ 31) : Int32.ofNat V.slots.size >>> (cd &&& 31) = Int32.ofNat n := by
  rcases h with ⟨rfl, h, -⟩ | ⟨rfl, h, -⟩
  · rw [shr0, h]
  · rw [h, shr1 (by omega)]
/-- **x is a String of the n chars f 0 .. f (n - 1)**, Latin-1 or UTF-16; its array at t has the cell V -/
def Txt (x t : Addr) (V : Cell) (cd : Int32) (n : Nat) (f : Nat → Int32) (U : State) : Prop := Exact "java/lang/String" x U ∧ Has x "java/lang/String" "value" "[B" (.ref t) U ∧ Has x "java/lang/String" "coder" "B" (.int cd) U ∧ XT.Arr .byte t V U ∧ Cod cd n f V ∧ ∀ j, j < n → ¬ f j < 0 ∧ ¬ 65535 < f j
theorem Txt.mv {x t : Addr} {V : Cell} {cd : Int32} {n : Nat} {f : Nat → Int32} {U U' : State} (h : Txt x t V cd n f U) (hal : U.vm.Alike U'.vm) (hh : U'.heap = U.heap) : Txt x t V cd n f U' := ⟨h.1.mv hal hh, h.2.1.mv hal hh, h.2.2.1.mv hal hh, h.2.2.2.1.mv hal hh, h.2.2.2.2⟩
namespace Cdr
def yN : MethodName := ⟨"java/lang/String", "coder", "()B"⟩
abbrev yB : ByteArray := jdk_42_method_152_code
theorem d0 : decode yB 0 = .ok (.getstatic 38, 3) := by decide +kernel
theorem d3 : decode yB 3 = .ok (.ifCond (.eq) 10, 3) := by decide +kernel
theorem d6 : decode yB 6 = .ok (.aload_n 0, 1) := by decide +kernel
theorem d7 : decode yB 7 = .ok (.getfield 15, 3) := by decide +kernel
theorem d10 : decode yB 10 = .ok (.goto 4, 3) := by decide +kernel
theorem d14 : decode yB 14 = .ok (.ireturn, 1) := by decide +kernel
def site : List Cond := [.fieldLink "java/lang/String" 38 "java/lang/String" "COMPACT_STRINGS" "Z", .fieldLink "java/lang/String" 15 "java/lang/String" "coder" "B"]
def tab : Cond := tabOf yN yB 1 (some .byte) site
def P (x : Addr) (cd z : Int32) (args : Array Value) (s : State) : Prop := args = #[.ref x] ∧ Has x "java/lang/String" "coder" "B" (.int cd) s ∧ (cd = 0 ∨ cd = 1) ∧ StaticIs s "java/lang/String" "COMPACT_STRINGS" "Z" (.int z) ∧ ¬ z = 0
def E (cd : Int32) (r : Option Value) (s u : State) : Prop := XT.PureE (some (.int cd)) r s u
theorem law (l : Launch) (x : Addr) (cd z : Int32) : Law l yN 1 0 0 0 yB 1 (some .byte) site (P x cd z) (E cd) [] 0 0 := by
  refine Law.of_walk (plainFor_of_name (by decide +kernel)) (by decide +kernel) (by decide +kernel) (by decide) (fun _ _ h => by rw [h.1]; rfl) (fun _ U U' hal hh h => ⟨h.1, h.2.1.mv hal hh, h.2.2.1, h.2.2.2.1.there hal hh, h.2.2.2.2⟩) (fun r U U' V V' h1 hal h2 h => XT.PureE.mv r U U' V V' h1 hal h2 h) ?_
  intro p e s m args below meth c s₁ X0 hexec hbytes hml hret hlk hnm hown hh0 W hP
  obtain ⟨rfl, hx, hc, s1, hz⟩ := hP
  have c1 : Steps p.tables e below (s₁.setTop (entryFrame m #[.ref x] 1)) (s₁.setTop (mkF m 0 #[.val (.ref x)] [])) := entry rfl
  obtain ⟨T2, X2, q2, st2⟩ := X0.sget hexec hown (wk W (.fieldLink "java/lang/String" 38 "java/lang/String" "COMPACT_STRINGS" "Z")) s1 (fun _ _ h => by rw [hh0]; exact h) (g := (mkF m 0 #[.val (.ref x)] [])) rfl (hb hbytes d0)
  have hh2 := q2.trans hh0
  have c3 : Steps p.tables e below (s₁.setTop (entryFrame m #[.ref x] 1)) (T2.setTop (mkF m 7 #[.val (.ref x)] [.ref x])) := (c1.trans (st2 _ (Steps.refl _))).trans (by
    refine XS.ifNo X2.here hexec rfl (hb hbytes d3) rfl (i0_eq_f hz) ?_
    refine XS.aloadN X2.here hexec rfl (hb hbytes d6) rfl rfl ?_
    exact Steps.refl _)
  obtain ⟨T4, X4, q4, st4⟩ := X2.hget hexec hown (wk W (.fieldLink "java/lang/String" 15 "java/lang/String" "coder" "B")) (hx.mv X2.warmed.alike hh2) (g := (mkF m 7 #[.val (.ref x)] [.ref x])) rfl (rest := []) rfl (hb hbytes d7)
  have c5 : Steps p.tables e below (s₁.setTop (entryFrame m #[.ref x] 1)) (T4.setTop (mkF m 14 #[.val (.ref x)] [.int cd])) := (c3.trans (st4 _ (Steps.refl _))).trans (by
    refine XS.goto X4.here hexec rfl (pc0 := 10) rfl (hb hbytes d10) (by decide) rfl ?_
    exact Steps.refl _)
  exact ⟨T4, some (.int cd), _, _, _, X4, rfl, rfl, rfl, (fun h => by cases h), ⟨rfl, q4.trans hh2⟩, fun fs hl => c5.trans (X4.ireturnOut hexec hret (by rcases hc with rfl | rfl <;> rfl) (Or.inr (Or.inr (Or.inl rfl))) (hb hbytes d14) hl)⟩
end Cdr
namespace Len
def yN : MethodName := ⟨"java/lang/String", "length", "()I"⟩
abbrev yB : ByteArray := jdk_42_method_54_code
theorem d0 : decode yB 0 = .ok (.aload_n 0, 1) := by decide +kernel
theorem d1 : decode yB 1 = .ok (.getfield 9, 3) := by decide +kernel
theorem d4 : decode yB 4 = .ok (.arraylength, 1) := by decide +kernel
theorem d5 : decode yB 5 = .ok (.aload_n 0, 1) := by decide +kernel
theorem d6 : decode yB 6 = .ok (.invokevirtual 335, 3) := by decide +kernel
theorem d9 : decode yB 9 = .ok (.ishr, 1) := by decide +kernel
theorem d10 : decode yB 10 = .ok (.ireturn, 1) := by decide +kernel
def site : List Cond := [.fieldLink "java/lang/String" 9 "java/lang/String" "value" "[B", Cdr.tab] ++ virtW "java/lang/String" 335 "java/lang/String" Cdr.yN Cdr.yN
def tab : Cond := tabOf yN yB 1 (some .int) site
def P (x t : Addr) (V : Cell) (cd : Int32) (n : Nat) (f : Nat → Int32) (z : Int32) (args : Array Value) (s : State) : Prop := args = #[.ref x] ∧ Txt x t V cd n f s ∧ StaticIs s "java/lang/String" "COMPACT_STRINGS" "Z" (.int z) ∧ ¬ z = 0
def E (n : Nat) (r : Option Value) (s u : State) : Prop := XT.PureE (some (.int (Int32.ofNat n))) r s u
/-- length() of a String of n chars, in either coding -/
theorem law (l : Launch) (x t : Addr) (V : Cell) (cd : Int32) (n : Nat) (f : Nat → Int32) (z : Int32) : Law l yN 1 0 1 13 yB 1 (some .int) site (P x t V cd n f z) (E n) [] 0 0 := by
  refine Law.of_walk (plainFor_of_name (by decide +kernel)) (by decide +kernel) (by decide +kernel) (by decide) (fun _ _ h => by rw [h.1]; rfl) (fun _ U U' hal hh h => ⟨h.1, h.2.1.mv hal hh, h.2.2.1.there hal hh, h.2.2.2⟩) (fun r U U' V V' h1 hal h2 h => XT.PureE.mv r U U' V V' h1 hal h2 h) ?_
  intro p e s m args below meth c s₁ X0 hexec hbytes hml hret hlk hnm hown hh0 W hP
  obtain ⟨rfl, hx, s1, hz⟩ := hP
  have v31 := hx.2.2.2.1.2.2.2
  have c1 : Steps p.tables e below (s₁.setTop (entryFrame m #[.ref x] 1)) (s₁.setTop (mkF m 1 #[.val (.ref x)] [.ref x])) := Steps.trans (entry rfl) (by
    show Steps p.tables e below (s₁.setTop (mkF m 0 #[.val (.ref x)] [])) _
    refine XS.aloadN X0.here hexec rfl (hb hbytes d0) rfl rfl ?_
    exact Steps.refl _)
  obtain ⟨T2, X2, q2, st2⟩ := X0.hget hexec hown (wk W (.fieldLink "java/lang/String" 9 "java/lang/String" "value" "[B")) (hx.mv X0.warmed.alike hh0).2.1 (g := (mkF m 1 #[.val (.ref x)] [.ref x])) rfl (rest := []) rfl (hb hbytes d1)
  have hh2 := q2.trans hh0
  have hx2 := hx.mv X2.warmed.alike hh2
  have c3 : Steps p.tables e below (s₁.setTop (entryFrame m #[.ref x] 1)) (T2.setTop (mkF m 6 #[.val (.ref x)] [.ref x, .int (Int32.ofNat V.slots.size)])) := (c1.trans (st2 _ (Steps.refl _))).trans (by
    refine X2.alen hexec hx2.2.2.2.1 rfl rfl (hb hbytes d4) ?_
    refine XS.aloadN X2.here hexec rfl (hb hbytes d5) rfl rfl ?_
    exact Steps.refl _)
  obtain ⟨v4, T4, X4, E4, g4⟩ := X2.callV hexec (Cdr.law l x cd z) hown (wks W (virtW "java/lang/String" 335 "java/lang/String" Cdr.yN Cdr.yN)) rfl (by decide) (wk W Cdr.tab) (W := 1) (Nat.le_of_ble_eq_true rfl) (Nat.le_of_ble_eq_true rfl) (Nat.le_refl _) (Nat.le_refl _) (hx2.1.fc X2.warmed.alike) hx2.1.is (g := (mkF m 6 #[.val (.ref x)] [.ref x, .int (Int32.ofNat V.slots.size)])) rfl (by rw [hml]; rfl) c3 (argsL := []) (rest := [.int (Int32.ofNat V.slots.size)]) rfl rfl (by show 2 * 0 + (1 + 0) ≤ _; decide) (hb hbytes d6) (⟨rfl, hx2.2.2.1, hx.2.2.2.2.1.cd, s1.there X2.warmed.alike hh2, hz⟩)
  obtain ⟨rfl, q4⟩ := E4
  have c5 : Steps p.tables e below (s₁.setTop (entryFrame m #[.ref x] 1)) (T4.setTop (mkF m 10 #[.val (.ref x)] [.int (Int32.ofNat V.slots.size >>> (cd &&& 31))])) := Steps.trans g4 (by
    refine ishr X4.here hexec rfl (hb hbytes d9) rfl ?_
    exact Steps.refl _)
  rw [hx.2.2.2.2.1.len v31] at c5
  exact ⟨T4, some (.int (Int32.ofNat n)), _, _, _, X4, rfl, rfl, rfl, (fun h => by cases h), ⟨rfl, q4.trans hh2⟩, fun fs hl => c5.trans (X4.ireturnOut hexec hret rfl (Or.inl rfl) (hb hbytes d10) hl)⟩
theorem pays {l : Launch} {R : Room} {p : Program} {e : Env} {below : List Frame} {s : State} {sargs : Array Value} {len W : Nat} (x t : Addr) (V : Cell) (cd : Int32) (n : Nat) (f : Nat → Int32) (z : Int32) (htab : tab.before sargs s = true) (hfr : 2 ≤ R.frames) (hlo : W + 25 ≤ R.locals) :
    Back l R p e below s sargs yN len W (fun A₁ a₁ => A₁.cells + 0 ≤ R.cells ∧ A₁.slots + 0 ≤ R.slots ∧ P x t V cd n f z a₁ A₁.U) (fun A₁ _ v₁ B₁ => E n v₁ A₁.U B₁.U ∧ B₁.locs = A₁.locs ++ [] ∧ B₁.cells = A₁.cells + 0 ∧ B₁.slots = A₁.slots + 0) :=
  (law l x t V cd n f z).pays htab hfr (by omega)
end Len
namespace IsL
def yN : MethodName := ⟨"java/lang/String", "isLatin1", "()Z"⟩
abbrev yB : ByteArray := jdk_42_method_154_code
theorem d0 : decode yB 0 = .ok (.getstatic 38, 3) := by decide +kernel
theorem d3 : decode yB 3 = .ok (.ifCond (.eq) 14, 3) := by decide +kernel
theorem d6 : decode yB 6 = .ok (.aload_n 0, 1) := by decide +kernel
theorem d7 : decode yB 7 = .ok (.getfield 15, 3) := by decide +kernel
theorem d10 : decode yB 10 = .ok (.ifCond (.ne) 7, 3) := by decide +kernel
theorem d13 : decode yB 13 = .ok (.iconst 1, 1) := by decide +kernel
theorem d14 : decode yB 14 = .ok (.goto 4, 3) := by decide +kernel
theorem d17 : decode yB 17 = .ok (.iconst 0, 1) := by decide +kernel
theorem d18 : decode yB 18 = .ok (.ireturn, 1) := by decide +kernel
def site : List Cond := [.fieldLink "java/lang/String" 38 "java/lang/String" "COMPACT_STRINGS" "Z", .fieldLink "java/lang/String" 15 "java/lang/String" "coder" "B"]
def tab : Cond := tabOf yN yB 1 (some .boolean) site
def P (x : Addr) (cd z : Int32) (args : Array Value) (s : State) : Prop := args = #[.ref x] ∧ Has x "java/lang/String" "coder" "B" (.int cd) s ∧ (cd = 0 ∨ cd = 1) ∧ StaticIs s "java/lang/String" "COMPACT_STRINGS" "Z" (.int z) ∧ ¬ z = 0
def E (cd : Int32) (r : Option Value) (s u : State) : Prop := XT.PureE (some (.int (1 - cd))) r s u
theorem law (l : Launch) (x : Addr) (cd z : Int32) : Law l yN 1 0 0 0 yB 1 (some .boolean) site (P x cd z) (E cd) [] 0 0 := by
  refine Law.of_walk (plainFor_of_name (by decide +kernel)) (by decide +kernel) (by decide +kernel) (by decide) (fun _ _ h => by rw [h.1]; rfl) (fun _ U U' hal hh h => ⟨h.1, h.2.1.mv hal hh, h.2.2.1, h.2.2.2.1.there hal hh, h.2.2.2.2⟩) (fun r U U' V V' h1 hal h2 h => XT.PureE.mv r U U' V V' h1 hal h2 h) ?_
  intro p e s m args below meth c s₁ X0 hexec hbytes hml hret hlk hnm hown hh0 W hP
  obtain ⟨rfl, hx, hc, s1, hz⟩ := hP
  have c1 : Steps p.tables e below (s₁.setTop (entryFrame m #[.ref x] 1)) (s₁.setTop (mkF m 0 #[.val (.ref x)] [])) := entry rfl
  obtain ⟨T2, X2, q2, st2⟩ := X0.sget hexec hown (wk W (.fieldLink "java/lang/String" 38 "java/lang/String" "COMPACT_STRINGS" "Z")) s1 (fun _ _ h => by rw [hh0]; exact h) (g := (mkF m 0 #[.val (.ref x)] [])) rfl (hb hbytes d0)
  have hh2 := q2.trans hh0
  have c3 : Steps p.tables e below (s₁.setTop (entryFrame m #[.ref x] 1)) (T2.setTop (mkF m 7 #[.val (.ref x)] [.ref x])) := (c1.trans (st2 _ (Steps.refl _))).trans (by
    refine XS.ifNo X2.here hexec rfl (hb hbytes d3) rfl (i0_eq_f hz) ?_
    refine XS.aloadN X2.here hexec rfl (hb hbytes d6) rfl rfl ?_
    exact Steps.refl _)
  obtain ⟨T4, X4, q4, st4⟩ := X2.hget hexec hown (wk W (.fieldLink "java/lang/String" 15 "java/lang/String" "coder" "B")) (hx.mv X2.warmed.alike hh2) (g := (mkF m 7 #[.val (.ref x)] [.ref x])) rfl (rest := []) rfl (hb hbytes d7)
  have c5 : Steps p.tables e below (s₁.setTop (entryFrame m #[.ref x] 1)) (T4.setTop (mkF m 10 #[.val (.ref x)] [.int cd])) := c3.trans (st4 _ (Steps.refl _))
  have c6 : Steps p.tables e below (s₁.setTop (entryFrame m #[.ref x] 1)) (T4.setTop (mkF m 18 #[.val (.ref x)] [.int (1 - cd)])) := by
    rcases hc with rfl | rfl
    · exact c5.trans (by
        refine XS.ifNo X4.here hexec rfl (hb hbytes d10) rfl (i0_ne_f rfl) ?_
        refine iconstV X4.here hexec rfl 1 (hb hbytes d13) (by decide) ?_
        refine XS.goto X4.here hexec rfl (pc0 := 14) rfl (hb hbytes d14) (by decide) rfl ?_
        exact Steps.refl _)
    · exact c5.trans (by
        refine XS.ifYes X4.here hexec rfl (pc0 := 10) rfl (hb hbytes d10) rfl (i0_ne_t (by decide)) (by decide) rfl ?_
        refine iconstV X4.here hexec rfl 0 (hb hbytes d17) (by decide) ?_
        exact Steps.refl _)
  exact ⟨T4, some (.int (1 - cd)), _, _, _, X4, rfl, rfl, rfl, (fun h => by cases h), ⟨rfl, q4.trans hh2⟩, fun fs hl => c6.trans (X4.ireturnOut hexec hret (by rcases hc with rfl | rfl <;> rfl) (Or.inr (Or.inl rfl)) (hb hbytes d18) hl)⟩
end IsL
namespace LChA
def yN : MethodName := ⟨"java/lang/StringLatin1", "charAt", "([BI)C"⟩
abbrev yB : ByteArray := jdk_43_method_2_code
theorem d0 : decode yB 0 = .ok (.iload_n 1, 1) := by decide +kernel
theorem d1 : decode yB 1 = .ok (.aload_n 0, 1) := by decide +kernel
theorem d2 : decode yB 2 = .ok (.arraylength, 1) := by decide +kernel
theorem d3 : decode yB 3 = .ok (.invokestatic 9, 3) := by decide +kernel
theorem d6 : decode yB 6 = .ok (.aload_n 0, 1) := by decide +kernel
theorem d7 : decode yB 7 = .ok (.iload_n 1, 1) := by decide +kernel
theorem d8 : decode yB 8 = .ok (.baload, 1) := by decide +kernel
theorem d9 : decode yB 9 = .ok (.sipush 255, 3) := by decide +kernel
theorem d12 : decode yB 12 = .ok (.iand, 1) := by decide +kernel
theorem d13 : decode yB 13 = .ok (.i2c, 1) := by decide +kernel
theorem d14 : decode yB 14 = .ok (.ireturn, 1) := by decide +kernel
def site : List Cond := [JO.Str_checkIndex.tab] ++ staticW "java/lang/StringLatin1" 9 JO.Str_checkIndex.yN
def tab : Cond := tabOf yN yB 2 (some .char) site
def P (t : Addr) (V : Cell) (i : Nat) (u : Int32) (fm : Value) (args : Array Value) (s : State) : Prop := args = #[.ref t, .int (Int32.ofNat i)] ∧ XT.Arr .byte t V s ∧ V.slots[i]? = some (.int u) ∧ (StaticIs s "jdk/internal/util/Preconditions" "SIOOBE_FORMATTER" "Ljava/util/function/BiFunction;" fm ∧ fm.isRef = true)
def E (u : Int32) (r : Option Value) (s w : State) : Prop := XT.PureE (some (.int (chr8 u))) r s w
theorem law (l : Launch) (t : Addr) (V : Cell) (i : Nat) (u : Int32) (fm : Value) : Law l yN 2 2 2 27 yB 2 (some .char) site (P t V i u fm) (E u) [] 0 0 := by
  refine Law.of_walk (plainFor_of_name (by decide +kernel)) (by decide +kernel) (by decide +kernel) (by decide) (fun _ _ h => by rw [h.1]; rfl) (fun _ U U' hal hh h => ⟨h.1, h.2.1.mv hal hh, h.2.2.1, h.2.2.2.1.there hal hh, h.2.2.2.2⟩) (fun r U U' V V' h1 hal h2 h => XT.PureE.mv r U U' V V' h1 hal h2 h) ?_
  intro p e s m args below meth c s₁ X0 hexec hbytes hml hret hlk hnm hown hh0 W hP
  obtain ⟨rfl, hV, hu, s1, rf⟩ := hP
  have v31 := hV.2.2.2
  have hi : i < V.slots.size := (Array.getElem?_eq_some_iff.mp hu).1
  have c1 : Steps p.tables e below (s₁.setTop (entryFrame m #[.ref t, .int (Int32.ofNat i)] 2)) (s₁.setTop (mkF m 0 #[.val (.ref t), .val (.int (Int32.ofNat i))] [])) := entry rfl
  have c2 : Steps p.tables e below (s₁.setTop (entryFrame m #[.ref t, .int (Int32.ofNat i)] 2)) (s₁.setTop (mkF m 3 #[.val (.ref t), .val (.int (Int32.ofNat i))] [.int (Int32.ofNat V.slots.size), .int (Int32.ofNat i)])) := c1.trans (by
    refine XS.iloadN X0.here hexec rfl (hb hbytes d0) rfl ?_
    refine XS.aloadN X0.here hexec rfl (hb hbytes d1) rfl rfl ?_
    refine X0.alen hexec (hV.mv X0.warmed.alike hh0) rfl rfl (hb hbytes d2) ?_
    exact Steps.refl _)
  obtain ⟨v3, T3, X3, E3, g3⟩ := X0.callS hexec (JO.Str_checkIndex.law l (Int32.ofNat i) (Int32.ofNat V.slots.size) fm) hown (wks W (staticW "java/lang/StringLatin1" 9 JO.Str_checkIndex.yN)) (wk W JO.Str_checkIndex.tab) (W := 0) (Nat.le_of_ble_eq_true rfl) (Nat.le_of_ble_eq_true rfl) (Nat.le_refl _) (Nat.le_refl _) (g := (mkF m 3 #[.val (.ref t), .val (.int (Int32.ofNat i))] [.int (Int32.ofNat V.slots.size), .int (Int32.ofNat i)])) rfl (by rw [hml]; rfl) c2 (argsL := [.int (Int32.ofNat i), .int (Int32.ofNat V.slots.size)]) (rest := []) rfl rfl (by show 2 * 0 + 0 ≤ _; decide) (hb hbytes d3) (⟨rfl, rf, s1.there X0.warmed.alike hh0, Int32.ofNat_not_neg (by omega), lt32 v31 hi⟩)
  obtain ⟨rfl, q3⟩ := E3
  have hh3 := q3.trans hh0
  have c4 : Steps p.tables e below (s₁.setTop (entryFrame m #[.ref t, .int (Int32.ofNat i)] 2)) (T3.setTop (mkF m 14 #[.val (.ref t), .val (.int (Int32.ofNat i))] [.int (chr8 u)])) := Steps.trans g3 (by
    refine XS.aloadN X3.here hexec rfl (hb hbytes d6) rfl rfl ?_
    refine XS.iloadN X3.here hexec rfl (hb hbytes d7) rfl ?_
    refine X3.aget hexec (hV.mv X3.warmed.alike hh3) rfl hu rfl rfl (hb hbytes d8) ?_
    refine sipushV X3.here hexec rfl 255 (hb hbytes d9) (by decide) ?_
    refine XS.iand X3.here hexec rfl (hb hbytes d12) rfl ?_
    refine i2c X3.here hexec rfl (hb hbytes d13) rfl ?_
    exact Steps.refl _)
  exact ⟨T3, some (.int (chr8 u)), _, _, _, X3, rfl, rfl, rfl, (fun h => by cases h), ⟨rfl, hh3⟩, fun fs hl => c4.trans (X3.ireturnOut hexec hret (narrow_c _) (Or.inr (Or.inr (Or.inr (Or.inl rfl)))) (hb hbytes d14) hl)⟩
end LChA
end StrChars
namespace StrChars.Road
open Jvm Sem ClassFile Op Lib Jvm.Stand Jvm.Free Jvm.Free.XT
open Jvm.Lib.Cold (StaticIs)
theorem consq {a : Array Value} {s : State} {c : Jvm.Cond} {L : List Jvm.Cond} (h0 : c.before a s = true) (h : ∀ w ∈ L, w.before a s = true) : ∀ w ∈ c :: L, w.before a s = true := fun w hw => (List.mem_cons.mp hw).elim (fun e => e ▸ h0) (h w)
/-- the words of String.length(), either coding -/
abbrev wordsLen : List Jvm.Cond := [.code Len.yN Len.yB 1 (some .int), .initialized ST, .fieldLink ST 9 ST "value" "[B", .fieldLink ST 38 ST "COMPACT_STRINGS" "Z", .fieldLink ST 15 ST "coder" "B", .code Cdr.yN Cdr.yB 1 (some .byte), .methodLink ST 335 Cdr.yN, .declares Cdr.yN, .selects ST Cdr.yN Cdr.yN, .instanceMethod Cdr.yN]
theorem tabLen_of {a : Array Value} {s : State} (h : ∀ w ∈ wordsLen, w.before a s = true) : Len.tab.before a s = true := by
  have hc : Cdr.tab.before a s = true := unparts (wk h (.code Cdr.yN Cdr.yB 1 (some .byte))) (wks h (.initialized Cdr.yN.cls :: Cdr.site))
  have q := consq hc h
  exact unparts (wk q (.code Len.yN Len.yB 1 (some .int))) (wks q (.initialized Len.yN.cls :: Len.site))
theorem movedLen {Z s : State} {a0 args : Array Value} (hZ : Z.Warmed39 s.vm) (hw : ∀ d ∈ wordsLen, d.before a0 Z = true) : ∀ d ∈ wordsLen, d.before args s = true := fun d hd => by
  have q := hw d hd
  have t : ∀ d ∈ wordsLen, d = .arrayClass .byte ∨ (d.onTables && d.keepsFace) = true := by decide +kernel
  rcases t d hd with rfl | t
  · exact RoadKit.mvA hZ q
  · exact RoadKit.mv hZ q t
/-- the bytes of the chars cs, low before high -/
def wideBytes : List Int32 → List Value
  | [] => []
  | c :: cs => .int (lo8 c) :: .int (hi8 c) :: wideBytes cs
theorem wide_lo (d : Value) : ∀ (cs : List Int32) (j : Nat), j < cs.length → (wideBytes cs).getD (2 * j) d = .int (lo8 (cs.getD j 0))
  | [], j, h => absurd h (Nat.not_lt_zero j)
  | c :: cs, 0, _ => rfl
  | c :: cs, j + 1, h => by
    have q := wide_lo d cs j (by simpa using h)
    rw [show 2 * (j + 1) = 2 * j + 1 + 1 from by omega]
    simpa [wideBytes] using q
theorem wide_hi (d : Value) : ∀ (cs : List Int32) (j : Nat), j < cs.length → (wideBytes cs).getD (2 * j + 1) d = .int (hi8 (cs.getD j 0))
  | [], j, h => absurd h (Nat.not_lt_zero j)
  | c :: cs, 0, _ => rfl
  | c :: cs, j + 1, h => by
    have q := wide_hi d cs j (by simpa using h)
    rw [show 2 * (j + 1) + 1 = 2 * j + 1 + 1 + 1 from by omega]
    simpa [wideBytes] using q
theorem low_at (d : Value) (cs : List Int32) (j : Nat) (h : j < cs.length) : (cs.map fun c => Value.int (lo8 c)).getD j d = .int (lo8 (cs.getD j 0)) := by
  simp [List.getD_eq_getElem?_getD, h]
/-- an array of N2 bytes vs codes the chars cs by the coder cd -/
def CodA (cs : List Int32) (cd N2 : Int32) (vs : List Value) : Prop := (cd = 0 ∧ N2 = Int32.ofNat cs.length ∧ vs = (cs.map fun c => Value.int (lo8 c)) ∧ ∀ c ∈ cs, ¬ 255 < c) ∨ (cd = 1 ∧ N2 = Int32.ofNat (2 * cs.length) ∧ vs = wideBytes cs ∧ ∃ c ∈ cs, 255 < c)
theorem CodA.cod {cs : List Int32} {cd N2 : Int32} {vs : List Value} {V : Cell} (h : CodA cs cd N2 vs) (hn : 2 * cs.length < 2 ^ 31) (hs : V.slots.size = N2.toNatClampNeg) (hv : RoadKit.Has V vs (.int 0)) : Cod cd cs.length (fun j => cs.getD j 0) V := by
  rcases h with ⟨rfl, rfl, rfl, h⟩ | ⟨rfl, rfl, rfl, c, hc, hw⟩
  · rw [n32 (by omega)] at hs
    exact Or.inl ⟨rfl, hs, fun j hj => ⟨by rw [hv j (by omega), low_at _ _ _ hj], by
      have e : cs.getD j 0 = cs[j] := by simp [List.getD_eq_getElem?_getD, hj]
      show ¬ 255 < cs.getD j 0
      rw [e]; exact h _ (List.getElem_mem _)⟩⟩
  · rw [n32 (by omega)] at hs
    obtain ⟨j, hj, rfl⟩ := List.getElem_of_mem hc
    exact Or.inr ⟨rfl, hs, fun j hj => ⟨by rw [hv _ (by omega), wide_lo _ _ _ hj], by rw [hv _ (by omega), wide_hi _ _ _ hj]⟩, j, hj, by
      have e : cs.getD j 0 = cs[j] := by simp [List.getD_eq_getElem?_getD, hj]
      show 255 < cs.getD j 0
      rw [e]; exact hw⟩
/-- an object of exactly java/lang/String, its two fields found: as the laws ask it -/
theorem strObj {Z U : State} {a0 : Array Value} {kI : Nat} (wi : (Jvm.Cond.instantiable ST kI).before a0 Z = true) (al : Z.vm.Alike U.vm) {x : Addr} {v0 c0 : Value} (E : RoadKit.Exa Z U.heap x ST) (V : RoadKit.Fld Z U.heap x ST "value" "[B" v0) (C : RoadKit.Fld Z U.heap x ST "coder" "B" c0) :
    ∃ (D : Cell) (fV fC : Field), Blank ST x D U ∧ Found ST "value" "[B" fV U ∧ Found ST "coder" "B" fC U ∧ D.slots[fV.slot]? = some v0 ∧ D.slots[fC.slot]? = some c0 ∧ RoadKit.slotOf Z ST "value" "[B" = fV.slot ∧ RoadKit.slotOf Z ST "coder" "B" = fC.slot := by
  obtain ⟨D, cfV, kV, iV, fV, hD, gV, stV, knV, obV, asV, slV⟩ := V
  obtain ⟨D', cfC, kC, iC, fC, hD', gC, stC, -, -, asC, slC⟩ := C
  cases hD.symm.trans hD'
  obtain ⟨D2, kD, e1, e2, e3, e4, e5⟩ := E
  cases hD.symm.trans e1
  obtain ⟨c2, k2, i1, i2, i3, -⟩ := Cond.instantiable_spec wi
  cases e2.symm.trans i1
  cases e3.symm.trans i2
  obtain ⟨kU, u1, u2⟩ := al.2.2 _ _ e3
  exact ⟨D, fV, fC, ⟨hD, ⟨knV, fun q hq => by rw [hq] at obV; cases obV⟩, by rw [al.findClass]; exact e2, kU, u1, by rw [u2]; exact i3, by rw [u2]; exact e5 i3⟩, ⟨SBG.found_only al ⟨cfV, kV, iV, gV⟩, stV⟩, ⟨SBG.found_only al ⟨cfC, kC, iC, gC⟩, stC⟩, slV, slC, by simp [RoadKit.slotOf, gV], by simp [RoadKit.slotOf, gC]⟩
theorem sta_is {Z U : State} (al : Z.vm.Alike U.vm) {C n d : String} {v : Value} (S : RoadKit.Sta Z U.heap C n d v) : StaticIs U C n d v := by
  obtain ⟨cfS, iS, kS, fS, st, cS, t1, t2, t3, t4, t5, t6, t7⟩ := S
  exact StaticIs.there (s := { Z with heap := U.heap }) ⟨cfS, iS, kS, fS, st, cS, t1, t2, t3, t4, t5, (fun q => by rw [q] at t6; cases t6), t7⟩ al rfl
/-- **length() OF SUCH A STRING** -/
theorem lenW {p : Program} {l : Launch} {e : Env} {R : Room} {s : State} {args : Array Value} {below : List Frame} {len W : Nat} {Z : State} {a0 : Array Value} {h : Heap} (hZ : Z.Warmed39 s.vm) (hw : ∀ d ∈ wordsLen, d.before a0 Z = true) {kI : Nat} (wi : (Jvm.Cond.instantiable ST kI).before a0 Z = true)
    {x t : Addr} {kb : ClassId} {cs : List Int32} {cd N2 z : Int32} {vs : List Value} (E : RoadKit.Exa Z h x ST) (V : RoadKit.Fld Z h x ST "value" "[B" (.ref t)) (C : RoadKit.Fld Z h x ST "coder" "B" (.int cd)) (K : RoadKit.Arv Z h t kb .byte N2 vs (.int 0)) (hc : CodA cs cd N2 vs) (hb : ∀ c ∈ cs, ¬ c < 0 ∧ ¬ (65535 : Int32) < c)
    (S : RoadKit.Sta Z h ST "COMPACT_STRINGS" "Z" (.int z)) (hz : ¬ z = 0) (l2 : cs.length ≤ 4000) (hfr : 2 ≤ R.frames) (hlo : W + 25 ≤ R.locals) :
    Back l R p e below s args (⟨"java/lang/String", "length", "()I"⟩ : MethodName) len W (fun P a => a = #[.ref x] ∧ P.U.heap = h ∧ P.cells + 0 ≤ R.cells ∧ P.slots + 0 ≤ R.slots)
      (fun P _ v B => ∃ L, (v = some (.int (Int32.ofNat cs.length)) ∧ L = [] ∧ B.U.heap = h) ∧ B.locs = P.locs ++ L ∧ B.cells = P.cells + 0 ∧ B.slots = P.slots + 0) := by
  obtain ⟨A, K1, K2, K3, K4, K5, K6⟩ := K
  have hcod := hc.cod (by omega) K3 K5
  intro m meth c P g ig mk a X hg hsize hdg hW hn hp'
  obtain ⟨rfl, rfl, r1, r2⟩ := hp'
  have al : Z.vm.Alike P.U.vm := hZ.alike.trans X.warmed.alike
  obtain ⟨D, fV, fC, hB, F1, F2, g1, g2, -, -⟩ := strObj wi al E V C
  have hx : Txt x t A cd cs.length (fun j => cs.getD j 0) P.U := ⟨⟨_, hB.2.2.1, D, hB.1, rfl, by cases q : D.vm <;> first | rfl | exact absurd q (hB.2.1.2 _)⟩, Has.of hB F1 g1, Has.of hB F2 g2, ⟨K1.1, State.isArrayOf_alike al K1.2.1, K1.2.2, by rcases hcod with ⟨-, q, -⟩ | ⟨-, q, -⟩ <;> omega⟩, hcod, fun j hj => by
    have e : cs.getD j 0 = cs[j] := by simp [List.getD_eq_getElem?_getD, hj]
    show ¬ cs.getD j 0 < 0 ∧ ¬ 65535 < cs.getD j 0
    rw [e]; exact hb _ (List.getElem_mem _)⟩
  obtain ⟨v, B, X', ⟨⟨hv, hh⟩, hl, hk, hs⟩, st⟩ := Len.pays x t A cd cs.length (fun j => cs.getD j 0) z (tabLen_of (movedLen hZ hw)) hfr hlo m meth c P g ig mk _ X hg hsize hdg hW hn ⟨r1, r2, rfl, hx, sta_is al S, hz⟩
  exact ⟨v, B, X', ⟨[], ⟨hv, rfl, hh⟩, hl, hk, hs⟩, st⟩
end StrChars.Road
namespace StrChars.Road
open Jvm Sem ClassFile Op Lib Jvm.Stand Jvm.Free Jvm.Free.XT
open Jvm.Lib.Cold (StaticIs)
/-- the road's facts of a String, as the laws ask it -/
theorem txt_of {Z U : State} {a0 : Array Value} {kI : Nat} (wi : (Jvm.Cond.instantiable ST kI).before a0 Z = true) (al : Z.vm.Alike U.vm) {x t : Addr} {kb : ClassId} {cs : List Int32} {cd N2 : Int32} {vs : List Value} (E : RoadKit.Exa Z U.heap x ST) (V : RoadKit.Fld Z U.heap x ST "value" "[B" (.ref t)) (C : RoadKit.Fld Z U.heap x ST "coder" "B" (.int cd)) (K : RoadKit.Arv Z U.heap t kb .byte N2 vs (.int 0)) (hc : CodA cs cd N2 vs) (hb : ∀ c ∈ cs, ¬ c < 0 ∧ ¬ (65535 : Int32) < c) (l2 : cs.length ≤ 4000) :
    ∃ A, Txt x t A cd cs.length (fun j => cs.getD j 0) U := by
  obtain ⟨A, K1, K2, K3, K4, K5, K6⟩ := K
  have hcod := hc.cod (by omega) K3 K5
  obtain ⟨D, fV, fC, hB, F1, F2, g1, g2, -, -⟩ := strObj wi al E V C
  exact ⟨A, ⟨_, hB.2.2.1, D, hB.1, rfl, by cases q : D.vm <;> first | rfl | exact absurd q (hB.2.1.2 _)⟩, Has.of hB F1 g1, Has.of hB F2 g2, ⟨K1.1, State.isArrayOf_alike al K1.2.1, K1.2.2, by rcases hcod with ⟨-, q, -⟩ | ⟨-, q, -⟩ <;> omega⟩, hcod, fun j hj => by
    have e : cs.getD j 0 = cs[j] := by simp [List.getD_eq_getElem?_getD, hj]
    show ¬ cs.getD j 0 < 0 ∧ ¬ 65535 < cs.getD j 0
    rw [e]; exact hb _ (List.getElem_mem _)⟩
end StrChars.Road
namespace StrChars
open Jvm Sem ClassFile Op Lib Jvm.Stand Jvm.Free.XT Jvm.Free.ALB Jvm.Free.JM Jvm.Free
open Jvm.Lib.Cold (StaticIs)
namespace ChN
def yN : MethodName := ⟨"java/lang/String", "charAt", "(I)C"⟩
abbrev yB : ByteArray := jdk_42_method_56_code
theorem d0 : decode yB 0 = .ok (.aload_n 0, 1) := by decide +kernel
theorem d1 : decode yB 1 = .ok (.invokevirtual 492, 3) := by decide +kernel
theorem d4 : decode yB 4 = .ok (.ifCond (.eq) 12, 3) := by decide +kernel
theorem d7 : decode yB 7 = .ok (.aload_n 0, 1) := by decide +kernel
theorem d8 : decode yB 8 = .ok (.getfield 9, 3) := by decide +kernel
theorem d11 : decode yB 11 = .ok (.iload_n 1, 1) := by decide +kernel
theorem d12 : decode yB 12 = .ok (.invokestatic 495, 3) := by decide +kernel
theorem d15 : decode yB 15 = .ok (.ireturn, 1) := by decide +kernel
def site : List Cond := [.fieldLink "java/lang/String" 9 "java/lang/String" "value" "[B", IsL.tab, LChA.tab] ++ virtW "java/lang/String" 492 "java/lang/String" IsL.yN IsL.yN ++ staticW "java/lang/String" 495 LChA.yN
def tab : Cond := tabOf yN yB 2 (some .char) site
def P (x t : Addr) (V : Cell) (n : Nat) (f : Nat → Int32) (z : Int32) (fm : Value) (i : Nat) (args : Array Value) (s : State) : Prop := args = #[.ref x, .int (Int32.ofNat i)] ∧ Txt x t V 0 n f s ∧ i < n ∧ StaticIs s "java/lang/String" "COMPACT_STRINGS" "Z" (.int z) ∧ ¬ z = 0 ∧ StaticIs s "jdk/internal/util/Preconditions" "SIOOBE_FORMATTER" "Ljava/util/function/BiFunction;" fm ∧ fm.isRef = true
def E (f : Nat → Int32) (i : Nat) (r : Option Value) (s u : State) : Prop := XT.PureE (some (.int (f i))) r s u
/-- charAt(i) of a Latin-1 String of n chars, i < n: f i -/
theorem law (l : Launch) (x t : Addr) (V : Cell) (n : Nat) (f : Nat → Int32) (z : Int32) (fm : Value) (i : Nat) : Law l yN 2 1 3 40 yB 2 (some .char) site (P x t V n f z fm i) (E f i) [] 0 0 := by
  refine Law.of_walk (plainFor_of_name (by decide +kernel)) (by decide +kernel) (by decide +kernel) (by decide) (fun _ _ h => by rw [h.1]; rfl) (fun _ U U' hal hh h => ⟨h.1, h.2.1.mv hal hh, h.2.2.1, h.2.2.2.1.there hal hh, h.2.2.2.2.1, h.2.2.2.2.2.1.there hal hh, h.2.2.2.2.2.2⟩) (fun r U U' V V' h1 hal h2 h => XT.PureE.mv r U U' V V' h1 hal h2 h) ?_
  intro p e s m args below meth c s₁ X0 hexec hbytes hml hret hlk hnm hown hh0 W hP
  obtain ⟨rfl, hx, hi, s1, hz, s3, rf⟩ := hP
  have v31 := hx.2.2.2.1.2.2.2
  have hr := hx.2.2.2.2.2 i hi
  have hx0 := hx.mv X0.warmed.alike hh0
  have c1 : Steps p.tables e below (s₁.setTop (entryFrame m #[.ref x, .int (Int32.ofNat i)] 2)) (s₁.setTop (mkF m 1 #[.val (.ref x), .val (.int (Int32.ofNat i))] [.ref x])) := Steps.trans (entry rfl) (by
    show Steps p.tables e below (s₁.setTop (mkF m 0 #[.val (.ref x), .val (.int (Int32.ofNat i))] [])) _
    refine XS.aloadN X0.here hexec rfl (hb hbytes d0) rfl rfl ?_
    exact Steps.refl _)
  obtain ⟨v2, T2, X2, E2, g2⟩ := X0.callV hexec (IsL.law l x 0 z) hown (wks W (virtW "java/lang/String" 492 "java/lang/String" IsL.yN IsL.yN)) rfl (by decide) (wk W IsL.tab) (W := 0) (Nat.le_of_ble_eq_true rfl) (Nat.le_of_ble_eq_true rfl) (Nat.le_refl _) (Nat.le_refl _) (hx0.1.fc X0.warmed.alike) hx0.1.is (g := (mkF m 1 #[.val (.ref x), .val (.int (Int32.ofNat i))] [.ref x])) rfl (by rw [hml]; rfl) c1 (argsL := []) (rest := []) rfl rfl (by show 2 * 0 + 0 ≤ _; decide) (hb hbytes d1) (⟨rfl, hx0.2.2.1, hx.2.2.2.2.1.cd, s1.there X0.warmed.alike hh0, hz⟩)
  obtain ⟨rfl, q2⟩ := E2
  have hh2 := q2.trans hh0
  have hx2 := hx.mv X2.warmed.alike hh2
  obtain ⟨-, k1, k2⟩ | ⟨k0, -⟩ := hx.2.2.2.2.1
  · have c3 : Steps p.tables e below (s₁.setTop (entryFrame m #[.ref x, .int (Int32.ofNat i)] 2)) (T2.setTop (mkF m 8 #[.val (.ref x), .val (.int (Int32.ofNat i))] [.ref x])) := Steps.trans g2 (by
      refine XS.ifNo X2.here hexec rfl (hb hbytes d4) rfl (i0_eq_f (by decide)) ?_
      refine XS.aloadN X2.here hexec rfl (hb hbytes d7) rfl rfl ?_
      exact Steps.refl _)
    obtain ⟨T4, X4, q4, st4⟩ := X2.hget hexec hown (wk W (.fieldLink "java/lang/String" 9 "java/lang/String" "value" "[B")) hx2.2.1 (g := (mkF m 8 #[.val (.ref x), .val (.int (Int32.ofNat i))] [.ref x])) rfl (rest := []) rfl (hb hbytes d8)
    have hh4 := q4.trans hh2
    have c5 : Steps p.tables e below (s₁.setTop (entryFrame m #[.ref x, .int (Int32.ofNat i)] 2)) (T4.setTop (mkF m 12 #[.val (.ref x), .val (.int (Int32.ofNat i))] [.int (Int32.ofNat i), .ref t])) := (c3.trans (st4 _ (Steps.refl _))).trans (by
      refine XS.iloadN X4.here hexec rfl (hb hbytes d11) rfl ?_
      exact Steps.refl _)
    obtain ⟨v6, T6, X6, E6, g6⟩ := X4.callS hexec (LChA.law l t V i (lo8 (f i)) fm) hown (wks W (staticW "java/lang/String" 495 LChA.yN)) (wk W LChA.tab) (W := 0) (Nat.le_of_ble_eq_true rfl) (Nat.le_of_ble_eq_true rfl) (Nat.le_refl _) (Nat.le_refl _) (g := (mkF m 12 #[.val (.ref x), .val (.int (Int32.ofNat i))] [.int (Int32.ofNat i), .ref t])) rfl (by rw [hml]; rfl) c5 (argsL := [.ref t, .int (Int32.ofNat i)]) (rest := []) rfl rfl (by show 2 * 0 + 0 ≤ _; decide) (hb hbytes d12) (⟨rfl, hx.2.2.2.1.mv X4.warmed.alike hh4, (k2 i hi).1, s3.there X4.warmed.alike hh4, rf⟩)
    obtain ⟨rfl, q6⟩ := E6
    rw [chr8_lo8 hr.1 (k2 i hi).2] at g6
    exact ⟨T6, some (.int (f i)), _, _, _, X6, rfl, rfl, rfl, (fun h => by cases h), ⟨rfl, q6.trans hh4⟩, fun fs hl => Steps.trans g6 (X6.ireturnOut hexec hret (narrow_ch hr.1 hr.2) (Or.inr (Or.inr (Or.inr (Or.inl rfl)))) (hb hbytes d15) hl)⟩
  · exact absurd k0 (by decide)
theorem pays {l : Launch} {R : Room} {p : Program} {e : Env} {below : List Frame} {s : State} {sargs : Array Value} {len W : Nat} (x t : Addr) (V : Cell) (n : Nat) (f : Nat → Int32) (z : Int32) (fm : Value) (i : Nat) (htab : tab.before sargs s = true) (hfr : 4 ≤ R.frames) (hlo : W + 53 ≤ R.locals) :
    Back l R p e below s sargs yN len W (fun A₁ a₁ => A₁.cells + 0 ≤ R.cells ∧ A₁.slots + 0 ≤ R.slots ∧ P x t V n f z fm i a₁ A₁.U) (fun A₁ _ v₁ B₁ => E f i v₁ A₁.U B₁.U ∧ B₁.locs = A₁.locs ++ [] ∧ B₁.cells = A₁.cells + 0 ∧ B₁.slots = A₁.slots + 0) :=
  (law l x t V n f z fm i).pays htab hfr (by omega)
end ChN
end StrChars
namespace StrChars.Road
open Jvm Sem ClassFile Op Lib Jvm.Stand Jvm.Free Jvm.Free.XT
open Jvm.Lib.Cold (StaticIs)
/-- the words of String.charAt(int), the Latin-1 road alone -/
abbrev wordsChN : List Jvm.Cond := [.code ChN.yN ChN.yB 2 (some .char), .initialized ST, .fieldLink ST 9 ST "value" "[B", .fieldLink ST 38 ST "COMPACT_STRINGS" "Z", .fieldLink ST 15 ST "coder" "B", .code IsL.yN IsL.yB 1 (some .boolean), .methodLink ST 492 IsL.yN, .declares IsL.yN, .selects ST IsL.yN IsL.yN, .instanceMethod IsL.yN,
  .methodLink ST 495 LChA.yN, .static LChA.yN, .code LChA.yN LChA.yB 2 (some .char), .initialized "java/lang/StringLatin1", .methodLink "java/lang/StringLatin1" 9 JO.Str_checkIndex.yN, .static JO.Str_checkIndex.yN, .code JO.Str_checkIndex.yN JO.Str_checkIndex.yB 2 none,
  .fieldLink ST 1053 "jdk/internal/util/Preconditions" "SIOOBE_FORMATTER" "Ljava/util/function/BiFunction;", .methodLink ST 1059 JC.PreCheck.yN, .static JC.PreCheck.yN, .code JC.PreCheck.yN JC.PreCheck.yB 3 (some .int), .initialized "jdk/internal/util/Preconditions"]
theorem tabChN_of {a : Array Value} {s : State} (h : ∀ w ∈ wordsChN, w.before a s = true) : ChN.tab.before a s = true := by
  have hp : JC.PreCheck.tab.before a s = true := unparts (wk h (.code JC.PreCheck.yN JC.PreCheck.yB 3 (some .int))) (wks h (.initialized JC.PreCheck.yN.cls :: JC.PreCheck.site))
  have qk := consq hp h
  have hk : JO.Str_checkIndex.tab.before a s = true := unparts (wk qk (.code JO.Str_checkIndex.yN JO.Str_checkIndex.yB 2 none)) (wks qk (.initialized JO.Str_checkIndex.yN.cls :: JO.Str_checkIndex.site))
  have ql := consq hk h
  have hl : LChA.tab.before a s = true := unparts (wk ql (.code LChA.yN LChA.yB 2 (some .char))) (wks ql (.initialized LChA.yN.cls :: LChA.site))
  have hi : IsL.tab.before a s = true := unparts (wk h (.code IsL.yN IsL.yB 1 (some .boolean))) (wks h (.initialized IsL.yN.cls :: IsL.site))
  have q := consq hi (consq hl h)
  exact unparts (wk q (.code ChN.yN ChN.yB 2 (some .char))) (wks q (.initialized ChN.yN.cls :: ChN.site))
theorem movedChN {Z s : State} {a0 args : Array Value} (hZ : Z.Warmed39 s.vm) (hw : ∀ d ∈ wordsChN, d.before a0 Z = true) : ∀ d ∈ wordsChN, d.before args s = true := fun d hd => by
  have t : ∀ d ∈ wordsChN, (d.onTables && d.keepsFace) = true := by decide +kernel
  exact RoadKit.mv hZ (hw d hd) (t d hd)
/-- **charAt(i) OF A LATIN-1 STRING**, i < n: the char -/
theorem chN {p : Program} {l : Launch} {e : Env} {R : Room} {s : State} {args : Array Value} {below : List Frame} {len W : Nat} {Z : State} {a0 : Array Value} {h : Heap} (hZ : Z.Warmed39 s.vm) (hw : ∀ d ∈ wordsChN, d.before a0 Z = true) {kI : Nat} (wi : (Jvm.Cond.instantiable ST kI).before a0 Z = true)
    {x t : Addr} {kb : ClassId} {cs : List Int32} {N2 z : Int32} {vs : List Value} {fm : Value} {i : Nat} {j : Int32} (E : RoadKit.Exa Z h x ST) (V : RoadKit.Fld Z h x ST "value" "[B" (.ref t)) (C : RoadKit.Fld Z h x ST "coder" "B" (.int 0)) (K : RoadKit.Arv Z h t kb .byte N2 vs (.int 0)) (hc : CodA cs 0 N2 vs) (hb : ∀ c ∈ cs, ¬ c < 0 ∧ ¬ (65535 : Int32) < c)
    (S : RoadKit.Sta Z h ST "COMPACT_STRINGS" "Z" (.int z)) (hz : ¬ z = 0) (F : RoadKit.Sta Z h "jdk/internal/util/Preconditions" "SIOOBE_FORMATTER" "Ljava/util/function/BiFunction;" fm) (rf : fm.isRef = true) (l2 : cs.length ≤ 4000) (hi : i < cs.length) (hj : j = Int32.ofNat i) (hfr : 4 ≤ R.frames) (hlo : W + 53 ≤ R.locals) :
    Back l R p e below s args (⟨"java/lang/String", "charAt", "(I)C"⟩ : MethodName) len W (fun P a => a = #[.ref x, .int j] ∧ P.U.heap = h ∧ P.cells + 0 ≤ R.cells ∧ P.slots + 0 ≤ R.slots)
      (fun P _ v B => ∃ L, (v = some (.int (cs.getD i 0)) ∧ L = [] ∧ B.U.heap = h) ∧ B.locs = P.locs ++ L ∧ B.cells = P.cells + 0 ∧ B.slots = P.slots + 0) := by
  subst hj
  intro m meth c P g ig mk a X hg hsize hdg hW hn hp'
  obtain ⟨rfl, rfl, r1, r2⟩ := hp'
  have al : Z.vm.Alike P.U.vm := hZ.alike.trans X.warmed.alike
  obtain ⟨A, hx⟩ := txt_of wi al E V C K hc hb l2
  obtain ⟨v, B, X', ⟨⟨hv, hh⟩, hl, hk, hs⟩, st⟩ := ChN.pays x t A cs.length (fun j => cs.getD j 0) z fm i (tabChN_of (movedChN hZ hw)) hfr hlo m meth c P g ig mk _ X hg hsize hdg hW hn ⟨r1, r2, rfl, hx, hi, sta_is al S, hz, sta_is al F, rf⟩
  exact ⟨v, B, X', ⟨[], ⟨hv, rfl, hh⟩, hl, hk, hs⟩, st⟩
/-- what backV says of its String, as the contracts of this text ask it: cs's low bytes, coder 0 -/
theorem codOf {cs : List Int32} {n : Nat} (hn : cs.length = n) (hb : ∀ c ∈ cs, ¬ 255 < c) : CodA cs 0 (Int32.ofNat n) ((cs.map lo8).map Value.int) := Or.inl ⟨rfl, by rw [hn], by simp [List.map_map, Function.comp_def], hb⟩
end StrChars.Road
end Jvm.Pilot.@@N@@

namespace Jvm.OwnW
open Jvm Jvm.ClassFile Sem Op Lib Jvm.Free Jvm.Stand Jvm.LawKit Jvm.RoadKit Bundle
/-! OwnW: a walk told forwards. Wk: where the walk stands (tables that may have interned, fresh places alone written, the held constants kept). Fi: from here the body comes to its end as its contract says. One law a step: what is left to show is Fi of the next state. -/
def Wk (p : Program) (l : Launch) (e : Env) (R : Room) (s : State) (m : MethodId) (args : Array Value) (below : List Frame) (meth : Method) (c : Code) (Z : State) (a0 : Array Value) (EL : List (String × Nat)) (own : String) (n0 : Nat) (T : State) (h : Heap) (cells slots : Nat) : Prop :=
  ∃ (vm0 : Vm) (k0 : Nat) (locs : List Loc), Stand p l e R (s.setVm vm0) m args below meth c T locs cells slots ∧ T.heap = h ∧ s.Since vm0 k0 ∧ k0 ≤ h.size ∧ Z.Warmed39 vm0 ∧ vm0.findClass own = some m.cls ∧ Fr n0 locs ∧ CHr Z EL s.vm s.heap vm0 h ∧ EW Z a0 EL
def Fi (p : Program) (e : Env) (below : List Frame) (s : State) (Z : State) (EL : List (String × Nat)) (n0 : Nat) (Q : Option Value → Heap → Prop) (kc ks : Nat) (st : State) : Prop :=
  ∃ s₂ o, Steps p.tables e below st s₂ ∧ s₂.status = .running ∧ Ended s₂ below o ∧ ∃ v L, o = .returned v ∧ (Fr n0 L ∧ Q v s₂.heap) ∧ CHr Z EL s.vm s.heap s₂.vm s₂.heap ∧ ReturnedEndW s o s₂ L kc ks
/-- a body's contract: called with as' over the heap h0 -/
def Con (l : Launch) (Z : State) (EL : List (String × Nat)) (y : MethodName) (bytes : ByteArray) (maxL : Nat) (ret : Option FieldType) (ws : List Jvm.Cond) (rm : Room) (as' : Array Value) (h0 : Heap) (n0 : Nat) (Q : Option Value → Heap → Prop) : Prop :=
  MetFree l y (head1 (Jvm.Cond.code y bytes maxL ret :: ws) rm) (fun a U => a = as' ∧ Z.Warmed39 U.vm ∧ U.heap = h0 ∧ CHv Z EL U.vm h0) (fun _ _ _ _ _ => True)
    (fun _ U o U' => ∃ v L, o = .returned v ∧ (Fr n0 L ∧ Q v U'.heap) ∧ CHr Z EL U.vm U.heap U'.vm U'.heap ∧ ReturnedEndW U o U' L rm.cells rm.slots)
/-- a call that is paid for: by a contract, or by a law of the library -/
def Pay (l : Launch) (R : Room) (p : Program) (e : Env) (below : List Frame) (s : State) (args : Array Value) (Z : State) (EL : List (String × Nat)) (n0 : Nat) (y : MethodName) (Wd : Nat) (as' : Array Value) (h : Heap) (Q : Option Value → Heap → Prop) (k n : Nat) : Prop :=
  ∀ vm0 : Vm, Z.Warmed39 vm0 → CHv Z EL vm0 h →
    BackS l R p e below (s.setVm vm0) args y 3 Wd (fun A a => a = as' ∧ A.U.heap = h ∧ A.cells + k ≤ R.cells ∧ A.slots + n ≤ R.slots)
      (fun A _ v B => ∃ L, (Fr n0 L ∧ Q v B.U.heap) ∧ B.locs = A.locs ++ L ∧ B.cells = A.cells + k ∧ B.slots = A.slots + n ∧ CHr Z EL vm0 h B.U.vm B.U.heap)
section Base
variable {p : Program} {l : Launch} {e : Env} {R : Room} {s : State} {m : MethodId} {args : Array Value} {below : List Frame} {meth : Method} {c : Code} {Z : State} {a0 : Array Value} {EL : List (String × Nat)} {own : String} {n0 : Nat} {T : State} {h h' h1 h2 : Heap} {cells slots : Nat} {Q : Option Value → Heap → Prop} {kc ks : Nat}
theorem Fi.via {st st' : State} (f : Fi p e below s Z EL n0 Q kc ks st') (k : ∀ t, Steps p.tables e below st' t → Steps p.tables e below st t) : Fi p e below s Z EL n0 Q kc ks st := by
  obtain ⟨s₂, o, h1, r⟩ := f
  exact ⟨s₂, o, k _ h1, r⟩
theorem Fi.by' {st st' : State} (k : ∀ t, Steps p.tables e below st' t → Steps p.tables e below st t) (f : Fi p e below s Z EL n0 Q kc ks st') : Fi p e below s Z EL n0 Q kc ks st := f.via k
theorem Fi.cast {g g' : JFrame} (q : g = g') (f : Fi p e below s Z EL n0 Q kc ks (T.setTop g')) : Fi p e below s Z EL n0 Q kc ks (T.setTop g) := q ▸ f
theorem Wk.here (W : Wk p l e R s m args below meth c Z a0 EL own n0 T h cells slots) : At T m c below := by
  obtain ⟨_, _, _, X, -⟩ := W
  exact X.here
theorem Wk.mono (W : Wk p l e R s m args below meth c Z a0 EL own n0 T h cells slots) {k n : Nat} (h1 : cells ≤ k) (h2 : slots ≤ n) : Wk p l e R s m args below meth c Z a0 EL own n0 T h k n := by
  obtain ⟨vm0, k0, locs, X, r⟩ := W
  exact ⟨vm0, k0, locs, X.mono h1 h2, r⟩
theorem Con.intro {y : MethodName} {bytes : ByteArray} {maxL : Nat} {ret : Option FieldType} {ws : List Jvm.Cond} {rm : Room} {as' : Array Value} {h0 : Heap} (ho : y.cls = own) (hpl : plainFor y = true) (hEL : EW Z a0 EL)
    (body : ∀ (p : Program) (e : Env) (s : State) (m : MethodId) (below : List Frame) (meth : Method) (c : Code) (s₁ : State), p.tables.exec = Jvm.exec → c.code = bytes → c.maxLocals = maxL → meth.sig.returnType = ret → meth.locks = false → meth.name = y.name →
      Wk p l e rm s m as' below meth c Z a0 EL own n0 s₁ h0 0 0 → Fi p e below s Z EL n0 Q rm.cells rm.slots (s₁.setTop (entryFrame m as' maxL))) :
    Con l Z EL y bytes maxL ret ws rm as' h0 n0 Q := by
  refine MetFree.of_bodySF hpl hisR ?_
  intro p e s m args below meth c s₁ Bd hml0 hP hK
  obtain ⟨ha, hZ, hh, hC⟩ := hP
  subst ha
  have X0 : Stand p l e rm s m args below meth c s₁ [] 0 0 := Stand.of_body Bd
  have e0 : s₁.heap = h0 := by rw [← hh, Bd.state]; rfl
  have hown : s.vm.findClass own = some m.cls := by rw [← ho]; exact findClass_of_methodNamed Bd.named
  exact body p e s m below meth c s₁ Bd.exec Bd.bytes hml0 Bd.returns Bd.notSynchronized (name_of_methodNamed Bd.named Bd.method).1
    ⟨s.vm, 0, [], X0, e0, (State.WarmedH.refl s).since 0, Nat.zero_le _, hZ, hown, Fr.nil n0, by rw [hh]; exact CHr.refl hC, hEL⟩
theorem Wk.leave (W : Wk p l e R s m args below meth c Z a0 EL own n0 T h cells slots) (hlk : meth.locks = false) {v : Option Value} (hv : meth.sig.returnType = none → v = none) (hq : Q v h) (h1 : cells ≤ kc) (h2 : slots ≤ ks) {g : JFrame}
    (st : ∀ (vm0 : Vm) (locs : List Loc) (_ : Stand p l e R (s.setVm vm0) m args below meth c T locs cells slots) (fs : List Frame), (∀ (f : JFrame) (acts : List Action), f.method = m → f.locked = none → f.entered = [] → (doReturn e (T.setTop f) acts v).1 = T.setFrames fs) → Steps p.tables e below (T.setTop g) (T.setFrames fs)) :
    Fi p e below s Z EL n0 Q kc ks (T.setTop g) := by
  obtain ⟨vm0, k0, locs, X, eT, hS, hk, hZ, ho, N, C, hE⟩ := W
  obtain ⟨fs, hr, hrun, hended, hEnd⟩ := X.leaveW hS (by rw [eT]; exact hk) hv hlk
  have D := C.trans (CHv.at X hZ hE C.1)
  refine ⟨T.setFrames fs, _, st vm0 locs X fs hr, hrun, hended, v, locs, rfl, ⟨N, ?_⟩, ?_, ⟨hEnd.1, hEnd.2.1, hEnd.2.2.1, hEnd.2.2.2.mono h1 h2⟩⟩
  · show Q v T.heap
    rw [eT]; exact hq
  · show CHr Z EL s.vm s.heap T.vm T.heap
    rw [eT]; exact D
theorem Wk.aret (W : Wk p l e R s m args below meth c Z a0 EL own n0 T h cells slots) (hx : p.tables.exec = Jvm.exec) (hlk : meth.locks = false) {t : FieldType} (hret : meth.sig.returnType = some t) (ht : t.isReference = true) {pc : Nat} {Ls : Array Slot} {w : Value} (hw : w.isRef = true)
    (hd : decode c.code pc = .ok (.areturn, 1)) (hq : Q (some w) h) (h1 : cells ≤ kc) (h2 : slots ≤ ks) : Fi p e below s Z EL n0 Q kc ks (T.setTop (mkF m pc Ls [w])) :=
  W.leave hlk (fun q => by rw [hret] at q; cases q) hq h1 h2 fun vm0 locs X fs hl => X.areturnOut hx hw hret ht hd hl
theorem Wk.iret (W : Wk p l e R s m args below meth c Z a0 EL own n0 T h cells slots) (hx : p.tables.exec = Jvm.exec) (hlk : meth.locks = false) {t : FieldType} (hret : meth.sig.returnType = some t) (hti : t = .int ∨ t = .boolean ∨ t = .byte ∨ t = .char ∨ t = .short) {pc : Nat} {Ls : Array Slot} {w : Int32} (hn : narrow t (.int w) = .int w)
    (hd : decode c.code pc = .ok (.ireturn, 1)) (hq : Q (some (.int w)) h) (h1 : cells ≤ kc) (h2 : slots ≤ ks) : Fi p e below s Z EL n0 Q kc ks (T.setTop (mkF m pc Ls [.int w])) :=
  W.leave hlk (fun q => by rw [hret] at q; cases q) hq h1 h2 fun vm0 locs X fs hl => X.ireturnOut hx hret hn hti hd hl
theorem Wk.vret (W : Wk p l e R s m args below meth c Z a0 EL own n0 T h cells slots) (hx : p.tables.exec = Jvm.exec) (hlk : meth.locks = false) (hret : meth.sig.returnType = none) {pc : Nat} {Ls : Array Slot}
    (hd : decode c.code pc = .ok (.return_, 1)) (hq : Q none h) (h1 : cells ≤ kc) (h2 : slots ≤ ks) : Fi p e below s Z EL n0 Q kc ks (T.setTop (mkF m pc Ls [])) :=
  W.leave hlk (fun _ => rfl) hq h1 h2 fun vm0 locs X fs hl => X.returnOut hx hret hd hl
theorem Wk.new (W : Wk p l e R s m args below meth c Z a0 EL own n0 T h cells slots) (hx : p.tables.exec = Jvm.exec) {C : String} {index n : Nat} (w : (Jvm.Cond.classLink own index C).before a0 Z = true) (wi : (Jvm.Cond.instantiable C n).before a0 Z = true) (wz : (Jvm.Cond.initialized C).before a0 Z = true)
    {g : JFrame} (hg : g.method = m) (hd : decode c.code g.pc = .ok (.new index, 3)) (hc : cells + 1 ≤ R.cells) (hl : slots + n ≤ R.slots)
    (k : ∀ (T' : State) (h' : Heap) (a : Addr), @Eq Nat a h.size → Wk p l e R s m args below meth c Z a0 EL own n0 T' h' (cells + 1) (slots + n) → Ext h h' → Exa Z h' a C → (∀ {O nm d : String} {ty : FieldType}, Laid Z a0 C O nm d → parseFieldDescriptor d = some ty → Fld Z h' a O nm d (defaultValue ty)) →
      Fi p e below s Z EL n0 Q kc ks (T'.setTop { g with pc := g.pc + 3, stack := .ref a :: g.stack })) : Fi p e below s Z EL n0 Q kc ks (T.setTop g) := by
  obtain ⟨vm0, k0, locs, X, eT, hS, hk, hZ, ho, N, CC, hE⟩ := W
  obtain ⟨T', h', X', e', E, A, D, -, st⟩ := newO X hx hZ ho w wi wz eT hg hd hc hl
  exact (k T' h' _ rfl ⟨vm0, k0, locs, X', e', hS, Nat.le_trans hk E.1, hZ, ho, N, CC.trans (CHr.ext E CC.1), hE⟩ E A D).via st
theorem Wk.newP (W : Wk p l e R s m args below meth c Z a0 EL own n0 T h cells slots) (hx : p.tables.exec = Jvm.exec) {aty : ArrayType} (w : (Jvm.Cond.arrayClass (newarray.typeOf aty)).before a0 Z = true)
    {g : JFrame} (hg : g.method = m) (hd : decode c.code g.pc = .ok (.newarray aty, 2)) {n : Int32} {rest : List Value} (hs : g.stack = .int n :: rest) (hn : ¬ n < 0) {cap : Nat} (hcap : n.toNatClampNeg ≤ cap) (hb : cap * 8 ≤ 536870912) (hc : cells + 1 ≤ R.cells) (hl : slots + cap ≤ R.slots)
    (k : ∀ (T' : State) (h' : Heap) (a : Addr) (cA : ClassId), @Eq Nat a h.size → Wk p l e R s m args below meth c Z a0 EL own n0 T' h' (cells + 1) (slots + cap) → Ext h h' → Arv Z h' a cA (newarray.typeOf aty) n [] (defaultValue (newarray.typeOf aty)) →
      Fi p e below s Z EL n0 Q kc ks (T'.setTop { g with pc := g.pc + 2, stack := .ref a :: rest })) : Fi p e below s Z EL n0 Q kc ks (T.setTop g) := by
  obtain ⟨vm0, k0, locs, X, eT, hS, hk, hZ, ho, N, CC, hE⟩ := W
  obtain ⟨T', h', cA, X', e', E, A, st⟩ := Jvm.RoadKit.newP X hx hZ w eT hg hd hs hn hcap hb hc hl
  exact (k T' h' _ cA rfl ⟨vm0, k0, locs, X', e', hS, Nat.le_trans hk E.1, hZ, ho, N, CC.trans (CHr.ext E CC.1), hE⟩ E (Arv.new A hn)).via st
theorem Wk.getF (W : Wk p l e R s m args below meth c Z a0 EL own n0 T h cells slots) (hx : p.tables.exec = Jvm.exec) {O n d : String} {index : Nat} (w : (Jvm.Cond.fieldLink own index O n d).before a0 Z = true) {a : Addr} {v : Value} (F : Fld Z h a O n d v)
    {g : JFrame} (hg : g.method = m) {rest : List Value} (hs : g.stack = .ref a :: rest) (hd : decode c.code g.pc = .ok (.getfield index, 3))
    (k : ∀ T' : State, Wk p l e R s m args below meth c Z a0 EL own n0 T' h cells slots → Fi p e below s Z EL n0 Q kc ks (T'.setTop { g with pc := g.pc + 3, stack := v :: rest })) : Fi p e below s Z EL n0 Q kc ks (T.setTop g) := by
  obtain ⟨vm0, k0, locs, X, eT, hS, hk, hZ, ho, N, CC, hE⟩ := W
  obtain ⟨T', X', e', st⟩ := Jvm.RoadKit.getF X hx hZ ho (host := "") (Or.inl w) Via.refl eT F hg hs hd
  exact (k T' ⟨vm0, k0, locs, X', e', hS, hk, hZ, ho, N, CC, hE⟩).via st
theorem Wk.getS (W : Wk p l e R s m args below meth c Z a0 EL own n0 T h cells slots) (hx : p.tables.exec = Jvm.exec) {O n d : String} {index : Nat} (w : (Jvm.Cond.fieldLink own index O n d).before a0 Z = true) {v : Value} (F : Sta Z h O n d v)
    {g : JFrame} (hg : g.method = m) (hd : decode c.code g.pc = .ok (.getstatic index, 3))
    (k : ∀ T' : State, Wk p l e R s m args below meth c Z a0 EL own n0 T' h cells slots → Fi p e below s Z EL n0 Q kc ks (T'.setTop { g with pc := g.pc + 3, stack := v :: g.stack })) : Fi p e below s Z EL n0 Q kc ks (T.setTop g) := by
  obtain ⟨vm0, k0, locs, X, eT, hS, hk, hZ, ho, N, CC, hE⟩ := W
  obtain ⟨T', X', e', st⟩ := Jvm.RoadKit.getS (host := "") X hx hZ ho w Via.refl eT F hg hd
  exact (k T' ⟨vm0, k0, locs, X', e', hS, hk, hZ, ho, N, CC, hE⟩).via st
theorem Wk.putF (W : Wk p l e R s m args below meth c Z a0 EL own n0 T h cells slots) (hx : p.tables.exec = Jvm.exec) {O n d C : String} {index kk : Nat} {ty : FieldType} (w : (Jvm.Cond.fieldLink own index O n d).before a0 Z = true) {a : Addr} {v old : Value} (F : Fld Z h a O n d old) (E : Exa Z h a C)
    (L : (Jvm.Cond.lays C O n d).before a0 Z = true ∨ ((Jvm.Cond.laysFinal C O n d).before a0 Z = true ∧ own = O ∧ meth.name = "<init>")) (wi : (Jvm.Cond.instantiable C kk).before a0 Z = true) (hty : parseFieldDescriptor d = some ty) (hn : narrow ty v = v) (hf : fits ty v = true)
    {g : JFrame} (hg : g.method = m) {rest : List Value} (hs : g.stack = v :: .ref a :: rest) (hd : decode c.code g.pc = .ok (.putfield index, 3)) (ha : n0 ≤ a) (S : ∀ vm : Vm, Z.Warmed39 vm → CHv Z EL vm h → Safe Z EL vm h a)
    (k : ∀ (T' : State) (h' : Heap), Wk p l e R s m args below meth c Z a0 EL own n0 T' h' cells slots → Wr h h' a (Jvm.RoadKit.slotOf Z O n d) v → Fi p e below s Z EL n0 Q kc ks (T'.setTop { g with pc := g.pc + 3, stack := rest })) : Fi p e below s Z EL n0 Q kc ks (T.setTop g) := by
  obtain ⟨vm0, k0, locs, X, eT, hS, hk, hZ, ho, N, CC, hE⟩ := W
  obtain ⟨T', h', X', e', Wr', st⟩ := Jvm.RoadKit.putF X hx hZ ho (host := "") (Or.inl w) Via.refl eT F E L wi hty hn hf hg hs hd
  exact (k T' h' ⟨vm0, k0, _, X', e', hS, by rw [Wr'.size]; exact hk, hZ, ho, Fr.snoc X' N ha, CC.trans (CHr.wr Wr' (S vm0 hZ CC.1) CC.1), hE⟩ Wr').via st
theorem safe_exa {a : Addr} {C : String} (E : Exa Z h a C) (h1 : C ≠ "java/lang/String") (h2 : C ≠ "[B") : ∀ vm : Vm, Z.Warmed39 vm → CHv Z EL vm h → Safe Z EL vm h a := fun vm hZ _ => Safe.exa hZ.alike E h1 h2
theorem Wk.initO (W : Wk p l e R s m args below meth c Z a0 EL own n0 T h cells slots) (hx : p.tables.exec = Jvm.exec) {idx : Nat} (w1 : (Jvm.Cond.methodLink own idx Lib.objectInit).before a0 Z = true) (w2 : (Jvm.Cond.instanceMethod Lib.objectInit).before a0 Z = true) (w3 : (Jvm.Cond.code Lib.objectInit ⟨#[0xb1]⟩ 1 none).before a0 Z = true)
    {g : JFrame} (hg : g.method = m) (hsize : g.locals.size = c.maxLocals) {a : Addr} {rest : List Value} (hs : g.stack = .ref a :: rest) (hd : decode c.code g.pc = .ok (.invokespecial idx, 3)) (hf : 1 ≤ R.frames) {Wd : Nat} (hW : 2 * g.monitorRoom + (rest.map fun v => v.category).sum ≤ Wd) (hl : Wd + 12 ≤ R.locals)
    (k : ∀ T' : State, Wk p l e R s m args below meth c Z a0 EL own n0 T' h cells slots → Fi p e below s Z EL n0 Q kc ks (T'.setTop { g with pc := g.pc + 3, stack := rest })) : Fi p e below s Z EL n0 Q kc ks (T.setTop g) := by
  obtain ⟨vm0, k0, locs, X, eT, hS, hk, hZ, ho, N, CC, hE⟩ := W
  obtain ⟨T', X', e', st⟩ := Jvm.RoadKit.initO X hx hZ ho w1 w2 w3 eT hg hsize hs hd hf hW hl
  exact (k T' ⟨vm0, k0, locs, X', e', hS, hk, hZ, ho, N, CC, hE⟩).via st
/-! ## calls -/
theorem Pay.of_con {y : MethodName} {bytes : ByteArray} {maxL Wd : Nat} {ret : Option FieldType} {rm : Room} {as' : Array Value} (hM : Con l Z EL y bytes maxL ret [] rm as' h n0 Q) (wc : (Jvm.Cond.code y bytes maxL ret).before a0 Z = true) (wz : (Jvm.Cond.initialized y.cls).before a0 Z = true) (hEL : EW Z a0 EL)
    (hf : rm.frames + 1 ≤ R.frames) (hl : Wd + (maxL + 11) + rm.locals ≤ R.locals) : Pay l R p e below s args Z EL n0 y Wd as' h Q rm.cells rm.slots :=
  fun vm0 hZ hC => backOfSH (Q := fun v h L => Fr n0 L ∧ Q v h) hM hZ wc wz hf hl hEL hC
theorem Pay.of_back {y : MethodName} {Wd k n : Nat} {as' : Array Value} {ws : List Addr} (hEL : EW Z a0 EL)
    (hB : ∀ vm0 : Vm, Z.Warmed39 vm0 → Back l R p e below (s.setVm vm0) args y 3 Wd (fun A a => a = as' ∧ A.U.heap = h ∧ A.cells + k ≤ R.cells ∧ A.slots + n ≤ R.slots) (fun A _ v B => ∃ L, (Fr n0 L ∧ Keep h B.U.heap ws ∧ Q v B.U.heap) ∧ B.locs = A.locs ++ L ∧ B.cells = A.cells + k ∧ B.slots = A.slots + n))
    (S : ∀ vm : Vm, Z.Warmed39 vm → CHv Z EL vm h → ∀ x ∈ ws, Safe Z EL vm h x) : Pay l R p e below s args Z EL n0 y Wd as' h Q k n := by
  intro vm0 hZ hC m meth c A g ig mk a X hg hsize hdg hW hn hp
  obtain ⟨v, B, X', ⟨L, ⟨NL, K, hq⟩, l1, l2, l3⟩, hsteps⟩ := hB vm0 hZ m meth c A g ig mk a X hg hsize hdg hW hn hp
  have C1 := CHr.keep K (S vm0 hZ hC) hC
  exact ⟨v, B, X'.retabled X'.warmed.wide, X'.warmed.since _, by rw [hp.2.1]; exact K.1, ⟨L, ⟨NL, hq⟩, l1, l2, l3, C1.trans (CHv.at X' hZ hEL C1.1)⟩, hsteps⟩
theorem Wk.callS (W : Wk p l e R s m args below meth c Z a0 EL own n0 T h cells slots) (hx : p.tables.exec = Jvm.exec) {index : Nat} {y : MethodName} {bytes : ByteArray} {maxL : Nat} {ret : Option FieldType}
    (w1 : (Jvm.Cond.methodLink own index y).before a0 Z = true) (w2 : (Jvm.Cond.static y).before a0 Z = true) (w3 : (Jvm.Cond.initialized y.cls).before a0 Z = true) (w4 : (Jvm.Cond.code y bytes maxL ret).before a0 Z = true) (hy : y.cls ≠ "java/lang/invoke/MethodHandle" ∧ y.cls ≠ "java/lang/invoke/VarHandle")
    {Wd k n : Nat} {as' : Array Value} {Qy : Option Value → Heap → Prop} (P : Pay l R p e below s args Z EL n0 y Wd as' h Qy k n)
    {g : JFrame} (hg : g.method = m) (hsize : g.locals.size = c.maxLocals) {argsL rest : List Value} (hlen : ∀ sig, parseMethodDescriptor y.desc = some sig → argsL.length = sig.parameters.length) (hstack : g.stack = argsL.reverse ++ rest) (has : argsL.toArray = as') (hW : 2 * g.monitorRoom + (rest.map fun v => v.category).sum ≤ Wd)
    (hd : decode c.code g.pc = .ok (.invokestatic index, 3)) (hc : cells + k ≤ R.cells) (hl : slots + n ≤ R.slots)
    (kk : ∀ (v : Option Value) (T' : State) (h' : Heap), Wk p l e R s m args below meth c Z a0 EL own n0 T' h' (cells + k) (slots + n) → h.size ≤ h'.size → Qy v h' → Fi p e below s Z EL n0 Q kc ks (T'.setTop { g with pc := g.pc + 3, stack := v.toList ++ rest })) : Fi p e below s Z EL n0 Q kc ks (T.setTop g) := by
  obtain ⟨vm0, k0, locs, X, eT, hS, hk, hZ, ho, N, CC, hE⟩ := W
  obtain ⟨v, vm1, ⟨U, L', k', n'⟩, -, X', hS', hgr, ⟨L, ⟨NL, hq⟩, l1, l2, l3, hC⟩, st⟩ := callSS X hx ho (mvT hZ w1) (mvT hZ w2) (mvT hZ w3) (mvT hZ w4) hy (P vm0 hZ CC.1) hg hsize hlen hstack hW hd (fun _ _ => ⟨has, eT, hc, hl⟩)
  dsimp only [Pt.U, Pt.locs, Pt.cells, Pt.slots] at X' hS' hgr hq l1 l2 l3 hC st
  subst l1 l2 l3
  rw [eT] at hgr
  obtain ⟨Y1, Y2, Y3, Y4⟩ := rebS hS hk X' hS' hgr hZ ho
  exact (kk v U U.heap ⟨U.vm, _, _, Y1, rfl, Y2, Nat.le_refl _, Y3, Y4, N.app NL, CC.trans hC, hE⟩ hgr hq).via fun t ht => st.trans ht
theorem Wk.callI (W : Wk p l e R s m args below meth c Z a0 EL own n0 T h cells slots) (hx : p.tables.exec = Jvm.exec) {index : Nat} {y : MethodName} {bytes : ByteArray} {maxL : Nat} (hy1 : y.name = "<init>")
    (w1 : (Jvm.Cond.methodLink own index y).before a0 Z = true) (w2 : (Jvm.Cond.instanceMethod y).before a0 Z = true) (w4 : (Jvm.Cond.code y bytes maxL none).before a0 Z = true) (hy : y.cls ≠ "java/lang/invoke/MethodHandle" ∧ y.cls ≠ "java/lang/invoke/VarHandle")
    {Wd k n : Nat} {as' : Array Value} {Qy : Option Value → Heap → Prop} (P : Pay l R p e below s args Z EL n0 y Wd as' h Qy k n)
    {g : JFrame} (hg : g.method = m) (hsize : g.locals.size = c.maxLocals) {a : Addr} {argsL rest : List Value} (hlen : ∀ sig, parseMethodDescriptor y.desc = some sig → argsL.length = sig.parameters.length) (hstack : g.stack = argsL.reverse ++ .ref a :: rest) (has : (Value.ref a :: argsL).toArray = as') (hW : 2 * g.monitorRoom + (rest.map fun v => v.category).sum ≤ Wd)
    (hd : decode c.code g.pc = .ok (.invokespecial index, 3)) (hc : cells + k ≤ R.cells) (hl : slots + n ≤ R.slots)
    (kk : ∀ (v : Option Value) (T' : State) (h' : Heap), Wk p l e R s m args below meth c Z a0 EL own n0 T' h' (cells + k) (slots + n) → h.size ≤ h'.size → Qy v h' → Fi p e below s Z EL n0 Q kc ks (T'.setTop { g with pc := g.pc + 3, stack := v.toList ++ rest })) : Fi p e below s Z EL n0 Q kc ks (T.setTop g) := by
  obtain ⟨vm0, k0, locs, X, eT, hS, hk, hZ, ho, N, CC, hE⟩ := W
  obtain ⟨v, vm1, ⟨U, L', k', n'⟩, -, X', hS', hgr, ⟨L, ⟨NL, hq⟩, l1, l2, l3, hC⟩, st⟩ := X.specialBackS hx hy1 ho (mvT hZ w1) (mvT hZ w2) (mvT hZ w4) hy (P vm0 hZ CC.1) hg hsize (Steps.refl _) hlen hstack hW hd (fun _ _ => ⟨has, eT, hc, hl⟩)
  dsimp only [Pt.U, Pt.locs, Pt.cells, Pt.slots] at X' hS' hgr hq l1 l2 l3 hC st
  subst l1 l2 l3
  rw [eT] at hgr
  obtain ⟨Y1, Y2, Y3, Y4⟩ := rebS hS hk X' hS' hgr hZ ho
  exact (kk v U U.heap ⟨U.vm, _, _, Y1, rfl, Y2, Nat.le_refl _, Y3, Y4, N.app NL, CC.trans hC, hE⟩ hgr hq).via fun t ht => st.trans ht
theorem Wk.callV (W : Wk p l e R s m args below meth c Z a0 EL own n0 T h cells slots) (hx : p.tables.exec = Jvm.exec) {index : Nat} {y : MethodName} {C : String}
    (w1 : (Jvm.Cond.methodLink own index y).before a0 Z = true) (w2 : (Jvm.Cond.declares y).before a0 Z = true) (w3 : (Jvm.Cond.selects C y y).before a0 Z = true) (w4 : (Jvm.Cond.instanceMethod y).before a0 Z = true) (hy : y.cls ≠ "java/lang/invoke/MethodHandle" ∧ y.cls ≠ "java/lang/invoke/VarHandle")
    {Wd k n : Nat} {as' : Array Value} {Qy : Option Value → Heap → Prop} (P : Pay l R p e below s args Z EL n0 y Wd as' h Qy k n) {a : Addr} (E : Exa Z h a C)
    {g : JFrame} (hg : g.method = m) (hsize : g.locals.size = c.maxLocals) {argsL rest : List Value} (hlen : ∀ sig, parseMethodDescriptor y.desc = some sig → argsL.length = sig.parameters.length) (hstack : g.stack = argsL.reverse ++ .ref a :: rest) (has : (Value.ref a :: argsL).toArray = as') (hW : 2 * g.monitorRoom + (rest.map fun v => v.category).sum ≤ Wd)
    (hd : decode c.code g.pc = .ok (.invokevirtual index, 3)) (hc : cells + k ≤ R.cells) (hl : slots + n ≤ R.slots)
    (kk : ∀ (v : Option Value) (T' : State) (h' : Heap), Wk p l e R s m args below meth c Z a0 EL own n0 T' h' (cells + k) (slots + n) → h.size ≤ h'.size → Qy v h' → Fi p e below s Z EL n0 Q kc ks (T'.setTop { g with pc := g.pc + 3, stack := v.toList ++ rest })) : Fi p e below s Z EL n0 Q kc ks (T.setTop g) := by
  obtain ⟨vm0, k0, locs, X, eT, hS, hk, hZ, ho, N, CC, hE⟩ := W
  have hZ' : Z.Warmed39 (s.setVm vm0).vm := hZ
  obtain ⟨cq, kq, qa, qb, qc⟩ := isOf hZ' eT E
  obtain ⟨v, vm1, ⟨U, L', k', n'⟩, -, X', hS', hgr, ⟨L, ⟨NL, hq⟩, l1, l2, l3, hC⟩, st⟩ := X.virtualBackS hx ho (mvT hZ' w1) (mvT hZ' w2) (notFace_of_selects (args := #[]) (mvT hZ' w3)) (mvT hZ' w3) (mvT hZ' w4) hy (P vm0 hZ CC.1) qa qc hg hsize (Steps.refl _) hlen hstack hW hd (fun _ _ => ⟨has, eT, hc, hl⟩)
  dsimp only [Pt.U, Pt.locs, Pt.cells, Pt.slots] at X' hS' hgr hq l1 l2 l3 hC st
  subst l1 l2 l3
  rw [eT] at hgr
  obtain ⟨Y1, Y2, Y3, Y4⟩ := rebS hS hk X' hS' hgr hZ ho
  exact (kk v U U.heap ⟨U.vm, _, _, Y1, rfl, Y2, Nat.le_refl _, Y3, Y4, N.app NL, CC.trans hC, hE⟩ hgr hq).via fun t ht => st.trans ht
/-! ## heaps that grow -/
theorem ext_refl (h : Heap) : Ext h h := ⟨Nat.le_refl _, fun _ _ q => q⟩
theorem ext_trans (E : Ext h h1) (F : Ext h1 h2) : Ext h h2 := ⟨Nat.le_trans E.1 F.1, fun a c q => F.2 a c (E.2 a c q)⟩
theorem ext_keep (E : Ext h h1) {ws : List Addr} (K : Keep h1 h2 ws) (q : ∀ x ∈ ws, h.size ≤ x) : Ext h h2 := ⟨Nat.le_trans E.1 K.1, fun a c r => K.2.1 a c (E.2 a c r) fun z => absurd (Array.getElem?_eq_some_iff.mp r).1 (Nat.not_lt.mpr (q a z))⟩
theorem ext_keep1 (E : Ext h h1) {x : Addr} (K : Keep h1 h2 [x]) (q : h.size ≤ x) : Ext h h2 := ext_keep E K fun y hy => by cases List.mem_singleton.mp hy; exact q
theorem ext_wr (E : Ext h h1) {a : Addr} {sl : Nat} {v : Value} (W : Wr h1 h2 a sl v) (q : h.size ≤ a) : Ext h h2 := ext_keep1 E (Keep.of_wr W) q
/-! ## Strings of known chars below 256 -/
def low8 (x : Int32) : Int32 := x.toInt8.toInt32
def StrL (Z : State) (h : Heap) (x : Addr) (cs : List Int32) : Prop := ∃ (t : Addr) (kb : ClassId), Exa Z h x "java/lang/String" ∧ Fld Z h x "java/lang/String" "value" "[B" (.ref t) ∧ Fld Z h x "java/lang/String" "coder" "B" (.int 0) ∧ Arv Z h t kb .byte (Int32.ofNat cs.length) ((cs.map low8).map Value.int) (.int 0) ∧
  (∀ c ∈ cs, ¬ c < 0 ∧ ¬ (255 : Int32) < c) ∧ cs.length ≤ 4000
theorem StrL.ext {x : Addr} {cs : List Int32} (F : StrL Z h x cs) (E : Ext h h') : StrL Z h' x cs := by
  obtain ⟨t, kb, a1, a2, a3, a4, r⟩ := F
  exact ⟨t, kb, a1.ext E, a2.ext E, a3.ext E, a4.ext E, r⟩
theorem StrL.exa {x : Addr} {cs : List Int32} (F : StrL Z h x cs) : Exa Z h x "java/lang/String" := by
  obtain ⟨_, _, a1, -⟩ := F
  exact a1
theorem StrL.lt {x : Addr} {cs : List Int32} (F : StrL Z h x cs) : x < h.size := F.exa.lt
/-- a String whose value is still null is no booked one -/
theorem safe_null {x : Addr} (E : Exa Z h x "java/lang/String") (V : Fld Z h x "java/lang/String" "value" "[B" .null) {k : Nat} (wi : (Jvm.Cond.instantiable "java/lang/String" k).before a0 Z = true) : ∀ vm : Vm, Z.Warmed39 vm → CHv Z EL vm h → Safe Z EL vm h x := fun vm hZ _ B => by
  have hal : Z.vm.Alike vm := hZ.alike
  obtain ⟨p, -, u, a, -, q, -, F, hy⟩ := B
  obtain ⟨cS, ⟨⟨s1, s2, s3, ⟨cv, kv, iv, s4, s4'⟩, -, s6, s7, s8, s9, s10, s11, -⟩, hfS, hcS⟩, ⟨kS, k1, k2, k3⟩, hB, hbyt⟩ := F
  rcases hy with rfl | rfl
  · obtain ⟨cell, cf, k', i, f, h1, h2, h3, -, -, -, h7⟩ := V
    obtain ⟨k9, e9, -⟩ := State.fieldFound?_setVm (s := { Z with heap := h }) hal h2
    have e1 := (show (Wst Z vm h).fieldFound? "java/lang/String" "value" "[B" = _ from e9).symm.trans s4
    simp only [Option.some.injEq, Prod.mk.injEq] at e1
    have e2 : h[q.sa]? = some q.sC := s1
    cases h1.symm.trans e2
    rw [e1.2.2.2, s8] at h7
    cases h7
  · obtain ⟨cell, k', e1, e2, e3, -, -⟩ := E
    have e4 : h[q.sd]? = some q.SA := s10
    cases e1.symm.trans e4
    have e5 : vm.findClass "[B" = some q.SA.cls := hB
    rw [hal.findClass] at e5
    obtain ⟨k1', q1, q2⟩ := Vm.findClass_spec e5
    obtain ⟨k2', q3, q4⟩ := Vm.findClass_spec e2
    cases q1.symm.trans q3
    exact absurd (q2.symm.trans q4) (by decide)
/-- the chars of a constant's text -/
def lits (t : String) : List Int32 := t.toList.map fun c => Int32.ofNat c.toNat
theorem StrL.keep {x t : Addr} {cs : List Int32} {C : String} {k : Nat} (F : StrL Z h t cs) (K : Keep h h' [x]) (E : Exa Z h x C) (hC : C ≠ "java/lang/String") (wi : (Jvm.Cond.instantiable C k).before a0 Z = true) : StrL Z h' t cs := by
  obtain ⟨b, kb, a1, a2, a3, a4, r⟩ := F
  have n1 : t ∉ [x] := fun q => Exa.ne a1 E (Ne.symm hC) (List.mem_singleton.mp q)
  have n2 : b ∉ [x] := fun q => Exa.neArv E a4 wi (List.mem_singleton.mp q).symm
  exact ⟨b, kb, a1.keep K, a2.keep K n1, a3.keep K n1, a4.keep K n2, r⟩
theorem Wk.ldc (W : Wk p l e R s m args below meth c Z a0 EL own n0 T h cells slots) (hx : p.tables.exec = Jvm.exec) {text : String} {index : Nat} (w : (Jvm.Cond.stringLink own index text).before a0 Z = true) (wS : ∀ a ∈ Bundle.stringAtoms, a.before a0 Z = true) (hmem : (own, index) ∈ EL) (cs : List Int32)
    (ht' : (∀ c ∈ text.toList, c.toNat < 256) ∧ text.toList.map (fun c => Jvm.Lit.byteI c.toNat.toUInt16) = cs.map low8) (hcs : (∀ c ∈ cs, ¬ c < 0 ∧ ¬ (255 : Int32) < c) ∧ cs.length ≤ 4000)
    {g : JFrame} (hg : g.method = m) (hd : decode c.code g.pc = .ok (.ldc index, 2)) {n : Nat} (hn : 4 * text.toList.length ≤ n) (hbig : n ≤ 536870912) (hc : cells + 2 ≤ R.cells) (hl : slots + (n + 4) ≤ R.slots)
    (k : ∀ (T' : State) (h' : Heap) (a : Addr), Wk p l e R s m args below meth c Z a0 EL own n0 T' h' (cells + 2) (slots + (n + 4)) → Ext h h' → StrL Z h' a cs → Fi p e below s Z EL n0 Q kc ks (T'.setTop { g with pc := g.pc + 2, stack := .ref a :: g.stack })) : Fi p e below s Z EL n0 Q kc ks (T.setTop g) := by
  obtain ⟨vm0, k0, locs, X, eT, hS, hk, hZ, ho, N, CC, hE⟩ := W
  have ht : (∀ c ∈ text.toList, c.toNat < 256) ∧ text.toList.map (fun c => Value.int (Jvm.Lit.byteI c.toNat.toUInt16)) = (cs.map low8).map Value.int := ⟨ht'.1, by rw [← ht'.2, List.map_map]; rfl⟩
  have hz : (Int32.ofNat cs.length).toInt = cs.length := len_toInt (by have := hcs.2; omega)
  obtain ⟨a, T', h', k1, b, kb, X', e', E, hS', hk1, hZ', ho', A1, A2, A3, A4, -, -, hC, -, -, st⟩ := ldcCH X hx hZ ho w wS eT hS hk hE hmem CC.1 ht (z := Int32.ofNat cs.length) (by rw [Int32.lt_iff_toInt_lt, hz, show (0 : Int32).toInt = 0 from rfl]; omega) (by simp only [Int32.toNatClampNeg, hz, List.length_map]; omega) hg hd hn hbig hc hl
  exact (k T' h' a ⟨T'.vm, k1, locs, X', e', hS', hk1, hZ', ho', N, CC.trans hC, hE⟩ E ⟨b, kb, A1, A3, A2, A4, hcs.1, hcs.2⟩).via st
theorem all_nil {P : Int32 → Prop} : ∀ c ∈ ([] : List Int32), P c := fun _ q => (nomatch q)
theorem all_cons {P : Int32 → Prop} {a : Int32} {L : List Int32} (q : P a) (r : ∀ c ∈ L, P c) : ∀ c ∈ a :: L, P c := fun c hc => (List.mem_cons.mp hc).elim (fun e => e ▸ q) (r c)
theorem ch_ok {x : Int32} (q : ¬ x < 0 ∧ ¬ (255 : Int32) < x) : nar .char x = x ∧ fits .char (.int x) = true := by
  obtain ⟨h0, h1⟩ := q
  rw [Int32.lt_iff_toInt_lt] at h0 h1
  have e0 : (0 : Int32).toInt = 0 := rfl
  have e1 : (255 : Int32).toInt = 255 := rfl
  obtain ⟨k, hk⟩ : ∃ k : Nat, x.toInt = k := ⟨x.toInt.toNat, by omega⟩
  have hx : x = Int32.ofNat k := Int32.toInt_inj.mp (by rw [hk, Int32.toInt_ofNat_small (by omega)])
  have t : ∀ k : Fin 256, nar .char (Int32.ofNat k.val) = Int32.ofNat k.val ∧ fits .char (.int (Int32.ofNat k.val)) = true := by decide +kernel
  rw [hx]
  exact t ⟨k, by omega⟩
theorem big_ch {x : Int32} (q : ¬ (255 : Int32) < x) : ¬ (65535 : Int32) < x := by
  rw [Int32.lt_iff_toInt_lt] at q ⊢
  rw [show (255 : Int32).toInt = 255 from rfl] at q
  rw [show (65535 : Int32).toInt = 65535 from rfl]
  omega
theorem bnar {x : Int32} (q : x = 0 ∨ x = 1) : narrow .boolean (.int x) = .int x := by rcases q with rfl | rfl <;> rfl
theorem bfit {x : Int32} (q : x = 0 ∨ x = 1) : fits .boolean (.int x) = true := by rcases q with rfl | rfl <;> rfl
theorem and255 (x : Int32) : ¬ (x &&& 255) < 0 ∧ ¬ (255 : Int32) < (x &&& 255) := by
  have h : (x &&& 255).toBitVec.toNat < 256 := by
    simp only [Int32.toBitVec_and, BitVec.toNat_and]
    exact Nat.lt_succ_of_le Nat.and_le_right
  have e : (x &&& 255).toInt = ((x &&& 255).toBitVec.toNat : Int) := by
    show (x &&& 255).toBitVec.toInt = _
    rw [BitVec.toInt_eq_toNat_cond]
    split <;> omega
  rw [Int32.lt_iff_toInt_lt, Int32.lt_iff_toInt_lt, e, show (0 : Int32).toInt = 0 from rfl, show (255 : Int32).toInt = 255 from rfl]
  omega
theorem rng_nat {x : Int32} : (¬ x < 0 ∧ ¬ (255 : Int32) < x) ↔ x.toBitVec.toNat < 256 := by
  have e : x.toInt = x.toBitVec.toInt := rfl
  rw [Int32.lt_iff_toInt_lt, Int32.lt_iff_toInt_lt, e, show (0 : Int32).toInt = 0 from rfl, show (255 : Int32).toInt = 255 from rfl, BitVec.toInt_eq_toNat_cond]
  have := x.toBitVec.isLt
  split <;> omega
theorem xor255 {x y : Int32} (a : ¬ x < 0 ∧ ¬ (255 : Int32) < x) (b : ¬ y < 0 ∧ ¬ (255 : Int32) < y) : ¬ (x ^^^ y) < 0 ∧ ¬ (255 : Int32) < (x ^^^ y) := by
  rw [rng_nat] at a b ⊢
  rw [Int32.toBitVec_xor, BitVec.toNat_xor]
  exact Nat.xor_lt_two_pow (n := 8) a b
theorem b01 {v : Int32} {P : Prop} (q : (P ∧ v = 0) ∨ (¬ P ∧ v = 1)) : v = 0 ∨ v = 1 := q.elim (fun u => Or.inl u.2) (fun u => Or.inr u.2)
theorem r01 {r : Int32} {P : Prop} (q : (r = 1 ∧ P) ∨ (r = 0 ∧ ¬ P)) : r = 0 ∨ r = 1 := q.elim (fun u => Or.inr u.1) (fun u => Or.inl u.1)
theorem and3 (y : Int32) : y &&& 3 = 0 ∨ y &&& 3 = 1 ∨ y &&& 3 = 2 ∨ y &&& 3 = 3 := by
  have h : (y &&& 3).toBitVec.toNat < 4 := by
    simp only [Int32.toBitVec_and, BitVec.toNat_and]
    exact Nat.lt_succ_of_le Nat.and_le_right
  obtain ⟨k, hk⟩ : ∃ k, k = (y &&& 3).toBitVec.toNat := ⟨_, rfl⟩
  rw [← hk] at h
  have e : y &&& 3 = Int32.ofNat k := by
    apply Int32.toBitVec_inj.mp
    apply BitVec.eq_of_toNat_eq
    rw [← hk]
    show k = (BitVec.ofNat 32 k).toNat
    rw [BitVec.toNat_ofNat, Nat.mod_eq_of_lt (by omega)]
  rw [e]
  have : k = 0 ∨ k = 1 ∨ k = 2 ∨ k = 3 := by omega
  rcases this with rfl | rfl | rfl | rfl <;> decide
theorem rem3 {y z : Int32} (q : z = (y &&& 3) - ((y &&& 3) / 3) * 3) : z = 0 ∨ z = 1 ∨ z = 2 := by
  subst q
  rcases and3 y with e | e | e | e <;> rw [e] <;> decide
theorem Wk.castore (W : Wk p l e R s m args below meth c Z a0 EL own n0 T h cells slots) (hx : p.tables.exec = Jvm.exec) {a : Addr} {k : ClassId} {N : Int32} {cs : List Int32} {d : Value} (A : Arv Z h a k .char N (cs.map Value.int) d) {i : Nat} (hi : i < cs.length) {j x : Int32} (hj : j.toNatClampNeg = i) (hj0 : ¬ j < 0) (hN : N.toNatClampNeg = cs.length) (hc : nar .char x = x ∧ fits .char (.int x) = true)
    {g : JFrame} (hg : g.method = m) {rest : List Value} (hs : g.stack = .int x :: .int j :: .ref a :: rest) (hd : decode c.code g.pc = .ok (.castore, 1)) (ha : n0 ≤ a)
    (kk : ∀ (T' : State) (h' : Heap), Wk p l e R s m args below meth c Z a0 EL own n0 T' h' cells slots → Wr h h' a j.toNatClampNeg (.int x) → Arv Z h' a k .char N ((cs.set i x).map Value.int) d → Fi p e below s Z EL n0 Q kc ks (T'.setTop { g with pc := g.pc + 1, stack := rest })) : Fi p e below s Z EL n0 Q kc ks (T.setTop g) := by
  obtain ⟨vm0, k0, locs, X, eT, hS, hk, hZ, ho, N0, CC, hE⟩ := W
  obtain ⟨cl, A1, A2, A3, A4, A5, A6⟩ := id A
  obtain ⟨T', h', X', e', Wr', st⟩ := stC X hx hZ eT A1 (j := j) (x := x) (by rw [A3, hN, hj]; exact fun q => q.elim hj0 (fun q => absurd hi (Nat.not_lt.mpr q))) hg hs hd
  rw [hc.1] at Wr'
  have V := Arv.set A1 A2 A3 A4 A5 A6 hc.2 Wr' i hj (by simpa using hi)
  refine (kk T' h' ⟨vm0, k0, _, X', e', hS, by rw [Wr'.size]; exact hk, hZ, ho, Fr.snoc X' N0 ha, CC.trans (CHr.wr Wr' (Safe.arr hZ.alike A1 (by decide)) CC.1), hE⟩ Wr' ?_).via st
  rw [List.map_set]; exact V
theorem Wk.alen (W : Wk p l e R s m args below meth c Z a0 EL own n0 T h cells slots) (hx : p.tables.exec = Jvm.exec) {a : Addr} {k : ClassId} {ty : FieldType} {N : Int32} {vs : List Value} {d : Value} (A : Arv Z h a k ty N vs d)
    {g : JFrame} (hg : g.method = m) {rest : List Value} (hs : g.stack = .ref a :: rest) (hd : decode c.code g.pc = .ok (.arraylength, 1)) (f : Fi p e below s Z EL n0 Q kc ks (T.setTop { g with pc := g.pc + 1, stack := .int N :: rest })) : Fi p e below s Z EL n0 Q kc ks (T.setTop g) := by
  obtain ⟨vm0, k0, locs, X, eT, hS, hk, hZ, ho, N0, CC, hE⟩ := W
  obtain ⟨cl, A1, A2, A3, A4, A5, A6⟩ := A
  exact f.via fun t ht => X.arraylength hx (by rw [eT]; exact A1.1) (State.isArrayOf_alike (s := Z) hZ.alike A1.2.1) hg hs hd t (by rw [len_of A3 A4]; exact ht)
theorem set_same {α : Type} {A : Array α} {i : Nat} {v : α} (q : A[i]? = some v) : A.setIfInBounds i v = A := by
  apply Array.ext_getElem?
  intro j
  rw [Array.getElem?_setIfInBounds]
  split
  · next e => subst e; rw [if_pos (Array.getElem?_eq_some_iff.mp q).1]; exact q.symm
  · rfl
/-- a field is written with what it holds already: the heap stays -/
theorem Wk.putSame (W : Wk p l e R s m args below meth c Z a0 EL own n0 T h cells slots) (hx : p.tables.exec = Jvm.exec) {O n d C : String} {index kk : Nat} {ty : FieldType} (w : (Jvm.Cond.fieldLink own index O n d).before a0 Z = true) {a : Addr} {v : Value} (F : Fld Z h a O n d v) (E : Exa Z h a C)
    (L : (Jvm.Cond.lays C O n d).before a0 Z = true ∨ ((Jvm.Cond.laysFinal C O n d).before a0 Z = true ∧ own = O ∧ meth.name = "<init>")) (wi : (Jvm.Cond.instantiable C kk).before a0 Z = true) (hty : parseFieldDescriptor d = some ty) (hn : narrow ty v = v) (hf : fits ty v = true)
    {g : JFrame} (hg : g.method = m) {rest : List Value} (hs : g.stack = v :: .ref a :: rest) (hd : decode c.code g.pc = .ok (.putfield index, 3)) (ha : n0 ≤ a)
    (k : ∀ (T' : State), Wk p l e R s m args below meth c Z a0 EL own n0 T' h cells slots → Fi p e below s Z EL n0 Q kc ks (T'.setTop { g with pc := g.pc + 3, stack := rest })) : Fi p e below s Z EL n0 Q kc ks (T.setTop g) := by
  obtain ⟨vm0, k0, locs, X, eT, hS, hk, hZ, ho, N, CC, hE⟩ := W
  obtain ⟨T', h', X', e', Wr', st⟩ := Jvm.RoadKit.putF X hx hZ ho (host := "") (Or.inl w) Via.refl eT F E L wi hty hn hf hg hs hd
  have eh : h' = h := by
    obtain ⟨cell, w1, w2, w3, rfl⟩ := Wr'
    obtain ⟨cell', cf, k', i, f, h1, h2, -, -, -, -, h7⟩ := F
    cases w1.symm.trans h1
    have es : Jvm.RoadKit.slotOf Z O n d = f.slot := by simp [Jvm.RoadKit.slotOf, h2]
    rw [es]
    have ec : cell.setSlot f.slot v = cell := by
      have hb := (Array.getElem?_eq_some_iff.mp h7)
      obtain ⟨hb1, hb2⟩ := hb
      have : cell.slots.setIfInBounds f.slot v = cell.slots := set_same h7
      simp [Cell.setSlot, this]
    rw [ec]
    exact set_same w1
  subst eh
  exact (k T' ⟨vm0, k0, _, X', e', hS, hk, hZ, ho, Fr.snoc X' N ha, CC, hE⟩).via st
end Base
/-! ## plain steps, the value said as it is wanted -/
section Plain
variable {tb : Tables} [Ours tb] {e : Env} {below : List Frame} {T target : State} {m : MethodId} {c : Code} {g : JFrame}
theorem iconstZ (h : At T m c below) (hx : tb.exec = Jvm.exec) (hg : g.method = m) {i : Int} {z : Int32} (hd : decode c.code g.pc = .ok (.iconst i, 1)) (q : Int32.ofInt i = z) (hr : Steps tb e below (T.setTop { g with pc := g.pc + 1, stack := .int z :: g.stack }) target) : Steps tb e below (T.setTop g) target := by
  subst q; exact XS.iconst h hx hg hd hr
theorem bipushZ (h : At T m c below) (hx : tb.exec = Jvm.exec) (hg : g.method = m) {i : Int} {z : Int32} (hd : decode c.code g.pc = .ok (.bipush i, 2)) (q : (Int8.ofInt i).toInt32 = z) (hr : Steps tb e below (T.setTop { g with pc := g.pc + 2, stack := .int z :: g.stack }) target) : Steps tb e below (T.setTop g) target := by
  subst q; exact XS.bipush h hx hg hd hr
theorem sipushZ (h : At T m c below) (hx : tb.exec = Jvm.exec) (hg : g.method = m) {i : Int} {z : Int32} (hd : decode c.code g.pc = .ok (.sipush i, 3)) (q : (Int16.ofInt i).toInt32 = z) (hr : Steps tb e below (T.setTop { g with pc := g.pc + 3, stack := .int z :: g.stack }) target) : Steps tb e below (T.setTop g) target := by
  subst q; exact XS.sipush h hx hg hd hr
theorem i2cZ (h : At T m c below) (hx : tb.exec = Jvm.exec) (hg : g.method = m) {v z : Int32} {rest : List Value} (hd : decode c.code g.pc = .ok (.i2c, 1)) (hs : g.stack = .int v :: rest) (q : v.toUInt32.toUInt16.toUInt32.toInt32 = z) (hr : Steps tb e below (T.setTop { g with pc := g.pc + 1, stack := .int z :: rest }) target) : Steps tb e below (T.setTop g) target := by
  subst q; exact XS.i2c h hx hg hd hs hr
theorem acmpTEq {a b : Addr} (q : a = b) : if_acmp.holds .eq (some a) (some b) = true := by subst q; simp [if_acmp.holds]
theorem acmpTNe {a b : Addr} (q : a = b) : if_acmp.holds .ne (some a) (some b) = false := by subst q; simp [if_acmp.holds]
theorem acmpFEq {a b : Addr} (q : ¬ a = b) : if_acmp.holds .eq (some a) (some b) = false := by simp [if_acmp.holds, q]
theorem acmpFNe {a b : Addr} (q : ¬ a = b) : if_acmp.holds .ne (some a) (some b) = true := by simp [if_acmp.holds, q]
end Plain
end Jvm.OwnW
namespace Jvm.OwnW
open Jvm Jvm.ClassFile Sem Op Lib Jvm.Free Jvm.Stand Jvm.LawKit Jvm.RoadKit Bundle
section Base2
variable {p : Program} {l : Launch} {e : Env} {R : Room} {s : State} {m : MethodId} {args : Array Value} {below : List Frame} {meth : Method} {c : Code} {Z : State} {a0 : Array Value} {EL : List (String × Nat)} {own : String} {n0 : Nat} {T : State} {h h' h1 h2 : Heap} {cells slots : Nat} {Q : Option Value → Heap → Prop} {kc ks : Nat}
/-- the walk stands here, and nothing that is held lies at x -/
def WkS (p : Program) (l : Launch) (e : Env) (R : Room) (s : State) (m : MethodId) (args : Array Value) (below : List Frame) (meth : Method) (c : Code) (Z : State) (a0 : Array Value) (EL : List (String × Nat)) (own : String) (n0 : Nat) (T : State) (h : Heap) (cells slots : Nat) (x : Addr) : Prop :=
  ∃ (vm0 : Vm) (k0 : Nat) (locs : List Loc), (Stand p l e R (s.setVm vm0) m args below meth c T locs cells slots ∧ T.heap = h ∧ s.Since vm0 k0 ∧ k0 ≤ h.size ∧ Z.Warmed39 vm0 ∧ vm0.findClass own = some m.cls ∧ Fr n0 locs ∧ CHr Z EL s.vm s.heap vm0 h ∧ EW Z a0 EL) ∧ Safe Z EL vm0 h x
theorem WkS.wk {x : Addr} (W : WkS p l e R s m args below meth c Z a0 EL own n0 T h cells slots x) : Wk p l e R s m args below meth c Z a0 EL own n0 T h cells slots := by
  obtain ⟨vm0, k0, locs, r, -⟩ := W
  exact ⟨vm0, k0, locs, r⟩
theorem Wk.newPS (W : Wk p l e R s m args below meth c Z a0 EL own n0 T h cells slots) (hx : p.tables.exec = Jvm.exec) {aty : ArrayType} (w : (Jvm.Cond.arrayClass (newarray.typeOf aty)).before a0 Z = true)
    {g : JFrame} (hg : g.method = m) (hd : decode c.code g.pc = .ok (.newarray aty, 2)) {n : Int32} {rest : List Value} (hs : g.stack = .int n :: rest) (hn : ¬ n < 0) {cap : Nat} (hcap : n.toNatClampNeg ≤ cap) (hb : cap * 8 ≤ 536870912) (hc : cells + 1 ≤ R.cells) (hl : slots + cap ≤ R.slots)
    (k : ∀ (T' : State) (h' : Heap) (a : Addr) (cA : ClassId), @Eq Nat a h.size → WkS p l e R s m args below meth c Z a0 EL own n0 T' h' (cells + 1) (slots + cap) a → Ext h h' → Arv Z h' a cA (newarray.typeOf aty) n [] (defaultValue (newarray.typeOf aty)) →
      Fi p e below s Z EL n0 Q kc ks (T'.setTop { g with pc := g.pc + 2, stack := .ref a :: rest })) : Fi p e below s Z EL n0 Q kc ks (T.setTop g) := by
  obtain ⟨vm0, k0, locs, X, eT, hS, hk, hZ, ho, N, CC, hE⟩ := W
  obtain ⟨T', h', cA, X', e', E, A, st⟩ := Jvm.RoadKit.newP X hx hZ w eT hg hd hs hn hcap hb hc hl
  exact (k T' h' _ cA rfl ⟨vm0, k0, locs, ⟨X', e', hS, Nat.le_trans hk E.1, hZ, ho, N, CC.trans (CHr.ext E CC.1), hE⟩, Safe.ext E CC.1 (Safe.new (Nat.le_refl _))⟩ E (Arv.new A hn)).via st
theorem WkS.bastore {a : Addr} (W : WkS p l e R s m args below meth c Z a0 EL own n0 T h cells slots a) (hx : p.tables.exec = Jvm.exec) {k : ClassId} {N : Int32} {cs : List Int32} {d : Value} (A : Arv Z h a k .byte N (cs.map Value.int) d) {i : Nat} (hi : i < cs.length) {j x : Int32} (hj : j.toNatClampNeg = i) (hj0 : ¬ j < 0) (hN : N.toNatClampNeg = cs.length) (hc : nar .byte x = x ∧ fits .byte (.int x) = true)
    {g : JFrame} (hg : g.method = m) {rest : List Value} (hs : g.stack = .int x :: .int j :: .ref a :: rest) (hd : decode c.code g.pc = .ok (.bastore, 1)) (ha : n0 ≤ a)
    (kk : ∀ (T' : State) (h' : Heap), WkS p l e R s m args below meth c Z a0 EL own n0 T' h' cells slots a → Wr h h' a j.toNatClampNeg (.int x) → Arv Z h' a k .byte N ((cs.set i x).map Value.int) d → Fi p e below s Z EL n0 Q kc ks (T'.setTop { g with pc := g.pc + 1, stack := rest })) : Fi p e below s Z EL n0 Q kc ks (T.setTop g) := by
  obtain ⟨vm0, k0, locs, ⟨X, eT, hS, hk, hZ, ho, N0, CC, hE⟩, SA⟩ := W
  obtain ⟨cl, A1, A2, A3, A4, A5, A6⟩ := id A
  obtain ⟨T', h', X', e', Wr', st⟩ := stB X hx hZ eT A1 (j := j) (x := x) (by rw [A3, hN, hj]; exact fun q => q.elim hj0 (fun q => absurd hi (Nat.not_lt.mpr q))) hg hs hd
  rw [hc.1] at Wr'
  have V := Arv.set A1 A2 A3 A4 A5 A6 hc.2 Wr' i hj (by simpa using hi)
  refine (kk T' h' ⟨vm0, k0, _, ⟨X', e', hS, by rw [Wr'.size]; exact hk, hZ, ho, Fr.snoc X' N0 ha, CC.trans (CHr.wr Wr' SA CC.1), hE⟩, Safe.wr Wr' SA CC.1 SA⟩ Wr' ?_).via st
  rw [List.map_set]; exact V
theorem low_ok (x : Int32) : nar .byte (low8 x) = low8 x ∧ fits .byte (.int (low8 x)) = true := by
  refine ⟨?_, ?_⟩
  · show x.toInt8.toInt32.toInt8.toInt32 = x.toInt8.toInt32
    simp
  · show (decide ((-128 : Int32) ≤ x.toInt8.toInt32) && decide (x.toInt8.toInt32 ≤ 127)) = true
    simp only [Bool.and_eq_true, decide_eq_true_eq, Int32.le_iff_toInt_le, Int8.toInt_toInt32, show (-128 : Int32).toInt = -128 from by decide, show (127 : Int32).toInt = 127 from by decide]
    have h1 := Int8.le_toInt x.toInt8
    have h2 := Int8.toInt_lt x.toInt8
    omega
theorem Wk.ldcI (W : Wk p l e R s m args below meth c Z a0 EL own n0 T h cells slots) (hx : p.tables.exec = Jvm.exec) {index : Nat} {v : Int32} (w : (Jvm.Cond.constant own index v).before a0 Z = true) {g : JFrame} (hg : g.method = m) (hd : decode c.code g.pc = .ok (.ldc index, 2))
    (f : Fi p e below s Z EL n0 Q kc ks (T.setTop { g with pc := g.pc + 2, stack := .int v :: g.stack })) : Fi p e below s Z EL n0 Q kc ks (T.setTop g) := by
  obtain ⟨vm0, k0, locs, X, eT, hS, hk, hZ, ho, N, CC, hE⟩ := W
  have hZ' : Z.Warmed39 (s.setVm vm0).vm := hZ
  exact f.via (X.ldcInt hx ho (mvT hZ' w) hg hd)
/-- invokevirtual of a private method of the object's own class -/
theorem Wk.callP (W : Wk p l e R s m args below meth c Z a0 EL own n0 T h cells slots) (hx : p.tables.exec = Jvm.exec) {index : Nat} {y : MethodName} {bytes : ByteArray} {maxL nI : Nat} {ret : Option FieldType}
    (w1 : (Jvm.Cond.methodLink own index y).before a0 Z = true) (w2 : (Jvm.Cond.instanceMethod y).before a0 Z = true) (w3 : (Jvm.Cond.privateMethod y).before a0 Z = true) (w4 : (Jvm.Cond.code y bytes maxL ret).before a0 Z = true) (w5 : (Jvm.Cond.instantiable y.cls nI).before a0 Z = true) (hy : y.cls ≠ "java/lang/invoke/MethodHandle" ∧ y.cls ≠ "java/lang/invoke/VarHandle")
    {Wd k n : Nat} {as' : Array Value} {Qy : Option Value → Heap → Prop} (P : Pay l R p e below s args Z EL n0 y Wd as' h Qy k n) {a : Addr} {C : String} (E : Exa Z h a C)
    {g : JFrame} (hg : g.method = m) (hsize : g.locals.size = c.maxLocals) {argsL rest : List Value} (hlen : ∀ sig, parseMethodDescriptor y.desc = some sig → argsL.length = sig.parameters.length) (hstack : g.stack = argsL.reverse ++ .ref a :: rest) (has : (Value.ref a :: argsL).toArray = as') (hW : 2 * g.monitorRoom + (rest.map fun v => v.category).sum ≤ Wd)
    (hd : decode c.code g.pc = .ok (.invokevirtual index, 3)) (hc : cells + k ≤ R.cells) (hl : slots + n ≤ R.slots)
    (kk : ∀ (v : Option Value) (T' : State) (h' : Heap), Wk p l e R s m args below meth c Z a0 EL own n0 T' h' (cells + k) (slots + n) → h.size ≤ h'.size → Qy v h' → Fi p e below s Z EL n0 Q kc ks (T'.setTop { g with pc := g.pc + 3, stack := v.toList ++ rest })) : Fi p e below s Z EL n0 Q kc ks (T.setTop g) := by
  obtain ⟨vm0, k0, locs, X, eT, hS, hk, hZ, ho, N, CC, hE⟩ := W
  have hZ' : Z.Warmed39 (s.setVm vm0).vm := hZ
  obtain ⟨cell, hcell, hobj⟩ := E.cell
  obtain ⟨mk, methM, hnamed, hmethM, hstM, habM⟩ := Cond.instanceMethod_spec (mvT (args := args) hZ' w2)
  obtain ⟨methM', cM, hmethM', -, -, -, -, -, -, hsigM⟩ := Cond.code_spec hnamed (mvT (args := args) hZ' w4)
  cases hmethM.symm.trans hmethM'
  obtain ⟨cI, kI, i1, i2, i3, i4, -⟩ := Cond.instantiable_spec (mvT (args := args) hZ' w5)
  have hfc := findClass_of_methodNamed hnamed
  cases hfc.symm.trans i1
  have hni : kI.isInterface = false := by
    cases hq : kI.isInterface with
    | false => rfl
    | true => simp [hq] at i4
  have hselP : selectMethod e.platform (s.setVm vm0).vm cell.cls mk = .method mk := selectMethod_private hmethM (Cond.privateMethod_at (mvP (args := args) hZ' w3) mk methM hnamed hmethM)
  obtain ⟨vm₁, X₁, hstep₁⟩ := X.invokevirtual hx ho (mvT hZ' w1) hnamed hmethM hstM i2 hni hy (a := a) (cell := cell) (by rw [eT]; exact hcell) hobj hselP hmethM habM i2 hni (g := g) hg (argsL := argsL) (rest := rest) (hlen _ hsigM) hstack hd
  have hW₁ : (s.setVm vm0).WarmedH vm₁ := X₁.warmed
  obtain ⟨v, ⟨U, L', k', n'⟩, X', hS', hgr, ⟨L, ⟨NL, hq⟩, l1, l2, l3, hC⟩, hsteps⟩ := P vm0 hZ CC.1 m meth c ⟨T.setVm vm₁, locs, cells, slots⟩ { g with stack := rest } (.invokevirtual index) mk (.ref a :: argsL).toArray X₁ hg hsize hd hW (X₁.named hnamed) ⟨has, eT, hc, hl⟩
  dsimp only [Pt.U, Pt.locs, Pt.cells, Pt.slots] at X' hS' hgr hq l1 l2 l3 hC hsteps
  subst l1 l2 l3
  have hgr : h.size ≤ U.heap.size := by rw [← eT]; exact hgr
  obtain ⟨Y1, Y2, Y3, Y4⟩ := rebS hS hk X' hS' hgr hZ ho
  exact (kk v U U.heap ⟨U.vm, _, _, Y1, rfl, Y2, Nat.le_refl _, Y3, Y4, N.app NL, CC.trans hC, hE⟩ hgr hq).via fun t ht => ((hstep₁ _ fun acts => by rw [doInvoke_state]; exact Steps.refl _).trans hsteps).trans ht
end Base2
end Jvm.OwnW
namespace Jvm.OwnW
open Jvm Jvm.ClassFile Sem Op Lib Jvm.Free Jvm.Stand Jvm.LawKit Jvm.RoadKit Bundle
section Base4
variable {p : Program} {l : Launch} {e : Env} {R : Room} {s : State} {m : MethodId} {args : Array Value} {below : List Frame} {meth : Method} {c : Code} {Z : State} {a0 : Array Value} {EL : List (String × Nat)} {own : String} {n0 : Nat} {T : State} {h h' h1 h2 : Heap} {cells slots : Nat} {Q : Option Value → Heap → Prop} {kc ks : Nat}
theorem Wk.ldcL (W : Wk p l e R s m args below meth c Z a0 EL own n0 T h cells slots) (hx : p.tables.exec = Jvm.exec) {index : Nat} {v : Int64} (w : (Jvm.Cond.constantLong own index v).before a0 Z = true) {g : JFrame} (hg : g.method = m) (hd : decode c.code g.pc = .ok (.ldc2_w index, 3))
    (f : Fi p e below s Z EL n0 Q kc ks (T.setTop { g with pc := g.pc + 3, stack := .long v :: g.stack })) : Fi p e below s Z EL n0 Q kc ks (T.setTop g) := by
  obtain ⟨vm0, k0, locs, X, eT, hS, hk, hZ, ho, N, CC, hE⟩ := W
  have hZ' : Z.Warmed39 (s.setVm vm0).vm := hZ
  exact f.via (X.ldc2Long hx ho (mvT hZ' w) hg hd)
theorem Wk.castY (W : Wk p l e R s m args below meth c Z a0 EL own n0 T h cells slots) (hx : p.tables.exec = Jvm.exec) {K : String} {index : Nat} (w : (Jvm.Cond.classLink own index K).before a0 Z = true) {a : Addr} (F : Ins Z h a K true)
    {g : JFrame} (hg : g.method = m) {rest : List Value} (hs : g.stack = .ref a :: rest) (hd : decode c.code g.pc = .ok (.checkcast index, 3))
    (k : ∀ T' : State, Wk p l e R s m args below meth c Z a0 EL own n0 T' h cells slots → Fi p e below s Z EL n0 Q kc ks (T'.setTop { g with pc := g.pc + 3 })) : Fi p e below s Z EL n0 Q kc ks (T.setTop g) := by
  obtain ⟨vm0, k0, locs, X, eT, hS, hk, hZ, ho, N, CC, hE⟩ := W
  obtain ⟨T', X', e', st⟩ := Jvm.RoadKit.castY X hx hZ ho w eT F hg hs hd
  exact (k T' ⟨vm0, k0, locs, X', e', hS, hk, hZ, ho, N, CC, hE⟩).via st
theorem Wk.aaload (W : Wk p l e R s m args below meth c Z a0 EL own n0 T h cells slots) (hx : p.tables.exec = Jvm.exec) {a : Addr} {k : ClassId} {ty : FieldType} {N : Int32} {vs : List Value} {d : Value} (A : Arv Z h a k ty N vs d) (hty : ty.isReference = true) {j : Int32} {v : Value} (hj : ¬ j < 0 ∧ j < N) (hv : vs.getD j.toNatClampNeg d = v)
    {g : JFrame} (hg : g.method = m) {rest : List Value} (hs : g.stack = .int j :: .ref a :: rest) (hd : decode c.code g.pc = .ok (.aaload, 1)) (f : Fi p e below s Z EL n0 Q kc ks (T.setTop { g with pc := g.pc + 1, stack := v :: rest })) : Fi p e below s Z EL n0 Q kc ks (T.setTop g) := by
  obtain ⟨vm0, k0, locs, X, eT, hS, hk, hZ, ho, N0, CC, hE⟩ := W
  obtain ⟨cl, A1, A2, A3, A4, A5, A6⟩ := A
  have hin := inb_of A3 hj
  exact f.via fun t ht => X.aaload hx (by rw [eT]; exact A1.1) (State.isArrayOf_alike (s := Z) hZ.alike A1.2.1) hty A1.2.2 hin (Has.at A5 hin hv) hg hs hd t ht
theorem Wk.cloneV (W : Wk p l e R s m args below meth c Z a0 EL own n0 T h cells slots) (hx : p.tables.exec = Jvm.exec) {ad : String} {index : Nat}
    (w1 : (Jvm.Cond.methodLink own index ⟨ad, "clone", "()Ljava/lang/Object;"⟩).before a0 Z = true) (w2 : (Jvm.Cond.sameMethod ad "java/lang/Object" "clone" "()Ljava/lang/Object;").before a0 Z = true) (w3 : (Jvm.Cond.native ⟨"java/lang/Object", "clone", "()Ljava/lang/Object;"⟩).before a0 Z = true)
    (w4 : (Jvm.Cond.instanceMethod ⟨"java/lang/Object", "clone", "()Ljava/lang/Object;"⟩).before a0 Z = true) (w5 : (Jvm.Cond.selects ad ⟨ad, "clone", "()Ljava/lang/Object;"⟩ ⟨"java/lang/Object", "clone", "()Ljava/lang/Object;"⟩).before a0 Z = true) (w6 : (Jvm.Cond.castable ad "java/lang/Cloneable").before a0 Z = true)
    {a : Addr} {k : ClassId} {ty : FieldType} {N : Int32} {vs : List Value} {d : Value} (A : Arv Z h a k ty N vs d) (E : Exa Z h a ad) {g : JFrame} (hg : g.method = m) (hsize : g.locals.size = c.maxLocals) {rest : List Value} (hs : g.stack = .ref a :: rest) (hd : decode c.code g.pc = .ok (.invokevirtual index, 3))
    (hf : 1 ≤ R.frames) {Wd cap : Nat} (hW : 2 * g.monitorRoom + (rest.map fun v => v.category).sum ≤ Wd) (hl : Wd + 14 ≤ R.locals) (hcap : N.toNatClampNeg ≤ cap) (hc : cells + 1 ≤ R.cells) (hsl : slots + cap ≤ R.slots)
    (kk : ∀ (T' : State) (h' : Heap) (b : Addr), @Eq Nat b h.size → Wk p l e R s m args below meth c Z a0 EL own n0 T' h' (cells + 1) (slots + cap) → Ext h h' → Arv Z h' b k ty N vs d → Exa Z h' b ad → Fi p e below s Z EL n0 Q kc ks (T'.setTop { g with pc := g.pc + 3, stack := .ref b :: rest })) : Fi p e below s Z EL n0 Q kc ks (T.setTop g) := by
  obtain ⟨vm0, k0, locs, X, eT, hS, hk, hZ, ho, N0, CC, hE⟩ := W
  obtain ⟨cl, A1, A2, A3, A4, A5, A6⟩ := A
  have FC : FitC Z cl := fitC_of A1 fun i hi v hv => by rw [A5 i hi] at hv; cases hv; exact A6 i hi
  obtain ⟨T', h', X', e', E', A', Ex', st⟩ := cloneA X hx hZ ho w1 w2 w3 w4 w5 w6 eT A1 E FC hg hsize hs hd hf hW hl (by rw [A3]; exact hcap) hc hsl
  exact (kk T' h' _ rfl ⟨vm0, k0, locs, X', e', hS, Nat.le_trans hk E'.1, hZ, ho, N0, CC.trans (CHr.ext E' CC.1), hE⟩ E' ⟨cloneOf cl, A', A2, A3, A4, A5, A6⟩ Ex').via st
/-- a char[] of which only the range of the chars is told -/
def CA (Z : State) (h : Heap) (a : Addr) (k : ClassId) (N : Int32) : Prop := ∃ cs : List Int32, cs.length = N.toNatClampNeg ∧ (∀ c ∈ cs, ¬ c < 0 ∧ ¬ (255 : Int32) < c) ∧ Arv Z h a k .char N (cs.map Value.int) (.int 0)
theorem CA.ext {a : Addr} {k : ClassId} {N : Int32} (F : CA Z h a k N) (E : Ext h h') : CA Z h' a k N := by
  obtain ⟨cs, q1, q2, q3⟩ := F
  exact ⟨cs, q1, q2, q3.ext E⟩
theorem CA.new {a : Addr} {k : ClassId} {N : Int32} (A : Arv Z h a k .char N [] (.int 0)) : CA Z h a k N := by
  refine ⟨List.replicate N.toNatClampNeg 0, by simp, fun c hc => by rw [List.eq_of_mem_replicate hc]; decide, ?_⟩
  rw [List.map_replicate]
  exact A.pad (pad_rep [] (.int (0 : Int32)) _)
theorem lt_clamp {j N : Int32} (q : ¬ j < 0 ∧ j < N) : j.toNatClampNeg < N.toNatClampNeg := by
  obtain ⟨q1, q2⟩ := q
  have e0 : (0 : Int32).toInt = 0 := rfl
  simp only [Int32.lt_iff_toInt_lt, Int32.toNatClampNeg] at *; omega
theorem Wk.castoreCA (W : Wk p l e R s m args below meth c Z a0 EL own n0 T h cells slots) (hx : p.tables.exec = Jvm.exec) {a : Addr} {k : ClassId} {N : Int32} (A : CA Z h a k N) {j x : Int32} (hj : ¬ j < 0 ∧ j < N) (hr : ¬ x < 0 ∧ ¬ (255 : Int32) < x)
    {g : JFrame} (hg : g.method = m) {rest : List Value} (hs : g.stack = .int x :: .int j :: .ref a :: rest) (hd : decode c.code g.pc = .ok (.castore, 1)) (ha : n0 ≤ a)
    (kk : ∀ (T' : State) (h' : Heap), Wk p l e R s m args below meth c Z a0 EL own n0 T' h' cells slots → Wr h h' a j.toNatClampNeg (.int x) → CA Z h' a k N → Fi p e below s Z EL n0 Q kc ks (T'.setTop { g with pc := g.pc + 1, stack := rest })) : Fi p e below s Z EL n0 Q kc ks (T.setTop g) := by
  obtain ⟨cs, q1, q2, q3⟩ := A
  exact W.castore hx q3 (i := j.toNatClampNeg) (by rw [q1]; exact lt_clamp hj) rfl hj.1 q1.symm (ch_ok hr) hg hs hd ha fun T' h' W' R' V' => kk T' h' W' R' ⟨_, by rw [List.length_set]; exact q1, fun c hc => (List.mem_or_eq_of_mem_set hc).elim (q2 c) (fun e => e ▸ hr), V'⟩
theorem Pay.more {y : MethodName} {Wd k n k' n' : Nat} {as' : Array Value} (P : Pay l R p e below s args Z EL n0 y Wd as' h Q k n) (hk : k ≤ k') (hn : n ≤ n') : Pay l R p e below s args Z EL n0 y Wd as' h Q k' n' := by
  intro vm0 hZ hC m meth c A g ig mk a X hg hsize hdg hW hnm hp
  obtain ⟨v, B, X', r1, r2, ⟨L, q, l1, l2, l3, l4⟩, st⟩ := P vm0 hZ hC m meth c A g ig mk a X hg hsize hdg hW hnm ⟨hp.1, hp.2.1, Nat.le_trans (Nat.add_le_add_left hk _) hp.2.2.1, Nat.le_trans (Nat.add_le_add_left hn _) hp.2.2.2⟩
  exact ⟨v, ⟨B.U, B.locs, A.cells + k', A.slots + n'⟩, X'.mono (by rw [l2]; exact Nat.add_le_add_left hk _) (by rw [l3]; exact Nat.add_le_add_left hn _), r1, r2, ⟨L, q, l1, rfl, rfl, l4⟩, st⟩
theorem Pay.weak {y : MethodName} {Wd k n : Nat} {as' : Array Value} {Q' : Option Value → Heap → Prop} (P : Pay l R p e below s args Z EL n0 y Wd as' h Q k n) (w : ∀ v h', Q v h' → Q' v h') : Pay l R p e below s args Z EL n0 y Wd as' h Q' k n := by
  intro vm0 hZ hC m meth c A g ig mk a X hg hsize hdg hW hnm hp
  obtain ⟨v, B, X', r1, r2, ⟨L, ⟨q, q'⟩, l1, l2, l3, l4⟩, st⟩ := P vm0 hZ hC m meth c A g ig mk a X hg hsize hdg hW hnm hp
  exact ⟨v, B, X', r1, r2, ⟨L, ⟨q, w _ _ q'⟩, l1, l2, l3, l4⟩, st⟩
end Base4
theorem eq_yes {r : Int32} {P : Prop} (h : (r = 1 ∧ P) ∨ (r = 0 ∧ ¬ P)) (q : ¬ r = 0) : P := h.elim (fun u => u.2) (fun u => absurd u.1 q)
theorem eq_no {r : Int32} {P : Prop} (h : (r = 1 ∧ P) ∨ (r = 0 ∧ ¬ P)) (q : r = 0) : ¬ P := h.elim (fun u => absurd (u.1.symm.trans q) (by decide)) (fun u => u.2)
theorem StrL.rng {Z : State} {h : Heap} {x : Addr} {cs : List Int32} (F : StrL Z h x cs) (i : Nat) : ¬ cs.getD i 0 < 0 ∧ ¬ (255 : Int32) < cs.getD i 0 := by
  obtain ⟨_, _, -, -, -, -, q, -⟩ := F
  rw [List.getD_eq_getElem?_getD]
  cases e : cs[i]? with
  | none => decide
  | some v => exact q v (List.mem_of_getElem? e)
theorem and255L (z : Int64) : ¬ (z &&& 255).toInt32 < 0 ∧ ¬ (255 : Int32) < (z &&& 255).toInt32 := by
  rw [rng_nat]
  have e : (z &&& 255).toInt32.toBitVec = (z &&& 255).toBitVec.signExtend 32 := rfl
  rw [e, BitVec.signExtend_eq_setWidth_of_le _ (by decide), BitVec.toNat_setWidth, Int64.toBitVec_and, BitVec.toNat_and]
  refine Nat.lt_of_le_of_lt (Nat.mod_le _ _) (Nat.lt_succ_of_le Nat.and_le_right)
theorem ch_nar {x : Int32} (q : ¬ x < 0 ∧ ¬ (255 : Int32) < x) : narrow .char (.int x) = .int x := congrArg Value.int (ch_ok q).1
/-- (x & MAX) % y for y = 5 | 6 -/
theorem rem_in {x y z : Int32} (hy : y = 5 ∨ y = 6) (e : z = (x &&& 2147483647) - ((x &&& 2147483647) / y) * y) : ¬ z < 0 ∧ z < y := by
  have h0 : 0 ≤ (x &&& 2147483647).toInt := by
    have h : (x &&& 2147483647).toBitVec.toNat ≤ 2147483647 := by
      simp only [Int32.toBitVec_and, BitVec.toNat_and]
      exact Nat.and_le_right
    show 0 ≤ (x &&& 2147483647).toBitVec.toInt
    rw [BitVec.toInt_eq_toNat_cond]
    split <;> omega
  have hp : 0 < y.toInt := by rcases hy with rfl | rfl <;> decide
  have q := (c_iremV (x &&& 2147483647) y).1 h0 hp
  rw [e, irem_eq_mod, Int32.lt_iff_toInt_lt, Int32.lt_iff_toInt_lt, show (0 : Int32).toInt = 0 from rfl]
  omega
/-! ## what the start's words say of arrays and Strings -/
section Start
variable {Z : State} {args : Array Value}
theorem eq_val {a b : Term} {v : Value} (h : (Jvm.Cond.eq a b).value args Z none Z [] = some true) (hb : b.eval args Z none [] Z = some v) (hk : (match v with | .int _ => true | .ref _ => true | .null => true | _ => false) = true := by rfl) : a.eval args Z none [] Z = some v := by
  cases ha : a.eval args Z none [] Z with
  | none => simp [Cond.value, ha] at h
  | some x => cases x <;> cases v <;> simp [Cond.value, ha, hb] at h hk ⊢ <;> exact h
theorem len_start {t : Term} {a : Addr} {cl : Cell} {ty : FieldType} {N : Int32} (A : Arr Z Z.heap a cl ty) (ev : t.eval args Z none [] Z = some (.ref a)) (hq : (Jvm.Cond.eq (.length t) (.int N)).value args Z none Z [] = some true) : cl.slots.size < 2 ^ 31 ∧ cl.slots.size.toInt32 = N := by
  have h := eq_val hq (Term.int_eval N)
  have ha := A.fin (U := Z) (Vm.Alike.refl _)
  simp only [Term.eval, ev, ha, Option.bind_eq_bind, Option.bind_some] at h
  split at h
  · rename_i q
    exact ⟨q, by simpa using h⟩
  · cases h
theorem el_start {t u : Term} {a : Addr} {cl : Cell} {ty : FieldType} {v : Value} {i : Nat} (A : Arr Z Z.heap a cl ty) (ev : t.eval args Z none [] Z = some (.ref a)) (hq : (Jvm.Cond.eq (.elem t (.int (Int32.ofNat i))) u).value args Z none Z [] = some true) (hu : u.eval args Z none [] Z = some v) (hi : (Int32.ofNat i).toNatClampNeg = i) (hk : (match v with | .int _ => true | .ref _ => true | .null => true | _ => false) = true := by rfl) : cl.slots[i]? = some v := by
  have h := (elem_in (eq_val hq hu hk) ev (Term.int_eval _) A.1).2
  rwa [hi] at h
def ElL (args : Array Value) (Z : State) (t : Term) : Nat → List Int32 → Prop
  | _, [] => True
  | i, v :: r => (Jvm.Cond.eq (.elem t (.int (Int32.ofNat i))) (.int v)).value args Z none Z [] = some true ∧ ElL args Z t (i + 1) r
theorem ElL.has {t : Term} {a : Addr} {cl : Cell} {ty : FieldType} (A : Arr Z Z.heap a cl ty) (ev : t.eval args Z none [] Z = some (.ref a)) : ∀ (L : List Int32) (i : Nat), i + L.length < 2 ^ 31 → ElL args Z t i L → HasL cl i (L.map Value.int)
  | [], _, _, _ => trivial
  | v :: r, i, hi, H => ⟨el_start A ev H.1 (Term.int_eval v) (by
      simp only [List.length_cons] at hi
      simp only [Int32.toNatClampNeg, show (Int32.ofNat i).toInt = i from len_toInt (by omega)]; rfl), ElL.has A ev r (i + 1) (by simp only [List.length_cons] at hi; omega) H.2⟩
theorem strl_start (hf : Fit Z) {tn : Term} {n : Addr} (en : tn.eval args Z none [] Z = some (.ref n)) (ex : (Jvm.Cond.exactly tn "java/lang/String").value args Z none Z [] = some true) (ec : (Jvm.Cond.eq (.field tn "java/lang/String" "coder" "B") (.int 0)).value args Z none Z [] = some true)
    (ea : (Jvm.Cond.arrayOf (.field tn "java/lang/String" "value" "[B") .byte).value args Z none Z [] = some true) {N : Int32} (el : (Jvm.Cond.eq (.length (.field tn "java/lang/String" "value" "[B")) (.int N)).value args Z none Z [] = some true) {cs : List Int32} (hN : Int32.ofNat cs.length = N) (hcs : (∀ c ∈ cs, ¬ c < 0 ∧ ¬ (255 : Int32) < c) ∧ cs.length ≤ 4000)
    (hb : ElL args Z (.field tn "java/lang/String" "value" "[B") 0 (cs.map low8)) : StrL Z Z.heap n cs := by
  subst hN
  obtain ⟨t, et⟩ := arr_v ea
  obtain ⟨cl, A⟩ := Arr.start et ea
  obtain ⟨q1, q2⟩ := len_start A et el
  have hz : (Int32.ofNat cs.length).toInt = cs.length := len_toInt (by have := hcs.2; omega)
  refine ⟨t, cl.cls, Exa.start en ex, Fld.start ((fld_at en).symm.trans et), Fld.start ((fld_at en).symm.trans (eq_val ec (Term.int_eval 0))), Arv.start hf A q1 q2 (by rw [Int32.lt_iff_toInt_lt, hz, show (0 : Int32).toInt = 0 from rfl]; omega) (by simp only [Int32.toNatClampNeg, hz, List.length_map]; omega) (ElL.has A et _ 0 (by rw [List.length_map]; have := hcs.2; omega) hb), hcs.1, hcs.2⟩
end Start
end Jvm.OwnW
namespace Jvm.OwnW
open Jvm Jvm.ClassFile Sem Op Lib Jvm.Free Jvm.Stand Jvm.LawKit Jvm.RoadKit Bundle
section Base5
variable {p : Program} {l : Launch} {e : Env} {R : Room} {s : State} {m : MethodId} {args : Array Value} {below : List Frame} {meth : Method} {c : Code} {Z : State} {a0 : Array Value} {EL : List (String × Nat)} {own : String} {n0 : Nat} {T : State} {h h' h1 h2 : Heap} {cells slots : Nat} {Q : Option Value → Heap → Prop} {kc ks : Nat}
theorem Wk.caload (W : Wk p l e R s m args below meth c Z a0 EL own n0 T h cells slots) (hx : p.tables.exec = Jvm.exec) {a : Addr} {k : ClassId} {N : Int32} {vs : List Value} {d : Value} (A : Arv Z h a k .char N vs d) {j : Int32} {v : Value} (hj : ¬ j < 0 ∧ j < N) (hv : vs.getD j.toNatClampNeg d = v)
    {g : JFrame} (hg : g.method = m) {rest : List Value} (hs : g.stack = .int j :: .ref a :: rest) (hd : decode c.code g.pc = .ok (.caload, 1)) (f : Fi p e below s Z EL n0 Q kc ks (T.setTop { g with pc := g.pc + 1, stack := v :: rest })) : Fi p e below s Z EL n0 Q kc ks (T.setTop g) := by
  obtain ⟨vm0, k0, locs, X, eT, hS, hk, hZ, ho, N0, CC, hE⟩ := W
  obtain ⟨cl, A1, A2, A3, A4, A5, A6⟩ := A
  have hin := inb_of A3 hj
  exact f.via fun t ht => X.caload hx (by rw [eT]; exact A1.1) (State.isArrayOf_alike (s := Z) hZ.alike A1.2.1) A1.2.2 hin (Has.at A5 hin hv) hg hs hd t ht
theorem Wk.baload (W : Wk p l e R s m args below meth c Z a0 EL own n0 T h cells slots) (hx : p.tables.exec = Jvm.exec) {a : Addr} {k : ClassId} {N : Int32} {vs : List Value} {d : Value} (A : Arv Z h a k .byte N vs d) {j : Int32} {v : Value} (hj : ¬ j < 0 ∧ j < N) (hv : vs.getD j.toNatClampNeg d = v)
    {g : JFrame} (hg : g.method = m) {rest : List Value} (hs : g.stack = .int j :: .ref a :: rest) (hd : decode c.code g.pc = .ok (.baload, 1)) (f : Fi p e below s Z EL n0 Q kc ks (T.setTop { g with pc := g.pc + 1, stack := v :: rest })) : Fi p e below s Z EL n0 Q kc ks (T.setTop g) := by
  obtain ⟨vm0, k0, locs, X, eT, hS, hk, hZ, ho, N0, CC, hE⟩ := W
  obtain ⟨cl, A1, A2, A3, A4, A5, A6⟩ := A
  have hin := inb_of A3 hj
  exact f.via fun t ht => X.baloadBytes hx (by rw [eT]; exact A1.1) (State.isArrayOf_alike (s := Z) hZ.alike A1.2.1) A1.2.2 hin (Has.at A5 hin hv) hg hs hd t ht
/-- where no constant is held, nothing that is written is held -/
theorem safeN {vm : Vm} {x : Addr} (hn : EL = []) : Safe Z EL vm h x := fun B => by
  obtain ⟨p, hp, -⟩ := B
  rw [hn] at hp
  cases hp
theorem Wk.bastoreN (hn : EL = []) (W : Wk p l e R s m args below meth c Z a0 EL own n0 T h cells slots) (hx : p.tables.exec = Jvm.exec) {a : Addr} {k : ClassId} {N : Int32} {cs : List Int32} {d : Value} (A : Arv Z h a k .byte N (cs.map Value.int) d) {i : Nat} (hi : i < cs.length) {j x : Int32} (hj : j.toNatClampNeg = i) (hj0 : ¬ j < 0) (hN : N.toNatClampNeg = cs.length) (hc : nar .byte x = x ∧ fits .byte (.int x) = true)
    {g : JFrame} (hg : g.method = m) {rest : List Value} (hs : g.stack = .int x :: .int j :: .ref a :: rest) (hd : decode c.code g.pc = .ok (.bastore, 1)) (ha : n0 ≤ a)
    (kk : ∀ (T' : State) (h' : Heap), Wk p l e R s m args below meth c Z a0 EL own n0 T' h' cells slots → Wr h h' a j.toNatClampNeg (.int x) → Arv Z h' a k .byte N ((cs.set i x).map Value.int) d → Fi p e below s Z EL n0 Q kc ks (T'.setTop { g with pc := g.pc + 1, stack := rest })) : Fi p e below s Z EL n0 Q kc ks (T.setTop g) := by
  obtain ⟨vm0, k0, locs, r⟩ := W
  exact WkS.bastore ⟨vm0, k0, locs, r, safeN hn⟩ hx A hi hj hj0 hN hc hg hs hd ha fun T' h' W' R' V' => kk T' h' W'.wk R' V'
theorem keep_ext {x : Addr} (K : Keep h h1 [x]) (E : Ext h1 h2) : Keep h h2 [x] := K.ext E
end Base5
def b2i (b : Bool) : Int32 := if b then 1 else 0
theorem b2i_t {b : Bool} (q : ¬ b2i b = 0) : b = true := by cases b; exact absurd rfl q; rfl
theorem b2i_f {b : Bool} (q : b2i b = 0) : b = false := by cases b; rfl; exact absurd q (by decide)
theorem b2i_01 (b : Bool) : b2i b = 0 ∨ b2i b = 1 := by cases b; exact Or.inl rfl; exact Or.inr rfl
/-! surrogates -/
def hiB (c : Int32) : Bool := decide (¬ c < 55296 ∧ ¬ 56319 < c)
def loB (c : Int32) : Bool := decide (¬ c < 56320 ∧ ¬ 57343 < c)
def suB (c : Int32) : Bool := decide (¬ c < 55296 ∧ c < 57344)
theorem lt_hi (c : Int32) : c < 56320 ↔ ¬ 56319 < c := by
  rw [Int32.lt_iff_toInt_lt, Int32.lt_iff_toInt_lt, show (56320 : Int32).toInt = 56320 from rfl, show (56319 : Int32).toInt = 56319 from rfl]; omega
theorem lt_su (c : Int32) : c < 57344 ↔ ¬ 57343 < c := by
  rw [Int32.lt_iff_toInt_lt, Int32.lt_iff_toInt_lt, show (57344 : Int32).toInt = 57344 from rfl, show (57343 : Int32).toInt = 57343 from rfl]; omega
theorem su_is (c : Int32) : suB c = (hiB c || loB c) := by
  have e : (¬ c < 55296 ∧ c < 57344) ↔ ((¬ c < 55296 ∧ ¬ 56319 < c) ∨ (¬ c < 56320 ∧ ¬ 57343 < c)) := by
    simp only [Int32.lt_iff_toInt_lt, show (55296 : Int32).toInt = 55296 from rfl, show (57344 : Int32).toInt = 57344 from rfl, show (56319 : Int32).toInt = 56319 from rfl, show (56320 : Int32).toInt = 56320 from rfl, show (57343 : Int32).toInt = 57343 from rfl]; omega
  unfold suB hiB loB
  rw [← Bool.decide_or]
  exact decide_eq_decide.mpr e
theorem hi_lo (c : Int32) : (hiB c && loB c) = false := by
  unfold hiB loB
  rw [← Bool.decide_and, decide_eq_false_iff_not]
  simp only [Int32.lt_iff_toInt_lt, show (55296 : Int32).toInt = 55296 from rfl, show (56319 : Int32).toInt = 56319 from rfl, show (56320 : Int32).toInt = 56320 from rfl, show (57343 : Int32).toInt = 57343 from rfl]; omega
def fineB (hp : Bool) (p c : Int32) (hn : Bool) (n : Int32) : Bool := if hiB c && !(hn && loB n) then false else if loB c && !(hp && hiB p) then false else true
def encB : List Int32 → Bool
  | [] => true
  | [c] => !suB c
  | c :: d :: r => if hiB c && loB d then encB r else if suB c then false else encB (d :: r)
theorem plain1 (c0 z : Int32) : encB [c0] = fineB false c0 c0 false z := by
  have q0 := hi_lo c0
  simp only [encB, fineB, su_is]
  revert q0; generalize hiB c0 = h0; generalize loB c0 = l0; generalize loB z = lz
  revert h0 l0 lz; decide
theorem plain2 (c0 c1 z : Int32) : encB [c0, c1] = (fineB false c0 c0 true c1 && fineB true c0 c1 false z) := by
  have q0 := hi_lo c0
  have q1 := hi_lo c1
  simp only [encB, fineB, su_is]
  revert q0 q1; generalize hiB c0 = h0; generalize loB c0 = l0; generalize hiB c1 = h1; generalize loB c1 = l1; generalize loB z = lz
  revert h0 l0 h1 l1 lz; decide
theorem plain3 (c0 c1 c2 z : Int32) : encB [c0, c1, c2] = (fineB false c0 c0 true c1 && (fineB true c0 c1 true c2 && fineB true c1 c2 false z)) := by
  have q0 := hi_lo c0
  have q1 := hi_lo c1
  have q2 := hi_lo c2
  simp only [encB, fineB, su_is]
  revert q0 q1 q2; generalize hiB c0 = h0; generalize loB c0 = l0; generalize hiB c1 = h1; generalize loB c1 = l1; generalize hiB c2 = h2; generalize loB c2 = l2; generalize loB z = lz
  revert h0 l0 h1 l1 h2 l2 lz; decide
theorem plain4 (c0 c1 c2 c3 z : Int32) : encB [c0, c1, c2, c3] = (fineB false c0 c0 true c1 && (fineB true c0 c1 true c2 && (fineB true c1 c2 true c3 && fineB true c2 c3 false z))) := by
  have q0 := hi_lo c0
  have q1 := hi_lo c1
  have q2 := hi_lo c2
  have q3 := hi_lo c3
  simp only [encB, fineB, su_is]
  revert q0 q1 q2 q3; generalize hiB c0 = h0; generalize loB c0 = l0; generalize hiB c1 = h1; generalize loB c1 = l1; generalize hiB c2 = h2; generalize loB c2 = l2; generalize hiB c3 = h3; generalize loB c3 = l3; generalize loB z = lz
  revert h0 l0 h1 l1 h2 l2 h3 l3 lz; decide +kernel
/-! chars -/
theorem rng_of {x : Int32} {n : Nat} (e : x.toBitVec.toNat = n) (h : n < 65536) : ¬ x < 0 ∧ ¬ (65535 : Int32) < x := by
  have e2 : x.toInt = x.toBitVec.toInt := rfl
  rw [Int32.lt_iff_toInt_lt, Int32.lt_iff_toInt_lt, e2, show (0 : Int32).toInt = 0 from rfl, show (65535 : Int32).toInt = 65535 from rfl, BitVec.toInt_eq_toNat_cond]
  split <;> omega
theorem i2c_rng (x : Int32) : ¬ x.toUInt32.toUInt16.toUInt32.toInt32 < 0 ∧ ¬ (65535 : Int32) < x.toUInt32.toUInt16.toUInt32.toInt32 :=
  rng_of (n := x.toUInt32.toUInt16.toNat) rfl (UInt16.toNat_lt _)
theorem rem5 {x z : Int32} (e : z = (x &&& 2147483647) - ((x &&& 2147483647) / 5) * 5) : z = 0 ∨ z = 1 ∨ z = 2 ∨ z = 3 ∨ z = 4 := by
  have h0 : 0 ≤ (x &&& 2147483647).toInt := by
    have h : (x &&& 2147483647).toBitVec.toNat ≤ 2147483647 := by
      simp only [Int32.toBitVec_and, BitVec.toNat_and]
      exact Nat.and_le_right
    show 0 ≤ (x &&& 2147483647).toBitVec.toInt
    rw [BitVec.toInt_eq_toNat_cond]
    split <;> omega
  have q := (c_iremV (x &&& 2147483647) 5).1 h0 (by decide)
  rw [← irem_eq_mod, ← e] at q
  rw [show (5 : Int32).toInt = 5 from rfl] at q
  simp only [← Int32.toInt_inj, show (0 : Int32).toInt = 0 from rfl, show (1 : Int32).toInt = 1 from rfl, show (2 : Int32).toInt = 2 from rfl, show (3 : Int32).toInt = 3 from rfl, show (4 : Int32).toInt = 4 from rfl]
  omega
end Jvm.OwnW
namespace Jvm.Pilot.@@N@@
open Jvm Jvm.ClassFile Sem Op Lib Jvm.Free Jvm.Stand Jvm.LawKit Jvm.RoadKit Bundle Jvm.OwnW Jvm.Pilot.@@N@@.Jvm.D
theorem ww {a0 : Array Value} {Z : State} (hw : ∀ d ∈ tables_1, d.before a0 Z = true) (i : Nat) {d : Jvm.Cond} (q : tables_1[i]? = some d) : d.before a0 Z = true := hw _ (List.mem_of_getElem? q)
theorem wS {a0 : Array Value} {Z : State} (hw : ∀ d ∈ tables_1, d.before a0 Z = true) : ∀ a ∈ Bundle.stringAtoms, a.before a0 Z = true := fun a ha => hw a ((by decide +kernel : ∀ d ∈ Bundle.stringAtoms, d ∈ tables_1) a ha)
def textAt (i : Nat) : String := match tables_1[i]? with | some (Jvm.Cond.stringLink _ _ t) => t | _ => ""
def EL : List (String × Nat) := [("java/lang/String", 7)]
theorem hEL {a0 : Array Value} {Z : State} (hw : ∀ d ∈ tables_1, d.before a0 Z = true) : EW Z a0 EL := (EW.cons (ww hw (i := 20) rfl) (by decide +kernel) EW.nil)
abbrev y_0 : MethodName := ⟨"java/lang/String", "length", "()I"⟩
abbrev y_1 : MethodName := ⟨"java/lang/String", "charAt", "(I)C"⟩
abbrev y_2 : MethodName := ⟨"com/example/record_hold/recordhold/text/Utf8CanEncodePinLaw", "draw", "(I)C"⟩
abbrev y_3 : MethodName := ⟨"com/example/record_hold/recordhold/text/Utf8CanEncodePinLaw", "isHigh", "(C)Z"⟩
abbrev y_4 : MethodName := ⟨"com/example/record_hold/recordhold/text/Utf8CanEncodePinLaw", "isLow", "(C)Z"⟩
abbrev y_5 : MethodName := ⟨"com/example/record_hold/recordhold/text/Utf8CanEncodePinLaw", "fine", "(ZCCZC)Z"⟩
abbrev y_6 : MethodName := ⟨"java/lang/Character", "isHighSurrogate", "(C)Z"⟩
abbrev y_7 : MethodName := ⟨"java/lang/Character", "isLowSurrogate", "(C)Z"⟩
abbrev y_8 : MethodName := ⟨"java/lang/Character", "isSurrogate", "(C)Z"⟩
abbrev y_9 : MethodName := ⟨"java/lang/StringUTF16", "newBytesLength", "(I)I"⟩
abbrev y_10 : MethodName := ⟨"java/lang/StringUTF16", "putChar", "([BII)V"⟩
abbrev y_11 : MethodName := ⟨"java/lang/StringUTF16", "getChar", "([BI)C"⟩
abbrev y_12 : MethodName := ⟨"java/lang/StringUTF16", "coderFromArrayLen", "([BI)B"⟩
abbrev y_13 : MethodName := ⟨"java/lang/StringUTF16", "newBytesFor", "(I)[B"⟩
abbrev y_14 : MethodName := ⟨"java/lang/StringUTF16", "toBytes", "([CII)[B"⟩
abbrev y_15 : MethodName := ⟨"java/lang/StringUTF16", "compress", "([CI[BII)I"⟩
abbrev y_16 : MethodName := ⟨"java/lang/StringUTF16", "compress", "([CII)[B"⟩
abbrev y_17 : MethodName := ⟨"java/lang/String", "<init>", "([CIILjava/lang/Void;)V"⟩
abbrev y_18 : MethodName := ⟨"java/lang/String", "<init>", "([C)V"⟩
abbrev y_19 : MethodName := ⟨"java/lang/String", "isLatin1", "()Z"⟩
abbrev y_20 : MethodName := ⟨"java/lang/StringUTF16", "length", "([B)I"⟩
abbrev y_21 : MethodName := ⟨"jdk/internal/util/Preconditions", "checkIndex", "(IILjava/util/function/BiFunction;)I"⟩
abbrev y_22 : MethodName := ⟨"java/lang/String", "checkIndex", "(II)V"⟩
abbrev y_23 : MethodName := ⟨"java/lang/StringUTF16", "checkIndex", "(I[B)V"⟩
abbrev y_24 : MethodName := ⟨"java/lang/StringUTF16", "charAt", "([BI)C"⟩
abbrev y_25 : MethodName := ⟨"com/example/record_hold/recordhold/text/Utf8", "canEncode", "(Ljava/lang/String;)Z"⟩
theorem ble_ {a b : Nat} (h : Nat.ble a b = true) : a ≤ b := Nat.le_of_ble_eq_true h
theorem d1_0 : decode method_6_code 0 = .ok (.iload_n 0, 1) := by decide +kernel
theorem d1_1 : decode method_6_code 1 = .ok (.ldc 40, 2) := by decide +kernel
theorem d1_3 : decode method_6_code 3 = .ok (.iand, 1) := by decide +kernel
theorem d1_4 : decode method_6_code 4 = .ok (.istore_n 1, 1) := by decide +kernel
theorem d1_5 : decode method_6_code 5 = .ok (.iload_n 0, 1) := by decide +kernel
theorem d1_6 : decode method_6_code 6 = .ok (.bipush 16, 2) := by decide +kernel
theorem d1_8 : decode method_6_code 8 = .ok (.iushr, 1) := by decide +kernel
theorem d1_9 : decode method_6_code 9 = .ok (.iconst 3, 1) := by decide +kernel
theorem d1_10 : decode method_6_code 10 = .ok (.iand, 1) := by decide +kernel
theorem d1_11 : decode method_6_code 11 = .ok (.istore_n 2, 1) := by decide +kernel
theorem d1_12 : decode method_6_code 12 = .ok (.iload_n 2, 1) := by decide +kernel
theorem d1_13 : decode method_6_code 13 = .ok (.ifCond .ne 6, 3) := by decide +kernel
theorem d1_16 : decode method_6_code 16 = .ok (.iload_n 1, 1) := by decide +kernel
theorem d1_17 : decode method_6_code 17 = .ok (.i2c, 1) := by decide +kernel
theorem d1_18 : decode method_6_code 18 = .ok (.ireturn, 1) := by decide +kernel
theorem d1_19 : decode method_6_code 19 = .ok (.iload_n 2, 1) := by decide +kernel
theorem d1_20 : decode method_6_code 20 = .ok (.iconst 1, 1) := by decide +kernel
theorem d1_21 : decode method_6_code 21 = .ok (.if_icmp .ne 13, 3) := by decide +kernel
theorem d1_24 : decode method_6_code 24 = .ok (.ldc 29, 2) := by decide +kernel
theorem d1_26 : decode method_6_code 26 = .ok (.iload_n 1, 1) := by decide +kernel
theorem d1_27 : decode method_6_code 27 = .ok (.sipush 1023, 3) := by decide +kernel
theorem d1_30 : decode method_6_code 30 = .ok (.iand, 1) := by decide +kernel
theorem d1_31 : decode method_6_code 31 = .ok (.ior, 1) := by decide +kernel
theorem d1_32 : decode method_6_code 32 = .ok (.i2c, 1) := by decide +kernel
theorem d1_33 : decode method_6_code 33 = .ok (.ireturn, 1) := by decide +kernel
theorem d1_34 : decode method_6_code 34 = .ok (.iload_n 2, 1) := by decide +kernel
theorem d1_35 : decode method_6_code 35 = .ok (.iconst 2, 1) := by decide +kernel
theorem d1_36 : decode method_6_code 36 = .ok (.if_icmp .ne 13, 3) := by decide +kernel
theorem d1_39 : decode method_6_code 39 = .ok (.ldc 31, 2) := by decide +kernel
theorem d1_41 : decode method_6_code 41 = .ok (.iload_n 1, 1) := by decide +kernel
theorem d1_42 : decode method_6_code 42 = .ok (.sipush 1023, 3) := by decide +kernel
theorem d1_45 : decode method_6_code 45 = .ok (.iand, 1) := by decide +kernel
theorem d1_46 : decode method_6_code 46 = .ok (.ior, 1) := by decide +kernel
theorem d1_47 : decode method_6_code 47 = .ok (.i2c, 1) := by decide +kernel
theorem d1_48 : decode method_6_code 48 = .ok (.ireturn, 1) := by decide +kernel
theorem d1_49 : decode method_6_code 49 = .ok (.iload_n 1, 1) := by decide +kernel
theorem d1_50 : decode method_6_code 50 = .ok (.bipush 7, 2) := by decide +kernel
theorem d1_52 : decode method_6_code 52 = .ok (.iand, 1) := by decide +kernel
theorem d1_53 : decode method_6_code 53 = .ok (.istore_n 3, 1) := by decide +kernel
theorem d1_54 : decode method_6_code 54 = .ok (.iload_n 3, 1) := by decide +kernel
theorem d1_55 : decode method_6_code 55 = .ok (.ifCond .ne 6, 3) := by decide +kernel
theorem d1_58 : decode method_6_code 58 = .ok (.ldc 41, 2) := by decide +kernel
theorem d1_60 : decode method_6_code 60 = .ok (.ireturn, 1) := by decide +kernel
theorem d1_61 : decode method_6_code 61 = .ok (.iload_n 3, 1) := by decide +kernel
theorem d1_62 : decode method_6_code 62 = .ok (.iconst 1, 1) := by decide +kernel
theorem d1_63 : decode method_6_code 63 = .ok (.if_icmp .ne 6, 3) := by decide +kernel
theorem d1_66 : decode method_6_code 66 = .ok (.ldc 29, 2) := by decide +kernel
theorem d1_68 : decode method_6_code 68 = .ok (.ireturn, 1) := by decide +kernel
theorem d1_69 : decode method_6_code 69 = .ok (.iload_n 3, 1) := by decide +kernel
theorem d1_70 : decode method_6_code 70 = .ok (.iconst 2, 1) := by decide +kernel
theorem d1_71 : decode method_6_code 71 = .ok (.if_icmp .ne 6, 3) := by decide +kernel
theorem d1_74 : decode method_6_code 74 = .ok (.ldc 30, 2) := by decide +kernel
theorem d1_76 : decode method_6_code 76 = .ok (.ireturn, 1) := by decide +kernel
theorem d1_77 : decode method_6_code 77 = .ok (.iload_n 3, 1) := by decide +kernel
theorem d1_78 : decode method_6_code 78 = .ok (.iconst 3, 1) := by decide +kernel
theorem d1_79 : decode method_6_code 79 = .ok (.if_icmp .ne 6, 3) := by decide +kernel
theorem d1_82 : decode method_6_code 82 = .ok (.ldc 31, 2) := by decide +kernel
theorem d1_84 : decode method_6_code 84 = .ok (.ireturn, 1) := by decide +kernel
theorem d1_85 : decode method_6_code 85 = .ok (.iload_n 3, 1) := by decide +kernel
theorem d1_86 : decode method_6_code 86 = .ok (.iconst 4, 1) := by decide +kernel
theorem d1_87 : decode method_6_code 87 = .ok (.if_icmp .ne 6, 3) := by decide +kernel
theorem d1_90 : decode method_6_code 90 = .ok (.ldc 32, 2) := by decide +kernel
theorem d1_92 : decode method_6_code 92 = .ok (.ireturn, 1) := by decide +kernel
theorem d1_93 : decode method_6_code 93 = .ok (.iload_n 3, 1) := by decide +kernel
theorem d1_94 : decode method_6_code 94 = .ok (.iconst 5, 1) := by decide +kernel
theorem d1_95 : decode method_6_code 95 = .ok (.if_icmp .ne 6, 3) := by decide +kernel
theorem d1_98 : decode method_6_code 98 = .ok (.ldc 42, 2) := by decide +kernel
theorem d1_100 : decode method_6_code 100 = .ok (.ireturn, 1) := by decide +kernel
theorem d1_101 : decode method_6_code 101 = .ok (.iload_n 3, 1) := by decide +kernel
theorem d1_102 : decode method_6_code 102 = .ok (.bipush 6, 2) := by decide +kernel
theorem d1_104 : decode method_6_code 104 = .ok (.if_icmp .ne 5, 3) := by decide +kernel
theorem d1_107 : decode method_6_code 107 = .ok (.iconst 0, 1) := by decide +kernel
theorem d1_108 : decode method_6_code 108 = .ok (.ireturn, 1) := by decide +kernel
theorem d1_109 : decode method_6_code 109 = .ok (.ldc 40, 2) := by decide +kernel
theorem d1_111 : decode method_6_code 111 = .ok (.ireturn, 1) := by decide +kernel
theorem d12_0 : decode method_3_code 0 = .ok (.iload_n 0, 1) := by decide +kernel
theorem d12_1 : decode method_3_code 1 = .ok (.ldc 29, 2) := by decide +kernel
theorem d12_3 : decode method_3_code 3 = .ok (.if_icmp .lt 13, 3) := by decide +kernel
theorem d12_16 : decode method_3_code 16 = .ok (.iconst 0, 1) := by decide +kernel
theorem d12_17 : decode method_3_code 17 = .ok (.ireturn, 1) := by decide +kernel
theorem d12_6 : decode method_3_code 6 = .ok (.iload_n 0, 1) := by decide +kernel
theorem d12_7 : decode method_3_code 7 = .ok (.ldc 30, 2) := by decide +kernel
theorem d12_9 : decode method_3_code 9 = .ok (.if_icmp .gt 7, 3) := by decide +kernel
theorem d12_12 : decode method_3_code 12 = .ok (.iconst 1, 1) := by decide +kernel
theorem d12_13 : decode method_3_code 13 = .ok (.goto 4, 3) := by decide +kernel
theorem d13_0 : decode method_4_code 0 = .ok (.iload_n 0, 1) := by decide +kernel
theorem d13_1 : decode method_4_code 1 = .ok (.ldc 31, 2) := by decide +kernel
theorem d13_3 : decode method_4_code 3 = .ok (.if_icmp .lt 13, 3) := by decide +kernel
theorem d13_16 : decode method_4_code 16 = .ok (.iconst 0, 1) := by decide +kernel
theorem d13_17 : decode method_4_code 17 = .ok (.ireturn, 1) := by decide +kernel
theorem d13_6 : decode method_4_code 6 = .ok (.iload_n 0, 1) := by decide +kernel
theorem d13_7 : decode method_4_code 7 = .ok (.ldc 32, 2) := by decide +kernel
theorem d13_9 : decode method_4_code 9 = .ok (.if_icmp .gt 7, 3) := by decide +kernel
theorem d13_12 : decode method_4_code 12 = .ok (.iconst 1, 1) := by decide +kernel
theorem d13_13 : decode method_4_code 13 = .ok (.goto 4, 3) := by decide +kernel
theorem d11_0 : decode method_5_code 0 = .ok (.iload_n 2, 1) := by decide +kernel
theorem d11_1 : decode method_5_code 1 = .ok (.invokestatic 33, 3) := by decide +kernel
theorem d11_4 : decode method_5_code 4 = .ok (.ifCond .eq 17, 3) := by decide +kernel
theorem d11_21 : decode method_5_code 21 = .ok (.iload_n 2, 1) := by decide +kernel
theorem d11_22 : decode method_5_code 22 = .ok (.invokestatic 37, 3) := by decide +kernel
theorem d11_25 : decode method_5_code 25 = .ok (.ifCond .eq 16, 3) := by decide +kernel
theorem d11_41 : decode method_5_code 41 = .ok (.iconst 1, 1) := by decide +kernel
theorem d11_42 : decode method_5_code 42 = .ok (.ireturn, 1) := by decide +kernel
theorem d11_28 : decode method_5_code 28 = .ok (.iload_n 0, 1) := by decide +kernel
theorem d11_29 : decode method_5_code 29 = .ok (.ifCond .eq 10, 3) := by decide +kernel
theorem d11_39 : decode method_5_code 39 = .ok (.iconst 0, 1) := by decide +kernel
theorem d11_40 : decode method_5_code 40 = .ok (.ireturn, 1) := by decide +kernel
theorem d11_32 : decode method_5_code 32 = .ok (.iload_n 1, 1) := by decide +kernel
theorem d11_33 : decode method_5_code 33 = .ok (.invokestatic 33, 3) := by decide +kernel
theorem d11_36 : decode method_5_code 36 = .ok (.ifCond .ne 5, 3) := by decide +kernel
theorem d11_7 : decode method_5_code 7 = .ok (.iload_n 3, 1) := by decide +kernel
theorem d11_8 : decode method_5_code 8 = .ok (.ifCond .eq 11, 3) := by decide +kernel
theorem d11_19 : decode method_5_code 19 = .ok (.iconst 0, 1) := by decide +kernel
theorem d11_20 : decode method_5_code 20 = .ok (.ireturn, 1) := by decide +kernel
theorem d11_11 : decode method_5_code 11 = .ok (.iload 4, 2) := by decide +kernel
theorem d11_13 : decode method_5_code 13 = .ok (.invokestatic 37, 3) := by decide +kernel
theorem d11_16 : decode method_5_code 16 = .ok (.ifCond .ne 5, 3) := by decide +kernel
theorem d19_0 : decode jdk_89_method_14_code 0 = .ok (.iload_n 0, 1) := by decide +kernel
theorem d19_1 : decode jdk_89_method_14_code 1 = .ok (.ldc 75, 2) := by decide +kernel
theorem d19_3 : decode jdk_89_method_14_code 3 = .ok (.if_icmp .lt 13, 3) := by decide +kernel
theorem d19_16 : decode jdk_89_method_14_code 16 = .ok (.iconst 0, 1) := by decide +kernel
theorem d19_17 : decode jdk_89_method_14_code 17 = .ok (.ireturn, 1) := by decide +kernel
theorem d19_6 : decode jdk_89_method_14_code 6 = .ok (.iload_n 0, 1) := by decide +kernel
theorem d19_7 : decode jdk_89_method_14_code 7 = .ok (.ldc 76, 2) := by decide +kernel
theorem d19_9 : decode jdk_89_method_14_code 9 = .ok (.if_icmp .ge 7, 3) := by decide +kernel
theorem d19_12 : decode jdk_89_method_14_code 12 = .ok (.iconst 1, 1) := by decide +kernel
theorem d19_13 : decode jdk_89_method_14_code 13 = .ok (.goto 4, 3) := by decide +kernel
theorem d29_0 : decode jdk_89_method_15_code 0 = .ok (.iload_n 0, 1) := by decide +kernel
theorem d29_1 : decode jdk_89_method_15_code 1 = .ok (.ldc 76, 2) := by decide +kernel
theorem d29_3 : decode jdk_89_method_15_code 3 = .ok (.if_icmp .lt 13, 3) := by decide +kernel
theorem d29_16 : decode jdk_89_method_15_code 16 = .ok (.iconst 0, 1) := by decide +kernel
theorem d29_17 : decode jdk_89_method_15_code 17 = .ok (.ireturn, 1) := by decide +kernel
theorem d29_6 : decode jdk_89_method_15_code 6 = .ok (.iload_n 0, 1) := by decide +kernel
theorem d29_7 : decode jdk_89_method_15_code 7 = .ok (.ldc 77, 2) := by decide +kernel
theorem d29_9 : decode jdk_89_method_15_code 9 = .ok (.if_icmp .ge 7, 3) := by decide +kernel
theorem d29_12 : decode jdk_89_method_15_code 12 = .ok (.iconst 1, 1) := by decide +kernel
theorem d29_13 : decode jdk_89_method_15_code 13 = .ok (.goto 4, 3) := by decide +kernel
theorem d20_0 : decode jdk_89_method_16_code 0 = .ok (.iload_n 0, 1) := by decide +kernel
theorem d20_1 : decode jdk_89_method_16_code 1 = .ok (.ldc 75, 2) := by decide +kernel
theorem d20_3 : decode jdk_89_method_16_code 3 = .ok (.if_icmp .lt 13, 3) := by decide +kernel
theorem d20_16 : decode jdk_89_method_16_code 16 = .ok (.iconst 0, 1) := by decide +kernel
theorem d20_17 : decode jdk_89_method_16_code 17 = .ok (.ireturn, 1) := by decide +kernel
theorem d20_6 : decode jdk_89_method_16_code 6 = .ok (.iload_n 0, 1) := by decide +kernel
theorem d20_7 : decode jdk_89_method_16_code 7 = .ok (.ldc 77, 2) := by decide +kernel
theorem d20_9 : decode jdk_89_method_16_code 9 = .ok (.if_icmp .ge 7, 3) := by decide +kernel
theorem d20_12 : decode jdk_89_method_16_code 12 = .ok (.iconst 1, 1) := by decide +kernel
theorem d20_13 : decode jdk_89_method_16_code 13 = .ok (.goto 4, 3) := by decide +kernel
theorem d23_0 : decode jdk_52_method_3_code 0 = .ok (.iload_n 0, 1) := by decide +kernel
theorem d23_1 : decode jdk_52_method_3_code 1 = .ok (.ifCond .ge 11, 3) := by decide +kernel
theorem d23_12 : decode jdk_52_method_3_code 12 = .ok (.iload_n 0, 1) := by decide +kernel
theorem d23_13 : decode jdk_52_method_3_code 13 = .ok (.ldc 20, 2) := by decide +kernel
theorem d23_15 : decode jdk_52_method_3_code 15 = .ok (.if_icmp .lt 40, 3) := by decide +kernel
theorem d23_55 : decode jdk_52_method_3_code 55 = .ok (.iload_n 0, 1) := by decide +kernel
theorem d23_56 : decode jdk_52_method_3_code 56 = .ok (.iconst 1, 1) := by decide +kernel
theorem d23_57 : decode jdk_52_method_3_code 57 = .ok (.ishl, 1) := by decide +kernel
theorem d23_58 : decode jdk_52_method_3_code 58 = .ok (.ireturn, 1) := by decide +kernel
theorem d24_0 : decode jdk_52_method_4_code 0 = .ok (.getstatic 44, 3) := by decide +kernel
theorem d24_3 : decode jdk_52_method_4_code 3 = .ok (.ifCond .ne 25, 3) := by decide +kernel
theorem d24_28 : decode jdk_52_method_4_code 28 = .ok (.iload_n 1, 1) := by decide +kernel
theorem d24_29 : decode jdk_52_method_4_code 29 = .ok (.iconst 1, 1) := by decide +kernel
theorem d24_30 : decode jdk_52_method_4_code 30 = .ok (.ishl, 1) := by decide +kernel
theorem d24_31 : decode jdk_52_method_4_code 31 = .ok (.istore_n 1, 1) := by decide +kernel
theorem d24_32 : decode jdk_52_method_4_code 32 = .ok (.aload_n 0, 1) := by decide +kernel
theorem d24_33 : decode jdk_52_method_4_code 33 = .ok (.iload_n 1, 1) := by decide +kernel
theorem d24_34 : decode jdk_52_method_4_code 34 = .ok (.iinc 1 1, 3) := by decide +kernel
theorem d24_37 : decode jdk_52_method_4_code 37 = .ok (.iload_n 2, 1) := by decide +kernel
theorem d24_38 : decode jdk_52_method_4_code 38 = .ok (.getstatic 59, 3) := by decide +kernel
theorem d24_41 : decode jdk_52_method_4_code 41 = .ok (.ishr, 1) := by decide +kernel
theorem d24_42 : decode jdk_52_method_4_code 42 = .ok (.i2b, 1) := by decide +kernel
theorem d24_43 : decode jdk_52_method_4_code 43 = .ok (.bastore, 1) := by decide +kernel
theorem d24_44 : decode jdk_52_method_4_code 44 = .ok (.aload_n 0, 1) := by decide +kernel
theorem d24_45 : decode jdk_52_method_4_code 45 = .ok (.iload_n 1, 1) := by decide +kernel
theorem d24_46 : decode jdk_52_method_4_code 46 = .ok (.iload_n 2, 1) := by decide +kernel
theorem d24_47 : decode jdk_52_method_4_code 47 = .ok (.getstatic 63, 3) := by decide +kernel
theorem d24_50 : decode jdk_52_method_4_code 50 = .ok (.ishr, 1) := by decide +kernel
theorem d24_51 : decode jdk_52_method_4_code 51 = .ok (.i2b, 1) := by decide +kernel
theorem d24_52 : decode jdk_52_method_4_code 52 = .ok (.bastore, 1) := by decide +kernel
theorem d24_53 : decode jdk_52_method_4_code 53 = .ok (.return_, 1) := by decide +kernel
theorem d25_0 : decode jdk_52_method_5_code 0 = .ok (.getstatic 44, 3) := by decide +kernel
theorem d25_3 : decode jdk_52_method_5_code 3 = .ok (.ifCond .ne 25, 3) := by decide +kernel
theorem d25_28 : decode jdk_52_method_5_code 28 = .ok (.iload_n 1, 1) := by decide +kernel
theorem d25_29 : decode jdk_52_method_5_code 29 = .ok (.iconst 1, 1) := by decide +kernel
theorem d25_30 : decode jdk_52_method_5_code 30 = .ok (.ishl, 1) := by decide +kernel
theorem d25_31 : decode jdk_52_method_5_code 31 = .ok (.istore_n 1, 1) := by decide +kernel
theorem d25_32 : decode jdk_52_method_5_code 32 = .ok (.aload_n 0, 1) := by decide +kernel
theorem d25_33 : decode jdk_52_method_5_code 33 = .ok (.iload_n 1, 1) := by decide +kernel
theorem d25_34 : decode jdk_52_method_5_code 34 = .ok (.iinc 1 1, 3) := by decide +kernel
theorem d25_37 : decode jdk_52_method_5_code 37 = .ok (.baload, 1) := by decide +kernel
theorem d25_38 : decode jdk_52_method_5_code 38 = .ok (.sipush 255, 3) := by decide +kernel
theorem d25_41 : decode jdk_52_method_5_code 41 = .ok (.iand, 1) := by decide +kernel
theorem d25_42 : decode jdk_52_method_5_code 42 = .ok (.getstatic 59, 3) := by decide +kernel
theorem d25_45 : decode jdk_52_method_5_code 45 = .ok (.ishl, 1) := by decide +kernel
theorem d25_46 : decode jdk_52_method_5_code 46 = .ok (.aload_n 0, 1) := by decide +kernel
theorem d25_47 : decode jdk_52_method_5_code 47 = .ok (.iload_n 1, 1) := by decide +kernel
theorem d25_48 : decode jdk_52_method_5_code 48 = .ok (.baload, 1) := by decide +kernel
theorem d25_49 : decode jdk_52_method_5_code 49 = .ok (.sipush 255, 3) := by decide +kernel
theorem d25_52 : decode jdk_52_method_5_code 52 = .ok (.iand, 1) := by decide +kernel
theorem d25_53 : decode jdk_52_method_5_code 53 = .ok (.getstatic 63, 3) := by decide +kernel
theorem d25_56 : decode jdk_52_method_5_code 56 = .ok (.ishl, 1) := by decide +kernel
theorem d25_57 : decode jdk_52_method_5_code 57 = .ok (.ior, 1) := by decide +kernel
theorem d25_58 : decode jdk_52_method_5_code 58 = .ok (.i2c, 1) := by decide +kernel
theorem d25_59 : decode jdk_52_method_5_code 59 = .ok (.ireturn, 1) := by decide +kernel
theorem d10_0 : decode jdk_52_method_15_code 0 = .ok (.iload_n 1, 1) := by decide +kernel
theorem d10_1 : decode jdk_52_method_15_code 1 = .ok (.aload_n 0, 1) := by decide +kernel
theorem d10_2 : decode jdk_52_method_15_code 2 = .ok (.arraylength, 1) := by decide +kernel
theorem d10_3 : decode jdk_52_method_15_code 3 = .ok (.isub, 1) := by decide +kernel
theorem d10_4 : decode jdk_52_method_15_code 4 = .ok (.bipush 31, 2) := by decide +kernel
theorem d10_6 : decode jdk_52_method_15_code 6 = .ok (.iushr, 1) := by decide +kernel
theorem d10_7 : decode jdk_52_method_15_code 7 = .ok (.i2b, 1) := by decide +kernel
theorem d10_8 : decode jdk_52_method_15_code 8 = .ok (.ireturn, 1) := by decide +kernel
theorem d22_0 : decode jdk_52_method_2_code 0 = .ok (.iload_n 0, 1) := by decide +kernel
theorem d22_1 : decode jdk_52_method_2_code 1 = .ok (.invokestatic 11, 3) := by decide +kernel
theorem d22_4 : decode jdk_52_method_2_code 4 = .ok (.newarray .byte, 2) := by decide +kernel
theorem d22_6 : decode jdk_52_method_2_code 6 = .ok (.areturn, 1) := by decide +kernel
theorem d21_0 : decode jdk_52_method_14_code 0 = .ok (.iload_n 2, 1) := by decide +kernel
theorem d21_1 : decode jdk_52_method_14_code 1 = .ok (.invokestatic 107, 3) := by decide +kernel
theorem d21_4 : decode jdk_52_method_14_code 4 = .ok (.astore_n 3, 1) := by decide +kernel
theorem d21_5 : decode jdk_52_method_14_code 5 = .ok (.iconst 0, 1) := by decide +kernel
theorem d21_6 : decode jdk_52_method_14_code 6 = .ok (.istore 4, 2) := by decide +kernel
theorem d21_8 : decode jdk_52_method_14_code 8 = .ok (.iload 4, 2) := by decide +kernel
theorem d21_10 : decode jdk_52_method_14_code 10 = .ok (.iload_n 2, 1) := by decide +kernel
theorem d21_11 : decode jdk_52_method_14_code 11 = .ok (.if_icmp .ge 21, 3) := by decide +kernel
theorem d21_14 : decode jdk_52_method_14_code 14 = .ok (.aload_n 3, 1) := by decide +kernel
theorem d21_15 : decode jdk_52_method_14_code 15 = .ok (.iload 4, 2) := by decide +kernel
theorem d21_17 : decode jdk_52_method_14_code 17 = .ok (.aload_n 0, 1) := by decide +kernel
theorem d21_18 : decode jdk_52_method_14_code 18 = .ok (.iload_n 1, 1) := by decide +kernel
theorem d21_19 : decode jdk_52_method_14_code 19 = .ok (.caload, 1) := by decide +kernel
theorem d21_20 : decode jdk_52_method_14_code 20 = .ok (.invokestatic 111, 3) := by decide +kernel
theorem d21_23 : decode jdk_52_method_14_code 23 = .ok (.iinc 1 1, 3) := by decide +kernel
theorem d21_26 : decode jdk_52_method_14_code 26 = .ok (.iinc 4 1, 3) := by decide +kernel
theorem d21_29 : decode jdk_52_method_14_code 29 = .ok (.goto (-21), 3) := by decide +kernel
theorem d21_32 : decode jdk_52_method_14_code 32 = .ok (.aload_n 3, 1) := by decide +kernel
theorem d21_33 : decode jdk_52_method_14_code 33 = .ok (.areturn, 1) := by decide +kernel
theorem d9_0 : decode jdk_52_method_21_code 0 = .ok (.iconst 0, 1) := by decide +kernel
theorem d9_1 : decode jdk_52_method_21_code 1 = .ok (.istore 5, 2) := by decide +kernel
theorem d9_3 : decode jdk_52_method_21_code 3 = .ok (.iload 5, 2) := by decide +kernel
theorem d9_5 : decode jdk_52_method_21_code 5 = .ok (.iload 4, 2) := by decide +kernel
theorem d9_7 : decode jdk_52_method_21_code 7 = .ok (.if_icmp .ge 37, 3) := by decide +kernel
theorem d9_10 : decode jdk_52_method_21_code 10 = .ok (.aload_n 0, 1) := by decide +kernel
theorem d9_11 : decode jdk_52_method_21_code 11 = .ok (.iload_n 1, 1) := by decide +kernel
theorem d9_12 : decode jdk_52_method_21_code 12 = .ok (.caload, 1) := by decide +kernel
theorem d9_13 : decode jdk_52_method_21_code 13 = .ok (.istore 6, 2) := by decide +kernel
theorem d9_15 : decode jdk_52_method_21_code 15 = .ok (.iload 6, 2) := by decide +kernel
theorem d9_17 : decode jdk_52_method_21_code 17 = .ok (.sipush 255, 3) := by decide +kernel
theorem d9_20 : decode jdk_52_method_21_code 20 = .ok (.if_icmp .le 6, 3) := by decide +kernel
theorem d9_23 : decode jdk_52_method_21_code 23 = .ok (.iload 5, 2) := by decide +kernel
theorem d9_25 : decode jdk_52_method_21_code 25 = .ok (.ireturn, 1) := by decide +kernel
theorem d9_26 : decode jdk_52_method_21_code 26 = .ok (.aload_n 2, 1) := by decide +kernel
theorem d9_27 : decode jdk_52_method_21_code 27 = .ok (.iload_n 3, 1) := by decide +kernel
theorem d9_28 : decode jdk_52_method_21_code 28 = .ok (.iload 6, 2) := by decide +kernel
theorem d9_30 : decode jdk_52_method_21_code 30 = .ok (.i2b, 1) := by decide +kernel
theorem d9_31 : decode jdk_52_method_21_code 31 = .ok (.bastore, 1) := by decide +kernel
theorem d9_32 : decode jdk_52_method_21_code 32 = .ok (.iinc 1 1, 3) := by decide +kernel
theorem d9_35 : decode jdk_52_method_21_code 35 = .ok (.iinc 3 1, 3) := by decide +kernel
theorem d9_38 : decode jdk_52_method_21_code 38 = .ok (.iinc 5 1, 3) := by decide +kernel
theorem d9_41 : decode jdk_52_method_21_code 41 = .ok (.goto (-38), 3) := by decide +kernel
theorem d9_44 : decode jdk_52_method_21_code 44 = .ok (.iload 4, 2) := by decide +kernel
theorem d9_46 : decode jdk_52_method_21_code 46 = .ok (.ireturn, 1) := by decide +kernel
theorem d8_0 : decode jdk_52_method_16_code 0 = .ok (.iload_n 2, 1) := by decide +kernel
theorem d8_1 : decode jdk_52_method_16_code 1 = .ok (.newarray .byte, 2) := by decide +kernel
theorem d8_3 : decode jdk_52_method_16_code 3 = .ok (.astore_n 3, 1) := by decide +kernel
theorem d8_4 : decode jdk_52_method_16_code 4 = .ok (.aload_n 0, 1) := by decide +kernel
theorem d8_5 : decode jdk_52_method_16_code 5 = .ok (.iload_n 1, 1) := by decide +kernel
theorem d8_6 : decode jdk_52_method_16_code 6 = .ok (.aload_n 3, 1) := by decide +kernel
theorem d8_7 : decode jdk_52_method_16_code 7 = .ok (.iconst 0, 1) := by decide +kernel
theorem d8_8 : decode jdk_52_method_16_code 8 = .ok (.iload_n 2, 1) := by decide +kernel
theorem d8_9 : decode jdk_52_method_16_code 9 = .ok (.invokestatic 115, 3) := by decide +kernel
theorem d8_12 : decode jdk_52_method_16_code 12 = .ok (.istore 4, 2) := by decide +kernel
theorem d8_14 : decode jdk_52_method_16_code 14 = .ok (.iload 4, 2) := by decide +kernel
theorem d8_16 : decode jdk_52_method_16_code 16 = .ok (.iload_n 2, 1) := by decide +kernel
theorem d8_17 : decode jdk_52_method_16_code 17 = .ok (.if_icmp .eq 40, 3) := by decide +kernel
theorem d8_20 : decode jdk_52_method_16_code 20 = .ok (.aload_n 0, 1) := by decide +kernel
theorem d8_21 : decode jdk_52_method_16_code 21 = .ok (.iload_n 1, 1) := by decide +kernel
theorem d8_22 : decode jdk_52_method_16_code 22 = .ok (.iload_n 2, 1) := by decide +kernel
theorem d8_23 : decode jdk_52_method_16_code 23 = .ok (.invokestatic 119, 3) := by decide +kernel
theorem d8_26 : decode jdk_52_method_16_code 26 = .ok (.astore 5, 2) := by decide +kernel
theorem d8_28 : decode jdk_52_method_16_code 28 = .ok (.aload 5, 2) := by decide +kernel
theorem d8_30 : decode jdk_52_method_16_code 30 = .ok (.iload 4, 2) := by decide +kernel
theorem d8_32 : decode jdk_52_method_16_code 32 = .ok (.invokestatic 71, 3) := by decide +kernel
theorem d8_35 : decode jdk_52_method_16_code 35 = .ok (.sipush 255, 3) := by decide +kernel
theorem d8_38 : decode jdk_52_method_16_code 38 = .ok (.if_icmp .gt 16, 3) := by decide +kernel
theorem d8_54 : decode jdk_52_method_16_code 54 = .ok (.aload 5, 2) := by decide +kernel
theorem d8_56 : decode jdk_52_method_16_code 56 = .ok (.areturn, 1) := by decide +kernel
theorem d3_0 : decode jdk_42_method_149_code 0 = .ok (.aload_n 0, 1) := by decide +kernel
theorem d3_1 : decode jdk_42_method_149_code 1 = .ok (.invokespecial 1, 3) := by decide +kernel
theorem d3_4 : decode jdk_42_method_149_code 4 = .ok (.iload_n 3, 1) := by decide +kernel
theorem d3_5 : decode jdk_42_method_149_code 5 = .ok (.ifCond .ne 22, 3) := by decide +kernel
theorem d3_27 : decode jdk_42_method_149_code 27 = .ok (.getstatic 38, 3) := by decide +kernel
theorem d3_30 : decode jdk_42_method_149_code 30 = .ok (.ifCond .eq 28, 3) := by decide +kernel
theorem d3_33 : decode jdk_42_method_149_code 33 = .ok (.aload_n 1, 1) := by decide +kernel
theorem d3_34 : decode jdk_42_method_149_code 34 = .ok (.iload_n 2, 1) := by decide +kernel
theorem d3_35 : decode jdk_42_method_149_code 35 = .ok (.iload_n 3, 1) := by decide +kernel
theorem d3_36 : decode jdk_42_method_149_code 36 = .ok (.invokestatic 177, 3) := by decide +kernel
theorem d3_39 : decode jdk_42_method_149_code 39 = .ok (.astore 5, 2) := by decide +kernel
theorem d3_41 : decode jdk_42_method_149_code 41 = .ok (.aload_n 0, 1) := by decide +kernel
theorem d3_42 : decode jdk_42_method_149_code 42 = .ok (.aload 5, 2) := by decide +kernel
theorem d3_44 : decode jdk_42_method_149_code 44 = .ok (.iload_n 3, 1) := by decide +kernel
theorem d3_45 : decode jdk_42_method_149_code 45 = .ok (.invokestatic 47, 3) := by decide +kernel
theorem d3_48 : decode jdk_42_method_149_code 48 = .ok (.putfield 15, 3) := by decide +kernel
theorem d3_51 : decode jdk_42_method_149_code 51 = .ok (.aload_n 0, 1) := by decide +kernel
theorem d3_52 : decode jdk_42_method_149_code 52 = .ok (.aload 5, 2) := by decide +kernel
theorem d3_54 : decode jdk_42_method_149_code 54 = .ok (.putfield 9, 3) := by decide +kernel
theorem d3_57 : decode jdk_42_method_149_code 57 = .ok (.return_, 1) := by decide +kernel
theorem d2_0 : decode jdk_42_method_3_code 0 = .ok (.aload_n 0, 1) := by decide +kernel
theorem d2_1 : decode jdk_42_method_3_code 1 = .ok (.aload_n 1, 1) := by decide +kernel
theorem d2_2 : decode jdk_42_method_3_code 2 = .ok (.iconst 0, 1) := by decide +kernel
theorem d2_3 : decode jdk_42_method_3_code 3 = .ok (.aload_n 1, 1) := by decide +kernel
theorem d2_4 : decode jdk_42_method_3_code 4 = .ok (.arraylength, 1) := by decide +kernel
theorem d2_5 : decode jdk_42_method_3_code 5 = .ok (.aconst_null, 1) := by decide +kernel
theorem d2_6 : decode jdk_42_method_3_code 6 = .ok (.invokespecial 27, 3) := by decide +kernel
theorem d2_9 : decode jdk_42_method_3_code 9 = .ok (.return_, 1) := by decide +kernel
theorem d15_0 : decode jdk_42_method_154_code 0 = .ok (.getstatic 38, 3) := by decide +kernel
theorem d15_3 : decode jdk_42_method_154_code 3 = .ok (.ifCond .eq 14, 3) := by decide +kernel
theorem d15_6 : decode jdk_42_method_154_code 6 = .ok (.aload_n 0, 1) := by decide +kernel
theorem d15_7 : decode jdk_42_method_154_code 7 = .ok (.getfield 15, 3) := by decide +kernel
theorem d15_10 : decode jdk_42_method_154_code 10 = .ok (.ifCond .ne 7, 3) := by decide +kernel
theorem d15_17 : decode jdk_42_method_154_code 17 = .ok (.iconst 0, 1) := by decide +kernel
theorem d15_18 : decode jdk_42_method_154_code 18 = .ok (.ireturn, 1) := by decide +kernel
theorem d28_0 : decode jdk_52_method_6_code 0 = .ok (.aload_n 0, 1) := by decide +kernel
theorem d28_1 : decode jdk_52_method_6_code 1 = .ok (.arraylength, 1) := by decide +kernel
theorem d28_2 : decode jdk_52_method_6_code 2 = .ok (.iconst 1, 1) := by decide +kernel
theorem d28_3 : decode jdk_52_method_6_code 3 = .ok (.ishr, 1) := by decide +kernel
theorem d28_4 : decode jdk_52_method_6_code 4 = .ok (.ireturn, 1) := by decide +kernel
theorem d18_0 : decode jdk_41_method_11_code 0 = .ok (.iload_n 0, 1) := by decide +kernel
theorem d18_1 : decode jdk_41_method_11_code 1 = .ok (.ifCond .lt 8, 3) := by decide +kernel
theorem d18_4 : decode jdk_41_method_11_code 4 = .ok (.iload_n 0, 1) := by decide +kernel
theorem d18_5 : decode jdk_41_method_11_code 5 = .ok (.iload_n 1, 1) := by decide +kernel
theorem d18_6 : decode jdk_41_method_11_code 6 = .ok (.if_icmp .lt 10, 3) := by decide +kernel
theorem d18_16 : decode jdk_41_method_11_code 16 = .ok (.iload_n 0, 1) := by decide +kernel
theorem d18_17 : decode jdk_41_method_11_code 17 = .ok (.ireturn, 1) := by decide +kernel
theorem d17_0 : decode jdk_42_method_155_code 0 = .ok (.iload_n 0, 1) := by decide +kernel
theorem d17_1 : decode jdk_42_method_155_code 1 = .ok (.iload_n 1, 1) := by decide +kernel
theorem d17_2 : decode jdk_42_method_155_code 2 = .ok (.getstatic 1053, 3) := by decide +kernel
theorem d17_5 : decode jdk_42_method_155_code 5 = .ok (.invokestatic 1059, 3) := by decide +kernel
theorem d17_8 : decode jdk_42_method_155_code 8 = .ok (.pop, 1) := by decide +kernel
theorem d17_9 : decode jdk_42_method_155_code 9 = .ok (.return_, 1) := by decide +kernel
theorem d27_0 : decode jdk_52_method_91_code 0 = .ok (.iload_n 0, 1) := by decide +kernel
theorem d27_1 : decode jdk_52_method_91_code 1 = .ok (.aload_n 1, 1) := by decide +kernel
theorem d27_2 : decode jdk_52_method_91_code 2 = .ok (.invokestatic 48, 3) := by decide +kernel
theorem d27_5 : decode jdk_52_method_91_code 5 = .ok (.invokestatic 414, 3) := by decide +kernel
theorem d27_8 : decode jdk_52_method_91_code 8 = .ok (.return_, 1) := by decide +kernel
theorem d26_0 : decode jdk_52_method_83_code 0 = .ok (.iload_n 1, 1) := by decide +kernel
theorem d26_1 : decode jdk_52_method_83_code 1 = .ok (.aload_n 0, 1) := by decide +kernel
theorem d26_2 : decode jdk_52_method_83_code 2 = .ok (.invokestatic 67, 3) := by decide +kernel
theorem d26_5 : decode jdk_52_method_83_code 5 = .ok (.aload_n 0, 1) := by decide +kernel
theorem d26_6 : decode jdk_52_method_83_code 6 = .ok (.iload_n 1, 1) := by decide +kernel
theorem d26_7 : decode jdk_52_method_83_code 7 = .ok (.invokestatic 71, 3) := by decide +kernel
theorem d26_10 : decode jdk_52_method_83_code 10 = .ok (.ireturn, 1) := by decide +kernel
theorem d14_0 : decode jdk_42_method_56_code 0 = .ok (.aload_n 0, 1) := by decide +kernel
theorem d14_1 : decode jdk_42_method_56_code 1 = .ok (.invokevirtual 492, 3) := by decide +kernel
theorem d14_4 : decode jdk_42_method_56_code 4 = .ok (.ifCond .eq 12, 3) := by decide +kernel
theorem d14_16 : decode jdk_42_method_56_code 16 = .ok (.aload_n 0, 1) := by decide +kernel
theorem d14_17 : decode jdk_42_method_56_code 17 = .ok (.getfield 9, 3) := by decide +kernel
theorem d14_20 : decode jdk_42_method_56_code 20 = .ok (.iload_n 1, 1) := by decide +kernel
theorem d14_21 : decode jdk_42_method_56_code 21 = .ok (.invokestatic 498, 3) := by decide +kernel
theorem d14_24 : decode jdk_42_method_56_code 24 = .ok (.ireturn, 1) := by decide +kernel
theorem d5_0 : decode prog_46_method_4_code 0 = .ok (.iconst 0, 1) := by decide +kernel
theorem d5_1 : decode prog_46_method_4_code 1 = .ok (.istore_n 1, 1) := by decide +kernel
theorem d5_2 : decode prog_46_method_4_code 2 = .ok (.iload_n 1, 1) := by decide +kernel
theorem d5_3 : decode prog_46_method_4_code 3 = .ok (.aload_n 0, 1) := by decide +kernel
theorem d5_4 : decode prog_46_method_4_code 4 = .ok (.invokevirtual 83, 3) := by decide +kernel
theorem d5_7 : decode prog_46_method_4_code 7 = .ok (.if_icmp .ge 60, 3) := by decide +kernel
theorem d5_10 : decode prog_46_method_4_code 10 = .ok (.aload_n 0, 1) := by decide +kernel
theorem d5_11 : decode prog_46_method_4_code 11 = .ok (.iload_n 1, 1) := by decide +kernel
theorem d5_12 : decode prog_46_method_4_code 12 = .ok (.invokevirtual 87, 3) := by decide +kernel
theorem d5_15 : decode prog_46_method_4_code 15 = .ok (.istore_n 2, 1) := by decide +kernel
theorem d5_16 : decode prog_46_method_4_code 16 = .ok (.iload_n 2, 1) := by decide +kernel
theorem d5_17 : decode prog_46_method_4_code 17 = .ok (.invokestatic 91, 3) := by decide +kernel
theorem d5_20 : decode prog_46_method_4_code 20 = .ok (.ifCond .eq 32, 3) := by decide +kernel
theorem d5_52 : decode prog_46_method_4_code 52 = .ok (.iload_n 2, 1) := by decide +kernel
theorem d5_53 : decode prog_46_method_4_code 53 = .ok (.invokestatic 100, 3) := by decide +kernel
theorem d5_56 : decode prog_46_method_4_code 56 = .ok (.ifCond .eq 5, 3) := by decide +kernel
theorem d5_61 : decode prog_46_method_4_code 61 = .ok (.iinc 1 1, 3) := by decide +kernel
theorem d5_64 : decode prog_46_method_4_code 64 = .ok (.goto (-62), 3) := by decide +kernel
theorem d5_67 : decode prog_46_method_4_code 67 = .ok (.iconst 1, 1) := by decide +kernel
theorem d5_68 : decode prog_46_method_4_code 68 = .ok (.ireturn, 1) := by decide +kernel
theorem d5_59 : decode prog_46_method_4_code 59 = .ok (.iconst 0, 1) := by decide +kernel
theorem d5_60 : decode prog_46_method_4_code 60 = .ok (.ireturn, 1) := by decide +kernel
theorem d5_23 : decode prog_46_method_4_code 23 = .ok (.iload_n 1, 1) := by decide +kernel
theorem d5_24 : decode prog_46_method_4_code 24 = .ok (.iconst 1, 1) := by decide +kernel
theorem d5_25 : decode prog_46_method_4_code 25 = .ok (.iadd, 1) := by decide +kernel
theorem d5_26 : decode prog_46_method_4_code 26 = .ok (.aload_n 0, 1) := by decide +kernel
theorem d5_27 : decode prog_46_method_4_code 27 = .ok (.invokevirtual 83, 3) := by decide +kernel
theorem d5_30 : decode prog_46_method_4_code 30 = .ok (.if_icmp .ge 22, 3) := by decide +kernel
theorem d5_33 : decode prog_46_method_4_code 33 = .ok (.aload_n 0, 1) := by decide +kernel
theorem d5_34 : decode prog_46_method_4_code 34 = .ok (.iload_n 1, 1) := by decide +kernel
theorem d5_35 : decode prog_46_method_4_code 35 = .ok (.iconst 1, 1) := by decide +kernel
theorem d5_36 : decode prog_46_method_4_code 36 = .ok (.iadd, 1) := by decide +kernel
theorem d5_37 : decode prog_46_method_4_code 37 = .ok (.invokevirtual 87, 3) := by decide +kernel
theorem d5_40 : decode prog_46_method_4_code 40 = .ok (.invokestatic 97, 3) := by decide +kernel
theorem d5_43 : decode prog_46_method_4_code 43 = .ok (.ifCond .eq 9, 3) := by decide +kernel
theorem d5_46 : decode prog_46_method_4_code 46 = .ok (.iinc 1 1, 3) := by decide +kernel
theorem d5_49 : decode prog_46_method_4_code 49 = .ok (.goto 12, 3) := by decide +kernel
theorem d3_8 : decode jdk_42_method_149_code 8 = .ok (.aload_n 0, 1) := by decide +kernel
theorem d3_9 : decode jdk_42_method_149_code 9 = .ok (.ldc 7, 2) := by decide +kernel
theorem d3_11 : decode jdk_42_method_149_code 11 = .ok (.getfield 9, 3) := by decide +kernel
theorem d3_14 : decode jdk_42_method_149_code 14 = .ok (.putfield 9, 3) := by decide +kernel
theorem d3_17 : decode jdk_42_method_149_code 17 = .ok (.aload_n 0, 1) := by decide +kernel
theorem d3_18 : decode jdk_42_method_149_code 18 = .ok (.ldc 7, 2) := by decide +kernel
theorem d3_20 : decode jdk_42_method_149_code 20 = .ok (.getfield 15, 3) := by decide +kernel
theorem d3_23 : decode jdk_42_method_149_code 23 = .ok (.putfield 15, 3) := by decide +kernel
theorem d3_26 : decode jdk_42_method_149_code 26 = .ok (.return_, 1) := by decide +kernel
theorem pd_0 : parseMethodDescriptor "(C)Z" = some ⟨[.char], some .boolean⟩ := by decide +kernel
theorem pd_1 : parseMethodDescriptor "(I)I" = some ⟨[.int], some .int⟩ := by decide +kernel
theorem pd_2 : parseMethodDescriptor "(I)[B" = some ⟨[.int], some (.array .byte)⟩ := by decide +kernel
theorem pd_3 : parseMethodDescriptor "([BII)V" = some ⟨[(.array .byte), .int, .int], none⟩ := by decide +kernel
theorem pd_4 : parseMethodDescriptor "([CI[BII)I" = some ⟨[(.array .char), .int, (.array .byte), .int, .int], some .int⟩ := by decide +kernel
theorem pd_5 : parseMethodDescriptor "([CII)[B" = some ⟨[(.array .char), .int, .int], some (.array .byte)⟩ := by decide +kernel
theorem pd_6 : parseMethodDescriptor "([BI)C" = some ⟨[(.array .byte), .int], some .char⟩ := by decide +kernel
theorem pd_7 : parseMethodDescriptor "([BI)B" = some ⟨[(.array .byte), .int], some .byte⟩ := by decide +kernel
theorem pd_8 : parseMethodDescriptor "([CIILjava/lang/Void;)V" = some ⟨[(.array .char), .int, .int, (.object "java/lang/Void")], none⟩ := by decide +kernel
theorem pd_9 : parseMethodDescriptor "(IILjava/util/function/BiFunction;)I" = some ⟨[.int, .int, (.object "java/util/function/BiFunction")], some .int⟩ := by decide +kernel
theorem pd_10 : parseMethodDescriptor "([B)I" = some ⟨[(.array .byte)], some .int⟩ := by decide +kernel
theorem pd_11 : parseMethodDescriptor "(II)V" = some ⟨[.int, .int], none⟩ := by decide +kernel
theorem pd_12 : parseMethodDescriptor "(I[B)V" = some ⟨[.int, (.array .byte)], none⟩ := by decide +kernel
theorem pd_13 : parseMethodDescriptor "()Z" = some ⟨[], some .boolean⟩ := by decide +kernel
theorem pd_14 : parseMethodDescriptor "()I" = some ⟨[], some .int⟩ := by decide +kernel
theorem pd_15 : parseMethodDescriptor "(I)C" = some ⟨[.int], some .char⟩ := by decide +kernel
theorem pd_16 : parseMethodDescriptor "([C)V" = some ⟨[(.array .char)], none⟩ := by decide +kernel
theorem pd_17 : parseMethodDescriptor "(ZCCZC)Z" = some ⟨[.boolean, .char, .char, .boolean, .char], some .boolean⟩ := by decide +kernel
theorem pd_18 : parseMethodDescriptor "(Ljava/lang/String;)Z" = some ⟨[(.object "java/lang/String")], some .boolean⟩ := by decide +kernel
theorem plain_com_example_record_hold_recordhold_text_Utf8CanEncodePinLaw : plainName "com/example/record_hold/recordhold/text/Utf8CanEncodePinLaw" = true := by first | (simp [plainName, overriddenIn]; done) | decide +kernel
theorem plain_java_lang_Character : plainName "java/lang/Character" = true := by first | (simp [plainName, overriddenIn]; done) | decide +kernel
theorem plain_java_lang_StringUTF16 : plainName "java/lang/StringUTF16" = true := by first | (simp [plainName, overriddenIn]; done) | decide +kernel
theorem plain_java_lang_String : plainName "java/lang/String" = true := by first | (simp [plainName, overriddenIn]; done) | decide +kernel
theorem plain_jdk_internal_util_Preconditions : plainName "jdk/internal/util/Preconditions" = true := by first | (simp [plainName, overriddenIn]; done) | decide +kernel
theorem plain_com_example_record_hold_recordhold_text_Utf8 : plainName "com/example/record_hold/recordhold/text/Utf8" = true := by first | (simp [plainName, overriddenIn]; done) | decide +kernel
set_option maxRecDepth 65536 in
set_option maxHeartbeats 40000000 in
theorem rmE4 (l : Launch) (Z : State) (a0 : Array Value) (hw : ∀ d ∈ tables_1, d.before a0 Z = true) (h0 : Heap) (n0 : Nat) (Z0 : n0 ≤ h0.size) (x b : Addr) (g0 : n0 ≤ x) (A0 : Exa Z h0 x "java/lang/String") (V0 : Fld Z h0 x "java/lang/String" "value" "[B" .null) (C0 : Fld Z h0 x "java/lang/String" "coder" "B" (.int (0 : Int32))) : Con l Z EL y_17 jdk_42_method_149_code 6 none [] ({ frames := 1, cells := 4, slots := 8, locals := 14 } : Room) #[.ref x, .ref b, .int (0 : Int32), .int (0 : Int32), .null] h0 n0 (fun v h => v = none ∧ Keep h0 h [x] ∧ StrL Z h x []) := by
 refine Con.intro (own := "java/lang/String") rfl (plainFor_of_name plain_java_lang_String) (hEL hw) ?_
 intro p e s m below meth c s₁ hx hby hml hret hlk hnm W0
 refine Fi.cast (show entryFrame m #[.ref x, .ref b, .int (0 : Int32), .int (0 : Int32), .null] 6 = mkF m 0 #[.val (.ref x), .val (.ref b), .val (.int (0 : Int32)), .val (.int (0 : Int32)), .val .null, .unset] [] from by first | (simp [entryFrame, mkF, argsToLocals, Value.category]; done) | rfl) ?_
 refine Fi.by' (st' := (s₁.setTop (mkF m 1 #[.val (.ref x), .val (.ref b), .val (.int (0 : Int32)), .val (.int (0 : Int32)), .val .null, .unset] [.ref x]))) (fun t k => XS.aloadN W0.here hx rfl (hb hby d3_0) rfl rfl k) ?_
 refine W0.initO hx (ww hw 17 rfl) (ww hw 18 rfl) (ww hw 19 rfl) (g := (mkF m 1 #[.val (.ref x), .val (.ref b), .val (.int (0 : Int32)), .val (.int (0 : Int32)), .val .null, .unset] [.ref x])) rfl (by rw [hml]; rfl) rfl (hb hby d3_1) (by decide) (Wd := 0) (ble_ rfl) (by decide) (fun T1 W1 => ?_)
 refine Fi.by' (st' := (T1.setTop (mkF m 9 #[.val (.ref x), .val (.ref b), .val (.int (0 : Int32)), .val (.int (0 : Int32)), .val .null, .unset] [.ref x]))) (fun t k => ?_) ?_
 ·refine XS.iloadN W1.here hx rfl (hb hby d3_4) rfl ?_
  refine XS.ifNo W1.here hx rfl (hb hby d3_5) rfl ((if0 _ _).trans (teq (rfl : (0 : Int32) = 0)).2) ?_
  refine XS.aloadN W1.here hx rfl (hb hby d3_8) rfl rfl ?_
  exact k
 refine W1.ldc hx (ww hw 20 rfl) (wS hw) (by decide) ([] : List Int32) (by decide +kernel) (by decide +kernel) (g := (mkF m 9 #[.val (.ref x), .val (.ref b), .val (.int (0 : Int32)), .val (.int (0 : Int32)), .val .null, .unset] [.ref x])) rfl (hb hby d3_9) (n := 0) (by decide) (by decide) (by decide) (by decide) (fun T2 h2 a2 W2 E2 F2 => ?_)
 obtain ⟨t2, k2, f1, f2, f3, f4, f5, f6⟩ := F2
 have A2 := Exa.ext E2 A0
 have V2 := Fld.ext E2 V0
 have C2 := Fld.ext E2 C0
 refine W2.getF hx (ww hw 26 rfl) f2 (g := (mkF m 11 #[.val (.ref x), .val (.ref b), .val (.int (0 : Int32)), .val (.int (0 : Int32)), .val .null, .unset] [.ref a2, .ref x])) rfl rfl (hb hby d3_11) (fun T3 W3 => ?_)
 refine W3.putF hx (ww hw 26 rfl) V2 A2 (Or.inr ⟨(ww hw 22 rfl), rfl, hnm⟩) (ww hw 8 rfl) (ty := .array .byte) (by decide) rfl rfl (g := (mkF m 14 #[.val (.ref x), .val (.ref b), .val (.int (0 : Int32)), .val (.int (0 : Int32)), .val .null, .unset] [.ref t2, .ref x])) rfl rfl (hb hby d3_14) g0 (safe_null A2 V2 (ww hw 8 rfl)) (fun T4 h4 W4 R4 => ?_)
 have A4 := Exa.wr R4 A2
 have V4 : Fld Z h4 x "java/lang/String" "value" "[B" (.ref t2) := Fld.same R4 V2
 have C4 : Fld Z h4 x "java/lang/String" "coder" "B" (.int (0 : Int32)) := Fld.other R4 C2 (Or.inr (slot_ne (Or.inr (ww hw 23 rfl)) (Or.inr (ww hw 22 rfl)) (by decide) (t := .byte) (t' := .array .byte) (by decide) (by decide)))
 have B4 := Arv.other f4 R4 (Ne.symm (Exa.neArv A2 f4 (ww hw 8 rfl)))
 refine Fi.by' (st' := (T4.setTop (mkF m 18 #[.val (.ref x), .val (.ref b), .val (.int (0 : Int32)), .val (.int (0 : Int32)), .val .null, .unset] [.ref x]))) (fun t k => XS.aloadN W4.here hx rfl (hb hby d3_17) rfl rfl k) ?_
 refine W4.ldc hx (ww hw 20 rfl) (wS hw) (by decide) ([] : List Int32) (by decide +kernel) (by decide +kernel) (g := (mkF m 18 #[.val (.ref x), .val (.ref b), .val (.int (0 : Int32)), .val (.int (0 : Int32)), .val .null, .unset] [.ref x])) rfl (hb hby d3_18) (n := 0) (by decide) (by decide) (by decide) (by decide) (fun T5 h5 a5 W5 E5 F5 => ?_)
 obtain ⟨t5, k5, j1, j2, j3, j4, j5, j6⟩ := F5
 have A5 := Exa.ext E5 A4
 have C5 := Fld.ext E5 C4
 refine W5.getF hx (ww hw 27 rfl) j3 (g := (mkF m 20 #[.val (.ref x), .val (.ref b), .val (.int (0 : Int32)), .val (.int (0 : Int32)), .val .null, .unset] [.ref a5, .ref x])) rfl rfl (hb hby d3_20) (fun T6 W6 => ?_)
 refine W6.putSame hx (ww hw 27 rfl) C5 A5 (Or.inr ⟨(ww hw 23 rfl), rfl, hnm⟩) (ww hw 8 rfl) (ty := .byte) (by decide) rfl rfl (g := (mkF m 23 #[.val (.ref x), .val (.ref b), .val (.int (0 : Int32)), .val (.int (0 : Int32)), .val .null, .unset] [.int (0 : Int32), .ref x])) rfl rfl (hb hby d3_23) g0 (fun T7 W7 => ?_)
 exact W7.vret hx hlk hret (hb hby d3_26) ⟨rfl, (((Keep.refl h0 [x]).ext E2).wr R4 (Or.inl (List.mem_singleton.mpr rfl))).ext E5, t2, k2, A5, Fld.ext E5 V4, C5, B4.ext E5, fun _ q => (nomatch q), by decide⟩ (by decide) (by decide)
set_option maxRecDepth 65536 in
set_option maxHeartbeats 40000000 in
theorem rmE1 (l : Launch) (Z : State) (a0 : Array Value) (hw : ∀ d ∈ tables_1, d.before a0 Z = true) (h0 : Heap) (n0 : Nat) (Z0 : n0 ≤ h0.size) (x b : Addr) (g0 : n0 ≤ x) (A0 : Exa Z h0 x "java/lang/String") (V0 : Fld Z h0 x "java/lang/String" "value" "[B" .null) (C0 : Fld Z h0 x "java/lang/String" "coder" "B" (.int (0 : Int32))) {kC : ClassId} {dv : Value} (B0 : Arv Z h0 b kC .char (0 : Int32) [] dv) : Con l Z EL y_18 jdk_42_method_3_code 2 none [] ({ frames := 2, cells := 4, slots := 8, locals := 33 } : Room) #[.ref x, .ref b] h0 n0 (fun v h => v = none ∧ Keep h0 h [x] ∧ StrL Z h x []) := by
 refine Con.intro (own := "java/lang/String") rfl (plainFor_of_name plain_java_lang_String) (hEL hw) ?_
 intro p e s m below meth c s₁ hx hby hml hret hlk hnm W0
 refine Fi.cast (show entryFrame m #[.ref x, .ref b] 2 = mkF m 0 #[.val (.ref x), .val (.ref b)] [] from by first | (simp [entryFrame, mkF, argsToLocals, Value.category]; done) | rfl) ?_
 refine Fi.by' (st' := s₁.setTop (mkF m 4 #[.val (.ref x), .val (.ref b)] [.ref b, .int (0 : Int32), .ref b, .ref x])) (fun t k => ?_) ?_
 ·refine XS.aloadN W0.here hx rfl (hb hby d2_0) rfl rfl ?_
  refine XS.aloadN W0.here hx rfl (hb hby d2_1) rfl rfl ?_
  refine iconstZ W0.here hx rfl (hb hby d2_2) rfl ?_
  refine XS.aloadN W0.here hx rfl (hb hby d2_3) rfl rfl ?_
  exact k
 refine W0.alen hx B0 (g := (mkF m 4 #[.val (.ref x), .val (.ref b)] [.ref b, .int (0 : Int32), .ref b, .ref x])) rfl rfl (hb hby d2_4) ?_
 refine Fi.by' (st' := s₁.setTop (mkF m 6 #[.val (.ref x), .val (.ref b)] [.null, .int (0 : Int32), .int (0 : Int32), .ref b, .ref x])) (fun t k => XS.aconstNull W0.here hx rfl (hb hby d2_5) k) ?_
 refine W0.callI hx (y := y_17) rfl (ww hw 13 rfl) (ww hw 14 rfl) (ww hw 16 rfl) (by decide) (Pay.of_con (Wd := 0) (rmE4 l Z a0 hw h0 n0 Z0 x b g0 A0 V0 C0) (ww hw 16 rfl) (ww hw 9 rfl) (hEL hw) (by decide) (by decide)) (g := (mkF m 6 #[.val (.ref x), .val (.ref b)] [.null, .int (0 : Int32), .int (0 : Int32), .ref b, .ref x])) rfl (by rw [hml]; rfl) (a := x) (argsL := [.ref b, .int (0 : Int32), .int (0 : Int32), .null]) (rest := []) (lenOf pd_8 rfl) rfl rfl (ble_ rfl) (hb hby d2_6) (by decide) (by decide) (fun v1 T1 h1 W1 s1 q1 => ?_)
 obtain ⟨rfl, q2, q3⟩ := q1
 exact W1.vret hx hlk hret (hb hby d2_9) ⟨rfl, q2, q3⟩ (by decide) (by decide)
section Paid
variable {p : Program} {l : Launch} {e : Env} {R : Room} {s : State} {args : Array Value} {below : List Frame} {Z : State} {a0 : Array Value} {n0 : Nat} {h : Heap}
theorem payE (hw : ∀ d ∈ tables_1, d.before a0 Z = true) {Wd : Nat} {x b : Addr} {kC : ClassId} {dv : Value} (Z0 : n0 ≤ h.size) (g0 : n0 ≤ x) (A0 : Exa Z h x "java/lang/String") (V0 : Fld Z h x "java/lang/String" "value" "[B" .null) (C0 : Fld Z h x "java/lang/String" "coder" "B" (.int (0 : Int32))) (B0 : Arv Z h b kC .char (0 : Int32) [] dv) (hf : 3 ≤ R.frames) (hl : Wd + 46 ≤ R.locals) :
  Pay l R p e below s args Z EL n0 y_18 Wd #[.ref x, .ref b] h (fun v h' => v = none ∧ Keep h h' [x] ∧ StrL Z h' x []) 4 8 :=
 Pay.of_con (rm := ({ frames := 2, cells := 4, slots := 8, locals := 33 } : Room)) (rmE1 l Z a0 hw h n0 Z0 x b g0 A0 V0 C0 B0) (ww hw 12 rfl) (ww hw 9 rfl) (hEL hw) hf hl
theorem wsV {a0 : Array Value} {Z : State} (hw : ∀ d ∈ tables_1, d.before a0 Z = true) : ∀ d ∈ StrChars.Road.words, d.before a0 Z = true := fun d hd => hw d ((by decide +kernel : ∀ d ∈ StrChars.Road.words, d ∈ tables_1) d hd)
theorem payS (hw : ∀ d ∈ tables_1, d.before a0 Z = true) {Wd n : Nat} {x b : Addr} {kC : ClassId} {dv : Value} {cs : List Int32} {N z : Int32} (Z0 : n0 ≤ h.size) (g0 : n0 ≤ x) (A0 : Exa Z h x "java/lang/String") (V0 : Fld Z h x "java/lang/String" "value" "[B" .null) (C0 : Fld Z h x "java/lang/String" "coder" "B" (.int (0 : Int32))) (B0 : Arv Z h b kC .char N (cs.map Value.int) dv) (S : Sta Z h "java/lang/String" "COMPACT_STRINGS" "Z" (.int z)) (hz : ¬ z = 0)
  (hn : cs.length = n) (hN : N = Int32.ofNat n) (l0 : 0 < n) (l2 : n ≤ 4000) (hp : ∀ c ∈ cs, ¬ c < 0 ∧ ¬ (255 : Int32) < c) (hf : 4 ≤ R.frames) (hl : Wd + 65 ≤ R.locals) :
  Pay l R p e below s args Z EL n0 y_18 Wd #[.ref x, .ref b] h (fun v h' => v = none ∧ Keep h h' [x] ∧ StrL Z h' x cs) 1 n :=
 Pay.of_back (ws := [x]) (hEL hw) (fun vm0 hZ => Back.mono (StrChars.Road.backV (s := s.setVm vm0) hZ (wsV hw) (ww hw 8 rfl) g0 Z0 A0 V0 C0 B0 S hz hn hN l0 l2 hp rfl hf hl) (fun _ _ q => q) (fun _ _ v B _ q => by
  obtain ⟨L, ⟨q1, q2, q3, q4, q5, t, kb, -, -, -, q6, q7⟩, r1, r2, r3⟩ := q
  exact ⟨L, ⟨q2, q3, q1, q3, t, kb, q4, q6, q5, by rw [hn, ← hN]; exact q7, hp, by rw [hn]; exact l2⟩, r1, r2, r3⟩))
  (fun vm hZ hC y hy => by cases List.mem_singleton.mp hy; exact safe_null A0 V0 (ww hw 8 rfl) vm hZ hC)
end Paid

/-- a String of known chars, in either coding -/
def StrA (Z : State) (h : Heap) (x : Addr) (cs : List Int32) : Prop := ∃ (t : Addr) (kb : ClassId) (cd N2 : Int32) (vs : List Value), Exa Z h x "java/lang/String" ∧ Fld Z h x "java/lang/String" "value" "[B" (.ref t) ∧ Fld Z h x "java/lang/String" "coder" "B" (.int cd) ∧ Arv Z h t kb .byte N2 vs (.int 0) ∧ StrChars.Road.CodA cs cd N2 vs ∧ (∀ c ∈ cs, ¬ c < 0 ∧ ¬ (65535 : Int32) < c) ∧ cs.length ≤ 4000
theorem StrA.ext {Z : State} {h h' : Heap} {x : Addr} {cs : List Int32} (F : StrA Z h x cs) (E : Ext h h') : StrA Z h' x cs := by
 obtain ⟨t, kb, cd, N2, vs, a1, a2, a3, a4, r⟩ := F
 exact ⟨t, kb, cd, N2, vs, a1.ext E, a2.ext E, a3.ext E, a4.ext E, r⟩
theorem StrA.exa {Z : State} {h : Heap} {x : Addr} {cs : List Int32} (F : StrA Z h x cs) : Exa Z h x "java/lang/String" := by
 obtain ⟨t, kb, cd, N2, vs, a1, -⟩ := F
 exact a1
theorem StrA.of_l {Z : State} {h : Heap} {x : Addr} {cs : List Int32} (F : StrL Z h x cs) : StrA Z h x cs := by
 obtain ⟨t, kb, a1, a2, a3, a4, a5, a6⟩ := F
 exact ⟨t, kb, 0, _, _, a1, a2, a3, a4, StrChars.Road.codOf rfl (fun c hc => (a5 c hc).2), fun c hc => ⟨(a5 c hc).1, big_ch (a5 c hc).2⟩, a6⟩
theorem ch_nar16 {x : Int32} (q : ¬ x < 0 ∧ ¬ (65535 : Int32) < x) : narrow .char (.int x) = .int x := StrChars.narrow_ch q.1 q.2
theorem ch_ok16 {x : Int32} (q : ¬ x < 0 ∧ ¬ (65535 : Int32) < x) : nar .char x = x ∧ fits .char (.int x) = true := by
 have e : nar .char x = x := Value.int.inj (ch_nar16 q)
 exact ⟨e, by rw [← e]; exact fits_nar_char x⟩
theorem pair_rng (u v : Int32) : ¬ StrChars.pairCh u v < 0 ∧ ¬ (65535 : Int32) < StrChars.pairCh u v := i2c_rng _
theorem idx4 {ii j : Int32} {iN : Nat} (h : ii = Int32.ofNat iN) (hs : iN ≤ 3) (hj : j = ii <<< ((1 : Int32) &&& 31)) : (j.toNatClampNeg = 2 * iN ∧ ¬ j < 0) ∧ ((j + 1).toNatClampNeg = 2 * iN + 1 ∧ ¬ (j + 1) < 0) := by
 subst hj h
 have : iN = 0 ∨ iN = 1 ∨ iN = 2 ∨ iN = 3 := by omega
 rcases this with rfl | rfl | rfl | rfl <;> decide
theorem lt_of_clamp {j N : Int32} (h : j.toNatClampNeg < N.toNatClampNeg) (h0 : ¬ j < 0) : ¬ j < 0 ∧ j < N := by
 refine ⟨h0, ?_⟩
 have e0 : (0 : Int32).toInt = 0 := rfl
 simp only [Int32.lt_iff_toInt_lt, Int32.toNatClampNeg] at *; omega
theorem ofNat_ne {k n : Nat} (h : k < n) (hn : n ≤ 4) : ¬ Int32.ofNat k = Int32.ofNat n := fun e => by
 have q := congrArg Int32.toInt e
 rw [show (Int32.ofNat k).toInt = k from len_toInt (by omega), show (Int32.ofNat n).toInt = n from len_toInt (by omega)] at q
 omega
theorem ofNat_lt {k n : Nat} (h : k < n) (hn : n ≤ 4000) : ¬ Int32.ofNat k < 0 ∧ Int32.ofNat k < Int32.ofNat n := by
 rw [Int32.lt_iff_toInt_lt, Int32.lt_iff_toInt_lt, show (Int32.ofNat k).toInt = k from len_toInt (by omega), show (Int32.ofNat n).toInt = n from len_toInt (by omega), show (0 : Int32).toInt = 0 from rfl]
 omega
theorem getD_rng {cs : List Int32} {k : Nat} (hk : k < cs.length) (hr : ∀ c ∈ cs, ¬ c < 0 ∧ ¬ (65535 : Int32) < c) : ¬ cs.getD k 0 < 0 ∧ ¬ (65535 : Int32) < cs.getD k 0 := by
 rw [List.getD_eq_getElem?_getD, List.getElem?_eq_getElem hk]
 exact hr _ (List.getElem_mem hk)
theorem wide_ex {cs : List Int32} (h : ¬ ∀ c ∈ cs, ¬ (255 : Int32) < c) : ∃ c ∈ cs, (255 : Int32) < c := by
 simpa using h
namespace NB
def EL : List (String × Nat) := []
theorem hEL {a0 : Array Value} {Z : State} (hw : ∀ d ∈ tables_1, d.before a0 Z = true) : EW Z a0 EL := EW.nil
section Paid
variable {p : Program} {l : Launch} {e : Env} {R : Room} {s : State} {args : Array Value} {below : List Frame} {Z : State} {a0 : Array Value} {n0 : Nat} {h : Heap}
theorem wsV {a0 : Array Value} {Z : State} (hw : ∀ d ∈ tables_1, d.before a0 Z = true) : ∀ d ∈ StrChars.Road.words, d.before a0 Z = true := fun d hd => hw d ((by decide +kernel : ∀ d ∈ StrChars.Road.words, d ∈ tables_1) d hd)
theorem payS (hw : ∀ d ∈ tables_1, d.before a0 Z = true) {Wd n : Nat} {x b : Addr} {kC : ClassId} {dv : Value} {cs : List Int32} {N z : Int32} (Z0 : n0 ≤ h.size) (g0 : n0 ≤ x) (A0 : Exa Z h x "java/lang/String") (V0 : Fld Z h x "java/lang/String" "value" "[B" .null) (C0 : Fld Z h x "java/lang/String" "coder" "B" (.int (0 : Int32))) (B0 : Arv Z h b kC .char N (cs.map Value.int) dv) (S : Sta Z h "java/lang/String" "COMPACT_STRINGS" "Z" (.int z)) (hz : ¬ z = 0)
  (hn : cs.length = n) (hN : N = Int32.ofNat n) (l0 : 0 < n) (l2 : n ≤ 4000) (hp : ∀ c ∈ cs, ¬ c < 0 ∧ ¬ (255 : Int32) < c) (hf : 4 ≤ R.frames) (hl : Wd + 65 ≤ R.locals) :
  Pay l R p e below s args Z EL n0 y_18 Wd #[.ref x, .ref b] h (fun v h' => v = none ∧ Keep h h' [x] ∧ StrL Z h' x cs) 1 n :=
 Pay.of_back (ws := [x]) (hEL hw) (fun vm0 hZ => Back.mono (StrChars.Road.backV (s := s.setVm vm0) hZ (wsV hw) (ww hw 8 rfl) g0 Z0 A0 V0 C0 B0 S hz hn hN l0 l2 hp rfl hf hl) (fun _ _ q => q) (fun _ _ v B _ q => by
  obtain ⟨L, ⟨q1, q2, q3, q4, q5, t, kb, -, -, -, q6, q7⟩, r1, r2, r3⟩ := q
  exact ⟨L, ⟨q2, q3, q1, q3, t, kb, q4, q6, q5, by rw [hn, ← hN]; exact q7, hp, by rw [hn]; exact l2⟩, r1, r2, r3⟩))
  (fun vm hZ hC y hy => by cases List.mem_singleton.mp hy; exact safe_null A0 V0 (ww hw 8 rfl) vm hZ hC)
end Paid
def Q_draw (Z : State) (xx : Int32) (h0 : Heap) (v : Option Value) (h : Heap) : Prop := ∃ r : Int32, v = some (.int r) ∧ (¬ r < 0 ∧ ¬ (65535 : Int32) < r) ∧ h0 = h
set_option maxRecDepth 65536 in
set_option maxHeartbeats 40000000 in
theorem rm_draw (l : Launch) (Z : State) (a0 : Array Value) (hw : ∀ d ∈ tables_1, d.before a0 Z = true) (xx : Int32) (h0 : Heap) (n0 : Nat) (Z0 : n0 ≤ h0.size)  :
  Con l Z EL y_2 method_6_code 4 (some .char) [] ({ frames := 0, cells := 0, slots := 0, locals := 0 } : Room) #[(.int xx)] h0 n0 (Q_draw Z xx h0) := by
 refine Con.intro (own := "com/example/record_hold/recordhold/text/Utf8CanEncodePinLaw") rfl (plainFor_of_name plain_com_example_record_hold_recordhold_text_Utf8CanEncodePinLaw) (hEL hw) ?_
 intro p e s m below meth c s₁ hx hby hml hret hlk hnm W0
 refine Fi.cast (show entryFrame m #[(.int xx)] 4 = (mkF m 0 #[.val (.int xx), .unset, .unset, .unset] []) from by first | (simp [entryFrame, mkF, argsToLocals, Value.category]; done) | rfl) ?_
 refine Fi.by' (st' := s₁.setTop (mkF m 1 #[.val (.int xx), .unset, .unset, .unset] [(.int xx)])) (fun t k => ?_) ?_
 ·refine XS.iloadN W0.here hx rfl (hb hby d1_0) rfl ?_
  exact k
 refine W0.ldcI hx (ww hw 5 rfl) (g := (mkF m 1 #[.val (.int xx), .unset, .unset, .unset] [(.int xx)])) rfl (hb hby d1_1) ?_
 change Fi _ _ _ _ _ _ _ _ _ _ (s₁.setTop (mkF m 3 #[.val (.int xx), .unset, .unset, .unset] [(.int (65535 : Int32)), (.int xx)]))
 refine Fi.by' (st' := s₁.setTop (mkF m 13 #[.val (.int xx), .val (.int (xx &&& (65535 : Int32))), .val (.int (((xx.toUInt32 >>> ((16 : Int32) &&& 31).toUInt32).toInt32) &&& (3 : Int32))), .unset] [(.int (((xx.toUInt32 >>> ((16 : Int32) &&& 31).toUInt32).toInt32) &&& (3 : Int32)))])) (fun t k => ?_) ?_
 ·refine XS.iand W0.here hx rfl (hb hby d1_3) rfl ?_
  refine XS.istoreN W0.here hx rfl (hb hby d1_4) rfl (l' := #[.val (.int xx), .val (.int (xx &&& (65535 : Int32))), .unset, .unset]) rfl ?_
  refine XS.iloadN W0.here hx rfl (hb hby d1_5) rfl ?_
  refine bipushZ W0.here hx rfl (hb hby d1_6) (z := (16 : Int32)) rfl ?_
  refine XS.iushr W0.here hx rfl (hb hby d1_8) rfl ?_
  refine iconstZ W0.here hx rfl (hb hby d1_9) (z := (3 : Int32)) rfl ?_
  refine XS.iand W0.here hx rfl (hb hby d1_10) rfl ?_
  refine XS.istoreN W0.here hx rfl (hb hby d1_11) rfl (l' := #[.val (.int xx), .val (.int (xx &&& (65535 : Int32))), .val (.int (((xx.toUInt32 >>> ((16 : Int32) &&& 31).toUInt32).toInt32) &&& (3 : Int32))), .unset]) rfl ?_
  refine XS.iloadN W0.here hx rfl (hb hby d1_12) rfl ?_
  exact k
 by_cases hc13_1 : (((xx.toUInt32 >>> ((16 : Int32) &&& 31).toUInt32).toInt32) &&& (3 : Int32)) = (0 : Int32)
 ·refine Fi.by' (st' := s₁.setTop (mkF m 18 #[.val (.int xx), .val (.int (xx &&& (65535 : Int32))), .val (.int (((xx.toUInt32 >>> ((16 : Int32) &&& 31).toUInt32).toInt32) &&& (3 : Int32))), .unset] [(.int ((xx &&& (65535 : Int32)).toUInt32.toUInt16.toUInt32.toInt32))])) (fun t k => ?_) ?_
  ·refine XS.ifNo W0.here hx rfl (hb hby d1_13) rfl ((if0 _ _).trans (teq hc13_1).2) ?_
   refine XS.iloadN W0.here hx rfl (hb hby d1_16) rfl ?_
   refine XS.i2c W0.here hx rfl (hb hby d1_17) rfl ?_
   exact k
  have hq : (¬ ((xx &&& (65535 : Int32)).toUInt32.toUInt16.toUInt32.toInt32) < 0 ∧ ¬ (65535 : Int32) < ((xx &&& (65535 : Int32)).toUInt32.toUInt16.toUInt32.toInt32)) := (i2c_rng _)
  exact W0.iret hx hlk hret (by simp) (ch_nar16 hq) (hb hby d1_18) ⟨_, rfl, hq, rfl⟩ (by decide) (by decide)
 ·refine Fi.by' (st' := s₁.setTop (mkF m 21 #[.val (.int xx), .val (.int (xx &&& (65535 : Int32))), .val (.int (((xx.toUInt32 >>> ((16 : Int32) &&& 31).toUInt32).toInt32) &&& (3 : Int32))), .unset] [(.int (1 : Int32)), (.int (((xx.toUInt32 >>> ((16 : Int32) &&& 31).toUInt32).toInt32) &&& (3 : Int32)))])) (fun t k => ?_) ?_
  ·refine XS.ifYes W0.here hx rfl (pc0 := 13) (pc' := 19) rfl (hb hby d1_13) rfl ((if0 _ _).trans (feq hc13_1).2) (by decide) (by decide) ?_
   refine XS.iloadN W0.here hx rfl (hb hby d1_19) rfl ?_
   refine iconstZ W0.here hx rfl (hb hby d1_20) (z := (1 : Int32)) rfl ?_
   exact k
  by_cases hc21_2 : (((xx.toUInt32 >>> ((16 : Int32) &&& 31).toUInt32).toInt32) &&& (3 : Int32)) = (1 : Int32)
  ·refine Fi.by' (st' := s₁.setTop (mkF m 24 #[.val (.int xx), .val (.int (xx &&& (65535 : Int32))), .val (.int (((xx.toUInt32 >>> ((16 : Int32) &&& 31).toUInt32).toInt32) &&& (3 : Int32))), .unset] [])) (fun t k => ?_) ?_
   ·refine XS.icmpNo W0.here hx rfl (hb hby d1_21) rfl (teq hc21_2).2 ?_
    exact k
   refine W0.ldcI hx (ww hw 59 rfl) (g := (mkF m 24 #[.val (.int xx), .val (.int (xx &&& (65535 : Int32))), .val (.int (((xx.toUInt32 >>> ((16 : Int32) &&& 31).toUInt32).toInt32) &&& (3 : Int32))), .unset] [])) rfl (hb hby d1_24) ?_
   change Fi _ _ _ _ _ _ _ _ _ _ (s₁.setTop (mkF m 26 #[.val (.int xx), .val (.int (xx &&& (65535 : Int32))), .val (.int (((xx.toUInt32 >>> ((16 : Int32) &&& 31).toUInt32).toInt32) &&& (3 : Int32))), .unset] [(.int (55296 : Int32))]))
   refine Fi.by' (st' := s₁.setTop (mkF m 33 #[.val (.int xx), .val (.int (xx &&& (65535 : Int32))), .val (.int (((xx.toUInt32 >>> ((16 : Int32) &&& 31).toUInt32).toInt32) &&& (3 : Int32))), .unset] [(.int (((55296 : Int32) ||| ((xx &&& (65535 : Int32)) &&& (1023 : Int32))).toUInt32.toUInt16.toUInt32.toInt32))])) (fun t k => ?_) ?_
   ·refine XS.iloadN W0.here hx rfl (hb hby d1_26) rfl ?_
    refine sipushZ W0.here hx rfl (hb hby d1_27) (z := (1023 : Int32)) rfl ?_
    refine XS.iand W0.here hx rfl (hb hby d1_30) rfl ?_
    refine XS.ior W0.here hx rfl (hb hby d1_31) rfl ?_
    refine XS.i2c W0.here hx rfl (hb hby d1_32) rfl ?_
    exact k
   have hq : (¬ (((55296 : Int32) ||| ((xx &&& (65535 : Int32)) &&& (1023 : Int32))).toUInt32.toUInt16.toUInt32.toInt32) < 0 ∧ ¬ (65535 : Int32) < (((55296 : Int32) ||| ((xx &&& (65535 : Int32)) &&& (1023 : Int32))).toUInt32.toUInt16.toUInt32.toInt32)) := (i2c_rng _)
   exact W0.iret hx hlk hret (by simp) (ch_nar16 hq) (hb hby d1_33) ⟨_, rfl, hq, rfl⟩ (by decide) (by decide)
  ·refine Fi.by' (st' := s₁.setTop (mkF m 36 #[.val (.int xx), .val (.int (xx &&& (65535 : Int32))), .val (.int (((xx.toUInt32 >>> ((16 : Int32) &&& 31).toUInt32).toInt32) &&& (3 : Int32))), .unset] [(.int (2 : Int32)), (.int (((xx.toUInt32 >>> ((16 : Int32) &&& 31).toUInt32).toInt32) &&& (3 : Int32)))])) (fun t k => ?_) ?_
   ·refine XS.icmpYes W0.here hx rfl (pc0 := 21) (pc' := 34) rfl (hb hby d1_21) rfl (feq hc21_2).2 (by decide) (by decide) ?_
    refine XS.iloadN W0.here hx rfl (hb hby d1_34) rfl ?_
    refine iconstZ W0.here hx rfl (hb hby d1_35) (z := (2 : Int32)) rfl ?_
    exact k
   by_cases hc36_3 : (((xx.toUInt32 >>> ((16 : Int32) &&& 31).toUInt32).toInt32) &&& (3 : Int32)) = (2 : Int32)
   ·refine Fi.by' (st' := s₁.setTop (mkF m 39 #[.val (.int xx), .val (.int (xx &&& (65535 : Int32))), .val (.int (((xx.toUInt32 >>> ((16 : Int32) &&& 31).toUInt32).toInt32) &&& (3 : Int32))), .unset] [])) (fun t k => ?_) ?_
    ·refine XS.icmpNo W0.here hx rfl (hb hby d1_36) rfl (teq hc36_3).2 ?_
     exact k
    refine W0.ldcI hx (ww hw 63 rfl) (g := (mkF m 39 #[.val (.int xx), .val (.int (xx &&& (65535 : Int32))), .val (.int (((xx.toUInt32 >>> ((16 : Int32) &&& 31).toUInt32).toInt32) &&& (3 : Int32))), .unset] [])) rfl (hb hby d1_39) ?_
    change Fi _ _ _ _ _ _ _ _ _ _ (s₁.setTop (mkF m 41 #[.val (.int xx), .val (.int (xx &&& (65535 : Int32))), .val (.int (((xx.toUInt32 >>> ((16 : Int32) &&& 31).toUInt32).toInt32) &&& (3 : Int32))), .unset] [(.int (56320 : Int32))]))
    refine Fi.by' (st' := s₁.setTop (mkF m 48 #[.val (.int xx), .val (.int (xx &&& (65535 : Int32))), .val (.int (((xx.toUInt32 >>> ((16 : Int32) &&& 31).toUInt32).toInt32) &&& (3 : Int32))), .unset] [(.int (((56320 : Int32) ||| ((xx &&& (65535 : Int32)) &&& (1023 : Int32))).toUInt32.toUInt16.toUInt32.toInt32))])) (fun t k => ?_) ?_
    ·refine XS.iloadN W0.here hx rfl (hb hby d1_41) rfl ?_
     refine sipushZ W0.here hx rfl (hb hby d1_42) (z := (1023 : Int32)) rfl ?_
     refine XS.iand W0.here hx rfl (hb hby d1_45) rfl ?_
     refine XS.ior W0.here hx rfl (hb hby d1_46) rfl ?_
     refine XS.i2c W0.here hx rfl (hb hby d1_47) rfl ?_
     exact k
    have hq : (¬ (((56320 : Int32) ||| ((xx &&& (65535 : Int32)) &&& (1023 : Int32))).toUInt32.toUInt16.toUInt32.toInt32) < 0 ∧ ¬ (65535 : Int32) < (((56320 : Int32) ||| ((xx &&& (65535 : Int32)) &&& (1023 : Int32))).toUInt32.toUInt16.toUInt32.toInt32)) := (i2c_rng _)
    exact W0.iret hx hlk hret (by simp) (ch_nar16 hq) (hb hby d1_48) ⟨_, rfl, hq, rfl⟩ (by decide) (by decide)
   ·refine Fi.by' (st' := s₁.setTop (mkF m 55 #[.val (.int xx), .val (.int (xx &&& (65535 : Int32))), .val (.int (((xx.toUInt32 >>> ((16 : Int32) &&& 31).toUInt32).toInt32) &&& (3 : Int32))), .val (.int ((xx &&& (65535 : Int32)) &&& (7 : Int32)))] [(.int ((xx &&& (65535 : Int32)) &&& (7 : Int32)))])) (fun t k => ?_) ?_
    ·refine XS.icmpYes W0.here hx rfl (pc0 := 36) (pc' := 49) rfl (hb hby d1_36) rfl (feq hc36_3).2 (by decide) (by decide) ?_
     refine XS.iloadN W0.here hx rfl (hb hby d1_49) rfl ?_
     refine bipushZ W0.here hx rfl (hb hby d1_50) (z := (7 : Int32)) rfl ?_
     refine XS.iand W0.here hx rfl (hb hby d1_52) rfl ?_
     refine XS.istoreN W0.here hx rfl (hb hby d1_53) rfl (l' := #[.val (.int xx), .val (.int (xx &&& (65535 : Int32))), .val (.int (((xx.toUInt32 >>> ((16 : Int32) &&& 31).toUInt32).toInt32) &&& (3 : Int32))), .val (.int ((xx &&& (65535 : Int32)) &&& (7 : Int32)))]) rfl ?_
     refine XS.iloadN W0.here hx rfl (hb hby d1_54) rfl ?_
     exact k
    by_cases hc55_4 : ((xx &&& (65535 : Int32)) &&& (7 : Int32)) = (0 : Int32)
    ·refine Fi.by' (st' := s₁.setTop (mkF m 58 #[.val (.int xx), .val (.int (xx &&& (65535 : Int32))), .val (.int (((xx.toUInt32 >>> ((16 : Int32) &&& 31).toUInt32).toInt32) &&& (3 : Int32))), .val (.int ((xx &&& (65535 : Int32)) &&& (7 : Int32)))] [])) (fun t k => ?_) ?_
     ·refine XS.ifNo W0.here hx rfl (hb hby d1_55) rfl ((if0 _ _).trans (teq hc55_4).2) ?_
      exact k
     refine W0.ldcI hx (ww hw 94 rfl) (g := (mkF m 58 #[.val (.int xx), .val (.int (xx &&& (65535 : Int32))), .val (.int (((xx.toUInt32 >>> ((16 : Int32) &&& 31).toUInt32).toInt32) &&& (3 : Int32))), .val (.int ((xx &&& (65535 : Int32)) &&& (7 : Int32)))] [])) rfl (hb hby d1_58) ?_
     change Fi _ _ _ _ _ _ _ _ _ _ (s₁.setTop (mkF m 60 #[.val (.int xx), .val (.int (xx &&& (65535 : Int32))), .val (.int (((xx.toUInt32 >>> ((16 : Int32) &&& 31).toUInt32).toInt32) &&& (3 : Int32))), .val (.int ((xx &&& (65535 : Int32)) &&& (7 : Int32)))] [(.int (55295 : Int32))]))
     have hq : (¬ (55295 : Int32) < 0 ∧ ¬ (65535 : Int32) < (55295 : Int32)) := (by decide)
     exact W0.iret hx hlk hret (by simp) (ch_nar16 hq) (hb hby d1_60) ⟨_, rfl, hq, rfl⟩ (by decide) (by decide)
    ·refine Fi.by' (st' := s₁.setTop (mkF m 63 #[.val (.int xx), .val (.int (xx &&& (65535 : Int32))), .val (.int (((xx.toUInt32 >>> ((16 : Int32) &&& 31).toUInt32).toInt32) &&& (3 : Int32))), .val (.int ((xx &&& (65535 : Int32)) &&& (7 : Int32)))] [(.int (1 : Int32)), (.int ((xx &&& (65535 : Int32)) &&& (7 : Int32)))])) (fun t k => ?_) ?_
     ·refine XS.ifYes W0.here hx rfl (pc0 := 55) (pc' := 61) rfl (hb hby d1_55) rfl ((if0 _ _).trans (feq hc55_4).2) (by decide) (by decide) ?_
      refine XS.iloadN W0.here hx rfl (hb hby d1_61) rfl ?_
      refine iconstZ W0.here hx rfl (hb hby d1_62) (z := (1 : Int32)) rfl ?_
      exact k
     by_cases hc63_5 : ((xx &&& (65535 : Int32)) &&& (7 : Int32)) = (1 : Int32)
     ·refine Fi.by' (st' := s₁.setTop (mkF m 66 #[.val (.int xx), .val (.int (xx &&& (65535 : Int32))), .val (.int (((xx.toUInt32 >>> ((16 : Int32) &&& 31).toUInt32).toInt32) &&& (3 : Int32))), .val (.int ((xx &&& (65535 : Int32)) &&& (7 : Int32)))] [])) (fun t k => ?_) ?_
      ·refine XS.icmpNo W0.here hx rfl (hb hby d1_63) rfl (teq hc63_5).2 ?_
       exact k
      refine W0.ldcI hx (ww hw 59 rfl) (g := (mkF m 66 #[.val (.int xx), .val (.int (xx &&& (65535 : Int32))), .val (.int (((xx.toUInt32 >>> ((16 : Int32) &&& 31).toUInt32).toInt32) &&& (3 : Int32))), .val (.int ((xx &&& (65535 : Int32)) &&& (7 : Int32)))] [])) rfl (hb hby d1_66) ?_
      change Fi _ _ _ _ _ _ _ _ _ _ (s₁.setTop (mkF m 68 #[.val (.int xx), .val (.int (xx &&& (65535 : Int32))), .val (.int (((xx.toUInt32 >>> ((16 : Int32) &&& 31).toUInt32).toInt32) &&& (3 : Int32))), .val (.int ((xx &&& (65535 : Int32)) &&& (7 : Int32)))] [(.int (55296 : Int32))]))
      have hq : (¬ (55296 : Int32) < 0 ∧ ¬ (65535 : Int32) < (55296 : Int32)) := (by decide)
      exact W0.iret hx hlk hret (by simp) (ch_nar16 hq) (hb hby d1_68) ⟨_, rfl, hq, rfl⟩ (by decide) (by decide)
     ·refine Fi.by' (st' := s₁.setTop (mkF m 71 #[.val (.int xx), .val (.int (xx &&& (65535 : Int32))), .val (.int (((xx.toUInt32 >>> ((16 : Int32) &&& 31).toUInt32).toInt32) &&& (3 : Int32))), .val (.int ((xx &&& (65535 : Int32)) &&& (7 : Int32)))] [(.int (2 : Int32)), (.int ((xx &&& (65535 : Int32)) &&& (7 : Int32)))])) (fun t k => ?_) ?_
      ·refine XS.icmpYes W0.here hx rfl (pc0 := 63) (pc' := 69) rfl (hb hby d1_63) rfl (feq hc63_5).2 (by decide) (by decide) ?_
       refine XS.iloadN W0.here hx rfl (hb hby d1_69) rfl ?_
       refine iconstZ W0.here hx rfl (hb hby d1_70) (z := (2 : Int32)) rfl ?_
       exact k
      by_cases hc71_6 : ((xx &&& (65535 : Int32)) &&& (7 : Int32)) = (2 : Int32)
      ·refine Fi.by' (st' := s₁.setTop (mkF m 74 #[.val (.int xx), .val (.int (xx &&& (65535 : Int32))), .val (.int (((xx.toUInt32 >>> ((16 : Int32) &&& 31).toUInt32).toInt32) &&& (3 : Int32))), .val (.int ((xx &&& (65535 : Int32)) &&& (7 : Int32)))] [])) (fun t k => ?_) ?_
       ·refine XS.icmpNo W0.here hx rfl (hb hby d1_71) rfl (teq hc71_6).2 ?_
        exact k
       refine W0.ldcI hx (ww hw 114 rfl) (g := (mkF m 74 #[.val (.int xx), .val (.int (xx &&& (65535 : Int32))), .val (.int (((xx.toUInt32 >>> ((16 : Int32) &&& 31).toUInt32).toInt32) &&& (3 : Int32))), .val (.int ((xx &&& (65535 : Int32)) &&& (7 : Int32)))] [])) rfl (hb hby d1_74) ?_
       change Fi _ _ _ _ _ _ _ _ _ _ (s₁.setTop (mkF m 76 #[.val (.int xx), .val (.int (xx &&& (65535 : Int32))), .val (.int (((xx.toUInt32 >>> ((16 : Int32) &&& 31).toUInt32).toInt32) &&& (3 : Int32))), .val (.int ((xx &&& (65535 : Int32)) &&& (7 : Int32)))] [(.int (56319 : Int32))]))
       have hq : (¬ (56319 : Int32) < 0 ∧ ¬ (65535 : Int32) < (56319 : Int32)) := (by decide)
       exact W0.iret hx hlk hret (by simp) (ch_nar16 hq) (hb hby d1_76) ⟨_, rfl, hq, rfl⟩ (by decide) (by decide)
      ·refine Fi.by' (st' := s₁.setTop (mkF m 79 #[.val (.int xx), .val (.int (xx &&& (65535 : Int32))), .val (.int (((xx.toUInt32 >>> ((16 : Int32) &&& 31).toUInt32).toInt32) &&& (3 : Int32))), .val (.int ((xx &&& (65535 : Int32)) &&& (7 : Int32)))] [(.int (3 : Int32)), (.int ((xx &&& (65535 : Int32)) &&& (7 : Int32)))])) (fun t k => ?_) ?_
       ·refine XS.icmpYes W0.here hx rfl (pc0 := 71) (pc' := 77) rfl (hb hby d1_71) rfl (feq hc71_6).2 (by decide) (by decide) ?_
        refine XS.iloadN W0.here hx rfl (hb hby d1_77) rfl ?_
        refine iconstZ W0.here hx rfl (hb hby d1_78) (z := (3 : Int32)) rfl ?_
        exact k
       by_cases hc79_7 : ((xx &&& (65535 : Int32)) &&& (7 : Int32)) = (3 : Int32)
       ·refine Fi.by' (st' := s₁.setTop (mkF m 82 #[.val (.int xx), .val (.int (xx &&& (65535 : Int32))), .val (.int (((xx.toUInt32 >>> ((16 : Int32) &&& 31).toUInt32).toInt32) &&& (3 : Int32))), .val (.int ((xx &&& (65535 : Int32)) &&& (7 : Int32)))] [])) (fun t k => ?_) ?_
        ·refine XS.icmpNo W0.here hx rfl (hb hby d1_79) rfl (teq hc79_7).2 ?_
         exact k
        refine W0.ldcI hx (ww hw 63 rfl) (g := (mkF m 82 #[.val (.int xx), .val (.int (xx &&& (65535 : Int32))), .val (.int (((xx.toUInt32 >>> ((16 : Int32) &&& 31).toUInt32).toInt32) &&& (3 : Int32))), .val (.int ((xx &&& (65535 : Int32)) &&& (7 : Int32)))] [])) rfl (hb hby d1_82) ?_
        change Fi _ _ _ _ _ _ _ _ _ _ (s₁.setTop (mkF m 84 #[.val (.int xx), .val (.int (xx &&& (65535 : Int32))), .val (.int (((xx.toUInt32 >>> ((16 : Int32) &&& 31).toUInt32).toInt32) &&& (3 : Int32))), .val (.int ((xx &&& (65535 : Int32)) &&& (7 : Int32)))] [(.int (56320 : Int32))]))
        have hq : (¬ (56320 : Int32) < 0 ∧ ¬ (65535 : Int32) < (56320 : Int32)) := (by decide)
        exact W0.iret hx hlk hret (by simp) (ch_nar16 hq) (hb hby d1_84) ⟨_, rfl, hq, rfl⟩ (by decide) (by decide)
       ·refine Fi.by' (st' := s₁.setTop (mkF m 87 #[.val (.int xx), .val (.int (xx &&& (65535 : Int32))), .val (.int (((xx.toUInt32 >>> ((16 : Int32) &&& 31).toUInt32).toInt32) &&& (3 : Int32))), .val (.int ((xx &&& (65535 : Int32)) &&& (7 : Int32)))] [(.int (4 : Int32)), (.int ((xx &&& (65535 : Int32)) &&& (7 : Int32)))])) (fun t k => ?_) ?_
        ·refine XS.icmpYes W0.here hx rfl (pc0 := 79) (pc' := 85) rfl (hb hby d1_79) rfl (feq hc79_7).2 (by decide) (by decide) ?_
         refine XS.iloadN W0.here hx rfl (hb hby d1_85) rfl ?_
         refine iconstZ W0.here hx rfl (hb hby d1_86) (z := (4 : Int32)) rfl ?_
         exact k
        by_cases hc87_8 : ((xx &&& (65535 : Int32)) &&& (7 : Int32)) = (4 : Int32)
        ·refine Fi.by' (st' := s₁.setTop (mkF m 90 #[.val (.int xx), .val (.int (xx &&& (65535 : Int32))), .val (.int (((xx.toUInt32 >>> ((16 : Int32) &&& 31).toUInt32).toInt32) &&& (3 : Int32))), .val (.int ((xx &&& (65535 : Int32)) &&& (7 : Int32)))] [])) (fun t k => ?_) ?_
         ·refine XS.icmpNo W0.here hx rfl (hb hby d1_87) rfl (teq hc87_8).2 ?_
          exact k
         refine W0.ldcI hx (ww hw 115 rfl) (g := (mkF m 90 #[.val (.int xx), .val (.int (xx &&& (65535 : Int32))), .val (.int (((xx.toUInt32 >>> ((16 : Int32) &&& 31).toUInt32).toInt32) &&& (3 : Int32))), .val (.int ((xx &&& (65535 : Int32)) &&& (7 : Int32)))] [])) rfl (hb hby d1_90) ?_
         change Fi _ _ _ _ _ _ _ _ _ _ (s₁.setTop (mkF m 92 #[.val (.int xx), .val (.int (xx &&& (65535 : Int32))), .val (.int (((xx.toUInt32 >>> ((16 : Int32) &&& 31).toUInt32).toInt32) &&& (3 : Int32))), .val (.int ((xx &&& (65535 : Int32)) &&& (7 : Int32)))] [(.int (57343 : Int32))]))
         have hq : (¬ (57343 : Int32) < 0 ∧ ¬ (65535 : Int32) < (57343 : Int32)) := (by decide)
         exact W0.iret hx hlk hret (by simp) (ch_nar16 hq) (hb hby d1_92) ⟨_, rfl, hq, rfl⟩ (by decide) (by decide)
        ·refine Fi.by' (st' := s₁.setTop (mkF m 95 #[.val (.int xx), .val (.int (xx &&& (65535 : Int32))), .val (.int (((xx.toUInt32 >>> ((16 : Int32) &&& 31).toUInt32).toInt32) &&& (3 : Int32))), .val (.int ((xx &&& (65535 : Int32)) &&& (7 : Int32)))] [(.int (5 : Int32)), (.int ((xx &&& (65535 : Int32)) &&& (7 : Int32)))])) (fun t k => ?_) ?_
         ·refine XS.icmpYes W0.here hx rfl (pc0 := 87) (pc' := 93) rfl (hb hby d1_87) rfl (feq hc87_8).2 (by decide) (by decide) ?_
          refine XS.iloadN W0.here hx rfl (hb hby d1_93) rfl ?_
          refine iconstZ W0.here hx rfl (hb hby d1_94) (z := (5 : Int32)) rfl ?_
          exact k
         by_cases hc95_9 : ((xx &&& (65535 : Int32)) &&& (7 : Int32)) = (5 : Int32)
         ·refine Fi.by' (st' := s₁.setTop (mkF m 98 #[.val (.int xx), .val (.int (xx &&& (65535 : Int32))), .val (.int (((xx.toUInt32 >>> ((16 : Int32) &&& 31).toUInt32).toInt32) &&& (3 : Int32))), .val (.int ((xx &&& (65535 : Int32)) &&& (7 : Int32)))] [])) (fun t k => ?_) ?_
          ·refine XS.icmpNo W0.here hx rfl (hb hby d1_95) rfl (teq hc95_9).2 ?_
           exact k
          refine W0.ldcI hx (ww hw 128 rfl) (g := (mkF m 98 #[.val (.int xx), .val (.int (xx &&& (65535 : Int32))), .val (.int (((xx.toUInt32 >>> ((16 : Int32) &&& 31).toUInt32).toInt32) &&& (3 : Int32))), .val (.int ((xx &&& (65535 : Int32)) &&& (7 : Int32)))] [])) rfl (hb hby d1_98) ?_
          change Fi _ _ _ _ _ _ _ _ _ _ (s₁.setTop (mkF m 100 #[.val (.int xx), .val (.int (xx &&& (65535 : Int32))), .val (.int (((xx.toUInt32 >>> ((16 : Int32) &&& 31).toUInt32).toInt32) &&& (3 : Int32))), .val (.int ((xx &&& (65535 : Int32)) &&& (7 : Int32)))] [(.int (57344 : Int32))]))
          have hq : (¬ (57344 : Int32) < 0 ∧ ¬ (65535 : Int32) < (57344 : Int32)) := (by decide)
          exact W0.iret hx hlk hret (by simp) (ch_nar16 hq) (hb hby d1_100) ⟨_, rfl, hq, rfl⟩ (by decide) (by decide)
         ·refine Fi.by' (st' := s₁.setTop (mkF m 104 #[.val (.int xx), .val (.int (xx &&& (65535 : Int32))), .val (.int (((xx.toUInt32 >>> ((16 : Int32) &&& 31).toUInt32).toInt32) &&& (3 : Int32))), .val (.int ((xx &&& (65535 : Int32)) &&& (7 : Int32)))] [(.int (6 : Int32)), (.int ((xx &&& (65535 : Int32)) &&& (7 : Int32)))])) (fun t k => ?_) ?_
          ·refine XS.icmpYes W0.here hx rfl (pc0 := 95) (pc' := 101) rfl (hb hby d1_95) rfl (feq hc95_9).2 (by decide) (by decide) ?_
           refine XS.iloadN W0.here hx rfl (hb hby d1_101) rfl ?_
           refine bipushZ W0.here hx rfl (hb hby d1_102) (z := (6 : Int32)) rfl ?_
           exact k
          by_cases hc104_10 : ((xx &&& (65535 : Int32)) &&& (7 : Int32)) = (6 : Int32)
          ·refine Fi.by' (st' := s₁.setTop (mkF m 108 #[.val (.int xx), .val (.int (xx &&& (65535 : Int32))), .val (.int (((xx.toUInt32 >>> ((16 : Int32) &&& 31).toUInt32).toInt32) &&& (3 : Int32))), .val (.int ((xx &&& (65535 : Int32)) &&& (7 : Int32)))] [(.int (0 : Int32))])) (fun t k => ?_) ?_
           ·refine XS.icmpNo W0.here hx rfl (hb hby d1_104) rfl (teq hc104_10).2 ?_
            refine iconstZ W0.here hx rfl (hb hby d1_107) (z := (0 : Int32)) rfl ?_
            exact k
           have hq : (¬ (0 : Int32) < 0 ∧ ¬ (65535 : Int32) < (0 : Int32)) := (by decide)
           exact W0.iret hx hlk hret (by simp) (ch_nar16 hq) (hb hby d1_108) ⟨_, rfl, hq, rfl⟩ (by decide) (by decide)
          ·refine Fi.by' (st' := s₁.setTop (mkF m 109 #[.val (.int xx), .val (.int (xx &&& (65535 : Int32))), .val (.int (((xx.toUInt32 >>> ((16 : Int32) &&& 31).toUInt32).toInt32) &&& (3 : Int32))), .val (.int ((xx &&& (65535 : Int32)) &&& (7 : Int32)))] [])) (fun t k => ?_) ?_
           ·refine XS.icmpYes W0.here hx rfl (pc0 := 104) (pc' := 109) rfl (hb hby d1_104) rfl (feq hc104_10).2 (by decide) (by decide) ?_
            exact k
           refine W0.ldcI hx (ww hw 5 rfl) (g := (mkF m 109 #[.val (.int xx), .val (.int (xx &&& (65535 : Int32))), .val (.int (((xx.toUInt32 >>> ((16 : Int32) &&& 31).toUInt32).toInt32) &&& (3 : Int32))), .val (.int ((xx &&& (65535 : Int32)) &&& (7 : Int32)))] [])) rfl (hb hby d1_109) ?_
           change Fi _ _ _ _ _ _ _ _ _ _ (s₁.setTop (mkF m 111 #[.val (.int xx), .val (.int (xx &&& (65535 : Int32))), .val (.int (((xx.toUInt32 >>> ((16 : Int32) &&& 31).toUInt32).toInt32) &&& (3 : Int32))), .val (.int ((xx &&& (65535 : Int32)) &&& (7 : Int32)))] [(.int (65535 : Int32))]))
           have hq : (¬ (65535 : Int32) < 0 ∧ ¬ (65535 : Int32) < (65535 : Int32)) := (by decide)
           exact W0.iret hx hlk hret (by simp) (ch_nar16 hq) (hb hby d1_111) ⟨_, rfl, hq, rfl⟩ (by decide) (by decide)
def Q_isHi (Z : State) (ch : Int32) (h0 : Heap) (v : Option Value) (h : Heap) : Prop := v = some (.int (b2i (hiB ch))) ∧ h0 = h
set_option maxRecDepth 65536 in
set_option maxHeartbeats 40000000 in
theorem rm_isHi (l : Launch) (Z : State) (a0 : Array Value) (hw : ∀ d ∈ tables_1, d.before a0 Z = true) (ch : Int32) (h0 : Heap) (n0 : Nat) (Z0 : n0 ≤ h0.size)  :
  Con l Z EL y_3 method_3_code 1 (some .boolean) [] ({ frames := 0, cells := 0, slots := 0, locals := 0 } : Room) #[(.int ch)] h0 n0 (Q_isHi Z ch h0) := by
 refine Con.intro (own := "com/example/record_hold/recordhold/text/Utf8CanEncodePinLaw") rfl (plainFor_of_name plain_com_example_record_hold_recordhold_text_Utf8CanEncodePinLaw) (hEL hw) ?_
 intro p e s m below meth c s₁ hx hby hml hret hlk hnm W0
 refine Fi.cast (show entryFrame m #[(.int ch)] 1 = (mkF m 0 #[.val (.int ch)] []) from by first | (simp [entryFrame, mkF, argsToLocals, Value.category]; done) | rfl) ?_
 refine Fi.by' (st' := s₁.setTop (mkF m 1 #[.val (.int ch)] [(.int ch)])) (fun t k => ?_) ?_
 ·refine XS.iloadN W0.here hx rfl (hb hby d12_0) rfl ?_
  exact k
 refine W0.ldcI hx (ww hw 59 rfl) (g := (mkF m 1 #[.val (.int ch)] [(.int ch)])) rfl (hb hby d12_1) ?_
 change Fi _ _ _ _ _ _ _ _ _ _ (s₁.setTop (mkF m 3 #[.val (.int ch)] [(.int (55296 : Int32)), (.int ch)]))
 by_cases hc3_1 : ch < (55296 : Int32)
 ·refine Fi.by' (st' := s₁.setTop (mkF m 17 #[.val (.int ch)] [(.int (0 : Int32))])) (fun t k => ?_) ?_
  ·refine XS.icmpYes W0.here hx rfl (pc0 := 3) (pc' := 16) rfl (hb hby d12_3) rfl (tlt hc3_1).1 (by decide) (by decide) ?_
   refine iconstZ W0.here hx rfl (hb hby d12_16) (z := (0 : Int32)) rfl ?_
   exact k
  have f0 := hc3_1
  have hv : b2i (hiB ch) = (0 : Int32) := by simp [b2i, hiB, f0]
  exact W0.iret hx hlk hret (by simp) rfl (hb hby d12_17) ⟨by rw [hv], rfl⟩ (by decide) (by decide)
 ·refine Fi.by' (st' := s₁.setTop (mkF m 7 #[.val (.int ch)] [(.int ch)])) (fun t k => ?_) ?_
  ·refine XS.icmpNo W0.here hx rfl (hb hby d12_3) rfl (flt hc3_1).1 ?_
   refine XS.iloadN W0.here hx rfl (hb hby d12_6) rfl ?_
   exact k
  refine W0.ldcI hx (ww hw 114 rfl) (g := (mkF m 7 #[.val (.int ch)] [(.int ch)])) rfl (hb hby d12_7) ?_
  change Fi _ _ _ _ _ _ _ _ _ _ (s₁.setTop (mkF m 9 #[.val (.int ch)] [(.int (56319 : Int32)), (.int ch)]))
  by_cases hc9_2 : (56319 : Int32) < ch
  ·refine Fi.by' (st' := s₁.setTop (mkF m 17 #[.val (.int ch)] [(.int (0 : Int32))])) (fun t k => ?_) ?_
   ·refine XS.icmpYes W0.here hx rfl (pc0 := 9) (pc' := 16) rfl (hb hby d12_9) rfl (tlt hc9_2).2.2.1 (by decide) (by decide) ?_
    refine iconstZ W0.here hx rfl (hb hby d12_16) (z := (0 : Int32)) rfl ?_
    exact k
   have f0 := hc3_1
   have f1 := hc9_2
   have hv : b2i (hiB ch) = (0 : Int32) := by simp [b2i, hiB, f0, f1]
   exact W0.iret hx hlk hret (by simp) rfl (hb hby d12_17) ⟨by rw [hv], rfl⟩ (by decide) (by decide)
  ·refine Fi.by' (st' := s₁.setTop (mkF m 17 #[.val (.int ch)] [(.int (1 : Int32))])) (fun t k => ?_) ?_
   ·refine XS.icmpNo W0.here hx rfl (hb hby d12_9) rfl (flt hc9_2).2.2.1 ?_
    refine iconstZ W0.here hx rfl (hb hby d12_12) (z := (1 : Int32)) rfl ?_
    refine XS.goto W0.here hx rfl (pc0 := 13) (pc' := 17) rfl (hb hby d12_13) (by decide) (by decide) ?_
    exact k
   have f0 := hc3_1
   have f1 := hc9_2
   have hv : b2i (hiB ch) = (1 : Int32) := by simp [b2i, hiB, f0, f1]
   exact W0.iret hx hlk hret (by simp) rfl (hb hby d12_17) ⟨by rw [hv], rfl⟩ (by decide) (by decide)
def Q_isLo (Z : State) (ch : Int32) (h0 : Heap) (v : Option Value) (h : Heap) : Prop := v = some (.int (b2i (loB ch))) ∧ h0 = h
set_option maxRecDepth 65536 in
set_option maxHeartbeats 40000000 in
theorem rm_isLo (l : Launch) (Z : State) (a0 : Array Value) (hw : ∀ d ∈ tables_1, d.before a0 Z = true) (ch : Int32) (h0 : Heap) (n0 : Nat) (Z0 : n0 ≤ h0.size)  :
  Con l Z EL y_4 method_4_code 1 (some .boolean) [] ({ frames := 0, cells := 0, slots := 0, locals := 0 } : Room) #[(.int ch)] h0 n0 (Q_isLo Z ch h0) := by
 refine Con.intro (own := "com/example/record_hold/recordhold/text/Utf8CanEncodePinLaw") rfl (plainFor_of_name plain_com_example_record_hold_recordhold_text_Utf8CanEncodePinLaw) (hEL hw) ?_
 intro p e s m below meth c s₁ hx hby hml hret hlk hnm W0
 refine Fi.cast (show entryFrame m #[(.int ch)] 1 = (mkF m 0 #[.val (.int ch)] []) from by first | (simp [entryFrame, mkF, argsToLocals, Value.category]; done) | rfl) ?_
 refine Fi.by' (st' := s₁.setTop (mkF m 1 #[.val (.int ch)] [(.int ch)])) (fun t k => ?_) ?_
 ·refine XS.iloadN W0.here hx rfl (hb hby d13_0) rfl ?_
  exact k
 refine W0.ldcI hx (ww hw 63 rfl) (g := (mkF m 1 #[.val (.int ch)] [(.int ch)])) rfl (hb hby d13_1) ?_
 change Fi _ _ _ _ _ _ _ _ _ _ (s₁.setTop (mkF m 3 #[.val (.int ch)] [(.int (56320 : Int32)), (.int ch)]))
 by_cases hc3_1 : ch < (56320 : Int32)
 ·refine Fi.by' (st' := s₁.setTop (mkF m 17 #[.val (.int ch)] [(.int (0 : Int32))])) (fun t k => ?_) ?_
  ·refine XS.icmpYes W0.here hx rfl (pc0 := 3) (pc' := 16) rfl (hb hby d13_3) rfl (tlt hc3_1).1 (by decide) (by decide) ?_
   refine iconstZ W0.here hx rfl (hb hby d13_16) (z := (0 : Int32)) rfl ?_
   exact k
  have f0 := hc3_1
  have hv : b2i (loB ch) = (0 : Int32) := by simp [b2i, loB, f0]
  exact W0.iret hx hlk hret (by simp) rfl (hb hby d13_17) ⟨by rw [hv], rfl⟩ (by decide) (by decide)
 ·refine Fi.by' (st' := s₁.setTop (mkF m 7 #[.val (.int ch)] [(.int ch)])) (fun t k => ?_) ?_
  ·refine XS.icmpNo W0.here hx rfl (hb hby d13_3) rfl (flt hc3_1).1 ?_
   refine XS.iloadN W0.here hx rfl (hb hby d13_6) rfl ?_
   exact k
  refine W0.ldcI hx (ww hw 115 rfl) (g := (mkF m 7 #[.val (.int ch)] [(.int ch)])) rfl (hb hby d13_7) ?_
  change Fi _ _ _ _ _ _ _ _ _ _ (s₁.setTop (mkF m 9 #[.val (.int ch)] [(.int (57343 : Int32)), (.int ch)]))
  by_cases hc9_2 : (57343 : Int32) < ch
  ·refine Fi.by' (st' := s₁.setTop (mkF m 17 #[.val (.int ch)] [(.int (0 : Int32))])) (fun t k => ?_) ?_
   ·refine XS.icmpYes W0.here hx rfl (pc0 := 9) (pc' := 16) rfl (hb hby d13_9) rfl (tlt hc9_2).2.2.1 (by decide) (by decide) ?_
    refine iconstZ W0.here hx rfl (hb hby d13_16) (z := (0 : Int32)) rfl ?_
    exact k
   have f0 := hc3_1
   have f1 := hc9_2
   have hv : b2i (loB ch) = (0 : Int32) := by simp [b2i, loB, f0, f1]
   exact W0.iret hx hlk hret (by simp) rfl (hb hby d13_17) ⟨by rw [hv], rfl⟩ (by decide) (by decide)
  ·refine Fi.by' (st' := s₁.setTop (mkF m 17 #[.val (.int ch)] [(.int (1 : Int32))])) (fun t k => ?_) ?_
   ·refine XS.icmpNo W0.here hx rfl (hb hby d13_9) rfl (flt hc9_2).2.2.1 ?_
    refine iconstZ W0.here hx rfl (hb hby d13_12) (z := (1 : Int32)) rfl ?_
    refine XS.goto W0.here hx rfl (pc0 := 13) (pc' := 17) rfl (hb hby d13_13) (by decide) (by decide) ?_
    exact k
   have f0 := hc3_1
   have f1 := hc9_2
   have hv : b2i (loB ch) = (1 : Int32) := by simp [b2i, loB, f0, f1]
   exact W0.iret hx hlk hret (by simp) rfl (hb hby d13_17) ⟨by rw [hv], rfl⟩ (by decide) (by decide)
def Q_fine (Z : State) (hp hn : Bool) (pv cu nx : Int32) (h0 : Heap) (v : Option Value) (h : Heap) : Prop := v = some (.int (b2i (fineB hp pv cu hn nx))) ∧ h0 = h
set_option maxRecDepth 65536 in
set_option maxHeartbeats 40000000 in
theorem rm_fine (l : Launch) (Z : State) (a0 : Array Value) (hw : ∀ d ∈ tables_1, d.before a0 Z = true) (hp hn : Bool) (pv cu nx : Int32) (h0 : Heap) (n0 : Nat) (Z0 : n0 ≤ h0.size)  :
  Con l Z EL y_5 method_5_code 5 (some .boolean) [] ({ frames := 1, cells := 0, slots := 0, locals := 12 } : Room) #[(.int (b2i hp)), (.int pv), (.int cu), (.int (b2i hn)), (.int nx)] h0 n0 (Q_fine Z hp hn pv cu nx h0) := by
 refine Con.intro (own := "com/example/record_hold/recordhold/text/Utf8CanEncodePinLaw") rfl (plainFor_of_name plain_com_example_record_hold_recordhold_text_Utf8CanEncodePinLaw) (hEL hw) ?_
 intro p e s m below meth c s₁ hx hby hml hret hlk hnm W0
 refine Fi.cast (show entryFrame m #[(.int (b2i hp)), (.int pv), (.int cu), (.int (b2i hn)), (.int nx)] 5 = (mkF m 0 #[.val (.int (b2i hp)), .val (.int pv), .val (.int cu), .val (.int (b2i hn)), .val (.int nx)] []) from by first | (simp [entryFrame, mkF, argsToLocals, Value.category]; done) | rfl) ?_
 refine Fi.by' (st' := s₁.setTop (mkF m 1 #[.val (.int (b2i hp)), .val (.int pv), .val (.int cu), .val (.int (b2i hn)), .val (.int nx)] [(.int cu)])) (fun t k => ?_) ?_
 ·refine XS.iloadN W0.here hx rfl (hb hby d11_0) rfl ?_
  exact k
 refine W0.callS hx (y := y_3) (ww hw 56 rfl) (ww hw 57 rfl) (ww hw 3 rfl) (ww hw 58 rfl) (by decide) (Pay.of_con (Wd := 0) (rm_isHi l Z a0 hw cu h0 n0 (by omega)) (ww hw 58 rfl) (ww hw 3 rfl) (hEL hw) (by decide) (by decide)) (g := (mkF m 1 #[.val (.int (b2i hp)), .val (.int pv), .val (.int cu), .val (.int (b2i hn)), .val (.int nx)] [(.int cu)])) rfl (by rw [hml]; rfl) (argsL := [(.int cu)]) (rest := []) (lenOf pd_0 rfl) rfl rfl (ble_ rfl) (hb hby d11_1) (by decide) (by decide) (fun v1 T1 h1 W1 sz1 q1 => ?_)
 obtain ⟨rfl, rfl⟩ := q1
 change Fi _ _ _ _ _ _ _ _ _ _ (T1.setTop (mkF m 4 #[.val (.int (b2i hp)), .val (.int pv), .val (.int cu), .val (.int (b2i hn)), .val (.int nx)] [(.int (b2i (hiB cu)))]))
 by_cases hc4_2 : (b2i (hiB cu)) = (0 : Int32)
 ·refine Fi.by' (st' := T1.setTop (mkF m 22 #[.val (.int (b2i hp)), .val (.int pv), .val (.int cu), .val (.int (b2i hn)), .val (.int nx)] [(.int cu)])) (fun t k => ?_) ?_
  ·refine XS.ifYes W1.here hx rfl (pc0 := 4) (pc' := 21) rfl (hb hby d11_4) rfl ((if0 _ _).trans (teq hc4_2).1) (by decide) (by decide) ?_
   refine XS.iloadN W1.here hx rfl (hb hby d11_21) rfl ?_
   exact k
  refine W1.callS hx (y := y_4) (ww hw 60 rfl) (ww hw 61 rfl) (ww hw 3 rfl) (ww hw 62 rfl) (by decide) (Pay.of_con (Wd := 0) (rm_isLo l Z a0 hw cu h0 n0 (by omega)) (ww hw 62 rfl) (ww hw 3 rfl) (hEL hw) (by decide) (by decide)) (g := (mkF m 22 #[.val (.int (b2i hp)), .val (.int pv), .val (.int cu), .val (.int (b2i hn)), .val (.int nx)] [(.int cu)])) rfl (by rw [hml]; rfl) (argsL := [(.int cu)]) (rest := []) (lenOf pd_0 rfl) rfl rfl (ble_ rfl) (hb hby d11_22) (by decide) (by decide) (fun v3 T3 h3 W3 sz3 q3 => ?_)
  obtain ⟨rfl, rfl⟩ := q3
  change Fi _ _ _ _ _ _ _ _ _ _ (T3.setTop (mkF m 25 #[.val (.int (b2i hp)), .val (.int pv), .val (.int cu), .val (.int (b2i hn)), .val (.int nx)] [(.int (b2i (loB cu)))]))
  by_cases hc25_4 : (b2i (loB cu)) = (0 : Int32)
  ·refine Fi.by' (st' := T3.setTop (mkF m 42 #[.val (.int (b2i hp)), .val (.int pv), .val (.int cu), .val (.int (b2i hn)), .val (.int nx)] [(.int (1 : Int32))])) (fun t k => ?_) ?_
   ·refine XS.ifYes W3.here hx rfl (pc0 := 25) (pc' := 41) rfl (hb hby d11_25) rfl ((if0 _ _).trans (teq hc25_4).1) (by decide) (by decide) ?_
    refine iconstZ W3.here hx rfl (hb hby d11_41) (z := (1 : Int32)) rfl ?_
    exact k
   have f0 := b2i_f hc4_2
   have f1 := b2i_f hc25_4
   have hv : b2i (fineB hp pv cu hn nx) = (1 : Int32) := by simp [b2i, fineB, f0, f1]
   exact W3.iret hx hlk hret (by simp) rfl (hb hby d11_42) ⟨by rw [hv], rfl⟩ (by decide) (by decide)
  ·refine Fi.by' (st' := T3.setTop (mkF m 29 #[.val (.int (b2i hp)), .val (.int pv), .val (.int cu), .val (.int (b2i hn)), .val (.int nx)] [(.int (b2i hp))])) (fun t k => ?_) ?_
   ·refine XS.ifNo W3.here hx rfl (hb hby d11_25) rfl ((if0 _ _).trans (feq hc25_4).1) ?_
    refine XS.iloadN W3.here hx rfl (hb hby d11_28) rfl ?_
    exact k
   by_cases hc29_5 : (b2i hp) = (0 : Int32)
   ·refine Fi.by' (st' := T3.setTop (mkF m 40 #[.val (.int (b2i hp)), .val (.int pv), .val (.int cu), .val (.int (b2i hn)), .val (.int nx)] [(.int (0 : Int32))])) (fun t k => ?_) ?_
    ·refine XS.ifYes W3.here hx rfl (pc0 := 29) (pc' := 39) rfl (hb hby d11_29) rfl ((if0 _ _).trans (teq hc29_5).1) (by decide) (by decide) ?_
     refine iconstZ W3.here hx rfl (hb hby d11_39) (z := (0 : Int32)) rfl ?_
     exact k
    have f0 := b2i_f hc4_2
    have f1 := b2i_t hc25_4
    have f2 := b2i_f hc29_5
    have hv : b2i (fineB hp pv cu hn nx) = (0 : Int32) := by simp [b2i, fineB, f0, f1, f2]
    exact W3.iret hx hlk hret (by simp) rfl (hb hby d11_40) ⟨by rw [hv], rfl⟩ (by decide) (by decide)
   ·refine Fi.by' (st' := T3.setTop (mkF m 33 #[.val (.int (b2i hp)), .val (.int pv), .val (.int cu), .val (.int (b2i hn)), .val (.int nx)] [(.int pv)])) (fun t k => ?_) ?_
    ·refine XS.ifNo W3.here hx rfl (hb hby d11_29) rfl ((if0 _ _).trans (feq hc29_5).1) ?_
     refine XS.iloadN W3.here hx rfl (hb hby d11_32) rfl ?_
     exact k
    refine W3.callS hx (y := y_3) (ww hw 56 rfl) (ww hw 57 rfl) (ww hw 3 rfl) (ww hw 58 rfl) (by decide) (Pay.of_con (Wd := 0) (rm_isHi l Z a0 hw pv h0 n0 (by omega)) (ww hw 58 rfl) (ww hw 3 rfl) (hEL hw) (by decide) (by decide)) (g := (mkF m 33 #[.val (.int (b2i hp)), .val (.int pv), .val (.int cu), .val (.int (b2i hn)), .val (.int nx)] [(.int pv)])) rfl (by rw [hml]; rfl) (argsL := [(.int pv)]) (rest := []) (lenOf pd_0 rfl) rfl rfl (ble_ rfl) (hb hby d11_33) (by decide) (by decide) (fun v6 T6 h6 W6 sz6 q6 => ?_)
    obtain ⟨rfl, rfl⟩ := q6
    change Fi _ _ _ _ _ _ _ _ _ _ (T6.setTop (mkF m 36 #[.val (.int (b2i hp)), .val (.int pv), .val (.int cu), .val (.int (b2i hn)), .val (.int nx)] [(.int (b2i (hiB pv)))]))
    by_cases hc36_7 : (b2i (hiB pv)) = (0 : Int32)
    ·refine Fi.by' (st' := T6.setTop (mkF m 40 #[.val (.int (b2i hp)), .val (.int pv), .val (.int cu), .val (.int (b2i hn)), .val (.int nx)] [(.int (0 : Int32))])) (fun t k => ?_) ?_
     ·refine XS.ifNo W6.here hx rfl (hb hby d11_36) rfl ((if0 _ _).trans (teq hc36_7).2) ?_
      refine iconstZ W6.here hx rfl (hb hby d11_39) (z := (0 : Int32)) rfl ?_
      exact k
     have f0 := b2i_f hc4_2
     have f1 := b2i_t hc25_4
     have f2 := b2i_t hc29_5
     have f3 := b2i_f hc36_7
     have hv : b2i (fineB hp pv cu hn nx) = (0 : Int32) := by simp [b2i, fineB, f0, f1, f2, f3]
     exact W6.iret hx hlk hret (by simp) rfl (hb hby d11_40) ⟨by rw [hv], rfl⟩ (by decide) (by decide)
    ·refine Fi.by' (st' := T6.setTop (mkF m 42 #[.val (.int (b2i hp)), .val (.int pv), .val (.int cu), .val (.int (b2i hn)), .val (.int nx)] [(.int (1 : Int32))])) (fun t k => ?_) ?_
     ·refine XS.ifYes W6.here hx rfl (pc0 := 36) (pc' := 41) rfl (hb hby d11_36) rfl ((if0 _ _).trans (feq hc36_7).2) (by decide) (by decide) ?_
      refine iconstZ W6.here hx rfl (hb hby d11_41) (z := (1 : Int32)) rfl ?_
      exact k
     have f0 := b2i_f hc4_2
     have f1 := b2i_t hc25_4
     have f2 := b2i_t hc29_5
     have f3 := b2i_t hc36_7
     have hv : b2i (fineB hp pv cu hn nx) = (1 : Int32) := by simp [b2i, fineB, f0, f1, f2, f3]
     exact W6.iret hx hlk hret (by simp) rfl (hb hby d11_42) ⟨by rw [hv], rfl⟩ (by decide) (by decide)
 ·refine Fi.by' (st' := T1.setTop (mkF m 8 #[.val (.int (b2i hp)), .val (.int pv), .val (.int cu), .val (.int (b2i hn)), .val (.int nx)] [(.int (b2i hn))])) (fun t k => ?_) ?_
  ·refine XS.ifNo W1.here hx rfl (hb hby d11_4) rfl ((if0 _ _).trans (feq hc4_2).1) ?_
   refine XS.iloadN W1.here hx rfl (hb hby d11_7) rfl ?_
   exact k
  by_cases hc8_8 : (b2i hn) = (0 : Int32)
  ·refine Fi.by' (st' := T1.setTop (mkF m 20 #[.val (.int (b2i hp)), .val (.int pv), .val (.int cu), .val (.int (b2i hn)), .val (.int nx)] [(.int (0 : Int32))])) (fun t k => ?_) ?_
   ·refine XS.ifYes W1.here hx rfl (pc0 := 8) (pc' := 19) rfl (hb hby d11_8) rfl ((if0 _ _).trans (teq hc8_8).1) (by decide) (by decide) ?_
    refine iconstZ W1.here hx rfl (hb hby d11_19) (z := (0 : Int32)) rfl ?_
    exact k
   have f0 := b2i_t hc4_2
   have f1 := b2i_f hc8_8
   have hv : b2i (fineB hp pv cu hn nx) = (0 : Int32) := by simp [b2i, fineB, f0, f1]
   exact W1.iret hx hlk hret (by simp) rfl (hb hby d11_20) ⟨by rw [hv], rfl⟩ (by decide) (by decide)
  ·refine Fi.by' (st' := T1.setTop (mkF m 13 #[.val (.int (b2i hp)), .val (.int pv), .val (.int cu), .val (.int (b2i hn)), .val (.int nx)] [(.int nx)])) (fun t k => ?_) ?_
   ·refine XS.ifNo W1.here hx rfl (hb hby d11_8) rfl ((if0 _ _).trans (feq hc8_8).1) ?_
    refine XS.iload W1.here hx rfl (hb hby d11_11) rfl ?_
    exact k
   refine W1.callS hx (y := y_4) (ww hw 60 rfl) (ww hw 61 rfl) (ww hw 3 rfl) (ww hw 62 rfl) (by decide) (Pay.of_con (Wd := 0) (rm_isLo l Z a0 hw nx h0 n0 (by omega)) (ww hw 62 rfl) (ww hw 3 rfl) (hEL hw) (by decide) (by decide)) (g := (mkF m 13 #[.val (.int (b2i hp)), .val (.int pv), .val (.int cu), .val (.int (b2i hn)), .val (.int nx)] [(.int nx)])) rfl (by rw [hml]; rfl) (argsL := [(.int nx)]) (rest := []) (lenOf pd_0 rfl) rfl rfl (ble_ rfl) (hb hby d11_13) (by decide) (by decide) (fun v9 T9 h9 W9 sz9 q9 => ?_)
   obtain ⟨rfl, rfl⟩ := q9
   change Fi _ _ _ _ _ _ _ _ _ _ (T9.setTop (mkF m 16 #[.val (.int (b2i hp)), .val (.int pv), .val (.int cu), .val (.int (b2i hn)), .val (.int nx)] [(.int (b2i (loB nx)))]))
   by_cases hc16_10 : (b2i (loB nx)) = (0 : Int32)
   ·refine Fi.by' (st' := T9.setTop (mkF m 20 #[.val (.int (b2i hp)), .val (.int pv), .val (.int cu), .val (.int (b2i hn)), .val (.int nx)] [(.int (0 : Int32))])) (fun t k => ?_) ?_
    ·refine XS.ifNo W9.here hx rfl (hb hby d11_16) rfl ((if0 _ _).trans (teq hc16_10).2) ?_
     refine iconstZ W9.here hx rfl (hb hby d11_19) (z := (0 : Int32)) rfl ?_
     exact k
    have f0 := b2i_t hc4_2
    have f1 := b2i_t hc8_8
    have f2 := b2i_f hc16_10
    have hv : b2i (fineB hp pv cu hn nx) = (0 : Int32) := by simp [b2i, fineB, f0, f1, f2]
    exact W9.iret hx hlk hret (by simp) rfl (hb hby d11_20) ⟨by rw [hv], rfl⟩ (by decide) (by decide)
   ·refine Fi.by' (st' := T9.setTop (mkF m 22 #[.val (.int (b2i hp)), .val (.int pv), .val (.int cu), .val (.int (b2i hn)), .val (.int nx)] [(.int cu)])) (fun t k => ?_) ?_
    ·refine XS.ifYes W9.here hx rfl (pc0 := 16) (pc' := 21) rfl (hb hby d11_16) rfl ((if0 _ _).trans (feq hc16_10).2) (by decide) (by decide) ?_
     refine XS.iloadN W9.here hx rfl (hb hby d11_21) rfl ?_
     exact k
    refine W9.callS hx (y := y_4) (ww hw 60 rfl) (ww hw 61 rfl) (ww hw 3 rfl) (ww hw 62 rfl) (by decide) (Pay.of_con (Wd := 0) (rm_isLo l Z a0 hw cu h0 n0 (by omega)) (ww hw 62 rfl) (ww hw 3 rfl) (hEL hw) (by decide) (by decide)) (g := (mkF m 22 #[.val (.int (b2i hp)), .val (.int pv), .val (.int cu), .val (.int (b2i hn)), .val (.int nx)] [(.int cu)])) rfl (by rw [hml]; rfl) (argsL := [(.int cu)]) (rest := []) (lenOf pd_0 rfl) rfl rfl (ble_ rfl) (hb hby d11_22) (by decide) (by decide) (fun v11 T11 h11 W11 sz11 q11 => ?_)
    obtain ⟨rfl, rfl⟩ := q11
    change Fi _ _ _ _ _ _ _ _ _ _ (T11.setTop (mkF m 25 #[.val (.int (b2i hp)), .val (.int pv), .val (.int cu), .val (.int (b2i hn)), .val (.int nx)] [(.int (b2i (loB cu)))]))
    by_cases hc25_12 : (b2i (loB cu)) = (0 : Int32)
    ·refine Fi.by' (st' := T11.setTop (mkF m 42 #[.val (.int (b2i hp)), .val (.int pv), .val (.int cu), .val (.int (b2i hn)), .val (.int nx)] [(.int (1 : Int32))])) (fun t k => ?_) ?_
     ·refine XS.ifYes W11.here hx rfl (pc0 := 25) (pc' := 41) rfl (hb hby d11_25) rfl ((if0 _ _).trans (teq hc25_12).1) (by decide) (by decide) ?_
      refine iconstZ W11.here hx rfl (hb hby d11_41) (z := (1 : Int32)) rfl ?_
      exact k
     have f0 := b2i_t hc4_2
     have f1 := b2i_t hc8_8
     have f2 := b2i_t hc16_10
     have f3 := b2i_f hc25_12
     have hv : b2i (fineB hp pv cu hn nx) = (1 : Int32) := by simp [b2i, fineB, f0, f1, f2, f3]
     exact W11.iret hx hlk hret (by simp) rfl (hb hby d11_42) ⟨by rw [hv], rfl⟩ (by decide) (by decide)
    ·refine Fi.by' (st' := T11.setTop (mkF m 29 #[.val (.int (b2i hp)), .val (.int pv), .val (.int cu), .val (.int (b2i hn)), .val (.int nx)] [(.int (b2i hp))])) (fun t k => ?_) ?_
     ·refine XS.ifNo W11.here hx rfl (hb hby d11_25) rfl ((if0 _ _).trans (feq hc25_12).1) ?_
      refine XS.iloadN W11.here hx rfl (hb hby d11_28) rfl ?_
      exact k
     by_cases hc29_13 : (b2i hp) = (0 : Int32)
     ·refine Fi.by' (st' := T11.setTop (mkF m 40 #[.val (.int (b2i hp)), .val (.int pv), .val (.int cu), .val (.int (b2i hn)), .val (.int nx)] [(.int (0 : Int32))])) (fun t k => ?_) ?_
      ·refine XS.ifYes W11.here hx rfl (pc0 := 29) (pc' := 39) rfl (hb hby d11_29) rfl ((if0 _ _).trans (teq hc29_13).1) (by decide) (by decide) ?_
       refine iconstZ W11.here hx rfl (hb hby d11_39) (z := (0 : Int32)) rfl ?_
       exact k
      have f0 := b2i_t hc4_2
      have f1 := b2i_t hc8_8
      have f2 := b2i_t hc16_10
      have f3 := b2i_t hc25_12
      have f4 := b2i_f hc29_13
      have hv : b2i (fineB hp pv cu hn nx) = (0 : Int32) := by simp [b2i, fineB, f0, f1, f2, f3, f4]
      exact W11.iret hx hlk hret (by simp) rfl (hb hby d11_40) ⟨by rw [hv], rfl⟩ (by decide) (by decide)
     ·refine Fi.by' (st' := T11.setTop (mkF m 33 #[.val (.int (b2i hp)), .val (.int pv), .val (.int cu), .val (.int (b2i hn)), .val (.int nx)] [(.int pv)])) (fun t k => ?_) ?_
      ·refine XS.ifNo W11.here hx rfl (hb hby d11_29) rfl ((if0 _ _).trans (feq hc29_13).1) ?_
       refine XS.iloadN W11.here hx rfl (hb hby d11_32) rfl ?_
       exact k
      refine W11.callS hx (y := y_3) (ww hw 56 rfl) (ww hw 57 rfl) (ww hw 3 rfl) (ww hw 58 rfl) (by decide) (Pay.of_con (Wd := 0) (rm_isHi l Z a0 hw pv h0 n0 (by omega)) (ww hw 58 rfl) (ww hw 3 rfl) (hEL hw) (by decide) (by decide)) (g := (mkF m 33 #[.val (.int (b2i hp)), .val (.int pv), .val (.int cu), .val (.int (b2i hn)), .val (.int nx)] [(.int pv)])) rfl (by rw [hml]; rfl) (argsL := [(.int pv)]) (rest := []) (lenOf pd_0 rfl) rfl rfl (ble_ rfl) (hb hby d11_33) (by decide) (by decide) (fun v14 T14 h14 W14 sz14 q14 => ?_)
      obtain ⟨rfl, rfl⟩ := q14
      change Fi _ _ _ _ _ _ _ _ _ _ (T14.setTop (mkF m 36 #[.val (.int (b2i hp)), .val (.int pv), .val (.int cu), .val (.int (b2i hn)), .val (.int nx)] [(.int (b2i (hiB pv)))]))
      by_cases hc36_15 : (b2i (hiB pv)) = (0 : Int32)
      ·refine Fi.by' (st' := T14.setTop (mkF m 40 #[.val (.int (b2i hp)), .val (.int pv), .val (.int cu), .val (.int (b2i hn)), .val (.int nx)] [(.int (0 : Int32))])) (fun t k => ?_) ?_
       ·refine XS.ifNo W14.here hx rfl (hb hby d11_36) rfl ((if0 _ _).trans (teq hc36_15).2) ?_
        refine iconstZ W14.here hx rfl (hb hby d11_39) (z := (0 : Int32)) rfl ?_
        exact k
       have f0 := b2i_t hc4_2
       have f1 := b2i_t hc8_8
       have f2 := b2i_t hc16_10
       have f3 := b2i_t hc25_12
       have f4 := b2i_t hc29_13
       have f5 := b2i_f hc36_15
       have hv : b2i (fineB hp pv cu hn nx) = (0 : Int32) := by simp [b2i, fineB, f0, f1, f2, f3, f4, f5]
       exact W14.iret hx hlk hret (by simp) rfl (hb hby d11_40) ⟨by rw [hv], rfl⟩ (by decide) (by decide)
      ·refine Fi.by' (st' := T14.setTop (mkF m 42 #[.val (.int (b2i hp)), .val (.int pv), .val (.int cu), .val (.int (b2i hn)), .val (.int nx)] [(.int (1 : Int32))])) (fun t k => ?_) ?_
       ·refine XS.ifYes W14.here hx rfl (pc0 := 36) (pc' := 41) rfl (hb hby d11_36) rfl ((if0 _ _).trans (feq hc36_15).2) (by decide) (by decide) ?_
        refine iconstZ W14.here hx rfl (hb hby d11_41) (z := (1 : Int32)) rfl ?_
        exact k
       have f0 := b2i_t hc4_2
       have f1 := b2i_t hc8_8
       have f2 := b2i_t hc16_10
       have f3 := b2i_t hc25_12
       have f4 := b2i_t hc29_13
       have f5 := b2i_t hc36_15
       have hv : b2i (fineB hp pv cu hn nx) = (1 : Int32) := by simp [b2i, fineB, f0, f1, f2, f3, f4, f5]
       exact W14.iret hx hlk hret (by simp) rfl (hb hby d11_42) ⟨by rw [hv], rfl⟩ (by decide) (by decide)
def Q_chHi (Z : State) (ch : Int32) (h0 : Heap) (v : Option Value) (h : Heap) : Prop := v = some (.int (b2i (hiB ch))) ∧ h0 = h
set_option maxRecDepth 65536 in
set_option maxHeartbeats 40000000 in
theorem rm_chHi (l : Launch) (Z : State) (a0 : Array Value) (hw : ∀ d ∈ tables_1, d.before a0 Z = true) (ch : Int32) (h0 : Heap) (n0 : Nat) (Z0 : n0 ≤ h0.size)  :
  Con l Z EL y_6 jdk_89_method_14_code 1 (some .boolean) [] ({ frames := 0, cells := 0, slots := 0, locals := 0 } : Room) #[(.int ch)] h0 n0 (Q_chHi Z ch h0) := by
 refine Con.intro (own := "java/lang/Character") rfl (plainFor_of_name plain_java_lang_Character) (hEL hw) ?_
 intro p e s m below meth c s₁ hx hby hml hret hlk hnm W0
 refine Fi.cast (show entryFrame m #[(.int ch)] 1 = (mkF m 0 #[.val (.int ch)] []) from by first | (simp [entryFrame, mkF, argsToLocals, Value.category]; done) | rfl) ?_
 refine Fi.by' (st' := s₁.setTop (mkF m 1 #[.val (.int ch)] [(.int ch)])) (fun t k => ?_) ?_
 ·refine XS.iloadN W0.here hx rfl (hb hby d19_0) rfl ?_
  exact k
 refine W0.ldcI hx (ww hw 90 rfl) (g := (mkF m 1 #[.val (.int ch)] [(.int ch)])) rfl (hb hby d19_1) ?_
 change Fi _ _ _ _ _ _ _ _ _ _ (s₁.setTop (mkF m 3 #[.val (.int ch)] [(.int (55296 : Int32)), (.int ch)]))
 by_cases hc3_1 : ch < (55296 : Int32)
 ·refine Fi.by' (st' := s₁.setTop (mkF m 17 #[.val (.int ch)] [(.int (0 : Int32))])) (fun t k => ?_) ?_
  ·refine XS.icmpYes W0.here hx rfl (pc0 := 3) (pc' := 16) rfl (hb hby d19_3) rfl (tlt hc3_1).1 (by decide) (by decide) ?_
   refine iconstZ W0.here hx rfl (hb hby d19_16) (z := (0 : Int32)) rfl ?_
   exact k
  have f0 := hc3_1
  have hv : b2i (hiB ch) = (0 : Int32) := by simp [b2i, hiB, f0]
  exact W0.iret hx hlk hret (by simp) rfl (hb hby d19_17) ⟨by rw [hv], rfl⟩ (by decide) (by decide)
 ·refine Fi.by' (st' := s₁.setTop (mkF m 7 #[.val (.int ch)] [(.int ch)])) (fun t k => ?_) ?_
  ·refine XS.icmpNo W0.here hx rfl (hb hby d19_3) rfl (flt hc3_1).1 ?_
   refine XS.iloadN W0.here hx rfl (hb hby d19_6) rfl ?_
   exact k
  refine W0.ldcI hx (ww hw 126 rfl) (g := (mkF m 7 #[.val (.int ch)] [(.int ch)])) rfl (hb hby d19_7) ?_
  change Fi _ _ _ _ _ _ _ _ _ _ (s₁.setTop (mkF m 9 #[.val (.int ch)] [(.int (56320 : Int32)), (.int ch)]))
  by_cases hc9_2 : ch < (56320 : Int32)
  ·refine Fi.by' (st' := s₁.setTop (mkF m 17 #[.val (.int ch)] [(.int (1 : Int32))])) (fun t k => ?_) ?_
   ·refine XS.icmpNo W0.here hx rfl (hb hby d19_9) rfl (tlt hc9_2).2.1 ?_
    refine iconstZ W0.here hx rfl (hb hby d19_12) (z := (1 : Int32)) rfl ?_
    refine XS.goto W0.here hx rfl (pc0 := 13) (pc' := 17) rfl (hb hby d19_13) (by decide) (by decide) ?_
    exact k
   have f0 := hc3_1
   have f1 := ((lt_hi _).mp hc9_2)
   have hv : b2i (hiB ch) = (1 : Int32) := by simp [b2i, hiB, f0, f1]
   exact W0.iret hx hlk hret (by simp) rfl (hb hby d19_17) ⟨by rw [hv], rfl⟩ (by decide) (by decide)
  ·refine Fi.by' (st' := s₁.setTop (mkF m 17 #[.val (.int ch)] [(.int (0 : Int32))])) (fun t k => ?_) ?_
   ·refine XS.icmpYes W0.here hx rfl (pc0 := 9) (pc' := 16) rfl (hb hby d19_9) rfl (flt hc9_2).2.1 (by decide) (by decide) ?_
    refine iconstZ W0.here hx rfl (hb hby d19_16) (z := (0 : Int32)) rfl ?_
    exact k
   have f0 := hc3_1
   have f1 := (Decidable.not_not.mp (fun q => hc9_2 ((lt_hi _).mpr q)))
   have hv : b2i (hiB ch) = (0 : Int32) := by simp [b2i, hiB, f0, f1]
   exact W0.iret hx hlk hret (by simp) rfl (hb hby d19_17) ⟨by rw [hv], rfl⟩ (by decide) (by decide)
def Q_chLo (Z : State) (ch : Int32) (h0 : Heap) (v : Option Value) (h : Heap) : Prop := v = some (.int (b2i (loB ch))) ∧ h0 = h
set_option maxRecDepth 65536 in
set_option maxHeartbeats 40000000 in
theorem rm_chLo (l : Launch) (Z : State) (a0 : Array Value) (hw : ∀ d ∈ tables_1, d.before a0 Z = true) (ch : Int32) (h0 : Heap) (n0 : Nat) (Z0 : n0 ≤ h0.size)  :
  Con l Z EL y_7 jdk_89_method_15_code 1 (some .boolean) [] ({ frames := 0, cells := 0, slots := 0, locals := 0 } : Room) #[(.int ch)] h0 n0 (Q_chLo Z ch h0) := by
 refine Con.intro (own := "java/lang/Character") rfl (plainFor_of_name plain_java_lang_Character) (hEL hw) ?_
 intro p e s m below meth c s₁ hx hby hml hret hlk hnm W0
 refine Fi.cast (show entryFrame m #[(.int ch)] 1 = (mkF m 0 #[.val (.int ch)] []) from by first | (simp [entryFrame, mkF, argsToLocals, Value.category]; done) | rfl) ?_
 refine Fi.by' (st' := s₁.setTop (mkF m 1 #[.val (.int ch)] [(.int ch)])) (fun t k => ?_) ?_
 ·refine XS.iloadN W0.here hx rfl (hb hby d29_0) rfl ?_
  exact k
 refine W0.ldcI hx (ww hw 126 rfl) (g := (mkF m 1 #[.val (.int ch)] [(.int ch)])) rfl (hb hby d29_1) ?_
 change Fi _ _ _ _ _ _ _ _ _ _ (s₁.setTop (mkF m 3 #[.val (.int ch)] [(.int (56320 : Int32)), (.int ch)]))
 by_cases hc3_1 : ch < (56320 : Int32)
 ·refine Fi.by' (st' := s₁.setTop (mkF m 17 #[.val (.int ch)] [(.int (0 : Int32))])) (fun t k => ?_) ?_
  ·refine XS.icmpYes W0.here hx rfl (pc0 := 3) (pc' := 16) rfl (hb hby d29_3) rfl (tlt hc3_1).1 (by decide) (by decide) ?_
   refine iconstZ W0.here hx rfl (hb hby d29_16) (z := (0 : Int32)) rfl ?_
   exact k
  have f0 := hc3_1
  have hv : b2i (loB ch) = (0 : Int32) := by simp [b2i, loB, f0]
  exact W0.iret hx hlk hret (by simp) rfl (hb hby d29_17) ⟨by rw [hv], rfl⟩ (by decide) (by decide)
 ·refine Fi.by' (st' := s₁.setTop (mkF m 7 #[.val (.int ch)] [(.int ch)])) (fun t k => ?_) ?_
  ·refine XS.icmpNo W0.here hx rfl (hb hby d29_3) rfl (flt hc3_1).1 ?_
   refine XS.iloadN W0.here hx rfl (hb hby d29_6) rfl ?_
   exact k
  refine W0.ldcI hx (ww hw 127 rfl) (g := (mkF m 7 #[.val (.int ch)] [(.int ch)])) rfl (hb hby d29_7) ?_
  change Fi _ _ _ _ _ _ _ _ _ _ (s₁.setTop (mkF m 9 #[.val (.int ch)] [(.int (57344 : Int32)), (.int ch)]))
  by_cases hc9_2 : ch < (57344 : Int32)
  ·refine Fi.by' (st' := s₁.setTop (mkF m 17 #[.val (.int ch)] [(.int (1 : Int32))])) (fun t k => ?_) ?_
   ·refine XS.icmpNo W0.here hx rfl (hb hby d29_9) rfl (tlt hc9_2).2.1 ?_
    refine iconstZ W0.here hx rfl (hb hby d29_12) (z := (1 : Int32)) rfl ?_
    refine XS.goto W0.here hx rfl (pc0 := 13) (pc' := 17) rfl (hb hby d29_13) (by decide) (by decide) ?_
    exact k
   have f0 := hc3_1
   have f1 := ((lt_su _).mp hc9_2)
   have hv : b2i (loB ch) = (1 : Int32) := by simp [b2i, loB, f0, f1]
   exact W0.iret hx hlk hret (by simp) rfl (hb hby d29_17) ⟨by rw [hv], rfl⟩ (by decide) (by decide)
  ·refine Fi.by' (st' := s₁.setTop (mkF m 17 #[.val (.int ch)] [(.int (0 : Int32))])) (fun t k => ?_) ?_
   ·refine XS.icmpYes W0.here hx rfl (pc0 := 9) (pc' := 16) rfl (hb hby d29_9) rfl (flt hc9_2).2.1 (by decide) (by decide) ?_
    refine iconstZ W0.here hx rfl (hb hby d29_16) (z := (0 : Int32)) rfl ?_
    exact k
   have f0 := hc3_1
   have f1 := (Decidable.not_not.mp (fun q => hc9_2 ((lt_su _).mpr q)))
   have hv : b2i (loB ch) = (0 : Int32) := by simp [b2i, loB, f0, f1]
   exact W0.iret hx hlk hret (by simp) rfl (hb hby d29_17) ⟨by rw [hv], rfl⟩ (by decide) (by decide)
def Q_chSu (Z : State) (ch : Int32) (h0 : Heap) (v : Option Value) (h : Heap) : Prop := v = some (.int (b2i (suB ch))) ∧ h0 = h
set_option maxRecDepth 65536 in
set_option maxHeartbeats 40000000 in
theorem rm_chSu (l : Launch) (Z : State) (a0 : Array Value) (hw : ∀ d ∈ tables_1, d.before a0 Z = true) (ch : Int32) (h0 : Heap) (n0 : Nat) (Z0 : n0 ≤ h0.size)  :
  Con l Z EL y_8 jdk_89_method_16_code 1 (some .boolean) [] ({ frames := 0, cells := 0, slots := 0, locals := 0 } : Room) #[(.int ch)] h0 n0 (Q_chSu Z ch h0) := by
 refine Con.intro (own := "java/lang/Character") rfl (plainFor_of_name plain_java_lang_Character) (hEL hw) ?_
 intro p e s m below meth c s₁ hx hby hml hret hlk hnm W0
 refine Fi.cast (show entryFrame m #[(.int ch)] 1 = (mkF m 0 #[.val (.int ch)] []) from by first | (simp [entryFrame, mkF, argsToLocals, Value.category]; done) | rfl) ?_
 refine Fi.by' (st' := s₁.setTop (mkF m 1 #[.val (.int ch)] [(.int ch)])) (fun t k => ?_) ?_
 ·refine XS.iloadN W0.here hx rfl (hb hby d20_0) rfl ?_
  exact k
 refine W0.ldcI hx (ww hw 90 rfl) (g := (mkF m 1 #[.val (.int ch)] [(.int ch)])) rfl (hb hby d20_1) ?_
 change Fi _ _ _ _ _ _ _ _ _ _ (s₁.setTop (mkF m 3 #[.val (.int ch)] [(.int (55296 : Int32)), (.int ch)]))
 by_cases hc3_1 : ch < (55296 : Int32)
 ·refine Fi.by' (st' := s₁.setTop (mkF m 17 #[.val (.int ch)] [(.int (0 : Int32))])) (fun t k => ?_) ?_
  ·refine XS.icmpYes W0.here hx rfl (pc0 := 3) (pc' := 16) rfl (hb hby d20_3) rfl (tlt hc3_1).1 (by decide) (by decide) ?_
   refine iconstZ W0.here hx rfl (hb hby d20_16) (z := (0 : Int32)) rfl ?_
   exact k
  have f0 := hc3_1
  have hv : b2i (suB ch) = (0 : Int32) := by simp [b2i, suB, f0]
  exact W0.iret hx hlk hret (by simp) rfl (hb hby d20_17) ⟨by rw [hv], rfl⟩ (by decide) (by decide)
 ·refine Fi.by' (st' := s₁.setTop (mkF m 7 #[.val (.int ch)] [(.int ch)])) (fun t k => ?_) ?_
  ·refine XS.icmpNo W0.here hx rfl (hb hby d20_3) rfl (flt hc3_1).1 ?_
   refine XS.iloadN W0.here hx rfl (hb hby d20_6) rfl ?_
   exact k
  refine W0.ldcI hx (ww hw 127 rfl) (g := (mkF m 7 #[.val (.int ch)] [(.int ch)])) rfl (hb hby d20_7) ?_
  change Fi _ _ _ _ _ _ _ _ _ _ (s₁.setTop (mkF m 9 #[.val (.int ch)] [(.int (57344 : Int32)), (.int ch)]))
  by_cases hc9_2 : ch < (57344 : Int32)
  ·refine Fi.by' (st' := s₁.setTop (mkF m 17 #[.val (.int ch)] [(.int (1 : Int32))])) (fun t k => ?_) ?_
   ·refine XS.icmpNo W0.here hx rfl (hb hby d20_9) rfl (tlt hc9_2).2.1 ?_
    refine iconstZ W0.here hx rfl (hb hby d20_12) (z := (1 : Int32)) rfl ?_
    refine XS.goto W0.here hx rfl (pc0 := 13) (pc' := 17) rfl (hb hby d20_13) (by decide) (by decide) ?_
    exact k
   have f0 := hc3_1
   have f1 := hc9_2
   have hv : b2i (suB ch) = (1 : Int32) := by simp [b2i, suB, f0, f1]
   exact W0.iret hx hlk hret (by simp) rfl (hb hby d20_17) ⟨by rw [hv], rfl⟩ (by decide) (by decide)
  ·refine Fi.by' (st' := s₁.setTop (mkF m 17 #[.val (.int ch)] [(.int (0 : Int32))])) (fun t k => ?_) ?_
   ·refine XS.icmpYes W0.here hx rfl (pc0 := 9) (pc' := 16) rfl (hb hby d20_9) rfl (flt hc9_2).2.1 (by decide) (by decide) ?_
    refine iconstZ W0.here hx rfl (hb hby d20_16) (z := (0 : Int32)) rfl ?_
    exact k
   have f0 := hc3_1
   have f1 := hc9_2
   have hv : b2i (suB ch) = (0 : Int32) := by simp [b2i, suB, f0, f1]
   exact W0.iret hx hlk hret (by simp) rfl (hb hby d20_17) ⟨by rw [hv], rfl⟩ (by decide) (by decide)
def Q_nbl (Z : State) (nn : Int32) (h0 : Heap) (v : Option Value) (h : Heap) : Prop := v = some (.int (nn <<< ((1 : Int32) &&& 31))) ∧ h0 = h
set_option maxRecDepth 65536 in
set_option maxHeartbeats 40000000 in
theorem rm_nbl (l : Launch) (Z : State) (a0 : Array Value) (hw : ∀ d ∈ tables_1, d.before a0 Z = true) (nn : Int32) (h0 : Heap) (n0 : Nat) (Z0 : n0 ≤ h0.size) (q0 : ¬ nn < 0) (q1 : nn < 1073741823) :
  Con l Z EL y_9 jdk_52_method_3_code 1 (some .int) [] ({ frames := 0, cells := 0, slots := 0, locals := 0 } : Room) #[(.int nn)] h0 n0 (Q_nbl Z nn h0) := by
 refine Con.intro (own := "java/lang/StringUTF16") rfl (plainFor_of_name plain_java_lang_StringUTF16) (hEL hw) ?_
 intro p e s m below meth c s₁ hx hby hml hret hlk hnm W0
 refine Fi.cast (show entryFrame m #[(.int nn)] 1 = (mkF m 0 #[.val (.int nn)] []) from by first | (simp [entryFrame, mkF, argsToLocals, Value.category]; done) | rfl) ?_
 refine Fi.by' (st' := s₁.setTop (mkF m 1 #[.val (.int nn)] [(.int nn)])) (fun t k => ?_) ?_
 ·refine XS.iloadN W0.here hx rfl (hb hby d23_0) rfl ?_
  exact k
 refine Fi.by' (st' := s₁.setTop (mkF m 13 #[.val (.int nn)] [(.int nn)])) (fun t k => ?_) ?_
 ·refine XS.ifYes W0.here hx rfl (pc0 := 1) (pc' := 12) rfl (hb hby d23_1) rfl ((if0 _ _).trans (flt q0).2.1) (by decide) (by decide) ?_
  refine XS.iloadN W0.here hx rfl (hb hby d23_12) rfl ?_
  exact k
 refine W0.ldcI hx (ww hw 104 rfl) (g := (mkF m 13 #[.val (.int nn)] [(.int nn)])) rfl (hb hby d23_13) ?_
 change Fi _ _ _ _ _ _ _ _ _ _ (s₁.setTop (mkF m 15 #[.val (.int nn)] [(.int (1073741823 : Int32)), (.int nn)]))
 refine Fi.by' (st' := s₁.setTop (mkF m 58 #[.val (.int nn)] [(.int (nn <<< ((1 : Int32) &&& 31)))])) (fun t k => ?_) ?_
 ·refine XS.icmpYes W0.here hx rfl (pc0 := 15) (pc' := 55) rfl (hb hby d23_15) rfl (tlt q1).1 (by decide) (by decide) ?_
  refine XS.iloadN W0.here hx rfl (hb hby d23_55) rfl ?_
  refine iconstZ W0.here hx rfl (hb hby d23_56) (z := (1 : Int32)) rfl ?_
  refine XS.ishl W0.here hx rfl (hb hby d23_57) rfl ?_
  exact k
 exact W0.iret hx hlk hret (by simp) rfl (hb hby d23_58) ⟨rfl, rfl⟩ (by decide) (by decide)
def Q_putC (Z : State) (d : Addr) (ii ch N : Int32) (iN : Nat) (bs : List Int32) (kd : ClassId) (h0 : Heap) (v : Option Value) (h : Heap) : Prop := v = none ∧ Keep h0 h [d] ∧ Arv Z h d kd .byte N (((bs.set (2 * iN) ((ch >>> ((0 : Int32) &&& 31)).toInt8.toInt32)).set (2 * iN + 1) ((ch >>> ((8 : Int32) &&& 31)).toInt8.toInt32)).map Value.int) (.int (0 : Int32))
set_option maxRecDepth 65536 in
set_option maxHeartbeats 40000000 in
theorem rm_putC (l : Launch) (Z : State) (a0 : Array Value) (hw : ∀ d ∈ tables_1, d.before a0 Z = true) (d : Addr) (ii ch N : Int32) (iN : Nat) (bs : List Int32) (kd : ClassId) (h0 : Heap) (n0 : Nat) (Z0 : n0 ≤ h0.size) (g0 : n0 ≤ d) (D0 : Sta Z h0 "java/lang/StringUTF16" "$assertionsDisabled" "Z" (.int 1)) (HB0 : Sta Z h0 "java/lang/StringUTF16" "HI_BYTE_SHIFT" "I" (.int 0)) (LB0 : Sta Z h0 "java/lang/StringUTF16" "LO_BYTE_SHIFT" "I" (.int 8)) (hii : ii = Int32.ofNat iN) (hN : N.toNatClampNeg = bs.length) (hi2 : 2 * iN + 1 < bs.length) (h8 : bs.length ≤ 8) (B0 : Arv Z h0 d kd .byte N (bs.map Value.int) (.int (0 : Int32))) :
  Con l Z EL y_10 jdk_52_method_4_code 3 none [] ({ frames := 0, cells := 0, slots := 0, locals := 0 } : Room) #[(.ref d), (.int ii), (.int ch)] h0 n0 (Q_putC Z d ii ch N iN bs kd h0) := by
 refine Con.intro (own := "java/lang/StringUTF16") rfl (plainFor_of_name plain_java_lang_StringUTF16) (hEL hw) ?_
 intro p e s m below meth c s₁ hx hby hml hret hlk hnm W0
 refine Fi.cast (show entryFrame m #[(.ref d), (.int ii), (.int ch)] 3 = (mkF m 0 #[.val (.ref d), .val (.int ii), .val (.int ch)] []) from by first | (simp [entryFrame, mkF, argsToLocals, Value.category]; done) | rfl) ?_
 refine W0.getS hx (ww hw 108 rfl) D0 (g := (mkF m 0 #[.val (.ref d), .val (.int ii), .val (.int ch)] [])) rfl (hb hby d24_0) (fun T1 W1 => ?_)
 change Fi _ _ _ _ _ _ _ _ _ _ (T1.setTop (mkF m 3 #[.val (.ref d), .val (.int ii), .val (.int ch)] [(.int (1 : Int32))]))
 refine Fi.by' (st' := T1.setTop (mkF m 31 #[.val (.ref d), .val (.int ii), .val (.int ch)] [(.int (ii <<< ((1 : Int32) &&& 31)))])) (fun t k => ?_) ?_
 ·refine XS.ifYes W1.here hx rfl (pc0 := 3) (pc' := 28) rfl (hb hby d24_3) rfl ((if0 _ _).trans (feq (by decide : ¬ ((1 : Int32) = (0 : Int32)))).2) (by decide) (by decide) ?_
  refine XS.iloadN W1.here hx rfl (hb hby d24_28) rfl ?_
  refine iconstZ W1.here hx rfl (hb hby d24_29) (z := (1 : Int32)) rfl ?_
  refine XS.ishl W1.here hx rfl (hb hby d24_30) rfl ?_
  exact k
 obtain ⟨j1, hj1⟩ : ∃ z : Int32, z = (ii <<< ((1 : Int32) &&& 31)) := ⟨_, rfl⟩
 rw [← hj1]
 have J1 := idx4 hii (by omega) hj1
 refine Fi.by' (st' := T1.setTop (mkF m 38 #[.val (.ref d), .val (.int (j1 + (1 : Int32))), .val (.int ch)] [(.int ch), (.int j1), (.ref d)])) (fun t k => ?_) ?_
 ·refine XS.istoreN W1.here hx rfl (hb hby d24_31) rfl (l' := #[.val (.ref d), .val (.int j1), .val (.int ch)]) rfl ?_
  refine XS.aloadN W1.here hx rfl (hb hby d24_32) rfl rfl ?_
  refine XS.iloadN W1.here hx rfl (hb hby d24_33) rfl ?_
  refine XS.iinc W1.here hx rfl (hb hby d24_34) rfl (l' := #[.val (.ref d), .val (.int (j1 + (1 : Int32))), .val (.int ch)]) rfl ?_
  refine XS.iloadN W1.here hx rfl (hb hby d24_37) rfl ?_
  exact k
 refine W1.getS hx (ww hw 109 rfl) HB0 (g := (mkF m 38 #[.val (.ref d), .val (.int (j1 + (1 : Int32))), .val (.int ch)] [(.int ch), (.int j1), (.ref d)])) rfl (hb hby d24_38) (fun T2 W2 => ?_)
 change Fi _ _ _ _ _ _ _ _ _ _ (T2.setTop (mkF m 41 #[.val (.ref d), .val (.int (j1 + (1 : Int32))), .val (.int ch)] [(.int (0 : Int32)), (.int ch), (.int j1), (.ref d)]))
 refine Fi.by' (st' := T2.setTop (mkF m 43 #[.val (.ref d), .val (.int (j1 + (1 : Int32))), .val (.int ch)] [(.int ((ch >>> ((0 : Int32) &&& 31)).toInt8.toInt32)), (.int j1), (.ref d)])) (fun t k => ?_) ?_
 ·refine XS.ishr W2.here hx rfl (hb hby d24_41) rfl ?_
  refine XS.i2b W2.here hx rfl (hb hby d24_42) rfl ?_
  exact k
 refine Wk.bastoreN rfl W2 hx B0 (i := (2 * iN)) (by (try simp only [List.length_set]); omega) (j := j1) J1.1.1 J1.1.2 (by (try simp only [List.length_set]); exact hN) (low_ok (ch >>> ((0 : Int32) &&& 31))) (g := (mkF m 43 #[.val (.ref d), .val (.int (j1 + (1 : Int32))), .val (.int ch)] [(.int ((ch >>> ((0 : Int32) &&& 31)).toInt8.toInt32)), (.int j1), (.ref d)])) rfl rfl (hb hby d24_43) g0 (fun T3 h3 W3 R3 V3 => ?_)
 change Fi _ _ _ _ _ _ _ _ _ _ (T3.setTop (mkF m 44 #[.val (.ref d), .val (.int (j1 + (1 : Int32))), .val (.int ch)] []))
 refine Fi.by' (st' := T3.setTop (mkF m 47 #[.val (.ref d), .val (.int (j1 + (1 : Int32))), .val (.int ch)] [(.int ch), (.int (j1 + (1 : Int32))), (.ref d)])) (fun t k => ?_) ?_
 ·refine XS.aloadN W3.here hx rfl (hb hby d24_44) rfl rfl ?_
  refine XS.iloadN W3.here hx rfl (hb hby d24_45) rfl ?_
  refine XS.iloadN W3.here hx rfl (hb hby d24_46) rfl ?_
  exact k
 refine W3.getS hx (ww hw 110 rfl) (Sta.wr R3 LB0) (g := (mkF m 47 #[.val (.ref d), .val (.int (j1 + (1 : Int32))), .val (.int ch)] [(.int ch), (.int (j1 + (1 : Int32))), (.ref d)])) rfl (hb hby d24_47) (fun T4 W4 => ?_)
 change Fi _ _ _ _ _ _ _ _ _ _ (T4.setTop (mkF m 50 #[.val (.ref d), .val (.int (j1 + (1 : Int32))), .val (.int ch)] [(.int (8 : Int32)), (.int ch), (.int (j1 + (1 : Int32))), (.ref d)]))
 refine Fi.by' (st' := T4.setTop (mkF m 52 #[.val (.ref d), .val (.int (j1 + (1 : Int32))), .val (.int ch)] [(.int ((ch >>> ((8 : Int32) &&& 31)).toInt8.toInt32)), (.int (j1 + (1 : Int32))), (.ref d)])) (fun t k => ?_) ?_
 ·refine XS.ishr W4.here hx rfl (hb hby d24_50) rfl ?_
  refine XS.i2b W4.here hx rfl (hb hby d24_51) rfl ?_
  exact k
 refine Wk.bastoreN rfl W4 hx V3 (i := (2 * iN + 1)) (by (try simp only [List.length_set]); omega) (j := (j1 + (1 : Int32))) J1.2.1 J1.2.2 (by (try simp only [List.length_set]); exact hN) (low_ok (ch >>> ((8 : Int32) &&& 31))) (g := (mkF m 52 #[.val (.ref d), .val (.int (j1 + (1 : Int32))), .val (.int ch)] [(.int ((ch >>> ((8 : Int32) &&& 31)).toInt8.toInt32)), (.int (j1 + (1 : Int32))), (.ref d)])) rfl rfl (hb hby d24_52) g0 (fun T5 h5 W5 R5 V5 => ?_)
 change Fi _ _ _ _ _ _ _ _ _ _ (T5.setTop (mkF m 53 #[.val (.ref d), .val (.int (j1 + (1 : Int32))), .val (.int ch)] []))
 exact W5.vret hx hlk hret (hb hby d24_53) ⟨rfl, (((Keep.refl h0 [d]).wr R3 (Or.inl (List.mem_singleton.mpr rfl))).wr R5 (Or.inl (List.mem_singleton.mpr rfl))), V5⟩ (by decide) (by decide)
def Q_getC (Z : State) (d : Addr) (ii N u1 u2 : Int32) (iN : Nat) (vs : List Value) (kd : ClassId) (h0 : Heap) (v : Option Value) (h : Heap) : Prop := v = some (.int (StrChars.pairCh u1 u2)) ∧ h0 = h
set_option maxRecDepth 65536 in
set_option maxHeartbeats 40000000 in
theorem rm_getC (l : Launch) (Z : State) (a0 : Array Value) (hw : ∀ d ∈ tables_1, d.before a0 Z = true) (d : Addr) (ii N u1 u2 : Int32) (iN : Nat) (vs : List Value) (kd : ClassId) (h0 : Heap) (n0 : Nat) (Z0 : n0 ≤ h0.size) (D0 : Sta Z h0 "java/lang/StringUTF16" "$assertionsDisabled" "Z" (.int 1)) (HB0 : Sta Z h0 "java/lang/StringUTF16" "HI_BYTE_SHIFT" "I" (.int 0)) (LB0 : Sta Z h0 "java/lang/StringUTF16" "LO_BYTE_SHIFT" "I" (.int 8)) (hii : ii = Int32.ofNat iN) (h3 : iN ≤ 3) (hN : 2 * iN + 1 < N.toNatClampNeg) (B0 : Arv Z h0 d kd .byte N vs (.int (0 : Int32))) (e1 : vs.getD (2 * iN) (.int (0 : Int32)) = .int u1) (e2 : vs.getD (2 * iN + 1) (.int (0 : Int32)) = .int u2) :
  Con l Z EL y_11 jdk_52_method_5_code 2 (some .char) [] ({ frames := 0, cells := 0, slots := 0, locals := 0 } : Room) #[(.ref d), (.int ii)] h0 n0 (Q_getC Z d ii N u1 u2 iN vs kd h0) := by
 refine Con.intro (own := "java/lang/StringUTF16") rfl (plainFor_of_name plain_java_lang_StringUTF16) (hEL hw) ?_
 intro p e s m below meth c s₁ hx hby hml hret hlk hnm W0
 refine Fi.cast (show entryFrame m #[(.ref d), (.int ii)] 2 = (mkF m 0 #[.val (.ref d), .val (.int ii)] []) from by first | (simp [entryFrame, mkF, argsToLocals, Value.category]; done) | rfl) ?_
 refine W0.getS hx (ww hw 108 rfl) D0 (g := (mkF m 0 #[.val (.ref d), .val (.int ii)] [])) rfl (hb hby d25_0) (fun T1 W1 => ?_)
 change Fi _ _ _ _ _ _ _ _ _ _ (T1.setTop (mkF m 3 #[.val (.ref d), .val (.int ii)] [(.int (1 : Int32))]))
 refine Fi.by' (st' := T1.setTop (mkF m 31 #[.val (.ref d), .val (.int ii)] [(.int (ii <<< ((1 : Int32) &&& 31)))])) (fun t k => ?_) ?_
 ·refine XS.ifYes W1.here hx rfl (pc0 := 3) (pc' := 28) rfl (hb hby d25_3) rfl ((if0 _ _).trans (feq (by decide : ¬ ((1 : Int32) = (0 : Int32)))).2) (by decide) (by decide) ?_
  refine XS.iloadN W1.here hx rfl (hb hby d25_28) rfl ?_
  refine iconstZ W1.here hx rfl (hb hby d25_29) (z := (1 : Int32)) rfl ?_
  refine XS.ishl W1.here hx rfl (hb hby d25_30) rfl ?_
  exact k
 obtain ⟨j1, hj1⟩ : ∃ z : Int32, z = (ii <<< ((1 : Int32) &&& 31)) := ⟨_, rfl⟩
 rw [← hj1]
 have J1 := idx4 hii h3 hj1
 refine Fi.by' (st' := T1.setTop (mkF m 37 #[.val (.ref d), .val (.int (j1 + (1 : Int32)))] [(.int j1), (.ref d)])) (fun t k => ?_) ?_
 ·refine XS.istoreN W1.here hx rfl (hb hby d25_31) rfl (l' := #[.val (.ref d), .val (.int j1)]) rfl ?_
  refine XS.aloadN W1.here hx rfl (hb hby d25_32) rfl rfl ?_
  refine XS.iloadN W1.here hx rfl (hb hby d25_33) rfl ?_
  refine XS.iinc W1.here hx rfl (hb hby d25_34) rfl (l' := #[.val (.ref d), .val (.int (j1 + (1 : Int32)))]) rfl ?_
  exact k
 refine W1.baload hx B0 (j := j1) (v := .int u1) (lt_of_clamp (by rw [J1.1.1]; omega) J1.1.2) (by rw [J1.1.1]; exact e1) (g := (mkF m 37 #[.val (.ref d), .val (.int (j1 + (1 : Int32)))] [(.int j1), (.ref d)])) rfl rfl (hb hby d25_37) ?_
 change Fi _ _ _ _ _ _ _ _ _ _ (T1.setTop (mkF m 38 #[.val (.ref d), .val (.int (j1 + (1 : Int32)))] [(.int u1)]))
 refine Fi.by' (st' := T1.setTop (mkF m 42 #[.val (.ref d), .val (.int (j1 + (1 : Int32)))] [(.int (u1 &&& (255 : Int32)))])) (fun t k => ?_) ?_
 ·refine sipushZ W1.here hx rfl (hb hby d25_38) (z := (255 : Int32)) rfl ?_
  refine XS.iand W1.here hx rfl (hb hby d25_41) rfl ?_
  exact k
 refine W1.getS hx (ww hw 109 rfl) HB0 (g := (mkF m 42 #[.val (.ref d), .val (.int (j1 + (1 : Int32)))] [(.int (u1 &&& (255 : Int32)))])) rfl (hb hby d25_42) (fun T2 W2 => ?_)
 change Fi _ _ _ _ _ _ _ _ _ _ (T2.setTop (mkF m 45 #[.val (.ref d), .val (.int (j1 + (1 : Int32)))] [(.int (0 : Int32)), (.int (u1 &&& (255 : Int32)))]))
 refine Fi.by' (st' := T2.setTop (mkF m 48 #[.val (.ref d), .val (.int (j1 + (1 : Int32)))] [(.int (j1 + (1 : Int32))), (.ref d), (.int ((u1 &&& (255 : Int32)) <<< ((0 : Int32) &&& 31)))])) (fun t k => ?_) ?_
 ·refine XS.ishl W2.here hx rfl (hb hby d25_45) rfl ?_
  refine XS.aloadN W2.here hx rfl (hb hby d25_46) rfl rfl ?_
  refine XS.iloadN W2.here hx rfl (hb hby d25_47) rfl ?_
  exact k
 refine W2.baload hx B0 (j := (j1 + (1 : Int32))) (v := .int u2) (lt_of_clamp (by rw [J1.2.1]; omega) J1.2.2) (by rw [J1.2.1]; exact e2) (g := (mkF m 48 #[.val (.ref d), .val (.int (j1 + (1 : Int32)))] [(.int (j1 + (1 : Int32))), (.ref d), (.int ((u1 &&& (255 : Int32)) <<< ((0 : Int32) &&& 31)))])) rfl rfl (hb hby d25_48) ?_
 change Fi _ _ _ _ _ _ _ _ _ _ (T2.setTop (mkF m 49 #[.val (.ref d), .val (.int (j1 + (1 : Int32)))] [(.int u2), (.int ((u1 &&& (255 : Int32)) <<< ((0 : Int32) &&& 31)))]))
 refine Fi.by' (st' := T2.setTop (mkF m 53 #[.val (.ref d), .val (.int (j1 + (1 : Int32)))] [(.int (u2 &&& (255 : Int32))), (.int ((u1 &&& (255 : Int32)) <<< ((0 : Int32) &&& 31)))])) (fun t k => ?_) ?_
 ·refine sipushZ W2.here hx rfl (hb hby d25_49) (z := (255 : Int32)) rfl ?_
  refine XS.iand W2.here hx rfl (hb hby d25_52) rfl ?_
  exact k
 refine W2.getS hx (ww hw 110 rfl) LB0 (g := (mkF m 53 #[.val (.ref d), .val (.int (j1 + (1 : Int32)))] [(.int (u2 &&& (255 : Int32))), (.int ((u1 &&& (255 : Int32)) <<< ((0 : Int32) &&& 31)))])) rfl (hb hby d25_53) (fun T3 W3 => ?_)
 change Fi _ _ _ _ _ _ _ _ _ _ (T3.setTop (mkF m 56 #[.val (.ref d), .val (.int (j1 + (1 : Int32)))] [(.int (8 : Int32)), (.int (u2 &&& (255 : Int32))), (.int ((u1 &&& (255 : Int32)) <<< ((0 : Int32) &&& 31)))]))
 refine Fi.by' (st' := T3.setTop (mkF m 59 #[.val (.ref d), .val (.int (j1 + (1 : Int32)))] [(.int ((((u1 &&& (255 : Int32)) <<< ((0 : Int32) &&& 31)) ||| ((u2 &&& (255 : Int32)) <<< ((8 : Int32) &&& 31))).toUInt32.toUInt16.toUInt32.toInt32))])) (fun t k => ?_) ?_
 ·refine XS.ishl W3.here hx rfl (hb hby d25_56) rfl ?_
  refine XS.ior W3.here hx rfl (hb hby d25_57) rfl ?_
  refine XS.i2c W3.here hx rfl (hb hby d25_58) rfl ?_
  exact k
 exact W3.iret hx hlk hret (by simp) (ch_nar16 (pair_rng u1 u2)) (hb hby d25_59) ⟨rfl, rfl⟩ (by decide) (by decide)
def Q_cfl (Z : State) (d : Addr) (nn N2 : Int32) (kd : ClassId) (vs : List Value) (h0 : Heap) (v : Option Value) (h : Heap) : Prop := v = some (.int 1) ∧ h0 = h
set_option maxRecDepth 65536 in
set_option maxHeartbeats 40000000 in
theorem rm_cfl (l : Launch) (Z : State) (a0 : Array Value) (hw : ∀ d ∈ tables_1, d.before a0 Z = true) (d : Addr) (nn N2 : Int32) (kd : ClassId) (vs : List Value) (h0 : Heap) (n0 : Nat) (Z0 : n0 ≤ h0.size) (B0 : Arv Z h0 d kd .byte N2 vs (.int (0 : Int32))) (hr1 : (((nn - N2).toUInt32 >>> ((31 : Int32) &&& 31).toUInt32).toInt32).toInt8.toInt32 = 1) :
  Con l Z EL y_12 jdk_52_method_15_code 2 (some .byte) [] ({ frames := 0, cells := 0, slots := 0, locals := 0 } : Room) #[(.ref d), (.int nn)] h0 n0 (Q_cfl Z d nn N2 kd vs h0) := by
 refine Con.intro (own := "java/lang/StringUTF16") rfl (plainFor_of_name plain_java_lang_StringUTF16) (hEL hw) ?_
 intro p e s m below meth c s₁ hx hby hml hret hlk hnm W0
 refine Fi.cast (show entryFrame m #[(.ref d), (.int nn)] 2 = (mkF m 0 #[.val (.ref d), .val (.int nn)] []) from by first | (simp [entryFrame, mkF, argsToLocals, Value.category]; done) | rfl) ?_
 refine Fi.by' (st' := s₁.setTop (mkF m 2 #[.val (.ref d), .val (.int nn)] [(.ref d), (.int nn)])) (fun t k => ?_) ?_
 ·refine XS.iloadN W0.here hx rfl (hb hby d10_0) rfl ?_
  refine XS.aloadN W0.here hx rfl (hb hby d10_1) rfl rfl ?_
  exact k
 refine W0.alen hx B0 (g := (mkF m 2 #[.val (.ref d), .val (.int nn)] [(.ref d), (.int nn)])) rfl rfl (hb hby d10_2) ?_
 change Fi _ _ _ _ _ _ _ _ _ _ (s₁.setTop (mkF m 3 #[.val (.ref d), .val (.int nn)] [(.int N2), (.int nn)]))
 refine Fi.by' (st' := s₁.setTop (mkF m 8 #[.val (.ref d), .val (.int nn)] [(.int ((((nn - N2).toUInt32 >>> ((31 : Int32) &&& 31).toUInt32).toInt32).toInt8.toInt32))])) (fun t k => ?_) ?_
 ·refine XS.isub W0.here hx rfl (hb hby d10_3) rfl ?_
  refine bipushZ W0.here hx rfl (hb hby d10_4) (z := (31 : Int32)) rfl ?_
  refine XS.iushr W0.here hx rfl (hb hby d10_6) rfl ?_
  refine XS.i2b W0.here hx rfl (hb hby d10_7) rfl ?_
  exact k
 rw [show ((((nn - N2).toUInt32 >>> ((31 : Int32) &&& 31).toUInt32).toInt32).toInt8.toInt32) = (1 : Int32) from hr1]
 exact W0.iret hx hlk hret (by simp) rfl (hb hby d10_8) ⟨rfl, rfl⟩ (by decide) (by decide)
def Q_nbf1 (Z : State)  (h0 : Heap) (v : Option Value) (h : Heap) : Prop := ∃ (b : Addr) (k : ClassId), v = some (.ref b) ∧ Ext h0 h ∧ h0.size ≤ b ∧ Arv Z h b k .byte (2 : Int32) (([0, 0] : List Int32).map Value.int) (.int (0 : Int32))
set_option maxRecDepth 65536 in
set_option maxHeartbeats 40000000 in
theorem rm_nbf1 (l : Launch) (Z : State) (a0 : Array Value) (hw : ∀ d ∈ tables_1, d.before a0 Z = true)  (h0 : Heap) (n0 : Nat) (Z0 : n0 ≤ h0.size)  :
  Con l Z EL y_13 jdk_52_method_2_code 1 (some (.array .byte)) [] ({ frames := 1, cells := 1, slots := 2, locals := 12 } : Room) #[(.int (1 : Int32))] h0 n0 (Q_nbf1 Z  h0) := by
 refine Con.intro (own := "java/lang/StringUTF16") rfl (plainFor_of_name plain_java_lang_StringUTF16) (hEL hw) ?_
 intro p e s m below meth c s₁ hx hby hml hret hlk hnm W0
 refine Fi.cast (show entryFrame m #[(.int (1 : Int32))] 1 = (mkF m 0 #[.val (.int (1 : Int32))] []) from by first | (simp [entryFrame, mkF, argsToLocals, Value.category]; done) | rfl) ?_
 refine Fi.by' (st' := s₁.setTop (mkF m 1 #[.val (.int (1 : Int32))] [(.int (1 : Int32))])) (fun t k => ?_) ?_
 ·refine XS.iloadN W0.here hx rfl (hb hby d22_0) rfl ?_
  exact k
 refine W0.callS hx (y := y_9) (ww hw 101 rfl) (ww hw 102 rfl) (ww hw 45 rfl) (ww hw 103 rfl) (by decide) (Pay.of_con (Wd := 0) (rm_nbl l Z a0 hw (1 : Int32) h0 n0 (by omega) (by decide) (by decide)) (ww hw 103 rfl) (ww hw 45 rfl) (hEL hw) (by decide) (by decide)) (g := (mkF m 1 #[.val (.int (1 : Int32))] [(.int (1 : Int32))])) rfl (by rw [hml]; rfl) (argsL := [(.int (1 : Int32))]) (rest := []) (lenOf pd_1 rfl) rfl rfl (ble_ rfl) (hb hby d22_1) (by decide) (by decide) (fun v1 T1 h1 W1 sz1 q1 => ?_)
 obtain ⟨rfl, rfl⟩ := q1
 change Fi _ _ _ _ _ _ _ _ _ _ (T1.setTop (mkF m 4 #[.val (.int (1 : Int32))] [(.int ((1 : Int32) <<< ((1 : Int32) &&& 31)))]))
 rw [show ((1 : Int32) <<< ((1 : Int32) &&& 31)) = (2 : Int32) from by decide]
 refine W1.newP hx (aty := .byte) (ww hw 21 rfl) (g := (mkF m 4 #[.val (.int (1 : Int32))] [(.int (2 : Int32))])) rfl (hb hby d22_4) rfl (by decide) (cap := 2) (by decide) (by decide) (by decide) (by decide) (fun T2 h2 a2 k2 ha2 W2 E2 A2 => ?_)
 change Fi _ _ _ _ _ _ _ _ _ _ (T2.setTop (mkF m 6 #[.val (.int (1 : Int32))] [(.ref a2)]))
 have sz2 := E2.1
 have V2 : Arv Z h2 a2 k2 .byte (2 : Int32) (([0, 0] : List Int32).map Value.int) (.int (0 : Int32)) := A2.pad (pad_rep [] (.int (0 : Int32)) 2)
 exact W2.aret hx hlk hret rfl rfl (hb hby d22_6) ⟨a2, k2, rfl, E2, by omega, V2⟩ (by decide) (by decide)
def Q_toB1 (Z : State) (b : Addr) (c0 : Int32) (kc : ClassId) (h0 : Heap) (v : Option Value) (h : Heap) : Prop := ∃ (e : Addr) (k : ClassId), v = some (.ref e) ∧ Ext h0 h ∧ h0.size ≤ e ∧ Arv Z h e k .byte (2 : Int32) (StrChars.Road.wideBytes [c0]) (.int (0 : Int32))
set_option maxRecDepth 65536 in
set_option maxHeartbeats 40000000 in
theorem rm_toB1 (l : Launch) (Z : State) (a0 : Array Value) (hw : ∀ d ∈ tables_1, d.before a0 Z = true) (b : Addr) (c0 : Int32) (kc : ClassId) (h0 : Heap) (n0 : Nat) (Z0 : n0 ≤ h0.size) (D0 : Sta Z h0 "java/lang/StringUTF16" "$assertionsDisabled" "Z" (.int 1)) (HB0 : Sta Z h0 "java/lang/StringUTF16" "HI_BYTE_SHIFT" "I" (.int 0)) (LB0 : Sta Z h0 "java/lang/StringUTF16" "LO_BYTE_SHIFT" "I" (.int 8)) (C0 : Arv Z h0 b kc .char (1 : Int32) (([c0] : List Int32).map Value.int) (.int (0 : Int32))) :
  Con l Z EL y_14 jdk_52_method_14_code 5 (some (.array .byte)) [] ({ frames := 2, cells := 1, slots := 2, locals := 24 } : Room) #[(.ref b), (.int (0 : Int32)), (.int (1 : Int32))] h0 n0 (Q_toB1 Z b c0 kc h0) := by
 refine Con.intro (own := "java/lang/StringUTF16") rfl (plainFor_of_name plain_java_lang_StringUTF16) (hEL hw) ?_
 intro p e s m below meth c s₁ hx hby hml hret hlk hnm W0
 refine Fi.cast (show entryFrame m #[(.ref b), (.int (0 : Int32)), (.int (1 : Int32))] 5 = (mkF m 0 #[.val (.ref b), .val (.int (0 : Int32)), .val (.int (1 : Int32)), .unset, .unset] []) from by first | (simp [entryFrame, mkF, argsToLocals, Value.category]; done) | rfl) ?_
 refine Fi.by' (st' := s₁.setTop (mkF m 1 #[.val (.ref b), .val (.int (0 : Int32)), .val (.int (1 : Int32)), .unset, .unset] [(.int (1 : Int32))])) (fun t k => ?_) ?_
 ·refine XS.iloadN W0.here hx rfl (hb hby d21_0) rfl ?_
  exact k
 refine W0.callS hx (y := y_13) (ww hw 98 rfl) (ww hw 99 rfl) (ww hw 45 rfl) (ww hw 100 rfl) (by decide) (Pay.of_con (Wd := 0) (rm_nbf1 l Z a0 hw h0 n0 (by omega)) (ww hw 100 rfl) (ww hw 45 rfl) (hEL hw) (by decide) (by decide)) (g := (mkF m 1 #[.val (.ref b), .val (.int (0 : Int32)), .val (.int (1 : Int32)), .unset, .unset] [(.int (1 : Int32))])) rfl (by rw [hml]; rfl) (argsL := [(.int (1 : Int32))]) (rest := []) (lenOf pd_2 rfl) rfl rfl (ble_ rfl) (hb hby d21_1) (by decide) (by decide) (fun v1 T1 h1 W1 sz1 q1 => ?_)
 obtain ⟨e, ke, rfl, E1, ge, B1⟩ := q1
 change Fi _ _ _ _ _ _ _ _ _ _ (T1.setTop (mkF m 4 #[.val (.ref b), .val (.int (0 : Int32)), .val (.int (1 : Int32)), .unset, .unset] [(.ref e)]))
 refine Fi.by' (st' := T1.setTop (mkF m 19 #[.val (.ref b), .val (.int (0 : Int32)), .val (.int (1 : Int32)), .val (.ref e), .val (.int (0 : Int32))] [(.int (0 : Int32)), (.ref b), (.int (0 : Int32)), (.ref e)])) (fun t k => ?_) ?_
 ·refine XS.astoreN W1.here hx rfl (hb hby d21_4) rfl rfl (l' := #[.val (.ref b), .val (.int (0 : Int32)), .val (.int (1 : Int32)), .val (.ref e), .unset]) rfl ?_
  refine iconstZ W1.here hx rfl (hb hby d21_5) (z := (0 : Int32)) rfl ?_
  refine XS.istore W1.here hx rfl (hb hby d21_6) rfl (l' := #[.val (.ref b), .val (.int (0 : Int32)), .val (.int (1 : Int32)), .val (.ref e), .val (.int (0 : Int32))]) rfl ?_
  refine XS.iload W1.here hx rfl (hb hby d21_8) rfl ?_
  refine XS.iloadN W1.here hx rfl (hb hby d21_10) rfl ?_
  refine XS.icmpNo W1.here hx rfl (hb hby d21_11) rfl (tlt (by decide : ((0 : Int32) < (1 : Int32)))).2.1 ?_
  refine XS.aloadN W1.here hx rfl (hb hby d21_14) rfl rfl ?_
  refine XS.iload W1.here hx rfl (hb hby d21_15) rfl ?_
  refine XS.aloadN W1.here hx rfl (hb hby d21_17) rfl rfl ?_
  refine XS.iloadN W1.here hx rfl (hb hby d21_18) rfl ?_
  exact k
 refine W1.caload hx (C0.ext E1) (j := (0 : Int32)) (v := .int c0) (by decide) rfl (g := (mkF m 19 #[.val (.ref b), .val (.int (0 : Int32)), .val (.int (1 : Int32)), .val (.ref e), .val (.int (0 : Int32))] [(.int (0 : Int32)), (.ref b), (.int (0 : Int32)), (.ref e)])) rfl rfl (hb hby d21_19) ?_
 change Fi _ _ _ _ _ _ _ _ _ _ (T1.setTop (mkF m 20 #[.val (.ref b), .val (.int (0 : Int32)), .val (.int (1 : Int32)), .val (.ref e), .val (.int (0 : Int32))] [(.int c0), (.int (0 : Int32)), (.ref e)]))
 refine W1.callS hx (y := y_10) (ww hw 105 rfl) (ww hw 106 rfl) (ww hw 45 rfl) (ww hw 107 rfl) (by decide) (Pay.of_con (Wd := 0) (rm_putC l Z a0 hw e (0 : Int32) c0 (2 : Int32) 0 ([0, 0] : List Int32) ke h1 n0 (by omega) (by omega) (Sta.ext E1 D0) (Sta.ext E1 HB0) (Sta.ext E1 LB0) rfl rfl (ble_ rfl) (ble_ rfl) B1) (ww hw 107 rfl) (ww hw 45 rfl) (hEL hw) (by decide) (by decide)) (g := (mkF m 20 #[.val (.ref b), .val (.int (0 : Int32)), .val (.int (1 : Int32)), .val (.ref e), .val (.int (0 : Int32))] [(.int c0), (.int (0 : Int32)), (.ref e)])) rfl (by rw [hml]; rfl) (argsL := [(.ref e), (.int (0 : Int32)), (.int c0)]) (rest := []) (lenOf pd_3 rfl) rfl rfl (ble_ rfl) (hb hby d21_20) (by decide) (by decide) (fun v2 T2 h2 W2 sz2 q2 => ?_)
 obtain ⟨rfl, K2, B2⟩ := q2
 change Fi _ _ _ _ _ _ _ _ _ _ (T2.setTop (mkF m 23 #[.val (.ref b), .val (.int (0 : Int32)), .val (.int (1 : Int32)), .val (.ref e), .val (.int (0 : Int32))] []))
 have x2k : Ext h0 h2 := ext_keep1 E1 K2 (by omega)
 have V2 : Arv Z h2 e ke .byte (2 : Int32) (([((c0 >>> ((0 : Int32) &&& 31)).toInt8.toInt32), ((c0 >>> ((8 : Int32) &&& 31)).toInt8.toInt32)] : List Int32).map Value.int) (.int (0 : Int32)) := B2
 refine Fi.by' (st' := T2.setTop (mkF m 33 #[.val (.ref b), .val (.int (1 : Int32)), .val (.int (1 : Int32)), .val (.ref e), .val (.int (1 : Int32))] [(.ref e)])) (fun t k => ?_) ?_
 ·refine XS.iinc W2.here hx rfl (hb hby d21_23) rfl (l' := #[.val (.ref b), .val (.int (1 : Int32)), .val (.int (1 : Int32)), .val (.ref e), .val (.int (0 : Int32))]) rfl ?_
  refine XS.iinc W2.here hx rfl (hb hby d21_26) rfl (l' := #[.val (.ref b), .val (.int (1 : Int32)), .val (.int (1 : Int32)), .val (.ref e), .val (.int (1 : Int32))]) rfl ?_
  refine XS.goto W2.here hx rfl (pc0 := 29) (pc' := 8) rfl (hb hby d21_29) (by decide) (by decide) ?_
  refine XS.iload W2.here hx rfl (hb hby d21_8) rfl ?_
  refine XS.iloadN W2.here hx rfl (hb hby d21_10) rfl ?_
  refine XS.icmpYes W2.here hx rfl (pc0 := 11) (pc' := 32) rfl (hb hby d21_11) rfl (flt (by decide : ¬ ((1 : Int32) < (1 : Int32)))).2.1 (by decide) (by decide) ?_
  refine XS.aloadN W2.here hx rfl (hb hby d21_32) rfl rfl ?_
  exact k
 have hB : Arv Z h2 e ke .byte (2 : Int32) (StrChars.Road.wideBytes [c0]) (.int (0 : Int32)) := by
  have q := V2
  simp only [StrChars.shr0] at q
  exact q
 exact W2.aret hx hlk hret rfl rfl (hb hby d21_33) ⟨e, ke, rfl, x2k, ge, hB⟩ (by decide) (by decide)
def Q_cmpA1 (Z : State) (b d : Addr) (c0 : Int32) (kc kd : ClassId) (h0 : Heap) (v : Option Value) (h : Heap) : Prop := ∃ k : Nat, k < 1 ∧ v = some (.int (Int32.ofNat k)) ∧ (255 : Int32) < ([c0] : List Int32).getD k 0 ∧ Keep h0 h [d]
set_option maxRecDepth 65536 in
set_option maxHeartbeats 40000000 in
theorem rm_cmpA1 (l : Launch) (Z : State) (a0 : Array Value) (hw : ∀ d ∈ tables_1, d.before a0 Z = true) (b d : Addr) (c0 : Int32) (kc kd : ClassId) (h0 : Heap) (n0 : Nat) (Z0 : n0 ≤ h0.size) (g0 : n0 ≤ d) (hne : b ≠ d) (C0 : Arv Z h0 b kc .char (1 : Int32) (([c0] : List Int32).map Value.int) (.int (0 : Int32))) (B0 : Arv Z h0 d kd .byte (1 : Int32) (([0] : List Int32).map Value.int) (.int (0 : Int32))) (hwd : ¬ ∀ c ∈ ([c0] : List Int32), ¬ (255 : Int32) < c) :
  Con l Z EL y_15 jdk_52_method_21_code 7 (some .int) [] ({ frames := 0, cells := 0, slots := 0, locals := 0 } : Room) #[(.ref b), (.int (0 : Int32)), (.ref d), (.int (0 : Int32)), (.int (1 : Int32))] h0 n0 (Q_cmpA1 Z b d c0 kc kd h0) := by
 refine Con.intro (own := "java/lang/StringUTF16") rfl (plainFor_of_name plain_java_lang_StringUTF16) (hEL hw) ?_
 intro p e s m below meth c s₁ hx hby hml hret hlk hnm W0
 refine Fi.cast (show entryFrame m #[(.ref b), (.int (0 : Int32)), (.ref d), (.int (0 : Int32)), (.int (1 : Int32))] 7 = (mkF m 0 #[.val (.ref b), .val (.int (0 : Int32)), .val (.ref d), .val (.int (0 : Int32)), .val (.int (1 : Int32)), .unset, .unset] []) from by first | (simp [entryFrame, mkF, argsToLocals, Value.category]; done) | rfl) ?_
 refine Fi.by' (st' := s₁.setTop (mkF m 12 #[.val (.ref b), .val (.int (0 : Int32)), .val (.ref d), .val (.int (0 : Int32)), .val (.int (1 : Int32)), .val (.int (0 : Int32)), .unset] [(.int (0 : Int32)), (.ref b)])) (fun t k => ?_) ?_
 ·refine iconstZ W0.here hx rfl (hb hby d9_0) (z := (0 : Int32)) rfl ?_
  refine XS.istore W0.here hx rfl (hb hby d9_1) rfl (l' := #[.val (.ref b), .val (.int (0 : Int32)), .val (.ref d), .val (.int (0 : Int32)), .val (.int (1 : Int32)), .val (.int (0 : Int32)), .unset]) rfl ?_
  refine XS.iload W0.here hx rfl (hb hby d9_3) rfl ?_
  refine XS.iload W0.here hx rfl (hb hby d9_5) rfl ?_
  refine XS.icmpNo W0.here hx rfl (hb hby d9_7) rfl (tlt (by decide : ((0 : Int32) < (1 : Int32)))).2.1 ?_
  refine XS.aloadN W0.here hx rfl (hb hby d9_10) rfl rfl ?_
  refine XS.iloadN W0.here hx rfl (hb hby d9_11) rfl ?_
  exact k
 refine W0.caload hx C0 (j := (0 : Int32)) (v := .int c0) (by decide) rfl (g := (mkF m 12 #[.val (.ref b), .val (.int (0 : Int32)), .val (.ref d), .val (.int (0 : Int32)), .val (.int (1 : Int32)), .val (.int (0 : Int32)), .unset] [(.int (0 : Int32)), (.ref b)])) rfl rfl (hb hby d9_12) ?_
 change Fi _ _ _ _ _ _ _ _ _ _ (s₁.setTop (mkF m 13 #[.val (.ref b), .val (.int (0 : Int32)), .val (.ref d), .val (.int (0 : Int32)), .val (.int (1 : Int32)), .val (.int (0 : Int32)), .unset] [(.int c0)]))
 refine Fi.by' (st' := s₁.setTop (mkF m 20 #[.val (.ref b), .val (.int (0 : Int32)), .val (.ref d), .val (.int (0 : Int32)), .val (.int (1 : Int32)), .val (.int (0 : Int32)), .val (.int c0)] [(.int (255 : Int32)), (.int c0)])) (fun t k => ?_) ?_
 ·refine XS.istore W0.here hx rfl (hb hby d9_13) rfl (l' := #[.val (.ref b), .val (.int (0 : Int32)), .val (.ref d), .val (.int (0 : Int32)), .val (.int (1 : Int32)), .val (.int (0 : Int32)), .val (.int c0)]) rfl ?_
  refine XS.iload W0.here hx rfl (hb hby d9_15) rfl ?_
  refine sipushZ W0.here hx rfl (hb hby d9_17) (z := (255 : Int32)) rfl ?_
  exact k
 by_cases hc20_1 : (255 : Int32) < c0
 ·refine Fi.by' (st' := s₁.setTop (mkF m 25 #[.val (.ref b), .val (.int (0 : Int32)), .val (.ref d), .val (.int (0 : Int32)), .val (.int (1 : Int32)), .val (.int (0 : Int32)), .val (.int c0)] [(.int (0 : Int32))])) (fun t k => ?_) ?_
  ·refine XS.icmpNo W0.here hx rfl (hb hby d9_20) rfl (tlt hc20_1).2.2.2 ?_
   refine XS.iload W0.here hx rfl (hb hby d9_23) rfl ?_
   exact k
  exact W0.iret hx hlk hret (by simp) rfl (hb hby d9_25) ⟨0, by decide, rfl, hc20_1, (Keep.refl h0 [d])⟩ (by decide) (by decide)
 ·refine Fi.by' (st' := s₁.setTop (mkF m 31 #[.val (.ref b), .val (.int (0 : Int32)), .val (.ref d), .val (.int (0 : Int32)), .val (.int (1 : Int32)), .val (.int (0 : Int32)), .val (.int c0)] [(.int (c0.toInt8.toInt32)), (.int (0 : Int32)), (.ref d)])) (fun t k => ?_) ?_
  ·refine XS.icmpYes W0.here hx rfl (pc0 := 20) (pc' := 26) rfl (hb hby d9_20) rfl (flt hc20_1).2.2.2 (by decide) (by decide) ?_
   refine XS.aloadN W0.here hx rfl (hb hby d9_26) rfl rfl ?_
   refine XS.iloadN W0.here hx rfl (hb hby d9_27) rfl ?_
   refine XS.iload W0.here hx rfl (hb hby d9_28) rfl ?_
   refine XS.i2b W0.here hx rfl (hb hby d9_30) rfl ?_
   exact k
  refine Wk.bastoreN rfl W0 hx B0 (i := 0) (ble_ rfl) (j := (0 : Int32)) rfl (by decide) rfl (low_ok c0) (g := (mkF m 31 #[.val (.ref b), .val (.int (0 : Int32)), .val (.ref d), .val (.int (0 : Int32)), .val (.int (1 : Int32)), .val (.int (0 : Int32)), .val (.int c0)] [(.int (c0.toInt8.toInt32)), (.int (0 : Int32)), (.ref d)])) rfl rfl (hb hby d9_31) g0 (fun T2 h2 W2 R2 V2 => ?_)
  change Fi _ _ _ _ _ _ _ _ _ _ (T2.setTop (mkF m 32 #[.val (.ref b), .val (.int (0 : Int32)), .val (.ref d), .val (.int (0 : Int32)), .val (.int (1 : Int32)), .val (.int (0 : Int32)), .val (.int c0)] []))
  have Q2 : Arv Z h2 d kd .byte (1 : Int32) (([(c0.toInt8.toInt32)] : List Int32).map Value.int) (.int (0 : Int32)) := V2
  have Y2 := Arv.other C0 R2 hne
  refine Fi.by' (st' := T2.setTop (mkF m 46 #[.val (.ref b), .val (.int (1 : Int32)), .val (.ref d), .val (.int (1 : Int32)), .val (.int (1 : Int32)), .val (.int (1 : Int32)), .val (.int c0)] [(.int (1 : Int32))])) (fun t k => ?_) ?_
  ·refine XS.iinc W2.here hx rfl (hb hby d9_32) rfl (l' := #[.val (.ref b), .val (.int (1 : Int32)), .val (.ref d), .val (.int (0 : Int32)), .val (.int (1 : Int32)), .val (.int (0 : Int32)), .val (.int c0)]) rfl ?_
   refine XS.iinc W2.here hx rfl (hb hby d9_35) rfl (l' := #[.val (.ref b), .val (.int (1 : Int32)), .val (.ref d), .val (.int (1 : Int32)), .val (.int (1 : Int32)), .val (.int (0 : Int32)), .val (.int c0)]) rfl ?_
   refine XS.iinc W2.here hx rfl (hb hby d9_38) rfl (l' := #[.val (.ref b), .val (.int (1 : Int32)), .val (.ref d), .val (.int (1 : Int32)), .val (.int (1 : Int32)), .val (.int (1 : Int32)), .val (.int c0)]) rfl ?_
   refine XS.goto W2.here hx rfl (pc0 := 41) (pc' := 3) rfl (hb hby d9_41) (by decide) (by decide) ?_
   refine XS.iload W2.here hx rfl (hb hby d9_3) rfl ?_
   refine XS.iload W2.here hx rfl (hb hby d9_5) rfl ?_
   refine XS.icmpYes W2.here hx rfl (pc0 := 7) (pc' := 44) rfl (hb hby d9_7) rfl (flt (by decide : ¬ ((1 : Int32) < (1 : Int32)))).2.1 (by decide) (by decide) ?_
   refine XS.iload W2.here hx rfl (hb hby d9_44) rfl ?_
   exact k
  exact absurd (all_cons hc20_1 all_nil) hwd
def Q_cmpB1 (Z : State) (b : Addr) (c0 : Int32) (kc : ClassId) (h0 : Heap) (v : Option Value) (h : Heap) : Prop := ∃ (e : Addr) (k : ClassId), v = some (.ref e) ∧ Ext h0 h ∧ h0.size ≤ e ∧ Arv Z h e k .byte (2 : Int32) (StrChars.Road.wideBytes [c0]) (.int (0 : Int32))
set_option maxRecDepth 65536 in
set_option maxHeartbeats 40000000 in
theorem rm_cmpB1 (l : Launch) (Z : State) (a0 : Array Value) (hw : ∀ d ∈ tables_1, d.before a0 Z = true) (b : Addr) (c0 : Int32) (kc : ClassId) (h0 : Heap) (n0 : Nat) (Z0 : n0 ≤ h0.size) (D0 : Sta Z h0 "java/lang/StringUTF16" "$assertionsDisabled" "Z" (.int 1)) (HB0 : Sta Z h0 "java/lang/StringUTF16" "HI_BYTE_SHIFT" "I" (.int 0)) (LB0 : Sta Z h0 "java/lang/StringUTF16" "LO_BYTE_SHIFT" "I" (.int 8)) (C0 : Arv Z h0 b kc .char (1 : Int32) (([c0] : List Int32).map Value.int) (.int (0 : Int32))) (hr : ∀ c ∈ ([c0] : List Int32), ¬ c < 0 ∧ ¬ (65535 : Int32) < c) (hwd : ¬ ∀ c ∈ ([c0] : List Int32), ¬ (255 : Int32) < c) :
  Con l Z EL y_16 jdk_52_method_16_code 6 (some (.array .byte)) [] ({ frames := 3, cells := 2, slots := 3, locals := 40 } : Room) #[(.ref b), (.int (0 : Int32)), (.int (1 : Int32))] h0 n0 (Q_cmpB1 Z b c0 kc h0) := by
 refine Con.intro (own := "java/lang/StringUTF16") rfl (plainFor_of_name plain_java_lang_StringUTF16) (hEL hw) ?_
 intro p e s m below meth c s₁ hx hby hml hret hlk hnm W0
 refine Fi.cast (show entryFrame m #[(.ref b), (.int (0 : Int32)), (.int (1 : Int32))] 6 = (mkF m 0 #[.val (.ref b), .val (.int (0 : Int32)), .val (.int (1 : Int32)), .unset, .unset, .unset] []) from by first | (simp [entryFrame, mkF, argsToLocals, Value.category]; done) | rfl) ?_
 refine Fi.by' (st' := s₁.setTop (mkF m 1 #[.val (.ref b), .val (.int (0 : Int32)), .val (.int (1 : Int32)), .unset, .unset, .unset] [(.int (1 : Int32))])) (fun t k => ?_) ?_
 ·refine XS.iloadN W0.here hx rfl (hb hby d8_0) rfl ?_
  exact k
 refine W0.newP hx (aty := .byte) (ww hw 21 rfl) (g := (mkF m 1 #[.val (.ref b), .val (.int (0 : Int32)), .val (.int (1 : Int32)), .unset, .unset, .unset] [(.int (1 : Int32))])) rfl (hb hby d8_1) rfl (by decide) (cap := 1) (by decide) (by decide) (by decide) (by decide) (fun T1 h1 a1 k1 ha1 W1 E1 A1 => ?_)
 change Fi _ _ _ _ _ _ _ _ _ _ (T1.setTop (mkF m 3 #[.val (.ref b), .val (.int (0 : Int32)), .val (.int (1 : Int32)), .unset, .unset, .unset] [(.ref a1)]))
 have sz1 := E1.1
 have V1 : Arv Z h1 a1 k1 .byte (1 : Int32) (([0] : List Int32).map Value.int) (.int (0 : Int32)) := A1.pad (pad_rep [] (.int (0 : Int32)) 1)
 refine Fi.by' (st' := T1.setTop (mkF m 9 #[.val (.ref b), .val (.int (0 : Int32)), .val (.int (1 : Int32)), .val (.ref a1), .unset, .unset] [(.int (1 : Int32)), (.int (0 : Int32)), (.ref a1), (.int (0 : Int32)), (.ref b)])) (fun t k => ?_) ?_
 ·refine XS.astoreN W1.here hx rfl (hb hby d8_3) rfl rfl (l' := #[.val (.ref b), .val (.int (0 : Int32)), .val (.int (1 : Int32)), .val (.ref a1), .unset, .unset]) rfl ?_
  refine XS.aloadN W1.here hx rfl (hb hby d8_4) rfl rfl ?_
  refine XS.iloadN W1.here hx rfl (hb hby d8_5) rfl ?_
  refine XS.aloadN W1.here hx rfl (hb hby d8_6) rfl rfl ?_
  refine iconstZ W1.here hx rfl (hb hby d8_7) (z := (0 : Int32)) rfl ?_
  refine XS.iloadN W1.here hx rfl (hb hby d8_8) rfl ?_
  exact k
 have lb : @LT.lt Nat _ b h0.size := C0.lt
 refine W1.callS hx (y := y_15) (ww hw 47 rfl) (ww hw 48 rfl) (ww hw 45 rfl) (ww hw 49 rfl) (by decide) (Pay.of_con (Wd := 0) (rm_cmpA1 l Z a0 hw b a1 c0 kc k1 h1 n0 (by omega) (by omega) (fun q => by have q2 : @Eq Nat b a1 := q; omega) (C0.ext E1) V1 hwd) (ww hw 49 rfl) (ww hw 45 rfl) (hEL hw) (by decide) (by decide)) (g := (mkF m 9 #[.val (.ref b), .val (.int (0 : Int32)), .val (.int (1 : Int32)), .val (.ref a1), .unset, .unset] [(.int (1 : Int32)), (.int (0 : Int32)), (.ref a1), (.int (0 : Int32)), (.ref b)])) rfl (by rw [hml]; rfl) (argsL := [(.ref b), (.int (0 : Int32)), (.ref a1), (.int (0 : Int32)), (.int (1 : Int32))]) (rest := []) (lenOf pd_4 rfl) rfl rfl (ble_ rfl) (hb hby d8_9) (by decide) (by decide) (fun v2 T2 h2 W2 sz2 q2 => ?_)
 obtain ⟨kx, hk, rfl, hc, K2⟩ := q2
 change Fi _ _ _ _ _ _ _ _ _ _ (T2.setTop (mkF m 12 #[.val (.ref b), .val (.int (0 : Int32)), .val (.int (1 : Int32)), .val (.ref a1), .unset, .unset] [(.int (Int32.ofNat kx))]))
 have x2k : Ext h0 h2 := ext_keep1 E1 K2 (by omega)
 refine Fi.by' (st' := T2.setTop (mkF m 17 #[.val (.ref b), .val (.int (0 : Int32)), .val (.int (1 : Int32)), .val (.ref a1), .val (.int (Int32.ofNat kx)), .unset] [(.int (1 : Int32)), (.int (Int32.ofNat kx))])) (fun t k => ?_) ?_
 ·refine XS.istore W2.here hx rfl (hb hby d8_12) rfl (l' := #[.val (.ref b), .val (.int (0 : Int32)), .val (.int (1 : Int32)), .val (.ref a1), .val (.int (Int32.ofNat kx)), .unset]) rfl ?_
  refine XS.iload W2.here hx rfl (hb hby d8_14) rfl ?_
  refine XS.iloadN W2.here hx rfl (hb hby d8_16) rfl ?_
  exact k
 refine Fi.by' (st' := T2.setTop (mkF m 23 #[.val (.ref b), .val (.int (0 : Int32)), .val (.int (1 : Int32)), .val (.ref a1), .val (.int (Int32.ofNat kx)), .unset] [(.int (1 : Int32)), (.int (0 : Int32)), (.ref b)])) (fun t k => ?_) ?_
 ·refine XS.icmpNo W2.here hx rfl (hb hby d8_17) rfl (feq (ofNat_ne hk (by decide))).1 ?_
  refine XS.aloadN W2.here hx rfl (hb hby d8_20) rfl rfl ?_
  refine XS.iloadN W2.here hx rfl (hb hby d8_21) rfl ?_
  refine XS.iloadN W2.here hx rfl (hb hby d8_22) rfl ?_
  exact k
 refine W2.callS hx (y := y_14) (ww hw 95 rfl) (ww hw 96 rfl) (ww hw 45 rfl) (ww hw 97 rfl) (by decide) (Pay.of_con (Wd := 0) (rm_toB1 l Z a0 hw b c0 kc h2 n0 (by omega) (Sta.ext x2k D0) (Sta.ext x2k HB0) (Sta.ext x2k LB0) (C0.ext x2k)) (ww hw 97 rfl) (ww hw 45 rfl) (hEL hw) (by decide) (by decide)) (g := (mkF m 23 #[.val (.ref b), .val (.int (0 : Int32)), .val (.int (1 : Int32)), .val (.ref a1), .val (.int (Int32.ofNat kx)), .unset] [(.int (1 : Int32)), (.int (0 : Int32)), (.ref b)])) rfl (by rw [hml]; rfl) (argsL := [(.ref b), (.int (0 : Int32)), (.int (1 : Int32))]) (rest := []) (lenOf pd_5 rfl) rfl rfl (ble_ rfl) (hb hby d8_23) (by decide) (by decide) (fun v3 T3 h3 W3 sz3 q3 => ?_)
 obtain ⟨e, ke, rfl, E3, ge, B3⟩ := q3
 change Fi _ _ _ _ _ _ _ _ _ _ (T3.setTop (mkF m 26 #[.val (.ref b), .val (.int (0 : Int32)), .val (.int (1 : Int32)), .val (.ref a1), .val (.int (Int32.ofNat kx)), .unset] [(.ref e)]))
 refine Fi.by' (st' := T3.setTop (mkF m 32 #[.val (.ref b), .val (.int (0 : Int32)), .val (.int (1 : Int32)), .val (.ref a1), .val (.int (Int32.ofNat kx)), .val (.ref e)] [(.int (Int32.ofNat kx)), (.ref e)])) (fun t k => ?_) ?_
 ·refine XS.astore W3.here hx rfl (hb hby d8_26) rfl rfl (l' := #[.val (.ref b), .val (.int (0 : Int32)), .val (.int (1 : Int32)), .val (.ref a1), .val (.int (Int32.ofNat kx)), .val (.ref e)]) rfl ?_
  refine XS.aload W3.here hx rfl (hb hby d8_28) rfl rfl ?_
  refine XS.iload W3.here hx rfl (hb hby d8_30) rfl ?_
  exact k
 have x4 : Ext h0 h3 := ext_trans x2k E3
 refine W3.callS hx (y := y_11) (ww hw 111 rfl) (ww hw 112 rfl) (ww hw 45 rfl) (ww hw 113 rfl) (by decide) (Pay.of_con (Wd := 0) (rm_getC l Z a0 hw e (Int32.ofNat kx) (2 : Int32) _ _ kx _ ke h3 n0 (by omega) (Sta.ext x4 D0) (Sta.ext x4 HB0) (Sta.ext x4 LB0) rfl (by omega) (by rw [show (2 : Int32).toNatClampNeg = 2 from rfl]; omega) B3 (StrChars.Road.wide_lo _ [c0] kx hk) (StrChars.Road.wide_hi _ [c0] kx hk)) (ww hw 113 rfl) (ww hw 45 rfl) (hEL hw) (by decide) (by decide)) (g := (mkF m 32 #[.val (.ref b), .val (.int (0 : Int32)), .val (.int (1 : Int32)), .val (.ref a1), .val (.int (Int32.ofNat kx)), .val (.ref e)] [(.int (Int32.ofNat kx)), (.ref e)])) rfl (by rw [hml]; rfl) (argsL := [(.ref e), (.int (Int32.ofNat kx))]) (rest := []) (lenOf pd_6 rfl) rfl rfl (ble_ rfl) (hb hby d8_32) (by decide) (by decide) (fun v5 T5 h5 W5 sz5 q5 => ?_)
 obtain ⟨rfl, rfl⟩ := q5
 change Fi _ _ _ _ _ _ _ _ _ _ (T5.setTop (mkF m 35 #[.val (.ref b), .val (.int (0 : Int32)), .val (.int (1 : Int32)), .val (.ref a1), .val (.int (Int32.ofNat kx)), .val (.ref e)] [(.int (StrChars.pairCh (StrChars.lo8 (([c0] : List Int32).getD kx 0)) (StrChars.hi8 (([c0] : List Int32).getD kx 0))))]))
 refine Fi.by' (st' := T5.setTop (mkF m 38 #[.val (.ref b), .val (.int (0 : Int32)), .val (.int (1 : Int32)), .val (.ref a1), .val (.int (Int32.ofNat kx)), .val (.ref e)] [(.int (255 : Int32)), (.int (StrChars.pairCh (StrChars.lo8 (([c0] : List Int32).getD kx 0)) (StrChars.hi8 (([c0] : List Int32).getD kx 0))))])) (fun t k => ?_) ?_
 ·refine sipushZ W5.here hx rfl (hb hby d8_35) (z := (255 : Int32)) rfl ?_
  exact k
 refine Fi.by' (st' := T5.setTop (mkF m 56 #[.val (.ref b), .val (.int (0 : Int32)), .val (.int (1 : Int32)), .val (.ref a1), .val (.int (Int32.ofNat kx)), .val (.ref e)] [(.ref e)])) (fun t k => ?_) ?_
 ·refine XS.icmpYes W5.here hx rfl (pc0 := 38) (pc' := 54) rfl (hb hby d8_38) rfl (tlt (by rw [StrChars.pair_says (getD_rng (cs := [c0]) hk hr).1 (getD_rng (cs := [c0]) hk hr).2]; exact hc)).2.2.1 (by decide) (by decide) ?_
  refine XS.aload W5.here hx rfl (hb hby d8_54) rfl rfl ?_
  exact k
 exact W5.aret hx hlk hret rfl rfl (hb hby d8_56) ⟨e, ke, rfl, x4, by omega, B3⟩ (by decide) (by decide)
def Q_inA1 (Z : State) (x b : Addr) (zc c0 : Int32) (kc : ClassId) (h0 : Heap) (v : Option Value) (h : Heap) : Prop := v = none ∧ Keep h0 h [x] ∧ StrA Z h x [c0]
set_option maxRecDepth 65536 in
set_option maxHeartbeats 40000000 in
theorem rm_inA1 (l : Launch) (Z : State) (a0 : Array Value) (hw : ∀ d ∈ tables_1, d.before a0 Z = true) (x b : Addr) (zc c0 : Int32) (kc : ClassId) (h0 : Heap) (n0 : Nat) (Z0 : n0 ≤ h0.size) (g0 : n0 ≤ x) (A0 : Exa Z h0 x "java/lang/String") (V0 : Fld Z h0 x "java/lang/String" "value" "[B" .null) (C1 : Fld Z h0 x "java/lang/String" "coder" "B" (.int (0 : Int32))) (S0 : Sta Z h0 "java/lang/String" "COMPACT_STRINGS" "Z" (.int zc)) (hz : ¬ zc = 0) (D0 : Sta Z h0 "java/lang/StringUTF16" "$assertionsDisabled" "Z" (.int 1)) (HB0 : Sta Z h0 "java/lang/StringUTF16" "HI_BYTE_SHIFT" "I" (.int 0)) (LB0 : Sta Z h0 "java/lang/StringUTF16" "LO_BYTE_SHIFT" "I" (.int 8)) (C0 : Arv Z h0 b kc .char (1 : Int32) (([c0] : List Int32).map Value.int) (.int (0 : Int32))) (hr : ∀ c ∈ ([c0] : List Int32), ¬ c < 0 ∧ ¬ (65535 : Int32) < c) (hwd : ¬ ∀ c ∈ ([c0] : List Int32), ¬ (255 : Int32) < c) :
  Con l Z EL y_17 jdk_42_method_149_code 6 none [] ({ frames := 4, cells := 2, slots := 3, locals := 57 } : Room) #[(.ref x), (.ref b), (.int (0 : Int32)), (.int (1 : Int32)), .null] h0 n0 (Q_inA1 Z x b zc c0 kc h0) := by
 refine Con.intro (own := "java/lang/String") rfl (plainFor_of_name plain_java_lang_String) (hEL hw) ?_
 intro p e s m below meth c s₁ hx hby hml hret hlk hnm W0
 refine Fi.cast (show entryFrame m #[(.ref x), (.ref b), (.int (0 : Int32)), (.int (1 : Int32)), .null] 6 = (mkF m 0 #[.val (.ref x), .val (.ref b), .val (.int (0 : Int32)), .val (.int (1 : Int32)), .val .null, .unset] []) from by first | (simp [entryFrame, mkF, argsToLocals, Value.category]; done) | rfl) ?_
 refine Fi.by' (st' := s₁.setTop (mkF m 1 #[.val (.ref x), .val (.ref b), .val (.int (0 : Int32)), .val (.int (1 : Int32)), .val .null, .unset] [(.ref x)])) (fun t k => ?_) ?_
 ·refine XS.aloadN W0.here hx rfl (hb hby d3_0) rfl rfl ?_
  exact k
 refine W0.initO hx (ww hw 17 rfl) (ww hw 18 rfl) (ww hw 19 rfl) (g := (mkF m 1 #[.val (.ref x), .val (.ref b), .val (.int (0 : Int32)), .val (.int (1 : Int32)), .val .null, .unset] [(.ref x)])) rfl (by rw [hml]; rfl) rfl (hb hby d3_1) (by decide) (Wd := 0) (ble_ rfl) (by decide) (fun T1 W1 => ?_)
 change Fi _ _ _ _ _ _ _ _ _ _ (T1.setTop (mkF m 4 #[.val (.ref x), .val (.ref b), .val (.int (0 : Int32)), .val (.int (1 : Int32)), .val .null, .unset] []))
 refine Fi.by' (st' := T1.setTop (mkF m 27 #[.val (.ref x), .val (.ref b), .val (.int (0 : Int32)), .val (.int (1 : Int32)), .val .null, .unset] [])) (fun t k => ?_) ?_
 ·refine XS.iloadN W1.here hx rfl (hb hby d3_4) rfl ?_
  refine XS.ifYes W1.here hx rfl (pc0 := 5) (pc' := 27) rfl (hb hby d3_5) rfl ((if0 _ _).trans (feq (by decide : ¬ ((1 : Int32) = (0 : Int32)))).2) (by decide) (by decide) ?_
  exact k
 refine W1.getS hx (ww hw 42 rfl) S0 (g := (mkF m 27 #[.val (.ref x), .val (.ref b), .val (.int (0 : Int32)), .val (.int (1 : Int32)), .val .null, .unset] [])) rfl (hb hby d3_27) (fun T2 W2 => ?_)
 change Fi _ _ _ _ _ _ _ _ _ _ (T2.setTop (mkF m 30 #[.val (.ref x), .val (.ref b), .val (.int (0 : Int32)), .val (.int (1 : Int32)), .val .null, .unset] [(.int zc)]))
 refine Fi.by' (st' := T2.setTop (mkF m 36 #[.val (.ref x), .val (.ref b), .val (.int (0 : Int32)), .val (.int (1 : Int32)), .val .null, .unset] [(.int (1 : Int32)), (.int (0 : Int32)), (.ref b)])) (fun t k => ?_) ?_
 ·refine XS.ifNo W2.here hx rfl (hb hby d3_30) rfl ((if0 _ _).trans (feq hz).1) ?_
  refine XS.aloadN W2.here hx rfl (hb hby d3_33) rfl rfl ?_
  refine XS.iloadN W2.here hx rfl (hb hby d3_34) rfl ?_
  refine XS.iloadN W2.here hx rfl (hb hby d3_35) rfl ?_
  exact k
 refine W2.callS hx (y := y_16) (ww hw 43 rfl) (ww hw 44 rfl) (ww hw 45 rfl) (ww hw 46 rfl) (by decide) (Pay.of_con (Wd := 0) (rm_cmpB1 l Z a0 hw b c0 kc h0 n0 (by omega) D0 HB0 LB0 C0 hr hwd) (ww hw 46 rfl) (ww hw 45 rfl) (hEL hw) (by decide) (by decide)) (g := (mkF m 36 #[.val (.ref x), .val (.ref b), .val (.int (0 : Int32)), .val (.int (1 : Int32)), .val .null, .unset] [(.int (1 : Int32)), (.int (0 : Int32)), (.ref b)])) rfl (by rw [hml]; rfl) (argsL := [(.ref b), (.int (0 : Int32)), (.int (1 : Int32))]) (rest := []) (lenOf pd_5 rfl) rfl rfl (ble_ rfl) (hb hby d3_36) (by decide) (by decide) (fun v3 T3 h3 W3 sz3 q3 => ?_)
 obtain ⟨e, ke, rfl, E3, ge, B3⟩ := q3
 change Fi _ _ _ _ _ _ _ _ _ _ (T3.setTop (mkF m 39 #[.val (.ref x), .val (.ref b), .val (.int (0 : Int32)), .val (.int (1 : Int32)), .val .null, .unset] [(.ref e)]))
 have lx : @LT.lt Nat _ x h0.size := A0.lt
 refine Fi.by' (st' := T3.setTop (mkF m 45 #[.val (.ref x), .val (.ref b), .val (.int (0 : Int32)), .val (.int (1 : Int32)), .val .null, .val (.ref e)] [(.int (1 : Int32)), (.ref e), (.ref x)])) (fun t k => ?_) ?_
 ·refine XS.astore W3.here hx rfl (hb hby d3_39) rfl rfl (l' := #[.val (.ref x), .val (.ref b), .val (.int (0 : Int32)), .val (.int (1 : Int32)), .val .null, .val (.ref e)]) rfl ?_
  refine XS.aloadN W3.here hx rfl (hb hby d3_41) rfl rfl ?_
  refine XS.aload W3.here hx rfl (hb hby d3_42) rfl rfl ?_
  refine XS.iloadN W3.here hx rfl (hb hby d3_44) rfl ?_
  exact k
 refine W3.callS hx (y := y_12) (ww hw 50 rfl) (ww hw 51 rfl) (ww hw 45 rfl) (ww hw 52 rfl) (by decide) (Pay.of_con (Wd := 1) (rm_cfl l Z a0 hw e (1 : Int32) (2 : Int32) ke _ h3 n0 (by omega) B3 (by decide)) (ww hw 52 rfl) (ww hw 45 rfl) (hEL hw) (by decide) (by decide)) (g := (mkF m 45 #[.val (.ref x), .val (.ref b), .val (.int (0 : Int32)), .val (.int (1 : Int32)), .val .null, .val (.ref e)] [(.int (1 : Int32)), (.ref e), (.ref x)])) rfl (by rw [hml]; rfl) (argsL := [(.ref e), (.int (1 : Int32))]) (rest := [(.ref x)]) (lenOf pd_7 rfl) rfl rfl (ble_ rfl) (hb hby d3_45) (by decide) (by decide) (fun v4 T4 h4 W4 sz4 q4 => ?_)
 obtain ⟨rfl, rfl⟩ := q4
 change Fi _ _ _ _ _ _ _ _ _ _ (T4.setTop (mkF m 48 #[.val (.ref x), .val (.ref b), .val (.int (0 : Int32)), .val (.int (1 : Int32)), .val .null, .val (.ref e)] [(.int (1 : Int32)), (.ref x)]))
 refine W4.putF hx (ww hw 27 rfl) (Fld.ext E3 C1) (Exa.ext E3 A0) (Or.inr ⟨(ww hw 23 rfl), rfl, hnm⟩) (ww hw 8 rfl) (ty := .byte) (by decide) rfl rfl (g := (mkF m 48 #[.val (.ref x), .val (.ref b), .val (.int (0 : Int32)), .val (.int (1 : Int32)), .val .null, .val (.ref e)] [(.int (1 : Int32)), (.ref x)])) rfl rfl (hb hby d3_48) g0 (fun _ _ _ => safeN rfl) (fun T5 h5 W5 R5 => ?_)
 change Fi _ _ _ _ _ _ _ _ _ _ (T5.setTop (mkF m 51 #[.val (.ref x), .val (.ref b), .val (.int (0 : Int32)), .val (.int (1 : Int32)), .val .null, .val (.ref e)] []))
 have K5 := ((Keep.refl h0 [x]).ext E3).wr R5 (Or.inl (List.mem_singleton.mpr rfl))
 have A5 := Exa.wr R5 (Exa.ext E3 A0)
 have F5_value := Fld.other R5 (Fld.ext E3 V0) (Or.inr (slot_ne (Or.inr (ww hw 22 rfl)) (Or.inr (ww hw 23 rfl)) (by decide) (t := (.array .byte)) (t' := .byte) (by decide) (by decide)))
 have F5_coder := Fld.same R5 (Fld.ext E3 C1)
 refine Fi.by' (st' := T5.setTop (mkF m 54 #[.val (.ref x), .val (.ref b), .val (.int (0 : Int32)), .val (.int (1 : Int32)), .val .null, .val (.ref e)] [(.ref e), (.ref x)])) (fun t k => ?_) ?_
 ·refine XS.aloadN W5.here hx rfl (hb hby d3_51) rfl rfl ?_
  refine XS.aload W5.here hx rfl (hb hby d3_52) rfl rfl ?_
  exact k
 refine W5.putF hx (ww hw 26 rfl) F5_value A5 (Or.inr ⟨(ww hw 22 rfl), rfl, hnm⟩) (ww hw 8 rfl) (ty := (.array .byte)) (by decide) rfl rfl (g := (mkF m 54 #[.val (.ref x), .val (.ref b), .val (.int (0 : Int32)), .val (.int (1 : Int32)), .val .null, .val (.ref e)] [(.ref e), (.ref x)])) rfl rfl (hb hby d3_54) g0 (fun _ _ _ => safeN rfl) (fun T6 h6 W6 R6 => ?_)
 change Fi _ _ _ _ _ _ _ _ _ _ (T6.setTop (mkF m 57 #[.val (.ref x), .val (.ref b), .val (.int (0 : Int32)), .val (.int (1 : Int32)), .val .null, .val (.ref e)] []))
 have K6 := K5.wr R6 (Or.inl (List.mem_singleton.mpr rfl))
 have A6 := Exa.wr R6 A5
 have F6_value := Fld.same R6 F5_value
 have F6_coder := Fld.other R6 F5_coder (Or.inr (slot_ne (Or.inr (ww hw 23 rfl)) (Or.inr (ww hw 22 rfl)) (by decide) (t := .byte) (t' := (.array .byte)) (by decide) (by decide)))
 have Z5 := Arv.other B3 R5 (fun q => by have q2 : @Eq Nat e x := q; omega)
 have Z6 := Arv.other Z5 R6 (fun q => by have q2 : @Eq Nat e x := q; omega)
 exact W6.vret hx hlk hret (hb hby d3_57) ⟨rfl, K6, e, ke, 1, _, _, A6, F6_value, F6_coder, Z6, Or.inr ⟨rfl, rfl, rfl, wide_ex hwd⟩, hr, ble_ rfl⟩ (by decide) (by decide)
def Q_inB1 (Z : State) (x b : Addr) (zc c0 : Int32) (kc : ClassId) (h0 : Heap) (v : Option Value) (h : Heap) : Prop := v = none ∧ Keep h0 h [x] ∧ StrA Z h x [c0]
set_option maxRecDepth 65536 in
set_option maxHeartbeats 40000000 in
theorem rm_inB1 (l : Launch) (Z : State) (a0 : Array Value) (hw : ∀ d ∈ tables_1, d.before a0 Z = true) (x b : Addr) (zc c0 : Int32) (kc : ClassId) (h0 : Heap) (n0 : Nat) (Z0 : n0 ≤ h0.size) (g0 : n0 ≤ x) (A0 : Exa Z h0 x "java/lang/String") (V0 : Fld Z h0 x "java/lang/String" "value" "[B" .null) (C1 : Fld Z h0 x "java/lang/String" "coder" "B" (.int (0 : Int32))) (S0 : Sta Z h0 "java/lang/String" "COMPACT_STRINGS" "Z" (.int zc)) (hz : ¬ zc = 0) (D0 : Sta Z h0 "java/lang/StringUTF16" "$assertionsDisabled" "Z" (.int 1)) (HB0 : Sta Z h0 "java/lang/StringUTF16" "HI_BYTE_SHIFT" "I" (.int 0)) (LB0 : Sta Z h0 "java/lang/StringUTF16" "LO_BYTE_SHIFT" "I" (.int 8)) (C0 : Arv Z h0 b kc .char (1 : Int32) (([c0] : List Int32).map Value.int) (.int (0 : Int32))) (hr : ∀ c ∈ ([c0] : List Int32), ¬ c < 0 ∧ ¬ (65535 : Int32) < c) (hwd : ¬ ∀ c ∈ ([c0] : List Int32), ¬ (255 : Int32) < c) :
  Con l Z EL y_18 jdk_42_method_3_code 2 none [] ({ frames := 5, cells := 2, slots := 3, locals := 74 } : Room) #[(.ref x), (.ref b)] h0 n0 (Q_inB1 Z x b zc c0 kc h0) := by
 refine Con.intro (own := "java/lang/String") rfl (plainFor_of_name plain_java_lang_String) (hEL hw) ?_
 intro p e s m below meth c s₁ hx hby hml hret hlk hnm W0
 refine Fi.cast (show entryFrame m #[(.ref x), (.ref b)] 2 = (mkF m 0 #[.val (.ref x), .val (.ref b)] []) from by first | (simp [entryFrame, mkF, argsToLocals, Value.category]; done) | rfl) ?_
 refine Fi.by' (st' := s₁.setTop (mkF m 4 #[.val (.ref x), .val (.ref b)] [(.ref b), (.int (0 : Int32)), (.ref b), (.ref x)])) (fun t k => ?_) ?_
 ·refine XS.aloadN W0.here hx rfl (hb hby d2_0) rfl rfl ?_
  refine XS.aloadN W0.here hx rfl (hb hby d2_1) rfl rfl ?_
  refine iconstZ W0.here hx rfl (hb hby d2_2) (z := (0 : Int32)) rfl ?_
  refine XS.aloadN W0.here hx rfl (hb hby d2_3) rfl rfl ?_
  exact k
 refine W0.alen hx C0 (g := (mkF m 4 #[.val (.ref x), .val (.ref b)] [(.ref b), (.int (0 : Int32)), (.ref b), (.ref x)])) rfl rfl (hb hby d2_4) ?_
 change Fi _ _ _ _ _ _ _ _ _ _ (s₁.setTop (mkF m 5 #[.val (.ref x), .val (.ref b)] [(.int (1 : Int32)), (.int (0 : Int32)), (.ref b), (.ref x)]))
 refine Fi.by' (st' := s₁.setTop (mkF m 6 #[.val (.ref x), .val (.ref b)] [.null, (.int (1 : Int32)), (.int (0 : Int32)), (.ref b), (.ref x)])) (fun t k => ?_) ?_
 ·refine XS.aconstNull W0.here hx rfl (hb hby d2_5) ?_
  exact k
 refine W0.callI hx (y := y_17) rfl (ww hw 13 rfl) (ww hw 14 rfl) (ww hw 16 rfl) (by decide) (Pay.of_con (Wd := 0) (rm_inA1 l Z a0 hw x b zc c0 kc h0 n0 (by omega) g0 A0 V0 C1 S0 hz D0 HB0 LB0 C0 hr hwd) (ww hw 16 rfl) (ww hw 9 rfl) (hEL hw) (by decide) (by decide)) (a := x) (g := (mkF m 6 #[.val (.ref x), .val (.ref b)] [.null, (.int (1 : Int32)), (.int (0 : Int32)), (.ref b), (.ref x)])) rfl (by rw [hml]; rfl) (argsL := [(.ref b), (.int (0 : Int32)), (.int (1 : Int32)), .null]) (rest := []) (lenOf pd_8 rfl) rfl rfl (ble_ rfl) (hb hby d2_6) (by decide) (by decide) (fun v2 T2 h2 W2 sz2 q2 => ?_)
 obtain ⟨rfl, qK, qS⟩ := q2
 change Fi _ _ _ _ _ _ _ _ _ _ (T2.setTop (mkF m 9 #[.val (.ref x), .val (.ref b)] []))
 exact W2.vret hx hlk hret (hb hby d2_9) ⟨rfl, qK, qS⟩ (by decide) (by decide)
section PaidI1
variable {p : Program} {l : Launch} {e : Env} {R : Room} {s : State} {args : Array Value} {below : List Frame} {Z : State} {a0 : Array Value} {n0 : Nat} {h0 : Heap}
theorem payIn1 (hw : ∀ d ∈ tables_1, d.before a0 Z = true) {Wd : Nat} {x b : Addr} {kc : ClassId} {zc c0 : Int32} (Z0 : n0 ≤ h0.size) (g0 : n0 ≤ x) (A0 : Exa Z h0 x "java/lang/String") (V0 : Fld Z h0 x "java/lang/String" "value" "[B" .null) (C1 : Fld Z h0 x "java/lang/String" "coder" "B" (.int (0 : Int32))) (S0 : Sta Z h0 "java/lang/String" "COMPACT_STRINGS" "Z" (.int zc)) (hz : ¬ zc = 0) (D0 : Sta Z h0 "java/lang/StringUTF16" "$assertionsDisabled" "Z" (.int 1)) (HB0 : Sta Z h0 "java/lang/StringUTF16" "HI_BYTE_SHIFT" "I" (.int 0)) (LB0 : Sta Z h0 "java/lang/StringUTF16" "LO_BYTE_SHIFT" "I" (.int 8)) (C0 : Arv Z h0 b kc .char (1 : Int32) (([c0] : List Int32).map Value.int) (.int (0 : Int32))) (hr : ∀ c ∈ ([c0] : List Int32), ¬ c < 0 ∧ ¬ (65535 : Int32) < c) (hf : 6 ≤ R.frames) (hl : Wd + 87 ≤ R.locals) :
  Pay l R p e below s args Z EL n0 y_18 Wd #[.ref x, .ref b] h0 (fun v h' => v = none ∧ Keep h0 h' [x] ∧ StrA Z h' x [c0]) 2 3 := by
 by_cases hwd : ∀ c ∈ ([c0] : List Int32), ¬ (255 : Int32) < c
 ·exact ((payS hw Z0 g0 A0 V0 C1 C0 S0 hz rfl rfl (ble_ rfl) (ble_ rfl) (fun c hc => ⟨(hr c hc).1, hwd c hc⟩) (Nat.le_trans (by decide) hf) (Nat.le_trans (Nat.add_le_add_left (by decide) _) hl)).weak fun v h' q => ⟨q.1, q.2.1, StrA.of_l q.2.2⟩).more (ble_ rfl) (ble_ rfl)
 ·exact (Pay.of_con (rm_inB1 l Z a0 hw x b zc c0 kc h0 n0 Z0 g0 A0 V0 C1 S0 hz D0 HB0 LB0 C0 hr hwd) (ww hw 12 rfl) (ww hw 9 rfl) (hEL hw) (Nat.le_trans (by decide) hf) (Nat.le_trans (by rw [Nat.add_assoc]; exact Nat.add_le_add_left (by decide) _) hl)).more (by decide) (by decide)
end PaidI1
def Q_nbf2 (Z : State)  (h0 : Heap) (v : Option Value) (h : Heap) : Prop := ∃ (b : Addr) (k : ClassId), v = some (.ref b) ∧ Ext h0 h ∧ h0.size ≤ b ∧ Arv Z h b k .byte (4 : Int32) (([0, 0, 0, 0] : List Int32).map Value.int) (.int (0 : Int32))
set_option maxRecDepth 65536 in
set_option maxHeartbeats 40000000 in
theorem rm_nbf2 (l : Launch) (Z : State) (a0 : Array Value) (hw : ∀ d ∈ tables_1, d.before a0 Z = true)  (h0 : Heap) (n0 : Nat) (Z0 : n0 ≤ h0.size)  :
  Con l Z EL y_13 jdk_52_method_2_code 1 (some (.array .byte)) [] ({ frames := 1, cells := 1, slots := 4, locals := 12 } : Room) #[(.int (2 : Int32))] h0 n0 (Q_nbf2 Z  h0) := by
 refine Con.intro (own := "java/lang/StringUTF16") rfl (plainFor_of_name plain_java_lang_StringUTF16) (hEL hw) ?_
 intro p e s m below meth c s₁ hx hby hml hret hlk hnm W0
 refine Fi.cast (show entryFrame m #[(.int (2 : Int32))] 1 = (mkF m 0 #[.val (.int (2 : Int32))] []) from by first | (simp [entryFrame, mkF, argsToLocals, Value.category]; done) | rfl) ?_
 refine Fi.by' (st' := s₁.setTop (mkF m 1 #[.val (.int (2 : Int32))] [(.int (2 : Int32))])) (fun t k => ?_) ?_
 ·refine XS.iloadN W0.here hx rfl (hb hby d22_0) rfl ?_
  exact k
 refine W0.callS hx (y := y_9) (ww hw 101 rfl) (ww hw 102 rfl) (ww hw 45 rfl) (ww hw 103 rfl) (by decide) (Pay.of_con (Wd := 0) (rm_nbl l Z a0 hw (2 : Int32) h0 n0 (by omega) (by decide) (by decide)) (ww hw 103 rfl) (ww hw 45 rfl) (hEL hw) (by decide) (by decide)) (g := (mkF m 1 #[.val (.int (2 : Int32))] [(.int (2 : Int32))])) rfl (by rw [hml]; rfl) (argsL := [(.int (2 : Int32))]) (rest := []) (lenOf pd_1 rfl) rfl rfl (ble_ rfl) (hb hby d22_1) (by decide) (by decide) (fun v1 T1 h1 W1 sz1 q1 => ?_)
 obtain ⟨rfl, rfl⟩ := q1
 change Fi _ _ _ _ _ _ _ _ _ _ (T1.setTop (mkF m 4 #[.val (.int (2 : Int32))] [(.int ((2 : Int32) <<< ((1 : Int32) &&& 31)))]))
 rw [show ((2 : Int32) <<< ((1 : Int32) &&& 31)) = (4 : Int32) from by decide]
 refine W1.newP hx (aty := .byte) (ww hw 21 rfl) (g := (mkF m 4 #[.val (.int (2 : Int32))] [(.int (4 : Int32))])) rfl (hb hby d22_4) rfl (by decide) (cap := 4) (by decide) (by decide) (by decide) (by decide) (fun T2 h2 a2 k2 ha2 W2 E2 A2 => ?_)
 change Fi _ _ _ _ _ _ _ _ _ _ (T2.setTop (mkF m 6 #[.val (.int (2 : Int32))] [(.ref a2)]))
 have sz2 := E2.1
 have V2 : Arv Z h2 a2 k2 .byte (4 : Int32) (([0, 0, 0, 0] : List Int32).map Value.int) (.int (0 : Int32)) := A2.pad (pad_rep [] (.int (0 : Int32)) 4)
 exact W2.aret hx hlk hret rfl rfl (hb hby d22_6) ⟨a2, k2, rfl, E2, by omega, V2⟩ (by decide) (by decide)
def Q_toB2 (Z : State) (b : Addr) (c0 c1 : Int32) (kc : ClassId) (h0 : Heap) (v : Option Value) (h : Heap) : Prop := ∃ (e : Addr) (k : ClassId), v = some (.ref e) ∧ Ext h0 h ∧ h0.size ≤ e ∧ Arv Z h e k .byte (4 : Int32) (StrChars.Road.wideBytes [c0, c1]) (.int (0 : Int32))
set_option maxRecDepth 65536 in
set_option maxHeartbeats 40000000 in
theorem rm_toB2 (l : Launch) (Z : State) (a0 : Array Value) (hw : ∀ d ∈ tables_1, d.before a0 Z = true) (b : Addr) (c0 c1 : Int32) (kc : ClassId) (h0 : Heap) (n0 : Nat) (Z0 : n0 ≤ h0.size) (D0 : Sta Z h0 "java/lang/StringUTF16" "$assertionsDisabled" "Z" (.int 1)) (HB0 : Sta Z h0 "java/lang/StringUTF16" "HI_BYTE_SHIFT" "I" (.int 0)) (LB0 : Sta Z h0 "java/lang/StringUTF16" "LO_BYTE_SHIFT" "I" (.int 8)) (C0 : Arv Z h0 b kc .char (2 : Int32) (([c0, c1] : List Int32).map Value.int) (.int (0 : Int32))) :
  Con l Z EL y_14 jdk_52_method_14_code 5 (some (.array .byte)) [] ({ frames := 2, cells := 1, slots := 4, locals := 24 } : Room) #[(.ref b), (.int (0 : Int32)), (.int (2 : Int32))] h0 n0 (Q_toB2 Z b c0 c1 kc h0) := by
 refine Con.intro (own := "java/lang/StringUTF16") rfl (plainFor_of_name plain_java_lang_StringUTF16) (hEL hw) ?_
 intro p e s m below meth c s₁ hx hby hml hret hlk hnm W0
 refine Fi.cast (show entryFrame m #[(.ref b), (.int (0 : Int32)), (.int (2 : Int32))] 5 = (mkF m 0 #[.val (.ref b), .val (.int (0 : Int32)), .val (.int (2 : Int32)), .unset, .unset] []) from by first | (simp [entryFrame, mkF, argsToLocals, Value.category]; done) | rfl) ?_
 refine Fi.by' (st' := s₁.setTop (mkF m 1 #[.val (.ref b), .val (.int (0 : Int32)), .val (.int (2 : Int32)), .unset, .unset] [(.int (2 : Int32))])) (fun t k => ?_) ?_
 ·refine XS.iloadN W0.here hx rfl (hb hby d21_0) rfl ?_
  exact k
 refine W0.callS hx (y := y_13) (ww hw 98 rfl) (ww hw 99 rfl) (ww hw 45 rfl) (ww hw 100 rfl) (by decide) (Pay.of_con (Wd := 0) (rm_nbf2 l Z a0 hw h0 n0 (by omega)) (ww hw 100 rfl) (ww hw 45 rfl) (hEL hw) (by decide) (by decide)) (g := (mkF m 1 #[.val (.ref b), .val (.int (0 : Int32)), .val (.int (2 : Int32)), .unset, .unset] [(.int (2 : Int32))])) rfl (by rw [hml]; rfl) (argsL := [(.int (2 : Int32))]) (rest := []) (lenOf pd_2 rfl) rfl rfl (ble_ rfl) (hb hby d21_1) (by decide) (by decide) (fun v1 T1 h1 W1 sz1 q1 => ?_)
 obtain ⟨e, ke, rfl, E1, ge, B1⟩ := q1
 change Fi _ _ _ _ _ _ _ _ _ _ (T1.setTop (mkF m 4 #[.val (.ref b), .val (.int (0 : Int32)), .val (.int (2 : Int32)), .unset, .unset] [(.ref e)]))
 refine Fi.by' (st' := T1.setTop (mkF m 19 #[.val (.ref b), .val (.int (0 : Int32)), .val (.int (2 : Int32)), .val (.ref e), .val (.int (0 : Int32))] [(.int (0 : Int32)), (.ref b), (.int (0 : Int32)), (.ref e)])) (fun t k => ?_) ?_
 ·refine XS.astoreN W1.here hx rfl (hb hby d21_4) rfl rfl (l' := #[.val (.ref b), .val (.int (0 : Int32)), .val (.int (2 : Int32)), .val (.ref e), .unset]) rfl ?_
  refine iconstZ W1.here hx rfl (hb hby d21_5) (z := (0 : Int32)) rfl ?_
  refine XS.istore W1.here hx rfl (hb hby d21_6) rfl (l' := #[.val (.ref b), .val (.int (0 : Int32)), .val (.int (2 : Int32)), .val (.ref e), .val (.int (0 : Int32))]) rfl ?_
  refine XS.iload W1.here hx rfl (hb hby d21_8) rfl ?_
  refine XS.iloadN W1.here hx rfl (hb hby d21_10) rfl ?_
  refine XS.icmpNo W1.here hx rfl (hb hby d21_11) rfl (tlt (by decide : ((0 : Int32) < (2 : Int32)))).2.1 ?_
  refine XS.aloadN W1.here hx rfl (hb hby d21_14) rfl rfl ?_
  refine XS.iload W1.here hx rfl (hb hby d21_15) rfl ?_
  refine XS.aloadN W1.here hx rfl (hb hby d21_17) rfl rfl ?_
  refine XS.iloadN W1.here hx rfl (hb hby d21_18) rfl ?_
  exact k
 refine W1.caload hx (C0.ext E1) (j := (0 : Int32)) (v := .int c0) (by decide) rfl (g := (mkF m 19 #[.val (.ref b), .val (.int (0 : Int32)), .val (.int (2 : Int32)), .val (.ref e), .val (.int (0 : Int32))] [(.int (0 : Int32)), (.ref b), (.int (0 : Int32)), (.ref e)])) rfl rfl (hb hby d21_19) ?_
 change Fi _ _ _ _ _ _ _ _ _ _ (T1.setTop (mkF m 20 #[.val (.ref b), .val (.int (0 : Int32)), .val (.int (2 : Int32)), .val (.ref e), .val (.int (0 : Int32))] [(.int c0), (.int (0 : Int32)), (.ref e)]))
 refine W1.callS hx (y := y_10) (ww hw 105 rfl) (ww hw 106 rfl) (ww hw 45 rfl) (ww hw 107 rfl) (by decide) (Pay.of_con (Wd := 0) (rm_putC l Z a0 hw e (0 : Int32) c0 (4 : Int32) 0 ([0, 0, 0, 0] : List Int32) ke h1 n0 (by omega) (by omega) (Sta.ext E1 D0) (Sta.ext E1 HB0) (Sta.ext E1 LB0) rfl rfl (ble_ rfl) (ble_ rfl) B1) (ww hw 107 rfl) (ww hw 45 rfl) (hEL hw) (by decide) (by decide)) (g := (mkF m 20 #[.val (.ref b), .val (.int (0 : Int32)), .val (.int (2 : Int32)), .val (.ref e), .val (.int (0 : Int32))] [(.int c0), (.int (0 : Int32)), (.ref e)])) rfl (by rw [hml]; rfl) (argsL := [(.ref e), (.int (0 : Int32)), (.int c0)]) (rest := []) (lenOf pd_3 rfl) rfl rfl (ble_ rfl) (hb hby d21_20) (by decide) (by decide) (fun v2 T2 h2 W2 sz2 q2 => ?_)
 obtain ⟨rfl, K2, B2⟩ := q2
 change Fi _ _ _ _ _ _ _ _ _ _ (T2.setTop (mkF m 23 #[.val (.ref b), .val (.int (0 : Int32)), .val (.int (2 : Int32)), .val (.ref e), .val (.int (0 : Int32))] []))
 have x2k : Ext h0 h2 := ext_keep1 E1 K2 (by omega)
 have V2 : Arv Z h2 e ke .byte (4 : Int32) (([((c0 >>> ((0 : Int32) &&& 31)).toInt8.toInt32), ((c0 >>> ((8 : Int32) &&& 31)).toInt8.toInt32), 0, 0] : List Int32).map Value.int) (.int (0 : Int32)) := B2
 refine Fi.by' (st' := T2.setTop (mkF m 19 #[.val (.ref b), .val (.int (1 : Int32)), .val (.int (2 : Int32)), .val (.ref e), .val (.int (1 : Int32))] [(.int (1 : Int32)), (.ref b), (.int (1 : Int32)), (.ref e)])) (fun t k => ?_) ?_
 ·refine XS.iinc W2.here hx rfl (hb hby d21_23) rfl (l' := #[.val (.ref b), .val (.int (1 : Int32)), .val (.int (2 : Int32)), .val (.ref e), .val (.int (0 : Int32))]) rfl ?_
  refine XS.iinc W2.here hx rfl (hb hby d21_26) rfl (l' := #[.val (.ref b), .val (.int (1 : Int32)), .val (.int (2 : Int32)), .val (.ref e), .val (.int (1 : Int32))]) rfl ?_
  refine XS.goto W2.here hx rfl (pc0 := 29) (pc' := 8) rfl (hb hby d21_29) (by decide) (by decide) ?_
  refine XS.iload W2.here hx rfl (hb hby d21_8) rfl ?_
  refine XS.iloadN W2.here hx rfl (hb hby d21_10) rfl ?_
  refine XS.icmpNo W2.here hx rfl (hb hby d21_11) rfl (tlt (by decide : ((1 : Int32) < (2 : Int32)))).2.1 ?_
  refine XS.aloadN W2.here hx rfl (hb hby d21_14) rfl rfl ?_
  refine XS.iload W2.here hx rfl (hb hby d21_15) rfl ?_
  refine XS.aloadN W2.here hx rfl (hb hby d21_17) rfl rfl ?_
  refine XS.iloadN W2.here hx rfl (hb hby d21_18) rfl ?_
  exact k
 refine W2.caload hx (C0.ext x2k) (j := (1 : Int32)) (v := .int c1) (by decide) rfl (g := (mkF m 19 #[.val (.ref b), .val (.int (1 : Int32)), .val (.int (2 : Int32)), .val (.ref e), .val (.int (1 : Int32))] [(.int (1 : Int32)), (.ref b), (.int (1 : Int32)), (.ref e)])) rfl rfl (hb hby d21_19) ?_
 change Fi _ _ _ _ _ _ _ _ _ _ (T2.setTop (mkF m 20 #[.val (.ref b), .val (.int (1 : Int32)), .val (.int (2 : Int32)), .val (.ref e), .val (.int (1 : Int32))] [(.int c1), (.int (1 : Int32)), (.ref e)]))
 refine W2.callS hx (y := y_10) (ww hw 105 rfl) (ww hw 106 rfl) (ww hw 45 rfl) (ww hw 107 rfl) (by decide) (Pay.of_con (Wd := 0) (rm_putC l Z a0 hw e (1 : Int32) c1 (4 : Int32) 1 ([((c0 >>> ((0 : Int32) &&& 31)).toInt8.toInt32), ((c0 >>> ((8 : Int32) &&& 31)).toInt8.toInt32), 0, 0] : List Int32) ke h2 n0 (by omega) (by omega) (Sta.ext x2k D0) (Sta.ext x2k HB0) (Sta.ext x2k LB0) rfl rfl (ble_ rfl) (ble_ rfl) V2) (ww hw 107 rfl) (ww hw 45 rfl) (hEL hw) (by decide) (by decide)) (g := (mkF m 20 #[.val (.ref b), .val (.int (1 : Int32)), .val (.int (2 : Int32)), .val (.ref e), .val (.int (1 : Int32))] [(.int c1), (.int (1 : Int32)), (.ref e)])) rfl (by rw [hml]; rfl) (argsL := [(.ref e), (.int (1 : Int32)), (.int c1)]) (rest := []) (lenOf pd_3 rfl) rfl rfl (ble_ rfl) (hb hby d21_20) (by decide) (by decide) (fun v3 T3 h3 W3 sz3 q3 => ?_)
 obtain ⟨rfl, K3, B3⟩ := q3
 change Fi _ _ _ _ _ _ _ _ _ _ (T3.setTop (mkF m 23 #[.val (.ref b), .val (.int (1 : Int32)), .val (.int (2 : Int32)), .val (.ref e), .val (.int (1 : Int32))] []))
 have x3k : Ext h0 h3 := ext_keep1 x2k K3 (by omega)
 have V3 : Arv Z h3 e ke .byte (4 : Int32) (([((c0 >>> ((0 : Int32) &&& 31)).toInt8.toInt32), ((c0 >>> ((8 : Int32) &&& 31)).toInt8.toInt32), ((c1 >>> ((0 : Int32) &&& 31)).toInt8.toInt32), ((c1 >>> ((8 : Int32) &&& 31)).toInt8.toInt32)] : List Int32).map Value.int) (.int (0 : Int32)) := B3
 refine Fi.by' (st' := T3.setTop (mkF m 33 #[.val (.ref b), .val (.int (2 : Int32)), .val (.int (2 : Int32)), .val (.ref e), .val (.int (2 : Int32))] [(.ref e)])) (fun t k => ?_) ?_
 ·refine XS.iinc W3.here hx rfl (hb hby d21_23) rfl (l' := #[.val (.ref b), .val (.int (2 : Int32)), .val (.int (2 : Int32)), .val (.ref e), .val (.int (1 : Int32))]) rfl ?_
  refine XS.iinc W3.here hx rfl (hb hby d21_26) rfl (l' := #[.val (.ref b), .val (.int (2 : Int32)), .val (.int (2 : Int32)), .val (.ref e), .val (.int (2 : Int32))]) rfl ?_
  refine XS.goto W3.here hx rfl (pc0 := 29) (pc' := 8) rfl (hb hby d21_29) (by decide) (by decide) ?_
  refine XS.iload W3.here hx rfl (hb hby d21_8) rfl ?_
  refine XS.iloadN W3.here hx rfl (hb hby d21_10) rfl ?_
  refine XS.icmpYes W3.here hx rfl (pc0 := 11) (pc' := 32) rfl (hb hby d21_11) rfl (flt (by decide : ¬ ((2 : Int32) < (2 : Int32)))).2.1 (by decide) (by decide) ?_
  refine XS.aloadN W3.here hx rfl (hb hby d21_32) rfl rfl ?_
  exact k
 have hB : Arv Z h3 e ke .byte (4 : Int32) (StrChars.Road.wideBytes [c0, c1]) (.int (0 : Int32)) := by
  have q := V3
  simp only [StrChars.shr0] at q
  exact q
 exact W3.aret hx hlk hret rfl rfl (hb hby d21_33) ⟨e, ke, rfl, x3k, ge, hB⟩ (by decide) (by decide)
def Q_cmpA2 (Z : State) (b d : Addr) (c0 c1 : Int32) (kc kd : ClassId) (h0 : Heap) (v : Option Value) (h : Heap) : Prop := ∃ k : Nat, k < 2 ∧ v = some (.int (Int32.ofNat k)) ∧ (255 : Int32) < ([c0, c1] : List Int32).getD k 0 ∧ Keep h0 h [d]
set_option maxRecDepth 65536 in
set_option maxHeartbeats 40000000 in
theorem rm_cmpA2 (l : Launch) (Z : State) (a0 : Array Value) (hw : ∀ d ∈ tables_1, d.before a0 Z = true) (b d : Addr) (c0 c1 : Int32) (kc kd : ClassId) (h0 : Heap) (n0 : Nat) (Z0 : n0 ≤ h0.size) (g0 : n0 ≤ d) (hne : b ≠ d) (C0 : Arv Z h0 b kc .char (2 : Int32) (([c0, c1] : List Int32).map Value.int) (.int (0 : Int32))) (B0 : Arv Z h0 d kd .byte (2 : Int32) (([0, 0] : List Int32).map Value.int) (.int (0 : Int32))) (hwd : ¬ ∀ c ∈ ([c0, c1] : List Int32), ¬ (255 : Int32) < c) :
  Con l Z EL y_15 jdk_52_method_21_code 7 (some .int) [] ({ frames := 0, cells := 0, slots := 0, locals := 0 } : Room) #[(.ref b), (.int (0 : Int32)), (.ref d), (.int (0 : Int32)), (.int (2 : Int32))] h0 n0 (Q_cmpA2 Z b d c0 c1 kc kd h0) := by
 refine Con.intro (own := "java/lang/StringUTF16") rfl (plainFor_of_name plain_java_lang_StringUTF16) (hEL hw) ?_
 intro p e s m below meth c s₁ hx hby hml hret hlk hnm W0
 refine Fi.cast (show entryFrame m #[(.ref b), (.int (0 : Int32)), (.ref d), (.int (0 : Int32)), (.int (2 : Int32))] 7 = (mkF m 0 #[.val (.ref b), .val (.int (0 : Int32)), .val (.ref d), .val (.int (0 : Int32)), .val (.int (2 : Int32)), .unset, .unset] []) from by first | (simp [entryFrame, mkF, argsToLocals, Value.category]; done) | rfl) ?_
 refine Fi.by' (st' := s₁.setTop (mkF m 12 #[.val (.ref b), .val (.int (0 : Int32)), .val (.ref d), .val (.int (0 : Int32)), .val (.int (2 : Int32)), .val (.int (0 : Int32)), .unset] [(.int (0 : Int32)), (.ref b)])) (fun t k => ?_) ?_
 ·refine iconstZ W0.here hx rfl (hb hby d9_0) (z := (0 : Int32)) rfl ?_
  refine XS.istore W0.here hx rfl (hb hby d9_1) rfl (l' := #[.val (.ref b), .val (.int (0 : Int32)), .val (.ref d), .val (.int (0 : Int32)), .val (.int (2 : Int32)), .val (.int (0 : Int32)), .unset]) rfl ?_
  refine XS.iload W0.here hx rfl (hb hby d9_3) rfl ?_
  refine XS.iload W0.here hx rfl (hb hby d9_5) rfl ?_
  refine XS.icmpNo W0.here hx rfl (hb hby d9_7) rfl (tlt (by decide : ((0 : Int32) < (2 : Int32)))).2.1 ?_
  refine XS.aloadN W0.here hx rfl (hb hby d9_10) rfl rfl ?_
  refine XS.iloadN W0.here hx rfl (hb hby d9_11) rfl ?_
  exact k
 refine W0.caload hx C0 (j := (0 : Int32)) (v := .int c0) (by decide) rfl (g := (mkF m 12 #[.val (.ref b), .val (.int (0 : Int32)), .val (.ref d), .val (.int (0 : Int32)), .val (.int (2 : Int32)), .val (.int (0 : Int32)), .unset] [(.int (0 : Int32)), (.ref b)])) rfl rfl (hb hby d9_12) ?_
 change Fi _ _ _ _ _ _ _ _ _ _ (s₁.setTop (mkF m 13 #[.val (.ref b), .val (.int (0 : Int32)), .val (.ref d), .val (.int (0 : Int32)), .val (.int (2 : Int32)), .val (.int (0 : Int32)), .unset] [(.int c0)]))
 refine Fi.by' (st' := s₁.setTop (mkF m 20 #[.val (.ref b), .val (.int (0 : Int32)), .val (.ref d), .val (.int (0 : Int32)), .val (.int (2 : Int32)), .val (.int (0 : Int32)), .val (.int c0)] [(.int (255 : Int32)), (.int c0)])) (fun t k => ?_) ?_
 ·refine XS.istore W0.here hx rfl (hb hby d9_13) rfl (l' := #[.val (.ref b), .val (.int (0 : Int32)), .val (.ref d), .val (.int (0 : Int32)), .val (.int (2 : Int32)), .val (.int (0 : Int32)), .val (.int c0)]) rfl ?_
  refine XS.iload W0.here hx rfl (hb hby d9_15) rfl ?_
  refine sipushZ W0.here hx rfl (hb hby d9_17) (z := (255 : Int32)) rfl ?_
  exact k
 by_cases hc20_1 : (255 : Int32) < c0
 ·refine Fi.by' (st' := s₁.setTop (mkF m 25 #[.val (.ref b), .val (.int (0 : Int32)), .val (.ref d), .val (.int (0 : Int32)), .val (.int (2 : Int32)), .val (.int (0 : Int32)), .val (.int c0)] [(.int (0 : Int32))])) (fun t k => ?_) ?_
  ·refine XS.icmpNo W0.here hx rfl (hb hby d9_20) rfl (tlt hc20_1).2.2.2 ?_
   refine XS.iload W0.here hx rfl (hb hby d9_23) rfl ?_
   exact k
  exact W0.iret hx hlk hret (by simp) rfl (hb hby d9_25) ⟨0, by decide, rfl, hc20_1, (Keep.refl h0 [d])⟩ (by decide) (by decide)
 ·refine Fi.by' (st' := s₁.setTop (mkF m 31 #[.val (.ref b), .val (.int (0 : Int32)), .val (.ref d), .val (.int (0 : Int32)), .val (.int (2 : Int32)), .val (.int (0 : Int32)), .val (.int c0)] [(.int (c0.toInt8.toInt32)), (.int (0 : Int32)), (.ref d)])) (fun t k => ?_) ?_
  ·refine XS.icmpYes W0.here hx rfl (pc0 := 20) (pc' := 26) rfl (hb hby d9_20) rfl (flt hc20_1).2.2.2 (by decide) (by decide) ?_
   refine XS.aloadN W0.here hx rfl (hb hby d9_26) rfl rfl ?_
   refine XS.iloadN W0.here hx rfl (hb hby d9_27) rfl ?_
   refine XS.iload W0.here hx rfl (hb hby d9_28) rfl ?_
   refine XS.i2b W0.here hx rfl (hb hby d9_30) rfl ?_
   exact k
  refine Wk.bastoreN rfl W0 hx B0 (i := 0) (ble_ rfl) (j := (0 : Int32)) rfl (by decide) rfl (low_ok c0) (g := (mkF m 31 #[.val (.ref b), .val (.int (0 : Int32)), .val (.ref d), .val (.int (0 : Int32)), .val (.int (2 : Int32)), .val (.int (0 : Int32)), .val (.int c0)] [(.int (c0.toInt8.toInt32)), (.int (0 : Int32)), (.ref d)])) rfl rfl (hb hby d9_31) g0 (fun T2 h2 W2 R2 V2 => ?_)
  change Fi _ _ _ _ _ _ _ _ _ _ (T2.setTop (mkF m 32 #[.val (.ref b), .val (.int (0 : Int32)), .val (.ref d), .val (.int (0 : Int32)), .val (.int (2 : Int32)), .val (.int (0 : Int32)), .val (.int c0)] []))
  have Q2 : Arv Z h2 d kd .byte (2 : Int32) (([(c0.toInt8.toInt32), 0] : List Int32).map Value.int) (.int (0 : Int32)) := V2
  have Y2 := Arv.other C0 R2 hne
  refine Fi.by' (st' := T2.setTop (mkF m 12 #[.val (.ref b), .val (.int (1 : Int32)), .val (.ref d), .val (.int (1 : Int32)), .val (.int (2 : Int32)), .val (.int (1 : Int32)), .val (.int c0)] [(.int (1 : Int32)), (.ref b)])) (fun t k => ?_) ?_
  ·refine XS.iinc W2.here hx rfl (hb hby d9_32) rfl (l' := #[.val (.ref b), .val (.int (1 : Int32)), .val (.ref d), .val (.int (0 : Int32)), .val (.int (2 : Int32)), .val (.int (0 : Int32)), .val (.int c0)]) rfl ?_
   refine XS.iinc W2.here hx rfl (hb hby d9_35) rfl (l' := #[.val (.ref b), .val (.int (1 : Int32)), .val (.ref d), .val (.int (1 : Int32)), .val (.int (2 : Int32)), .val (.int (0 : Int32)), .val (.int c0)]) rfl ?_
   refine XS.iinc W2.here hx rfl (hb hby d9_38) rfl (l' := #[.val (.ref b), .val (.int (1 : Int32)), .val (.ref d), .val (.int (1 : Int32)), .val (.int (2 : Int32)), .val (.int (1 : Int32)), .val (.int c0)]) rfl ?_
   refine XS.goto W2.here hx rfl (pc0 := 41) (pc' := 3) rfl (hb hby d9_41) (by decide) (by decide) ?_
   refine XS.iload W2.here hx rfl (hb hby d9_3) rfl ?_
   refine XS.iload W2.here hx rfl (hb hby d9_5) rfl ?_
   refine XS.icmpNo W2.here hx rfl (hb hby d9_7) rfl (tlt (by decide : ((1 : Int32) < (2 : Int32)))).2.1 ?_
   refine XS.aloadN W2.here hx rfl (hb hby d9_10) rfl rfl ?_
   refine XS.iloadN W2.here hx rfl (hb hby d9_11) rfl ?_
   exact k
  refine W2.caload hx Y2 (j := (1 : Int32)) (v := .int c1) (by decide) rfl (g := (mkF m 12 #[.val (.ref b), .val (.int (1 : Int32)), .val (.ref d), .val (.int (1 : Int32)), .val (.int (2 : Int32)), .val (.int (1 : Int32)), .val (.int c0)] [(.int (1 : Int32)), (.ref b)])) rfl rfl (hb hby d9_12) ?_
  change Fi _ _ _ _ _ _ _ _ _ _ (T2.setTop (mkF m 13 #[.val (.ref b), .val (.int (1 : Int32)), .val (.ref d), .val (.int (1 : Int32)), .val (.int (2 : Int32)), .val (.int (1 : Int32)), .val (.int c0)] [(.int c1)]))
  refine Fi.by' (st' := T2.setTop (mkF m 20 #[.val (.ref b), .val (.int (1 : Int32)), .val (.ref d), .val (.int (1 : Int32)), .val (.int (2 : Int32)), .val (.int (1 : Int32)), .val (.int c1)] [(.int (255 : Int32)), (.int c1)])) (fun t k => ?_) ?_
  ·refine XS.istore W2.here hx rfl (hb hby d9_13) rfl (l' := #[.val (.ref b), .val (.int (1 : Int32)), .val (.ref d), .val (.int (1 : Int32)), .val (.int (2 : Int32)), .val (.int (1 : Int32)), .val (.int c1)]) rfl ?_
   refine XS.iload W2.here hx rfl (hb hby d9_15) rfl ?_
   refine sipushZ W2.here hx rfl (hb hby d9_17) (z := (255 : Int32)) rfl ?_
   exact k
  by_cases hc20_3 : (255 : Int32) < c1
  ·refine Fi.by' (st' := T2.setTop (mkF m 25 #[.val (.ref b), .val (.int (1 : Int32)), .val (.ref d), .val (.int (1 : Int32)), .val (.int (2 : Int32)), .val (.int (1 : Int32)), .val (.int c1)] [(.int (1 : Int32))])) (fun t k => ?_) ?_
   ·refine XS.icmpNo W2.here hx rfl (hb hby d9_20) rfl (tlt hc20_3).2.2.2 ?_
    refine XS.iload W2.here hx rfl (hb hby d9_23) rfl ?_
    exact k
   exact W2.iret hx hlk hret (by simp) rfl (hb hby d9_25) ⟨1, by decide, rfl, hc20_3, ((Keep.refl h0 [d]).wr R2 (Or.inl (List.mem_singleton.mpr rfl)))⟩ (by decide) (by decide)
  ·refine Fi.by' (st' := T2.setTop (mkF m 31 #[.val (.ref b), .val (.int (1 : Int32)), .val (.ref d), .val (.int (1 : Int32)), .val (.int (2 : Int32)), .val (.int (1 : Int32)), .val (.int c1)] [(.int (c1.toInt8.toInt32)), (.int (1 : Int32)), (.ref d)])) (fun t k => ?_) ?_
   ·refine XS.icmpYes W2.here hx rfl (pc0 := 20) (pc' := 26) rfl (hb hby d9_20) rfl (flt hc20_3).2.2.2 (by decide) (by decide) ?_
    refine XS.aloadN W2.here hx rfl (hb hby d9_26) rfl rfl ?_
    refine XS.iloadN W2.here hx rfl (hb hby d9_27) rfl ?_
    refine XS.iload W2.here hx rfl (hb hby d9_28) rfl ?_
    refine XS.i2b W2.here hx rfl (hb hby d9_30) rfl ?_
    exact k
   refine Wk.bastoreN rfl W2 hx Q2 (i := 1) (ble_ rfl) (j := (1 : Int32)) rfl (by decide) rfl (low_ok c1) (g := (mkF m 31 #[.val (.ref b), .val (.int (1 : Int32)), .val (.ref d), .val (.int (1 : Int32)), .val (.int (2 : Int32)), .val (.int (1 : Int32)), .val (.int c1)] [(.int (c1.toInt8.toInt32)), (.int (1 : Int32)), (.ref d)])) rfl rfl (hb hby d9_31) g0 (fun T4 h4 W4 R4 V4 => ?_)
   change Fi _ _ _ _ _ _ _ _ _ _ (T4.setTop (mkF m 32 #[.val (.ref b), .val (.int (1 : Int32)), .val (.ref d), .val (.int (1 : Int32)), .val (.int (2 : Int32)), .val (.int (1 : Int32)), .val (.int c1)] []))
   have Q4 : Arv Z h4 d kd .byte (2 : Int32) (([(c0.toInt8.toInt32), (c1.toInt8.toInt32)] : List Int32).map Value.int) (.int (0 : Int32)) := V4
   have Y4 := Arv.other Y2 R4 hne
   refine Fi.by' (st' := T4.setTop (mkF m 46 #[.val (.ref b), .val (.int (2 : Int32)), .val (.ref d), .val (.int (2 : Int32)), .val (.int (2 : Int32)), .val (.int (2 : Int32)), .val (.int c1)] [(.int (2 : Int32))])) (fun t k => ?_) ?_
   ·refine XS.iinc W4.here hx rfl (hb hby d9_32) rfl (l' := #[.val (.ref b), .val (.int (2 : Int32)), .val (.ref d), .val (.int (1 : Int32)), .val (.int (2 : Int32)), .val (.int (1 : Int32)), .val (.int c1)]) rfl ?_
    refine XS.iinc W4.here hx rfl (hb hby d9_35) rfl (l' := #[.val (.ref b), .val (.int (2 : Int32)), .val (.ref d), .val (.int (2 : Int32)), .val (.int (2 : Int32)), .val (.int (1 : Int32)), .val (.int c1)]) rfl ?_
    refine XS.iinc W4.here hx rfl (hb hby d9_38) rfl (l' := #[.val (.ref b), .val (.int (2 : Int32)), .val (.ref d), .val (.int (2 : Int32)), .val (.int (2 : Int32)), .val (.int (2 : Int32)), .val (.int c1)]) rfl ?_
    refine XS.goto W4.here hx rfl (pc0 := 41) (pc' := 3) rfl (hb hby d9_41) (by decide) (by decide) ?_
    refine XS.iload W4.here hx rfl (hb hby d9_3) rfl ?_
    refine XS.iload W4.here hx rfl (hb hby d9_5) rfl ?_
    refine XS.icmpYes W4.here hx rfl (pc0 := 7) (pc' := 44) rfl (hb hby d9_7) rfl (flt (by decide : ¬ ((2 : Int32) < (2 : Int32)))).2.1 (by decide) (by decide) ?_
    refine XS.iload W4.here hx rfl (hb hby d9_44) rfl ?_
    exact k
   exact absurd (all_cons hc20_1 (all_cons hc20_3 all_nil)) hwd
def Q_cmpB2 (Z : State) (b : Addr) (c0 c1 : Int32) (kc : ClassId) (h0 : Heap) (v : Option Value) (h : Heap) : Prop := ∃ (e : Addr) (k : ClassId), v = some (.ref e) ∧ Ext h0 h ∧ h0.size ≤ e ∧ Arv Z h e k .byte (4 : Int32) (StrChars.Road.wideBytes [c0, c1]) (.int (0 : Int32))
set_option maxRecDepth 65536 in
set_option maxHeartbeats 40000000 in
theorem rm_cmpB2 (l : Launch) (Z : State) (a0 : Array Value) (hw : ∀ d ∈ tables_1, d.before a0 Z = true) (b : Addr) (c0 c1 : Int32) (kc : ClassId) (h0 : Heap) (n0 : Nat) (Z0 : n0 ≤ h0.size) (D0 : Sta Z h0 "java/lang/StringUTF16" "$assertionsDisabled" "Z" (.int 1)) (HB0 : Sta Z h0 "java/lang/StringUTF16" "HI_BYTE_SHIFT" "I" (.int 0)) (LB0 : Sta Z h0 "java/lang/StringUTF16" "LO_BYTE_SHIFT" "I" (.int 8)) (C0 : Arv Z h0 b kc .char (2 : Int32) (([c0, c1] : List Int32).map Value.int) (.int (0 : Int32))) (hr : ∀ c ∈ ([c0, c1] : List Int32), ¬ c < 0 ∧ ¬ (65535 : Int32) < c) (hwd : ¬ ∀ c ∈ ([c0, c1] : List Int32), ¬ (255 : Int32) < c) :
  Con l Z EL y_16 jdk_52_method_16_code 6 (some (.array .byte)) [] ({ frames := 3, cells := 2, slots := 6, locals := 40 } : Room) #[(.ref b), (.int (0 : Int32)), (.int (2 : Int32))] h0 n0 (Q_cmpB2 Z b c0 c1 kc h0) := by
 refine Con.intro (own := "java/lang/StringUTF16") rfl (plainFor_of_name plain_java_lang_StringUTF16) (hEL hw) ?_
 intro p e s m below meth c s₁ hx hby hml hret hlk hnm W0
 refine Fi.cast (show entryFrame m #[(.ref b), (.int (0 : Int32)), (.int (2 : Int32))] 6 = (mkF m 0 #[.val (.ref b), .val (.int (0 : Int32)), .val (.int (2 : Int32)), .unset, .unset, .unset] []) from by first | (simp [entryFrame, mkF, argsToLocals, Value.category]; done) | rfl) ?_
 refine Fi.by' (st' := s₁.setTop (mkF m 1 #[.val (.ref b), .val (.int (0 : Int32)), .val (.int (2 : Int32)), .unset, .unset, .unset] [(.int (2 : Int32))])) (fun t k => ?_) ?_
 ·refine XS.iloadN W0.here hx rfl (hb hby d8_0) rfl ?_
  exact k
 refine W0.newP hx (aty := .byte) (ww hw 21 rfl) (g := (mkF m 1 #[.val (.ref b), .val (.int (0 : Int32)), .val (.int (2 : Int32)), .unset, .unset, .unset] [(.int (2 : Int32))])) rfl (hb hby d8_1) rfl (by decide) (cap := 2) (by decide) (by decide) (by decide) (by decide) (fun T1 h1 a1 k1 ha1 W1 E1 A1 => ?_)
 change Fi _ _ _ _ _ _ _ _ _ _ (T1.setTop (mkF m 3 #[.val (.ref b), .val (.int (0 : Int32)), .val (.int (2 : Int32)), .unset, .unset, .unset] [(.ref a1)]))
 have sz1 := E1.1
 have V1 : Arv Z h1 a1 k1 .byte (2 : Int32) (([0, 0] : List Int32).map Value.int) (.int (0 : Int32)) := A1.pad (pad_rep [] (.int (0 : Int32)) 2)
 refine Fi.by' (st' := T1.setTop (mkF m 9 #[.val (.ref b), .val (.int (0 : Int32)), .val (.int (2 : Int32)), .val (.ref a1), .unset, .unset] [(.int (2 : Int32)), (.int (0 : Int32)), (.ref a1), (.int (0 : Int32)), (.ref b)])) (fun t k => ?_) ?_
 ·refine XS.astoreN W1.here hx rfl (hb hby d8_3) rfl rfl (l' := #[.val (.ref b), .val (.int (0 : Int32)), .val (.int (2 : Int32)), .val (.ref a1), .unset, .unset]) rfl ?_
  refine XS.aloadN W1.here hx rfl (hb hby d8_4) rfl rfl ?_
  refine XS.iloadN W1.here hx rfl (hb hby d8_5) rfl ?_
  refine XS.aloadN W1.here hx rfl (hb hby d8_6) rfl rfl ?_
  refine iconstZ W1.here hx rfl (hb hby d8_7) (z := (0 : Int32)) rfl ?_
  refine XS.iloadN W1.here hx rfl (hb hby d8_8) rfl ?_
  exact k
 have lb : @LT.lt Nat _ b h0.size := C0.lt
 refine W1.callS hx (y := y_15) (ww hw 47 rfl) (ww hw 48 rfl) (ww hw 45 rfl) (ww hw 49 rfl) (by decide) (Pay.of_con (Wd := 0) (rm_cmpA2 l Z a0 hw b a1 c0 c1 kc k1 h1 n0 (by omega) (by omega) (fun q => by have q2 : @Eq Nat b a1 := q; omega) (C0.ext E1) V1 hwd) (ww hw 49 rfl) (ww hw 45 rfl) (hEL hw) (by decide) (by decide)) (g := (mkF m 9 #[.val (.ref b), .val (.int (0 : Int32)), .val (.int (2 : Int32)), .val (.ref a1), .unset, .unset] [(.int (2 : Int32)), (.int (0 : Int32)), (.ref a1), (.int (0 : Int32)), (.ref b)])) rfl (by rw [hml]; rfl) (argsL := [(.ref b), (.int (0 : Int32)), (.ref a1), (.int (0 : Int32)), (.int (2 : Int32))]) (rest := []) (lenOf pd_4 rfl) rfl rfl (ble_ rfl) (hb hby d8_9) (by decide) (by decide) (fun v2 T2 h2 W2 sz2 q2 => ?_)
 obtain ⟨kx, hk, rfl, hc, K2⟩ := q2
 change Fi _ _ _ _ _ _ _ _ _ _ (T2.setTop (mkF m 12 #[.val (.ref b), .val (.int (0 : Int32)), .val (.int (2 : Int32)), .val (.ref a1), .unset, .unset] [(.int (Int32.ofNat kx))]))
 have x2k : Ext h0 h2 := ext_keep1 E1 K2 (by omega)
 refine Fi.by' (st' := T2.setTop (mkF m 17 #[.val (.ref b), .val (.int (0 : Int32)), .val (.int (2 : Int32)), .val (.ref a1), .val (.int (Int32.ofNat kx)), .unset] [(.int (2 : Int32)), (.int (Int32.ofNat kx))])) (fun t k => ?_) ?_
 ·refine XS.istore W2.here hx rfl (hb hby d8_12) rfl (l' := #[.val (.ref b), .val (.int (0 : Int32)), .val (.int (2 : Int32)), .val (.ref a1), .val (.int (Int32.ofNat kx)), .unset]) rfl ?_
  refine XS.iload W2.here hx rfl (hb hby d8_14) rfl ?_
  refine XS.iloadN W2.here hx rfl (hb hby d8_16) rfl ?_
  exact k
 refine Fi.by' (st' := T2.setTop (mkF m 23 #[.val (.ref b), .val (.int (0 : Int32)), .val (.int (2 : Int32)), .val (.ref a1), .val (.int (Int32.ofNat kx)), .unset] [(.int (2 : Int32)), (.int (0 : Int32)), (.ref b)])) (fun t k => ?_) ?_
 ·refine XS.icmpNo W2.here hx rfl (hb hby d8_17) rfl (feq (ofNat_ne hk (by decide))).1 ?_
  refine XS.aloadN W2.here hx rfl (hb hby d8_20) rfl rfl ?_
  refine XS.iloadN W2.here hx rfl (hb hby d8_21) rfl ?_
  refine XS.iloadN W2.here hx rfl (hb hby d8_22) rfl ?_
  exact k
 refine W2.callS hx (y := y_14) (ww hw 95 rfl) (ww hw 96 rfl) (ww hw 45 rfl) (ww hw 97 rfl) (by decide) (Pay.of_con (Wd := 0) (rm_toB2 l Z a0 hw b c0 c1 kc h2 n0 (by omega) (Sta.ext x2k D0) (Sta.ext x2k HB0) (Sta.ext x2k LB0) (C0.ext x2k)) (ww hw 97 rfl) (ww hw 45 rfl) (hEL hw) (by decide) (by decide)) (g := (mkF m 23 #[.val (.ref b), .val (.int (0 : Int32)), .val (.int (2 : Int32)), .val (.ref a1), .val (.int (Int32.ofNat kx)), .unset] [(.int (2 : Int32)), (.int (0 : Int32)), (.ref b)])) rfl (by rw [hml]; rfl) (argsL := [(.ref b), (.int (0 : Int32)), (.int (2 : Int32))]) (rest := []) (lenOf pd_5 rfl) rfl rfl (ble_ rfl) (hb hby d8_23) (by decide) (by decide) (fun v3 T3 h3 W3 sz3 q3 => ?_)
 obtain ⟨e, ke, rfl, E3, ge, B3⟩ := q3
 change Fi _ _ _ _ _ _ _ _ _ _ (T3.setTop (mkF m 26 #[.val (.ref b), .val (.int (0 : Int32)), .val (.int (2 : Int32)), .val (.ref a1), .val (.int (Int32.ofNat kx)), .unset] [(.ref e)]))
 refine Fi.by' (st' := T3.setTop (mkF m 32 #[.val (.ref b), .val (.int (0 : Int32)), .val (.int (2 : Int32)), .val (.ref a1), .val (.int (Int32.ofNat kx)), .val (.ref e)] [(.int (Int32.ofNat kx)), (.ref e)])) (fun t k => ?_) ?_
 ·refine XS.astore W3.here hx rfl (hb hby d8_26) rfl rfl (l' := #[.val (.ref b), .val (.int (0 : Int32)), .val (.int (2 : Int32)), .val (.ref a1), .val (.int (Int32.ofNat kx)), .val (.ref e)]) rfl ?_
  refine XS.aload W3.here hx rfl (hb hby d8_28) rfl rfl ?_
  refine XS.iload W3.here hx rfl (hb hby d8_30) rfl ?_
  exact k
 have x4 : Ext h0 h3 := ext_trans x2k E3
 refine W3.callS hx (y := y_11) (ww hw 111 rfl) (ww hw 112 rfl) (ww hw 45 rfl) (ww hw 113 rfl) (by decide) (Pay.of_con (Wd := 0) (rm_getC l Z a0 hw e (Int32.ofNat kx) (4 : Int32) _ _ kx _ ke h3 n0 (by omega) (Sta.ext x4 D0) (Sta.ext x4 HB0) (Sta.ext x4 LB0) rfl (by omega) (by rw [show (4 : Int32).toNatClampNeg = 4 from rfl]; omega) B3 (StrChars.Road.wide_lo _ [c0, c1] kx hk) (StrChars.Road.wide_hi _ [c0, c1] kx hk)) (ww hw 113 rfl) (ww hw 45 rfl) (hEL hw) (by decide) (by decide)) (g := (mkF m 32 #[.val (.ref b), .val (.int (0 : Int32)), .val (.int (2 : Int32)), .val (.ref a1), .val (.int (Int32.ofNat kx)), .val (.ref e)] [(.int (Int32.ofNat kx)), (.ref e)])) rfl (by rw [hml]; rfl) (argsL := [(.ref e), (.int (Int32.ofNat kx))]) (rest := []) (lenOf pd_6 rfl) rfl rfl (ble_ rfl) (hb hby d8_32) (by decide) (by decide) (fun v5 T5 h5 W5 sz5 q5 => ?_)
 obtain ⟨rfl, rfl⟩ := q5
 change Fi _ _ _ _ _ _ _ _ _ _ (T5.setTop (mkF m 35 #[.val (.ref b), .val (.int (0 : Int32)), .val (.int (2 : Int32)), .val (.ref a1), .val (.int (Int32.ofNat kx)), .val (.ref e)] [(.int (StrChars.pairCh (StrChars.lo8 (([c0, c1] : List Int32).getD kx 0)) (StrChars.hi8 (([c0, c1] : List Int32).getD kx 0))))]))
 refine Fi.by' (st' := T5.setTop (mkF m 38 #[.val (.ref b), .val (.int (0 : Int32)), .val (.int (2 : Int32)), .val (.ref a1), .val (.int (Int32.ofNat kx)), .val (.ref e)] [(.int (255 : Int32)), (.int (StrChars.pairCh (StrChars.lo8 (([c0, c1] : List Int32).getD kx 0)) (StrChars.hi8 (([c0, c1] : List Int32).getD kx 0))))])) (fun t k => ?_) ?_
 ·refine sipushZ W5.here hx rfl (hb hby d8_35) (z := (255 : Int32)) rfl ?_
  exact k
 refine Fi.by' (st' := T5.setTop (mkF m 56 #[.val (.ref b), .val (.int (0 : Int32)), .val (.int (2 : Int32)), .val (.ref a1), .val (.int (Int32.ofNat kx)), .val (.ref e)] [(.ref e)])) (fun t k => ?_) ?_
 ·refine XS.icmpYes W5.here hx rfl (pc0 := 38) (pc' := 54) rfl (hb hby d8_38) rfl (tlt (by rw [StrChars.pair_says (getD_rng (cs := [c0, c1]) hk hr).1 (getD_rng (cs := [c0, c1]) hk hr).2]; exact hc)).2.2.1 (by decide) (by decide) ?_
  refine XS.aload W5.here hx rfl (hb hby d8_54) rfl rfl ?_
  exact k
 exact W5.aret hx hlk hret rfl rfl (hb hby d8_56) ⟨e, ke, rfl, x4, by omega, B3⟩ (by decide) (by decide)
def Q_inA2 (Z : State) (x b : Addr) (zc c0 c1 : Int32) (kc : ClassId) (h0 : Heap) (v : Option Value) (h : Heap) : Prop := v = none ∧ Keep h0 h [x] ∧ StrA Z h x [c0, c1]
set_option maxRecDepth 65536 in
set_option maxHeartbeats 40000000 in
theorem rm_inA2 (l : Launch) (Z : State) (a0 : Array Value) (hw : ∀ d ∈ tables_1, d.before a0 Z = true) (x b : Addr) (zc c0 c1 : Int32) (kc : ClassId) (h0 : Heap) (n0 : Nat) (Z0 : n0 ≤ h0.size) (g0 : n0 ≤ x) (A0 : Exa Z h0 x "java/lang/String") (V0 : Fld Z h0 x "java/lang/String" "value" "[B" .null) (C1 : Fld Z h0 x "java/lang/String" "coder" "B" (.int (0 : Int32))) (S0 : Sta Z h0 "java/lang/String" "COMPACT_STRINGS" "Z" (.int zc)) (hz : ¬ zc = 0) (D0 : Sta Z h0 "java/lang/StringUTF16" "$assertionsDisabled" "Z" (.int 1)) (HB0 : Sta Z h0 "java/lang/StringUTF16" "HI_BYTE_SHIFT" "I" (.int 0)) (LB0 : Sta Z h0 "java/lang/StringUTF16" "LO_BYTE_SHIFT" "I" (.int 8)) (C0 : Arv Z h0 b kc .char (2 : Int32) (([c0, c1] : List Int32).map Value.int) (.int (0 : Int32))) (hr : ∀ c ∈ ([c0, c1] : List Int32), ¬ c < 0 ∧ ¬ (65535 : Int32) < c) (hwd : ¬ ∀ c ∈ ([c0, c1] : List Int32), ¬ (255 : Int32) < c) :
  Con l Z EL y_17 jdk_42_method_149_code 6 none [] ({ frames := 4, cells := 2, slots := 6, locals := 57 } : Room) #[(.ref x), (.ref b), (.int (0 : Int32)), (.int (2 : Int32)), .null] h0 n0 (Q_inA2 Z x b zc c0 c1 kc h0) := by
 refine Con.intro (own := "java/lang/String") rfl (plainFor_of_name plain_java_lang_String) (hEL hw) ?_
 intro p e s m below meth c s₁ hx hby hml hret hlk hnm W0
 refine Fi.cast (show entryFrame m #[(.ref x), (.ref b), (.int (0 : Int32)), (.int (2 : Int32)), .null] 6 = (mkF m 0 #[.val (.ref x), .val (.ref b), .val (.int (0 : Int32)), .val (.int (2 : Int32)), .val .null, .unset] []) from by first | (simp [entryFrame, mkF, argsToLocals, Value.category]; done) | rfl) ?_
 refine Fi.by' (st' := s₁.setTop (mkF m 1 #[.val (.ref x), .val (.ref b), .val (.int (0 : Int32)), .val (.int (2 : Int32)), .val .null, .unset] [(.ref x)])) (fun t k => ?_) ?_
 ·refine XS.aloadN W0.here hx rfl (hb hby d3_0) rfl rfl ?_
  exact k
 refine W0.initO hx (ww hw 17 rfl) (ww hw 18 rfl) (ww hw 19 rfl) (g := (mkF m 1 #[.val (.ref x), .val (.ref b), .val (.int (0 : Int32)), .val (.int (2 : Int32)), .val .null, .unset] [(.ref x)])) rfl (by rw [hml]; rfl) rfl (hb hby d3_1) (by decide) (Wd := 0) (ble_ rfl) (by decide) (fun T1 W1 => ?_)
 change Fi _ _ _ _ _ _ _ _ _ _ (T1.setTop (mkF m 4 #[.val (.ref x), .val (.ref b), .val (.int (0 : Int32)), .val (.int (2 : Int32)), .val .null, .unset] []))
 refine Fi.by' (st' := T1.setTop (mkF m 27 #[.val (.ref x), .val (.ref b), .val (.int (0 : Int32)), .val (.int (2 : Int32)), .val .null, .unset] [])) (fun t k => ?_) ?_
 ·refine XS.iloadN W1.here hx rfl (hb hby d3_4) rfl ?_
  refine XS.ifYes W1.here hx rfl (pc0 := 5) (pc' := 27) rfl (hb hby d3_5) rfl ((if0 _ _).trans (feq (by decide : ¬ ((2 : Int32) = (0 : Int32)))).2) (by decide) (by decide) ?_
  exact k
 refine W1.getS hx (ww hw 42 rfl) S0 (g := (mkF m 27 #[.val (.ref x), .val (.ref b), .val (.int (0 : Int32)), .val (.int (2 : Int32)), .val .null, .unset] [])) rfl (hb hby d3_27) (fun T2 W2 => ?_)
 change Fi _ _ _ _ _ _ _ _ _ _ (T2.setTop (mkF m 30 #[.val (.ref x), .val (.ref b), .val (.int (0 : Int32)), .val (.int (2 : Int32)), .val .null, .unset] [(.int zc)]))
 refine Fi.by' (st' := T2.setTop (mkF m 36 #[.val (.ref x), .val (.ref b), .val (.int (0 : Int32)), .val (.int (2 : Int32)), .val .null, .unset] [(.int (2 : Int32)), (.int (0 : Int32)), (.ref b)])) (fun t k => ?_) ?_
 ·refine XS.ifNo W2.here hx rfl (hb hby d3_30) rfl ((if0 _ _).trans (feq hz).1) ?_
  refine XS.aloadN W2.here hx rfl (hb hby d3_33) rfl rfl ?_
  refine XS.iloadN W2.here hx rfl (hb hby d3_34) rfl ?_
  refine XS.iloadN W2.here hx rfl (hb hby d3_35) rfl ?_
  exact k
 refine W2.callS hx (y := y_16) (ww hw 43 rfl) (ww hw 44 rfl) (ww hw 45 rfl) (ww hw 46 rfl) (by decide) (Pay.of_con (Wd := 0) (rm_cmpB2 l Z a0 hw b c0 c1 kc h0 n0 (by omega) D0 HB0 LB0 C0 hr hwd) (ww hw 46 rfl) (ww hw 45 rfl) (hEL hw) (by decide) (by decide)) (g := (mkF m 36 #[.val (.ref x), .val (.ref b), .val (.int (0 : Int32)), .val (.int (2 : Int32)), .val .null, .unset] [(.int (2 : Int32)), (.int (0 : Int32)), (.ref b)])) rfl (by rw [hml]; rfl) (argsL := [(.ref b), (.int (0 : Int32)), (.int (2 : Int32))]) (rest := []) (lenOf pd_5 rfl) rfl rfl (ble_ rfl) (hb hby d3_36) (by decide) (by decide) (fun v3 T3 h3 W3 sz3 q3 => ?_)
 obtain ⟨e, ke, rfl, E3, ge, B3⟩ := q3
 change Fi _ _ _ _ _ _ _ _ _ _ (T3.setTop (mkF m 39 #[.val (.ref x), .val (.ref b), .val (.int (0 : Int32)), .val (.int (2 : Int32)), .val .null, .unset] [(.ref e)]))
 have lx : @LT.lt Nat _ x h0.size := A0.lt
 refine Fi.by' (st' := T3.setTop (mkF m 45 #[.val (.ref x), .val (.ref b), .val (.int (0 : Int32)), .val (.int (2 : Int32)), .val .null, .val (.ref e)] [(.int (2 : Int32)), (.ref e), (.ref x)])) (fun t k => ?_) ?_
 ·refine XS.astore W3.here hx rfl (hb hby d3_39) rfl rfl (l' := #[.val (.ref x), .val (.ref b), .val (.int (0 : Int32)), .val (.int (2 : Int32)), .val .null, .val (.ref e)]) rfl ?_
  refine XS.aloadN W3.here hx rfl (hb hby d3_41) rfl rfl ?_
  refine XS.aload W3.here hx rfl (hb hby d3_42) rfl rfl ?_
  refine XS.iloadN W3.here hx rfl (hb hby d3_44) rfl ?_
  exact k
 refine W3.callS hx (y := y_12) (ww hw 50 rfl) (ww hw 51 rfl) (ww hw 45 rfl) (ww hw 52 rfl) (by decide) (Pay.of_con (Wd := 1) (rm_cfl l Z a0 hw e (2 : Int32) (4 : Int32) ke _ h3 n0 (by omega) B3 (by decide)) (ww hw 52 rfl) (ww hw 45 rfl) (hEL hw) (by decide) (by decide)) (g := (mkF m 45 #[.val (.ref x), .val (.ref b), .val (.int (0 : Int32)), .val (.int (2 : Int32)), .val .null, .val (.ref e)] [(.int (2 : Int32)), (.ref e), (.ref x)])) rfl (by rw [hml]; rfl) (argsL := [(.ref e), (.int (2 : Int32))]) (rest := [(.ref x)]) (lenOf pd_7 rfl) rfl rfl (ble_ rfl) (hb hby d3_45) (by decide) (by decide) (fun v4 T4 h4 W4 sz4 q4 => ?_)
 obtain ⟨rfl, rfl⟩ := q4
 change Fi _ _ _ _ _ _ _ _ _ _ (T4.setTop (mkF m 48 #[.val (.ref x), .val (.ref b), .val (.int (0 : Int32)), .val (.int (2 : Int32)), .val .null, .val (.ref e)] [(.int (1 : Int32)), (.ref x)]))
 refine W4.putF hx (ww hw 27 rfl) (Fld.ext E3 C1) (Exa.ext E3 A0) (Or.inr ⟨(ww hw 23 rfl), rfl, hnm⟩) (ww hw 8 rfl) (ty := .byte) (by decide) rfl rfl (g := (mkF m 48 #[.val (.ref x), .val (.ref b), .val (.int (0 : Int32)), .val (.int (2 : Int32)), .val .null, .val (.ref e)] [(.int (1 : Int32)), (.ref x)])) rfl rfl (hb hby d3_48) g0 (fun _ _ _ => safeN rfl) (fun T5 h5 W5 R5 => ?_)
 change Fi _ _ _ _ _ _ _ _ _ _ (T5.setTop (mkF m 51 #[.val (.ref x), .val (.ref b), .val (.int (0 : Int32)), .val (.int (2 : Int32)), .val .null, .val (.ref e)] []))
 have K5 := ((Keep.refl h0 [x]).ext E3).wr R5 (Or.inl (List.mem_singleton.mpr rfl))
 have A5 := Exa.wr R5 (Exa.ext E3 A0)
 have F5_value := Fld.other R5 (Fld.ext E3 V0) (Or.inr (slot_ne (Or.inr (ww hw 22 rfl)) (Or.inr (ww hw 23 rfl)) (by decide) (t := (.array .byte)) (t' := .byte) (by decide) (by decide)))
 have F5_coder := Fld.same R5 (Fld.ext E3 C1)
 refine Fi.by' (st' := T5.setTop (mkF m 54 #[.val (.ref x), .val (.ref b), .val (.int (0 : Int32)), .val (.int (2 : Int32)), .val .null, .val (.ref e)] [(.ref e), (.ref x)])) (fun t k => ?_) ?_
 ·refine XS.aloadN W5.here hx rfl (hb hby d3_51) rfl rfl ?_
  refine XS.aload W5.here hx rfl (hb hby d3_52) rfl rfl ?_
  exact k
 refine W5.putF hx (ww hw 26 rfl) F5_value A5 (Or.inr ⟨(ww hw 22 rfl), rfl, hnm⟩) (ww hw 8 rfl) (ty := (.array .byte)) (by decide) rfl rfl (g := (mkF m 54 #[.val (.ref x), .val (.ref b), .val (.int (0 : Int32)), .val (.int (2 : Int32)), .val .null, .val (.ref e)] [(.ref e), (.ref x)])) rfl rfl (hb hby d3_54) g0 (fun _ _ _ => safeN rfl) (fun T6 h6 W6 R6 => ?_)
 change Fi _ _ _ _ _ _ _ _ _ _ (T6.setTop (mkF m 57 #[.val (.ref x), .val (.ref b), .val (.int (0 : Int32)), .val (.int (2 : Int32)), .val .null, .val (.ref e)] []))
 have K6 := K5.wr R6 (Or.inl (List.mem_singleton.mpr rfl))
 have A6 := Exa.wr R6 A5
 have F6_value := Fld.same R6 F5_value
 have F6_coder := Fld.other R6 F5_coder (Or.inr (slot_ne (Or.inr (ww hw 23 rfl)) (Or.inr (ww hw 22 rfl)) (by decide) (t := .byte) (t' := (.array .byte)) (by decide) (by decide)))
 have Z5 := Arv.other B3 R5 (fun q => by have q2 : @Eq Nat e x := q; omega)
 have Z6 := Arv.other Z5 R6 (fun q => by have q2 : @Eq Nat e x := q; omega)
 exact W6.vret hx hlk hret (hb hby d3_57) ⟨rfl, K6, e, ke, 1, _, _, A6, F6_value, F6_coder, Z6, Or.inr ⟨rfl, rfl, rfl, wide_ex hwd⟩, hr, ble_ rfl⟩ (by decide) (by decide)
def Q_inB2 (Z : State) (x b : Addr) (zc c0 c1 : Int32) (kc : ClassId) (h0 : Heap) (v : Option Value) (h : Heap) : Prop := v = none ∧ Keep h0 h [x] ∧ StrA Z h x [c0, c1]
set_option maxRecDepth 65536 in
set_option maxHeartbeats 40000000 in
theorem rm_inB2 (l : Launch) (Z : State) (a0 : Array Value) (hw : ∀ d ∈ tables_1, d.before a0 Z = true) (x b : Addr) (zc c0 c1 : Int32) (kc : ClassId) (h0 : Heap) (n0 : Nat) (Z0 : n0 ≤ h0.size) (g0 : n0 ≤ x) (A0 : Exa Z h0 x "java/lang/String") (V0 : Fld Z h0 x "java/lang/String" "value" "[B" .null) (C1 : Fld Z h0 x "java/lang/String" "coder" "B" (.int (0 : Int32))) (S0 : Sta Z h0 "java/lang/String" "COMPACT_STRINGS" "Z" (.int zc)) (hz : ¬ zc = 0) (D0 : Sta Z h0 "java/lang/StringUTF16" "$assertionsDisabled" "Z" (.int 1)) (HB0 : Sta Z h0 "java/lang/StringUTF16" "HI_BYTE_SHIFT" "I" (.int 0)) (LB0 : Sta Z h0 "java/lang/StringUTF16" "LO_BYTE_SHIFT" "I" (.int 8)) (C0 : Arv Z h0 b kc .char (2 : Int32) (([c0, c1] : List Int32).map Value.int) (.int (0 : Int32))) (hr : ∀ c ∈ ([c0, c1] : List Int32), ¬ c < 0 ∧ ¬ (65535 : Int32) < c) (hwd : ¬ ∀ c ∈ ([c0, c1] : List Int32), ¬ (255 : Int32) < c) :
  Con l Z EL y_18 jdk_42_method_3_code 2 none [] ({ frames := 5, cells := 2, slots := 6, locals := 74 } : Room) #[(.ref x), (.ref b)] h0 n0 (Q_inB2 Z x b zc c0 c1 kc h0) := by
 refine Con.intro (own := "java/lang/String") rfl (plainFor_of_name plain_java_lang_String) (hEL hw) ?_
 intro p e s m below meth c s₁ hx hby hml hret hlk hnm W0
 refine Fi.cast (show entryFrame m #[(.ref x), (.ref b)] 2 = (mkF m 0 #[.val (.ref x), .val (.ref b)] []) from by first | (simp [entryFrame, mkF, argsToLocals, Value.category]; done) | rfl) ?_
 refine Fi.by' (st' := s₁.setTop (mkF m 4 #[.val (.ref x), .val (.ref b)] [(.ref b), (.int (0 : Int32)), (.ref b), (.ref x)])) (fun t k => ?_) ?_
 ·refine XS.aloadN W0.here hx rfl (hb hby d2_0) rfl rfl ?_
  refine XS.aloadN W0.here hx rfl (hb hby d2_1) rfl rfl ?_
  refine iconstZ W0.here hx rfl (hb hby d2_2) (z := (0 : Int32)) rfl ?_
  refine XS.aloadN W0.here hx rfl (hb hby d2_3) rfl rfl ?_
  exact k
 refine W0.alen hx C0 (g := (mkF m 4 #[.val (.ref x), .val (.ref b)] [(.ref b), (.int (0 : Int32)), (.ref b), (.ref x)])) rfl rfl (hb hby d2_4) ?_
 change Fi _ _ _ _ _ _ _ _ _ _ (s₁.setTop (mkF m 5 #[.val (.ref x), .val (.ref b)] [(.int (2 : Int32)), (.int (0 : Int32)), (.ref b), (.ref x)]))
 refine Fi.by' (st' := s₁.setTop (mkF m 6 #[.val (.ref x), .val (.ref b)] [.null, (.int (2 : Int32)), (.int (0 : Int32)), (.ref b), (.ref x)])) (fun t k => ?_) ?_
 ·refine XS.aconstNull W0.here hx rfl (hb hby d2_5) ?_
  exact k
 refine W0.callI hx (y := y_17) rfl (ww hw 13 rfl) (ww hw 14 rfl) (ww hw 16 rfl) (by decide) (Pay.of_con (Wd := 0) (rm_inA2 l Z a0 hw x b zc c0 c1 kc h0 n0 (by omega) g0 A0 V0 C1 S0 hz D0 HB0 LB0 C0 hr hwd) (ww hw 16 rfl) (ww hw 9 rfl) (hEL hw) (by decide) (by decide)) (a := x) (g := (mkF m 6 #[.val (.ref x), .val (.ref b)] [.null, (.int (2 : Int32)), (.int (0 : Int32)), (.ref b), (.ref x)])) rfl (by rw [hml]; rfl) (argsL := [(.ref b), (.int (0 : Int32)), (.int (2 : Int32)), .null]) (rest := []) (lenOf pd_8 rfl) rfl rfl (ble_ rfl) (hb hby d2_6) (by decide) (by decide) (fun v2 T2 h2 W2 sz2 q2 => ?_)
 obtain ⟨rfl, qK, qS⟩ := q2
 change Fi _ _ _ _ _ _ _ _ _ _ (T2.setTop (mkF m 9 #[.val (.ref x), .val (.ref b)] []))
 exact W2.vret hx hlk hret (hb hby d2_9) ⟨rfl, qK, qS⟩ (by decide) (by decide)
section PaidI2
variable {p : Program} {l : Launch} {e : Env} {R : Room} {s : State} {args : Array Value} {below : List Frame} {Z : State} {a0 : Array Value} {n0 : Nat} {h0 : Heap}
theorem payIn2 (hw : ∀ d ∈ tables_1, d.before a0 Z = true) {Wd : Nat} {x b : Addr} {kc : ClassId} {zc c0 c1 : Int32} (Z0 : n0 ≤ h0.size) (g0 : n0 ≤ x) (A0 : Exa Z h0 x "java/lang/String") (V0 : Fld Z h0 x "java/lang/String" "value" "[B" .null) (C1 : Fld Z h0 x "java/lang/String" "coder" "B" (.int (0 : Int32))) (S0 : Sta Z h0 "java/lang/String" "COMPACT_STRINGS" "Z" (.int zc)) (hz : ¬ zc = 0) (D0 : Sta Z h0 "java/lang/StringUTF16" "$assertionsDisabled" "Z" (.int 1)) (HB0 : Sta Z h0 "java/lang/StringUTF16" "HI_BYTE_SHIFT" "I" (.int 0)) (LB0 : Sta Z h0 "java/lang/StringUTF16" "LO_BYTE_SHIFT" "I" (.int 8)) (C0 : Arv Z h0 b kc .char (2 : Int32) (([c0, c1] : List Int32).map Value.int) (.int (0 : Int32))) (hr : ∀ c ∈ ([c0, c1] : List Int32), ¬ c < 0 ∧ ¬ (65535 : Int32) < c) (hf : 6 ≤ R.frames) (hl : Wd + 87 ≤ R.locals) :
  Pay l R p e below s args Z EL n0 y_18 Wd #[.ref x, .ref b] h0 (fun v h' => v = none ∧ Keep h0 h' [x] ∧ StrA Z h' x [c0, c1]) 2 6 := by
 by_cases hwd : ∀ c ∈ ([c0, c1] : List Int32), ¬ (255 : Int32) < c
 ·exact ((payS hw Z0 g0 A0 V0 C1 C0 S0 hz rfl rfl (ble_ rfl) (ble_ rfl) (fun c hc => ⟨(hr c hc).1, hwd c hc⟩) (Nat.le_trans (by decide) hf) (Nat.le_trans (Nat.add_le_add_left (by decide) _) hl)).weak fun v h' q => ⟨q.1, q.2.1, StrA.of_l q.2.2⟩).more (ble_ rfl) (ble_ rfl)
 ·exact (Pay.of_con (rm_inB2 l Z a0 hw x b zc c0 c1 kc h0 n0 Z0 g0 A0 V0 C1 S0 hz D0 HB0 LB0 C0 hr hwd) (ww hw 12 rfl) (ww hw 9 rfl) (hEL hw) (Nat.le_trans (by decide) hf) (Nat.le_trans (by rw [Nat.add_assoc]; exact Nat.add_le_add_left (by decide) _) hl)).more (by decide) (by decide)
end PaidI2
def Q_nbf3 (Z : State)  (h0 : Heap) (v : Option Value) (h : Heap) : Prop := ∃ (b : Addr) (k : ClassId), v = some (.ref b) ∧ Ext h0 h ∧ h0.size ≤ b ∧ Arv Z h b k .byte (6 : Int32) (([0, 0, 0, 0, 0, 0] : List Int32).map Value.int) (.int (0 : Int32))
set_option maxRecDepth 65536 in
set_option maxHeartbeats 40000000 in
theorem rm_nbf3 (l : Launch) (Z : State) (a0 : Array Value) (hw : ∀ d ∈ tables_1, d.before a0 Z = true)  (h0 : Heap) (n0 : Nat) (Z0 : n0 ≤ h0.size)  :
  Con l Z EL y_13 jdk_52_method_2_code 1 (some (.array .byte)) [] ({ frames := 1, cells := 1, slots := 6, locals := 12 } : Room) #[(.int (3 : Int32))] h0 n0 (Q_nbf3 Z  h0) := by
 refine Con.intro (own := "java/lang/StringUTF16") rfl (plainFor_of_name plain_java_lang_StringUTF16) (hEL hw) ?_
 intro p e s m below meth c s₁ hx hby hml hret hlk hnm W0
 refine Fi.cast (show entryFrame m #[(.int (3 : Int32))] 1 = (mkF m 0 #[.val (.int (3 : Int32))] []) from by first | (simp [entryFrame, mkF, argsToLocals, Value.category]; done) | rfl) ?_
 refine Fi.by' (st' := s₁.setTop (mkF m 1 #[.val (.int (3 : Int32))] [(.int (3 : Int32))])) (fun t k => ?_) ?_
 ·refine XS.iloadN W0.here hx rfl (hb hby d22_0) rfl ?_
  exact k
 refine W0.callS hx (y := y_9) (ww hw 101 rfl) (ww hw 102 rfl) (ww hw 45 rfl) (ww hw 103 rfl) (by decide) (Pay.of_con (Wd := 0) (rm_nbl l Z a0 hw (3 : Int32) h0 n0 (by omega) (by decide) (by decide)) (ww hw 103 rfl) (ww hw 45 rfl) (hEL hw) (by decide) (by decide)) (g := (mkF m 1 #[.val (.int (3 : Int32))] [(.int (3 : Int32))])) rfl (by rw [hml]; rfl) (argsL := [(.int (3 : Int32))]) (rest := []) (lenOf pd_1 rfl) rfl rfl (ble_ rfl) (hb hby d22_1) (by decide) (by decide) (fun v1 T1 h1 W1 sz1 q1 => ?_)
 obtain ⟨rfl, rfl⟩ := q1
 change Fi _ _ _ _ _ _ _ _ _ _ (T1.setTop (mkF m 4 #[.val (.int (3 : Int32))] [(.int ((3 : Int32) <<< ((1 : Int32) &&& 31)))]))
 rw [show ((3 : Int32) <<< ((1 : Int32) &&& 31)) = (6 : Int32) from by decide]
 refine W1.newP hx (aty := .byte) (ww hw 21 rfl) (g := (mkF m 4 #[.val (.int (3 : Int32))] [(.int (6 : Int32))])) rfl (hb hby d22_4) rfl (by decide) (cap := 6) (by decide) (by decide) (by decide) (by decide) (fun T2 h2 a2 k2 ha2 W2 E2 A2 => ?_)
 change Fi _ _ _ _ _ _ _ _ _ _ (T2.setTop (mkF m 6 #[.val (.int (3 : Int32))] [(.ref a2)]))
 have sz2 := E2.1
 have V2 : Arv Z h2 a2 k2 .byte (6 : Int32) (([0, 0, 0, 0, 0, 0] : List Int32).map Value.int) (.int (0 : Int32)) := A2.pad (pad_rep [] (.int (0 : Int32)) 6)
 exact W2.aret hx hlk hret rfl rfl (hb hby d22_6) ⟨a2, k2, rfl, E2, by omega, V2⟩ (by decide) (by decide)
def Q_toB3 (Z : State) (b : Addr) (c0 c1 c2 : Int32) (kc : ClassId) (h0 : Heap) (v : Option Value) (h : Heap) : Prop := ∃ (e : Addr) (k : ClassId), v = some (.ref e) ∧ Ext h0 h ∧ h0.size ≤ e ∧ Arv Z h e k .byte (6 : Int32) (StrChars.Road.wideBytes [c0, c1, c2]) (.int (0 : Int32))
set_option maxRecDepth 65536 in
set_option maxHeartbeats 40000000 in
theorem rm_toB3 (l : Launch) (Z : State) (a0 : Array Value) (hw : ∀ d ∈ tables_1, d.before a0 Z = true) (b : Addr) (c0 c1 c2 : Int32) (kc : ClassId) (h0 : Heap) (n0 : Nat) (Z0 : n0 ≤ h0.size) (D0 : Sta Z h0 "java/lang/StringUTF16" "$assertionsDisabled" "Z" (.int 1)) (HB0 : Sta Z h0 "java/lang/StringUTF16" "HI_BYTE_SHIFT" "I" (.int 0)) (LB0 : Sta Z h0 "java/lang/StringUTF16" "LO_BYTE_SHIFT" "I" (.int 8)) (C0 : Arv Z h0 b kc .char (3 : Int32) (([c0, c1, c2] : List Int32).map Value.int) (.int (0 : Int32))) :
  Con l Z EL y_14 jdk_52_method_14_code 5 (some (.array .byte)) [] ({ frames := 2, cells := 1, slots := 6, locals := 24 } : Room) #[(.ref b), (.int (0 : Int32)), (.int (3 : Int32))] h0 n0 (Q_toB3 Z b c0 c1 c2 kc h0) := by
 refine Con.intro (own := "java/lang/StringUTF16") rfl (plainFor_of_name plain_java_lang_StringUTF16) (hEL hw) ?_
 intro p e s m below meth c s₁ hx hby hml hret hlk hnm W0
 refine Fi.cast (show entryFrame m #[(.ref b), (.int (0 : Int32)), (.int (3 : Int32))] 5 = (mkF m 0 #[.val (.ref b), .val (.int (0 : Int32)), .val (.int (3 : Int32)), .unset, .unset] []) from by first | (simp [entryFrame, mkF, argsToLocals, Value.category]; done) | rfl) ?_
 refine Fi.by' (st' := s₁.setTop (mkF m 1 #[.val (.ref b), .val (.int (0 : Int32)), .val (.int (3 : Int32)), .unset, .unset] [(.int (3 : Int32))])) (fun t k => ?_) ?_
 ·refine XS.iloadN W0.here hx rfl (hb hby d21_0) rfl ?_
  exact k
 refine W0.callS hx (y := y_13) (ww hw 98 rfl) (ww hw 99 rfl) (ww hw 45 rfl) (ww hw 100 rfl) (by decide) (Pay.of_con (Wd := 0) (rm_nbf3 l Z a0 hw h0 n0 (by omega)) (ww hw 100 rfl) (ww hw 45 rfl) (hEL hw) (by decide) (by decide)) (g := (mkF m 1 #[.val (.ref b), .val (.int (0 : Int32)), .val (.int (3 : Int32)), .unset, .unset] [(.int (3 : Int32))])) rfl (by rw [hml]; rfl) (argsL := [(.int (3 : Int32))]) (rest := []) (lenOf pd_2 rfl) rfl rfl (ble_ rfl) (hb hby d21_1) (by decide) (by decide) (fun v1 T1 h1 W1 sz1 q1 => ?_)
 obtain ⟨e, ke, rfl, E1, ge, B1⟩ := q1
 change Fi _ _ _ _ _ _ _ _ _ _ (T1.setTop (mkF m 4 #[.val (.ref b), .val (.int (0 : Int32)), .val (.int (3 : Int32)), .unset, .unset] [(.ref e)]))
 refine Fi.by' (st' := T1.setTop (mkF m 19 #[.val (.ref b), .val (.int (0 : Int32)), .val (.int (3 : Int32)), .val (.ref e), .val (.int (0 : Int32))] [(.int (0 : Int32)), (.ref b), (.int (0 : Int32)), (.ref e)])) (fun t k => ?_) ?_
 ·refine XS.astoreN W1.here hx rfl (hb hby d21_4) rfl rfl (l' := #[.val (.ref b), .val (.int (0 : Int32)), .val (.int (3 : Int32)), .val (.ref e), .unset]) rfl ?_
  refine iconstZ W1.here hx rfl (hb hby d21_5) (z := (0 : Int32)) rfl ?_
  refine XS.istore W1.here hx rfl (hb hby d21_6) rfl (l' := #[.val (.ref b), .val (.int (0 : Int32)), .val (.int (3 : Int32)), .val (.ref e), .val (.int (0 : Int32))]) rfl ?_
  refine XS.iload W1.here hx rfl (hb hby d21_8) rfl ?_
  refine XS.iloadN W1.here hx rfl (hb hby d21_10) rfl ?_
  refine XS.icmpNo W1.here hx rfl (hb hby d21_11) rfl (tlt (by decide : ((0 : Int32) < (3 : Int32)))).2.1 ?_
  refine XS.aloadN W1.here hx rfl (hb hby d21_14) rfl rfl ?_
  refine XS.iload W1.here hx rfl (hb hby d21_15) rfl ?_
  refine XS.aloadN W1.here hx rfl (hb hby d21_17) rfl rfl ?_
  refine XS.iloadN W1.here hx rfl (hb hby d21_18) rfl ?_
  exact k
 refine W1.caload hx (C0.ext E1) (j := (0 : Int32)) (v := .int c0) (by decide) rfl (g := (mkF m 19 #[.val (.ref b), .val (.int (0 : Int32)), .val (.int (3 : Int32)), .val (.ref e), .val (.int (0 : Int32))] [(.int (0 : Int32)), (.ref b), (.int (0 : Int32)), (.ref e)])) rfl rfl (hb hby d21_19) ?_
 change Fi _ _ _ _ _ _ _ _ _ _ (T1.setTop (mkF m 20 #[.val (.ref b), .val (.int (0 : Int32)), .val (.int (3 : Int32)), .val (.ref e), .val (.int (0 : Int32))] [(.int c0), (.int (0 : Int32)), (.ref e)]))
 refine W1.callS hx (y := y_10) (ww hw 105 rfl) (ww hw 106 rfl) (ww hw 45 rfl) (ww hw 107 rfl) (by decide) (Pay.of_con (Wd := 0) (rm_putC l Z a0 hw e (0 : Int32) c0 (6 : Int32) 0 ([0, 0, 0, 0, 0, 0] : List Int32) ke h1 n0 (by omega) (by omega) (Sta.ext E1 D0) (Sta.ext E1 HB0) (Sta.ext E1 LB0) rfl rfl (ble_ rfl) (ble_ rfl) B1) (ww hw 107 rfl) (ww hw 45 rfl) (hEL hw) (by decide) (by decide)) (g := (mkF m 20 #[.val (.ref b), .val (.int (0 : Int32)), .val (.int (3 : Int32)), .val (.ref e), .val (.int (0 : Int32))] [(.int c0), (.int (0 : Int32)), (.ref e)])) rfl (by rw [hml]; rfl) (argsL := [(.ref e), (.int (0 : Int32)), (.int c0)]) (rest := []) (lenOf pd_3 rfl) rfl rfl (ble_ rfl) (hb hby d21_20) (by decide) (by decide) (fun v2 T2 h2 W2 sz2 q2 => ?_)
 obtain ⟨rfl, K2, B2⟩ := q2
 change Fi _ _ _ _ _ _ _ _ _ _ (T2.setTop (mkF m 23 #[.val (.ref b), .val (.int (0 : Int32)), .val (.int (3 : Int32)), .val (.ref e), .val (.int (0 : Int32))] []))
 have x2k : Ext h0 h2 := ext_keep1 E1 K2 (by omega)
 have V2 : Arv Z h2 e ke .byte (6 : Int32) (([((c0 >>> ((0 : Int32) &&& 31)).toInt8.toInt32), ((c0 >>> ((8 : Int32) &&& 31)).toInt8.toInt32), 0, 0, 0, 0] : List Int32).map Value.int) (.int (0 : Int32)) := B2
 refine Fi.by' (st' := T2.setTop (mkF m 19 #[.val (.ref b), .val (.int (1 : Int32)), .val (.int (3 : Int32)), .val (.ref e), .val (.int (1 : Int32))] [(.int (1 : Int32)), (.ref b), (.int (1 : Int32)), (.ref e)])) (fun t k => ?_) ?_
 ·refine XS.iinc W2.here hx rfl (hb hby d21_23) rfl (l' := #[.val (.ref b), .val (.int (1 : Int32)), .val (.int (3 : Int32)), .val (.ref e), .val (.int (0 : Int32))]) rfl ?_
  refine XS.iinc W2.here hx rfl (hb hby d21_26) rfl (l' := #[.val (.ref b), .val (.int (1 : Int32)), .val (.int (3 : Int32)), .val (.ref e), .val (.int (1 : Int32))]) rfl ?_
  refine XS.goto W2.here hx rfl (pc0 := 29) (pc' := 8) rfl (hb hby d21_29) (by decide) (by decide) ?_
  refine XS.iload W2.here hx rfl (hb hby d21_8) rfl ?_
  refine XS.iloadN W2.here hx rfl (hb hby d21_10) rfl ?_
  refine XS.icmpNo W2.here hx rfl (hb hby d21_11) rfl (tlt (by decide : ((1 : Int32) < (3 : Int32)))).2.1 ?_
  refine XS.aloadN W2.here hx rfl (hb hby d21_14) rfl rfl ?_
  refine XS.iload W2.here hx rfl (hb hby d21_15) rfl ?_
  refine XS.aloadN W2.here hx rfl (hb hby d21_17) rfl rfl ?_
  refine XS.iloadN W2.here hx rfl (hb hby d21_18) rfl ?_
  exact k
 refine W2.caload hx (C0.ext x2k) (j := (1 : Int32)) (v := .int c1) (by decide) rfl (g := (mkF m 19 #[.val (.ref b), .val (.int (1 : Int32)), .val (.int (3 : Int32)), .val (.ref e), .val (.int (1 : Int32))] [(.int (1 : Int32)), (.ref b), (.int (1 : Int32)), (.ref e)])) rfl rfl (hb hby d21_19) ?_
 change Fi _ _ _ _ _ _ _ _ _ _ (T2.setTop (mkF m 20 #[.val (.ref b), .val (.int (1 : Int32)), .val (.int (3 : Int32)), .val (.ref e), .val (.int (1 : Int32))] [(.int c1), (.int (1 : Int32)), (.ref e)]))
 refine W2.callS hx (y := y_10) (ww hw 105 rfl) (ww hw 106 rfl) (ww hw 45 rfl) (ww hw 107 rfl) (by decide) (Pay.of_con (Wd := 0) (rm_putC l Z a0 hw e (1 : Int32) c1 (6 : Int32) 1 ([((c0 >>> ((0 : Int32) &&& 31)).toInt8.toInt32), ((c0 >>> ((8 : Int32) &&& 31)).toInt8.toInt32), 0, 0, 0, 0] : List Int32) ke h2 n0 (by omega) (by omega) (Sta.ext x2k D0) (Sta.ext x2k HB0) (Sta.ext x2k LB0) rfl rfl (ble_ rfl) (ble_ rfl) V2) (ww hw 107 rfl) (ww hw 45 rfl) (hEL hw) (by decide) (by decide)) (g := (mkF m 20 #[.val (.ref b), .val (.int (1 : Int32)), .val (.int (3 : Int32)), .val (.ref e), .val (.int (1 : Int32))] [(.int c1), (.int (1 : Int32)), (.ref e)])) rfl (by rw [hml]; rfl) (argsL := [(.ref e), (.int (1 : Int32)), (.int c1)]) (rest := []) (lenOf pd_3 rfl) rfl rfl (ble_ rfl) (hb hby d21_20) (by decide) (by decide) (fun v3 T3 h3 W3 sz3 q3 => ?_)
 obtain ⟨rfl, K3, B3⟩ := q3
 change Fi _ _ _ _ _ _ _ _ _ _ (T3.setTop (mkF m 23 #[.val (.ref b), .val (.int (1 : Int32)), .val (.int (3 : Int32)), .val (.ref e), .val (.int (1 : Int32))] []))
 have x3k : Ext h0 h3 := ext_keep1 x2k K3 (by omega)
 have V3 : Arv Z h3 e ke .byte (6 : Int32) (([((c0 >>> ((0 : Int32) &&& 31)).toInt8.toInt32), ((c0 >>> ((8 : Int32) &&& 31)).toInt8.toInt32), ((c1 >>> ((0 : Int32) &&& 31)).toInt8.toInt32), ((c1 >>> ((8 : Int32) &&& 31)).toInt8.toInt32), 0, 0] : List Int32).map Value.int) (.int (0 : Int32)) := B3
 refine Fi.by' (st' := T3.setTop (mkF m 19 #[.val (.ref b), .val (.int (2 : Int32)), .val (.int (3 : Int32)), .val (.ref e), .val (.int (2 : Int32))] [(.int (2 : Int32)), (.ref b), (.int (2 : Int32)), (.ref e)])) (fun t k => ?_) ?_
 ·refine XS.iinc W3.here hx rfl (hb hby d21_23) rfl (l' := #[.val (.ref b), .val (.int (2 : Int32)), .val (.int (3 : Int32)), .val (.ref e), .val (.int (1 : Int32))]) rfl ?_
  refine XS.iinc W3.here hx rfl (hb hby d21_26) rfl (l' := #[.val (.ref b), .val (.int (2 : Int32)), .val (.int (3 : Int32)), .val (.ref e), .val (.int (2 : Int32))]) rfl ?_
  refine XS.goto W3.here hx rfl (pc0 := 29) (pc' := 8) rfl (hb hby d21_29) (by decide) (by decide) ?_
  refine XS.iload W3.here hx rfl (hb hby d21_8) rfl ?_
  refine XS.iloadN W3.here hx rfl (hb hby d21_10) rfl ?_
  refine XS.icmpNo W3.here hx rfl (hb hby d21_11) rfl (tlt (by decide : ((2 : Int32) < (3 : Int32)))).2.1 ?_
  refine XS.aloadN W3.here hx rfl (hb hby d21_14) rfl rfl ?_
  refine XS.iload W3.here hx rfl (hb hby d21_15) rfl ?_
  refine XS.aloadN W3.here hx rfl (hb hby d21_17) rfl rfl ?_
  refine XS.iloadN W3.here hx rfl (hb hby d21_18) rfl ?_
  exact k
 refine W3.caload hx (C0.ext x3k) (j := (2 : Int32)) (v := .int c2) (by decide) rfl (g := (mkF m 19 #[.val (.ref b), .val (.int (2 : Int32)), .val (.int (3 : Int32)), .val (.ref e), .val (.int (2 : Int32))] [(.int (2 : Int32)), (.ref b), (.int (2 : Int32)), (.ref e)])) rfl rfl (hb hby d21_19) ?_
 change Fi _ _ _ _ _ _ _ _ _ _ (T3.setTop (mkF m 20 #[.val (.ref b), .val (.int (2 : Int32)), .val (.int (3 : Int32)), .val (.ref e), .val (.int (2 : Int32))] [(.int c2), (.int (2 : Int32)), (.ref e)]))
 refine W3.callS hx (y := y_10) (ww hw 105 rfl) (ww hw 106 rfl) (ww hw 45 rfl) (ww hw 107 rfl) (by decide) (Pay.of_con (Wd := 0) (rm_putC l Z a0 hw e (2 : Int32) c2 (6 : Int32) 2 ([((c0 >>> ((0 : Int32) &&& 31)).toInt8.toInt32), ((c0 >>> ((8 : Int32) &&& 31)).toInt8.toInt32), ((c1 >>> ((0 : Int32) &&& 31)).toInt8.toInt32), ((c1 >>> ((8 : Int32) &&& 31)).toInt8.toInt32), 0, 0] : List Int32) ke h3 n0 (by omega) (by omega) (Sta.ext x3k D0) (Sta.ext x3k HB0) (Sta.ext x3k LB0) rfl rfl (ble_ rfl) (ble_ rfl) V3) (ww hw 107 rfl) (ww hw 45 rfl) (hEL hw) (by decide) (by decide)) (g := (mkF m 20 #[.val (.ref b), .val (.int (2 : Int32)), .val (.int (3 : Int32)), .val (.ref e), .val (.int (2 : Int32))] [(.int c2), (.int (2 : Int32)), (.ref e)])) rfl (by rw [hml]; rfl) (argsL := [(.ref e), (.int (2 : Int32)), (.int c2)]) (rest := []) (lenOf pd_3 rfl) rfl rfl (ble_ rfl) (hb hby d21_20) (by decide) (by decide) (fun v4 T4 h4 W4 sz4 q4 => ?_)
 obtain ⟨rfl, K4, B4⟩ := q4
 change Fi _ _ _ _ _ _ _ _ _ _ (T4.setTop (mkF m 23 #[.val (.ref b), .val (.int (2 : Int32)), .val (.int (3 : Int32)), .val (.ref e), .val (.int (2 : Int32))] []))
 have x4k : Ext h0 h4 := ext_keep1 x3k K4 (by omega)
 have V4 : Arv Z h4 e ke .byte (6 : Int32) (([((c0 >>> ((0 : Int32) &&& 31)).toInt8.toInt32), ((c0 >>> ((8 : Int32) &&& 31)).toInt8.toInt32), ((c1 >>> ((0 : Int32) &&& 31)).toInt8.toInt32), ((c1 >>> ((8 : Int32) &&& 31)).toInt8.toInt32), ((c2 >>> ((0 : Int32) &&& 31)).toInt8.toInt32), ((c2 >>> ((8 : Int32) &&& 31)).toInt8.toInt32)] : List Int32).map Value.int) (.int (0 : Int32)) := B4
 refine Fi.by' (st' := T4.setTop (mkF m 33 #[.val (.ref b), .val (.int (3 : Int32)), .val (.int (3 : Int32)), .val (.ref e), .val (.int (3 : Int32))] [(.ref e)])) (fun t k => ?_) ?_
 ·refine XS.iinc W4.here hx rfl (hb hby d21_23) rfl (l' := #[.val (.ref b), .val (.int (3 : Int32)), .val (.int (3 : Int32)), .val (.ref e), .val (.int (2 : Int32))]) rfl ?_
  refine XS.iinc W4.here hx rfl (hb hby d21_26) rfl (l' := #[.val (.ref b), .val (.int (3 : Int32)), .val (.int (3 : Int32)), .val (.ref e), .val (.int (3 : Int32))]) rfl ?_
  refine XS.goto W4.here hx rfl (pc0 := 29) (pc' := 8) rfl (hb hby d21_29) (by decide) (by decide) ?_
  refine XS.iload W4.here hx rfl (hb hby d21_8) rfl ?_
  refine XS.iloadN W4.here hx rfl (hb hby d21_10) rfl ?_
  refine XS.icmpYes W4.here hx rfl (pc0 := 11) (pc' := 32) rfl (hb hby d21_11) rfl (flt (by decide : ¬ ((3 : Int32) < (3 : Int32)))).2.1 (by decide) (by decide) ?_
  refine XS.aloadN W4.here hx rfl (hb hby d21_32) rfl rfl ?_
  exact k
 have hB : Arv Z h4 e ke .byte (6 : Int32) (StrChars.Road.wideBytes [c0, c1, c2]) (.int (0 : Int32)) := by
  have q := V4
  simp only [StrChars.shr0] at q
  exact q
 exact W4.aret hx hlk hret rfl rfl (hb hby d21_33) ⟨e, ke, rfl, x4k, ge, hB⟩ (by decide) (by decide)
def Q_cmpA3 (Z : State) (b d : Addr) (c0 c1 c2 : Int32) (kc kd : ClassId) (h0 : Heap) (v : Option Value) (h : Heap) : Prop := ∃ k : Nat, k < 3 ∧ v = some (.int (Int32.ofNat k)) ∧ (255 : Int32) < ([c0, c1, c2] : List Int32).getD k 0 ∧ Keep h0 h [d]
set_option maxRecDepth 65536 in
set_option maxHeartbeats 40000000 in
theorem rm_cmpA3 (l : Launch) (Z : State) (a0 : Array Value) (hw : ∀ d ∈ tables_1, d.before a0 Z = true) (b d : Addr) (c0 c1 c2 : Int32) (kc kd : ClassId) (h0 : Heap) (n0 : Nat) (Z0 : n0 ≤ h0.size) (g0 : n0 ≤ d) (hne : b ≠ d) (C0 : Arv Z h0 b kc .char (3 : Int32) (([c0, c1, c2] : List Int32).map Value.int) (.int (0 : Int32))) (B0 : Arv Z h0 d kd .byte (3 : Int32) (([0, 0, 0] : List Int32).map Value.int) (.int (0 : Int32))) (hwd : ¬ ∀ c ∈ ([c0, c1, c2] : List Int32), ¬ (255 : Int32) < c) :
  Con l Z EL y_15 jdk_52_method_21_code 7 (some .int) [] ({ frames := 0, cells := 0, slots := 0, locals := 0 } : Room) #[(.ref b), (.int (0 : Int32)), (.ref d), (.int (0 : Int32)), (.int (3 : Int32))] h0 n0 (Q_cmpA3 Z b d c0 c1 c2 kc kd h0) := by
 refine Con.intro (own := "java/lang/StringUTF16") rfl (plainFor_of_name plain_java_lang_StringUTF16) (hEL hw) ?_
 intro p e s m below meth c s₁ hx hby hml hret hlk hnm W0
 refine Fi.cast (show entryFrame m #[(.ref b), (.int (0 : Int32)), (.ref d), (.int (0 : Int32)), (.int (3 : Int32))] 7 = (mkF m 0 #[.val (.ref b), .val (.int (0 : Int32)), .val (.ref d), .val (.int (0 : Int32)), .val (.int (3 : Int32)), .unset, .unset] []) from by first | (simp [entryFrame, mkF, argsToLocals, Value.category]; done) | rfl) ?_
 refine Fi.by' (st' := s₁.setTop (mkF m 12 #[.val (.ref b), .val (.int (0 : Int32)), .val (.ref d), .val (.int (0 : Int32)), .val (.int (3 : Int32)), .val (.int (0 : Int32)), .unset] [(.int (0 : Int32)), (.ref b)])) (fun t k => ?_) ?_
 ·refine iconstZ W0.here hx rfl (hb hby d9_0) (z := (0 : Int32)) rfl ?_
  refine XS.istore W0.here hx rfl (hb hby d9_1) rfl (l' := #[.val (.ref b), .val (.int (0 : Int32)), .val (.ref d), .val (.int (0 : Int32)), .val (.int (3 : Int32)), .val (.int (0 : Int32)), .unset]) rfl ?_
  refine XS.iload W0.here hx rfl (hb hby d9_3) rfl ?_
  refine XS.iload W0.here hx rfl (hb hby d9_5) rfl ?_
  refine XS.icmpNo W0.here hx rfl (hb hby d9_7) rfl (tlt (by decide : ((0 : Int32) < (3 : Int32)))).2.1 ?_
  refine XS.aloadN W0.here hx rfl (hb hby d9_10) rfl rfl ?_
  refine XS.iloadN W0.here hx rfl (hb hby d9_11) rfl ?_
  exact k
 refine W0.caload hx C0 (j := (0 : Int32)) (v := .int c0) (by decide) rfl (g := (mkF m 12 #[.val (.ref b), .val (.int (0 : Int32)), .val (.ref d), .val (.int (0 : Int32)), .val (.int (3 : Int32)), .val (.int (0 : Int32)), .unset] [(.int (0 : Int32)), (.ref b)])) rfl rfl (hb hby d9_12) ?_
 change Fi _ _ _ _ _ _ _ _ _ _ (s₁.setTop (mkF m 13 #[.val (.ref b), .val (.int (0 : Int32)), .val (.ref d), .val (.int (0 : Int32)), .val (.int (3 : Int32)), .val (.int (0 : Int32)), .unset] [(.int c0)]))
 refine Fi.by' (st' := s₁.setTop (mkF m 20 #[.val (.ref b), .val (.int (0 : Int32)), .val (.ref d), .val (.int (0 : Int32)), .val (.int (3 : Int32)), .val (.int (0 : Int32)), .val (.int c0)] [(.int (255 : Int32)), (.int c0)])) (fun t k => ?_) ?_
 ·refine XS.istore W0.here hx rfl (hb hby d9_13) rfl (l' := #[.val (.ref b), .val (.int (0 : Int32)), .val (.ref d), .val (.int (0 : Int32)), .val (.int (3 : Int32)), .val (.int (0 : Int32)), .val (.int c0)]) rfl ?_
  refine XS.iload W0.here hx rfl (hb hby d9_15) rfl ?_
  refine sipushZ W0.here hx rfl (hb hby d9_17) (z := (255 : Int32)) rfl ?_
  exact k
 by_cases hc20_1 : (255 : Int32) < c0
 ·refine Fi.by' (st' := s₁.setTop (mkF m 25 #[.val (.ref b), .val (.int (0 : Int32)), .val (.ref d), .val (.int (0 : Int32)), .val (.int (3 : Int32)), .val (.int (0 : Int32)), .val (.int c0)] [(.int (0 : Int32))])) (fun t k => ?_) ?_
  ·refine XS.icmpNo W0.here hx rfl (hb hby d9_20) rfl (tlt hc20_1).2.2.2 ?_
   refine XS.iload W0.here hx rfl (hb hby d9_23) rfl ?_
   exact k
  exact W0.iret hx hlk hret (by simp) rfl (hb hby d9_25) ⟨0, by decide, rfl, hc20_1, (Keep.refl h0 [d])⟩ (by decide) (by decide)
 ·refine Fi.by' (st' := s₁.setTop (mkF m 31 #[.val (.ref b), .val (.int (0 : Int32)), .val (.ref d), .val (.int (0 : Int32)), .val (.int (3 : Int32)), .val (.int (0 : Int32)), .val (.int c0)] [(.int (c0.toInt8.toInt32)), (.int (0 : Int32)), (.ref d)])) (fun t k => ?_) ?_
  ·refine XS.icmpYes W0.here hx rfl (pc0 := 20) (pc' := 26) rfl (hb hby d9_20) rfl (flt hc20_1).2.2.2 (by decide) (by decide) ?_
   refine XS.aloadN W0.here hx rfl (hb hby d9_26) rfl rfl ?_
   refine XS.iloadN W0.here hx rfl (hb hby d9_27) rfl ?_
   refine XS.iload W0.here hx rfl (hb hby d9_28) rfl ?_
   refine XS.i2b W0.here hx rfl (hb hby d9_30) rfl ?_
   exact k
  refine Wk.bastoreN rfl W0 hx B0 (i := 0) (ble_ rfl) (j := (0 : Int32)) rfl (by decide) rfl (low_ok c0) (g := (mkF m 31 #[.val (.ref b), .val (.int (0 : Int32)), .val (.ref d), .val (.int (0 : Int32)), .val (.int (3 : Int32)), .val (.int (0 : Int32)), .val (.int c0)] [(.int (c0.toInt8.toInt32)), (.int (0 : Int32)), (.ref d)])) rfl rfl (hb hby d9_31) g0 (fun T2 h2 W2 R2 V2 => ?_)
  change Fi _ _ _ _ _ _ _ _ _ _ (T2.setTop (mkF m 32 #[.val (.ref b), .val (.int (0 : Int32)), .val (.ref d), .val (.int (0 : Int32)), .val (.int (3 : Int32)), .val (.int (0 : Int32)), .val (.int c0)] []))
  have Q2 : Arv Z h2 d kd .byte (3 : Int32) (([(c0.toInt8.toInt32), 0, 0] : List Int32).map Value.int) (.int (0 : Int32)) := V2
  have Y2 := Arv.other C0 R2 hne
  refine Fi.by' (st' := T2.setTop (mkF m 12 #[.val (.ref b), .val (.int (1 : Int32)), .val (.ref d), .val (.int (1 : Int32)), .val (.int (3 : Int32)), .val (.int (1 : Int32)), .val (.int c0)] [(.int (1 : Int32)), (.ref b)])) (fun t k => ?_) ?_
  ·refine XS.iinc W2.here hx rfl (hb hby d9_32) rfl (l' := #[.val (.ref b), .val (.int (1 : Int32)), .val (.ref d), .val (.int (0 : Int32)), .val (.int (3 : Int32)), .val (.int (0 : Int32)), .val (.int c0)]) rfl ?_
   refine XS.iinc W2.here hx rfl (hb hby d9_35) rfl (l' := #[.val (.ref b), .val (.int (1 : Int32)), .val (.ref d), .val (.int (1 : Int32)), .val (.int (3 : Int32)), .val (.int (0 : Int32)), .val (.int c0)]) rfl ?_
   refine XS.iinc W2.here hx rfl (hb hby d9_38) rfl (l' := #[.val (.ref b), .val (.int (1 : Int32)), .val (.ref d), .val (.int (1 : Int32)), .val (.int (3 : Int32)), .val (.int (1 : Int32)), .val (.int c0)]) rfl ?_
   refine XS.goto W2.here hx rfl (pc0 := 41) (pc' := 3) rfl (hb hby d9_41) (by decide) (by decide) ?_
   refine XS.iload W2.here hx rfl (hb hby d9_3) rfl ?_
   refine XS.iload W2.here hx rfl (hb hby d9_5) rfl ?_
   refine XS.icmpNo W2.here hx rfl (hb hby d9_7) rfl (tlt (by decide : ((1 : Int32) < (3 : Int32)))).2.1 ?_
   refine XS.aloadN W2.here hx rfl (hb hby d9_10) rfl rfl ?_
   refine XS.iloadN W2.here hx rfl (hb hby d9_11) rfl ?_
   exact k
  refine W2.caload hx Y2 (j := (1 : Int32)) (v := .int c1) (by decide) rfl (g := (mkF m 12 #[.val (.ref b), .val (.int (1 : Int32)), .val (.ref d), .val (.int (1 : Int32)), .val (.int (3 : Int32)), .val (.int (1 : Int32)), .val (.int c0)] [(.int (1 : Int32)), (.ref b)])) rfl rfl (hb hby d9_12) ?_
  change Fi _ _ _ _ _ _ _ _ _ _ (T2.setTop (mkF m 13 #[.val (.ref b), .val (.int (1 : Int32)), .val (.ref d), .val (.int (1 : Int32)), .val (.int (3 : Int32)), .val (.int (1 : Int32)), .val (.int c0)] [(.int c1)]))
  refine Fi.by' (st' := T2.setTop (mkF m 20 #[.val (.ref b), .val (.int (1 : Int32)), .val (.ref d), .val (.int (1 : Int32)), .val (.int (3 : Int32)), .val (.int (1 : Int32)), .val (.int c1)] [(.int (255 : Int32)), (.int c1)])) (fun t k => ?_) ?_
  ·refine XS.istore W2.here hx rfl (hb hby d9_13) rfl (l' := #[.val (.ref b), .val (.int (1 : Int32)), .val (.ref d), .val (.int (1 : Int32)), .val (.int (3 : Int32)), .val (.int (1 : Int32)), .val (.int c1)]) rfl ?_
   refine XS.iload W2.here hx rfl (hb hby d9_15) rfl ?_
   refine sipushZ W2.here hx rfl (hb hby d9_17) (z := (255 : Int32)) rfl ?_
   exact k
  by_cases hc20_3 : (255 : Int32) < c1
  ·refine Fi.by' (st' := T2.setTop (mkF m 25 #[.val (.ref b), .val (.int (1 : Int32)), .val (.ref d), .val (.int (1 : Int32)), .val (.int (3 : Int32)), .val (.int (1 : Int32)), .val (.int c1)] [(.int (1 : Int32))])) (fun t k => ?_) ?_
   ·refine XS.icmpNo W2.here hx rfl (hb hby d9_20) rfl (tlt hc20_3).2.2.2 ?_
    refine XS.iload W2.here hx rfl (hb hby d9_23) rfl ?_
    exact k
   exact W2.iret hx hlk hret (by simp) rfl (hb hby d9_25) ⟨1, by decide, rfl, hc20_3, ((Keep.refl h0 [d]).wr R2 (Or.inl (List.mem_singleton.mpr rfl)))⟩ (by decide) (by decide)
  ·refine Fi.by' (st' := T2.setTop (mkF m 31 #[.val (.ref b), .val (.int (1 : Int32)), .val (.ref d), .val (.int (1 : Int32)), .val (.int (3 : Int32)), .val (.int (1 : Int32)), .val (.int c1)] [(.int (c1.toInt8.toInt32)), (.int (1 : Int32)), (.ref d)])) (fun t k => ?_) ?_
   ·refine XS.icmpYes W2.here hx rfl (pc0 := 20) (pc' := 26) rfl (hb hby d9_20) rfl (flt hc20_3).2.2.2 (by decide) (by decide) ?_
    refine XS.aloadN W2.here hx rfl (hb hby d9_26) rfl rfl ?_
    refine XS.iloadN W2.here hx rfl (hb hby d9_27) rfl ?_
    refine XS.iload W2.here hx rfl (hb hby d9_28) rfl ?_
    refine XS.i2b W2.here hx rfl (hb hby d9_30) rfl ?_
    exact k
   refine Wk.bastoreN rfl W2 hx Q2 (i := 1) (ble_ rfl) (j := (1 : Int32)) rfl (by decide) rfl (low_ok c1) (g := (mkF m 31 #[.val (.ref b), .val (.int (1 : Int32)), .val (.ref d), .val (.int (1 : Int32)), .val (.int (3 : Int32)), .val (.int (1 : Int32)), .val (.int c1)] [(.int (c1.toInt8.toInt32)), (.int (1 : Int32)), (.ref d)])) rfl rfl (hb hby d9_31) g0 (fun T4 h4 W4 R4 V4 => ?_)
   change Fi _ _ _ _ _ _ _ _ _ _ (T4.setTop (mkF m 32 #[.val (.ref b), .val (.int (1 : Int32)), .val (.ref d), .val (.int (1 : Int32)), .val (.int (3 : Int32)), .val (.int (1 : Int32)), .val (.int c1)] []))
   have Q4 : Arv Z h4 d kd .byte (3 : Int32) (([(c0.toInt8.toInt32), (c1.toInt8.toInt32), 0] : List Int32).map Value.int) (.int (0 : Int32)) := V4
   have Y4 := Arv.other Y2 R4 hne
   refine Fi.by' (st' := T4.setTop (mkF m 12 #[.val (.ref b), .val (.int (2 : Int32)), .val (.ref d), .val (.int (2 : Int32)), .val (.int (3 : Int32)), .val (.int (2 : Int32)), .val (.int c1)] [(.int (2 : Int32)), (.ref b)])) (fun t k => ?_) ?_
   ·refine XS.iinc W4.here hx rfl (hb hby d9_32) rfl (l' := #[.val (.ref b), .val (.int (2 : Int32)), .val (.ref d), .val (.int (1 : Int32)), .val (.int (3 : Int32)), .val (.int (1 : Int32)), .val (.int c1)]) rfl ?_
    refine XS.iinc W4.here hx rfl (hb hby d9_35) rfl (l' := #[.val (.ref b), .val (.int (2 : Int32)), .val (.ref d), .val (.int (2 : Int32)), .val (.int (3 : Int32)), .val (.int (1 : Int32)), .val (.int c1)]) rfl ?_
    refine XS.iinc W4.here hx rfl (hb hby d9_38) rfl (l' := #[.val (.ref b), .val (.int (2 : Int32)), .val (.ref d), .val (.int (2 : Int32)), .val (.int (3 : Int32)), .val (.int (2 : Int32)), .val (.int c1)]) rfl ?_
    refine XS.goto W4.here hx rfl (pc0 := 41) (pc' := 3) rfl (hb hby d9_41) (by decide) (by decide) ?_
    refine XS.iload W4.here hx rfl (hb hby d9_3) rfl ?_
    refine XS.iload W4.here hx rfl (hb hby d9_5) rfl ?_
    refine XS.icmpNo W4.here hx rfl (hb hby d9_7) rfl (tlt (by decide : ((2 : Int32) < (3 : Int32)))).2.1 ?_
    refine XS.aloadN W4.here hx rfl (hb hby d9_10) rfl rfl ?_
    refine XS.iloadN W4.here hx rfl (hb hby d9_11) rfl ?_
    exact k
   refine W4.caload hx Y4 (j := (2 : Int32)) (v := .int c2) (by decide) rfl (g := (mkF m 12 #[.val (.ref b), .val (.int (2 : Int32)), .val (.ref d), .val (.int (2 : Int32)), .val (.int (3 : Int32)), .val (.int (2 : Int32)), .val (.int c1)] [(.int (2 : Int32)), (.ref b)])) rfl rfl (hb hby d9_12) ?_
   change Fi _ _ _ _ _ _ _ _ _ _ (T4.setTop (mkF m 13 #[.val (.ref b), .val (.int (2 : Int32)), .val (.ref d), .val (.int (2 : Int32)), .val (.int (3 : Int32)), .val (.int (2 : Int32)), .val (.int c1)] [(.int c2)]))
   refine Fi.by' (st' := T4.setTop (mkF m 20 #[.val (.ref b), .val (.int (2 : Int32)), .val (.ref d), .val (.int (2 : Int32)), .val (.int (3 : Int32)), .val (.int (2 : Int32)), .val (.int c2)] [(.int (255 : Int32)), (.int c2)])) (fun t k => ?_) ?_
   ·refine XS.istore W4.here hx rfl (hb hby d9_13) rfl (l' := #[.val (.ref b), .val (.int (2 : Int32)), .val (.ref d), .val (.int (2 : Int32)), .val (.int (3 : Int32)), .val (.int (2 : Int32)), .val (.int c2)]) rfl ?_
    refine XS.iload W4.here hx rfl (hb hby d9_15) rfl ?_
    refine sipushZ W4.here hx rfl (hb hby d9_17) (z := (255 : Int32)) rfl ?_
    exact k
   by_cases hc20_5 : (255 : Int32) < c2
   ·refine Fi.by' (st' := T4.setTop (mkF m 25 #[.val (.ref b), .val (.int (2 : Int32)), .val (.ref d), .val (.int (2 : Int32)), .val (.int (3 : Int32)), .val (.int (2 : Int32)), .val (.int c2)] [(.int (2 : Int32))])) (fun t k => ?_) ?_
    ·refine XS.icmpNo W4.here hx rfl (hb hby d9_20) rfl (tlt hc20_5).2.2.2 ?_
     refine XS.iload W4.here hx rfl (hb hby d9_23) rfl ?_
     exact k
    exact W4.iret hx hlk hret (by simp) rfl (hb hby d9_25) ⟨2, by decide, rfl, hc20_5, (((Keep.refl h0 [d]).wr R2 (Or.inl (List.mem_singleton.mpr rfl))).wr R4 (Or.inl (List.mem_singleton.mpr rfl)))⟩ (by decide) (by decide)
   ·refine Fi.by' (st' := T4.setTop (mkF m 31 #[.val (.ref b), .val (.int (2 : Int32)), .val (.ref d), .val (.int (2 : Int32)), .val (.int (3 : Int32)), .val (.int (2 : Int32)), .val (.int c2)] [(.int (c2.toInt8.toInt32)), (.int (2 : Int32)), (.ref d)])) (fun t k => ?_) ?_
    ·refine XS.icmpYes W4.here hx rfl (pc0 := 20) (pc' := 26) rfl (hb hby d9_20) rfl (flt hc20_5).2.2.2 (by decide) (by decide) ?_
     refine XS.aloadN W4.here hx rfl (hb hby d9_26) rfl rfl ?_
     refine XS.iloadN W4.here hx rfl (hb hby d9_27) rfl ?_
     refine XS.iload W4.here hx rfl (hb hby d9_28) rfl ?_
     refine XS.i2b W4.here hx rfl (hb hby d9_30) rfl ?_
     exact k
    refine Wk.bastoreN rfl W4 hx Q4 (i := 2) (ble_ rfl) (j := (2 : Int32)) rfl (by decide) rfl (low_ok c2) (g := (mkF m 31 #[.val (.ref b), .val (.int (2 : Int32)), .val (.ref d), .val (.int (2 : Int32)), .val (.int (3 : Int32)), .val (.int (2 : Int32)), .val (.int c2)] [(.int (c2.toInt8.toInt32)), (.int (2 : Int32)), (.ref d)])) rfl rfl (hb hby d9_31) g0 (fun T6 h6 W6 R6 V6 => ?_)
    change Fi _ _ _ _ _ _ _ _ _ _ (T6.setTop (mkF m 32 #[.val (.ref b), .val (.int (2 : Int32)), .val (.ref d), .val (.int (2 : Int32)), .val (.int (3 : Int32)), .val (.int (2 : Int32)), .val (.int c2)] []))
    have Q6 : Arv Z h6 d kd .byte (3 : Int32) (([(c0.toInt8.toInt32), (c1.toInt8.toInt32), (c2.toInt8.toInt32)] : List Int32).map Value.int) (.int (0 : Int32)) := V6
    have Y6 := Arv.other Y4 R6 hne
    refine Fi.by' (st' := T6.setTop (mkF m 46 #[.val (.ref b), .val (.int (3 : Int32)), .val (.ref d), .val (.int (3 : Int32)), .val (.int (3 : Int32)), .val (.int (3 : Int32)), .val (.int c2)] [(.int (3 : Int32))])) (fun t k => ?_) ?_
    ·refine XS.iinc W6.here hx rfl (hb hby d9_32) rfl (l' := #[.val (.ref b), .val (.int (3 : Int32)), .val (.ref d), .val (.int (2 : Int32)), .val (.int (3 : Int32)), .val (.int (2 : Int32)), .val (.int c2)]) rfl ?_
     refine XS.iinc W6.here hx rfl (hb hby d9_35) rfl (l' := #[.val (.ref b), .val (.int (3 : Int32)), .val (.ref d), .val (.int (3 : Int32)), .val (.int (3 : Int32)), .val (.int (2 : Int32)), .val (.int c2)]) rfl ?_
     refine XS.iinc W6.here hx rfl (hb hby d9_38) rfl (l' := #[.val (.ref b), .val (.int (3 : Int32)), .val (.ref d), .val (.int (3 : Int32)), .val (.int (3 : Int32)), .val (.int (3 : Int32)), .val (.int c2)]) rfl ?_
     refine XS.goto W6.here hx rfl (pc0 := 41) (pc' := 3) rfl (hb hby d9_41) (by decide) (by decide) ?_
     refine XS.iload W6.here hx rfl (hb hby d9_3) rfl ?_
     refine XS.iload W6.here hx rfl (hb hby d9_5) rfl ?_
     refine XS.icmpYes W6.here hx rfl (pc0 := 7) (pc' := 44) rfl (hb hby d9_7) rfl (flt (by decide : ¬ ((3 : Int32) < (3 : Int32)))).2.1 (by decide) (by decide) ?_
     refine XS.iload W6.here hx rfl (hb hby d9_44) rfl ?_
     exact k
    exact absurd (all_cons hc20_1 (all_cons hc20_3 (all_cons hc20_5 all_nil))) hwd
def Q_cmpB3 (Z : State) (b : Addr) (c0 c1 c2 : Int32) (kc : ClassId) (h0 : Heap) (v : Option Value) (h : Heap) : Prop := ∃ (e : Addr) (k : ClassId), v = some (.ref e) ∧ Ext h0 h ∧ h0.size ≤ e ∧ Arv Z h e k .byte (6 : Int32) (StrChars.Road.wideBytes [c0, c1, c2]) (.int (0 : Int32))
set_option maxRecDepth 65536 in
set_option maxHeartbeats 40000000 in
theorem rm_cmpB3 (l : Launch) (Z : State) (a0 : Array Value) (hw : ∀ d ∈ tables_1, d.before a0 Z = true) (b : Addr) (c0 c1 c2 : Int32) (kc : ClassId) (h0 : Heap) (n0 : Nat) (Z0 : n0 ≤ h0.size) (D0 : Sta Z h0 "java/lang/StringUTF16" "$assertionsDisabled" "Z" (.int 1)) (HB0 : Sta Z h0 "java/lang/StringUTF16" "HI_BYTE_SHIFT" "I" (.int 0)) (LB0 : Sta Z h0 "java/lang/StringUTF16" "LO_BYTE_SHIFT" "I" (.int 8)) (C0 : Arv Z h0 b kc .char (3 : Int32) (([c0, c1, c2] : List Int32).map Value.int) (.int (0 : Int32))) (hr : ∀ c ∈ ([c0, c1, c2] : List Int32), ¬ c < 0 ∧ ¬ (65535 : Int32) < c) (hwd : ¬ ∀ c ∈ ([c0, c1, c2] : List Int32), ¬ (255 : Int32) < c) :
  Con l Z EL y_16 jdk_52_method_16_code 6 (some (.array .byte)) [] ({ frames := 3, cells := 2, slots := 9, locals := 40 } : Room) #[(.ref b), (.int (0 : Int32)), (.int (3 : Int32))] h0 n0 (Q_cmpB3 Z b c0 c1 c2 kc h0) := by
 refine Con.intro (own := "java/lang/StringUTF16") rfl (plainFor_of_name plain_java_lang_StringUTF16) (hEL hw) ?_
 intro p e s m below meth c s₁ hx hby hml hret hlk hnm W0
 refine Fi.cast (show entryFrame m #[(.ref b), (.int (0 : Int32)), (.int (3 : Int32))] 6 = (mkF m 0 #[.val (.ref b), .val (.int (0 : Int32)), .val (.int (3 : Int32)), .unset, .unset, .unset] []) from by first | (simp [entryFrame, mkF, argsToLocals, Value.category]; done) | rfl) ?_
 refine Fi.by' (st' := s₁.setTop (mkF m 1 #[.val (.ref b), .val (.int (0 : Int32)), .val (.int (3 : Int32)), .unset, .unset, .unset] [(.int (3 : Int32))])) (fun t k => ?_) ?_
 ·refine XS.iloadN W0.here hx rfl (hb hby d8_0) rfl ?_
  exact k
 refine W0.newP hx (aty := .byte) (ww hw 21 rfl) (g := (mkF m 1 #[.val (.ref b), .val (.int (0 : Int32)), .val (.int (3 : Int32)), .unset, .unset, .unset] [(.int (3 : Int32))])) rfl (hb hby d8_1) rfl (by decide) (cap := 3) (by decide) (by decide) (by decide) (by decide) (fun T1 h1 a1 k1 ha1 W1 E1 A1 => ?_)
 change Fi _ _ _ _ _ _ _ _ _ _ (T1.setTop (mkF m 3 #[.val (.ref b), .val (.int (0 : Int32)), .val (.int (3 : Int32)), .unset, .unset, .unset] [(.ref a1)]))
 have sz1 := E1.1
 have V1 : Arv Z h1 a1 k1 .byte (3 : Int32) (([0, 0, 0] : List Int32).map Value.int) (.int (0 : Int32)) := A1.pad (pad_rep [] (.int (0 : Int32)) 3)
 refine Fi.by' (st' := T1.setTop (mkF m 9 #[.val (.ref b), .val (.int (0 : Int32)), .val (.int (3 : Int32)), .val (.ref a1), .unset, .unset] [(.int (3 : Int32)), (.int (0 : Int32)), (.ref a1), (.int (0 : Int32)), (.ref b)])) (fun t k => ?_) ?_
 ·refine XS.astoreN W1.here hx rfl (hb hby d8_3) rfl rfl (l' := #[.val (.ref b), .val (.int (0 : Int32)), .val (.int (3 : Int32)), .val (.ref a1), .unset, .unset]) rfl ?_
  refine XS.aloadN W1.here hx rfl (hb hby d8_4) rfl rfl ?_
  refine XS.iloadN W1.here hx rfl (hb hby d8_5) rfl ?_
  refine XS.aloadN W1.here hx rfl (hb hby d8_6) rfl rfl ?_
  refine iconstZ W1.here hx rfl (hb hby d8_7) (z := (0 : Int32)) rfl ?_
  refine XS.iloadN W1.here hx rfl (hb hby d8_8) rfl ?_
  exact k
 have lb : @LT.lt Nat _ b h0.size := C0.lt
 refine W1.callS hx (y := y_15) (ww hw 47 rfl) (ww hw 48 rfl) (ww hw 45 rfl) (ww hw 49 rfl) (by decide) (Pay.of_con (Wd := 0) (rm_cmpA3 l Z a0 hw b a1 c0 c1 c2 kc k1 h1 n0 (by omega) (by omega) (fun q => by have q2 : @Eq Nat b a1 := q; omega) (C0.ext E1) V1 hwd) (ww hw 49 rfl) (ww hw 45 rfl) (hEL hw) (by decide) (by decide)) (g := (mkF m 9 #[.val (.ref b), .val (.int (0 : Int32)), .val (.int (3 : Int32)), .val (.ref a1), .unset, .unset] [(.int (3 : Int32)), (.int (0 : Int32)), (.ref a1), (.int (0 : Int32)), (.ref b)])) rfl (by rw [hml]; rfl) (argsL := [(.ref b), (.int (0 : Int32)), (.ref a1), (.int (0 : Int32)), (.int (3 : Int32))]) (rest := []) (lenOf pd_4 rfl) rfl rfl (ble_ rfl) (hb hby d8_9) (by decide) (by decide) (fun v2 T2 h2 W2 sz2 q2 => ?_)
 obtain ⟨kx, hk, rfl, hc, K2⟩ := q2
 change Fi _ _ _ _ _ _ _ _ _ _ (T2.setTop (mkF m 12 #[.val (.ref b), .val (.int (0 : Int32)), .val (.int (3 : Int32)), .val (.ref a1), .unset, .unset] [(.int (Int32.ofNat kx))]))
 have x2k : Ext h0 h2 := ext_keep1 E1 K2 (by omega)
 refine Fi.by' (st' := T2.setTop (mkF m 17 #[.val (.ref b), .val (.int (0 : Int32)), .val (.int (3 : Int32)), .val (.ref a1), .val (.int (Int32.ofNat kx)), .unset] [(.int (3 : Int32)), (.int (Int32.ofNat kx))])) (fun t k => ?_) ?_
 ·refine XS.istore W2.here hx rfl (hb hby d8_12) rfl (l' := #[.val (.ref b), .val (.int (0 : Int32)), .val (.int (3 : Int32)), .val (.ref a1), .val (.int (Int32.ofNat kx)), .unset]) rfl ?_
  refine XS.iload W2.here hx rfl (hb hby d8_14) rfl ?_
  refine XS.iloadN W2.here hx rfl (hb hby d8_16) rfl ?_
  exact k
 refine Fi.by' (st' := T2.setTop (mkF m 23 #[.val (.ref b), .val (.int (0 : Int32)), .val (.int (3 : Int32)), .val (.ref a1), .val (.int (Int32.ofNat kx)), .unset] [(.int (3 : Int32)), (.int (0 : Int32)), (.ref b)])) (fun t k => ?_) ?_
 ·refine XS.icmpNo W2.here hx rfl (hb hby d8_17) rfl (feq (ofNat_ne hk (by decide))).1 ?_
  refine XS.aloadN W2.here hx rfl (hb hby d8_20) rfl rfl ?_
  refine XS.iloadN W2.here hx rfl (hb hby d8_21) rfl ?_
  refine XS.iloadN W2.here hx rfl (hb hby d8_22) rfl ?_
  exact k
 refine W2.callS hx (y := y_14) (ww hw 95 rfl) (ww hw 96 rfl) (ww hw 45 rfl) (ww hw 97 rfl) (by decide) (Pay.of_con (Wd := 0) (rm_toB3 l Z a0 hw b c0 c1 c2 kc h2 n0 (by omega) (Sta.ext x2k D0) (Sta.ext x2k HB0) (Sta.ext x2k LB0) (C0.ext x2k)) (ww hw 97 rfl) (ww hw 45 rfl) (hEL hw) (by decide) (by decide)) (g := (mkF m 23 #[.val (.ref b), .val (.int (0 : Int32)), .val (.int (3 : Int32)), .val (.ref a1), .val (.int (Int32.ofNat kx)), .unset] [(.int (3 : Int32)), (.int (0 : Int32)), (.ref b)])) rfl (by rw [hml]; rfl) (argsL := [(.ref b), (.int (0 : Int32)), (.int (3 : Int32))]) (rest := []) (lenOf pd_5 rfl) rfl rfl (ble_ rfl) (hb hby d8_23) (by decide) (by decide) (fun v3 T3 h3 W3 sz3 q3 => ?_)
 obtain ⟨e, ke, rfl, E3, ge, B3⟩ := q3
 change Fi _ _ _ _ _ _ _ _ _ _ (T3.setTop (mkF m 26 #[.val (.ref b), .val (.int (0 : Int32)), .val (.int (3 : Int32)), .val (.ref a1), .val (.int (Int32.ofNat kx)), .unset] [(.ref e)]))
 refine Fi.by' (st' := T3.setTop (mkF m 32 #[.val (.ref b), .val (.int (0 : Int32)), .val (.int (3 : Int32)), .val (.ref a1), .val (.int (Int32.ofNat kx)), .val (.ref e)] [(.int (Int32.ofNat kx)), (.ref e)])) (fun t k => ?_) ?_
 ·refine XS.astore W3.here hx rfl (hb hby d8_26) rfl rfl (l' := #[.val (.ref b), .val (.int (0 : Int32)), .val (.int (3 : Int32)), .val (.ref a1), .val (.int (Int32.ofNat kx)), .val (.ref e)]) rfl ?_
  refine XS.aload W3.here hx rfl (hb hby d8_28) rfl rfl ?_
  refine XS.iload W3.here hx rfl (hb hby d8_30) rfl ?_
  exact k
 have x4 : Ext h0 h3 := ext_trans x2k E3
 refine W3.callS hx (y := y_11) (ww hw 111 rfl) (ww hw 112 rfl) (ww hw 45 rfl) (ww hw 113 rfl) (by decide) (Pay.of_con (Wd := 0) (rm_getC l Z a0 hw e (Int32.ofNat kx) (6 : Int32) _ _ kx _ ke h3 n0 (by omega) (Sta.ext x4 D0) (Sta.ext x4 HB0) (Sta.ext x4 LB0) rfl (by omega) (by rw [show (6 : Int32).toNatClampNeg = 6 from rfl]; omega) B3 (StrChars.Road.wide_lo _ [c0, c1, c2] kx hk) (StrChars.Road.wide_hi _ [c0, c1, c2] kx hk)) (ww hw 113 rfl) (ww hw 45 rfl) (hEL hw) (by decide) (by decide)) (g := (mkF m 32 #[.val (.ref b), .val (.int (0 : Int32)), .val (.int (3 : Int32)), .val (.ref a1), .val (.int (Int32.ofNat kx)), .val (.ref e)] [(.int (Int32.ofNat kx)), (.ref e)])) rfl (by rw [hml]; rfl) (argsL := [(.ref e), (.int (Int32.ofNat kx))]) (rest := []) (lenOf pd_6 rfl) rfl rfl (ble_ rfl) (hb hby d8_32) (by decide) (by decide) (fun v5 T5 h5 W5 sz5 q5 => ?_)
 obtain ⟨rfl, rfl⟩ := q5
 change Fi _ _ _ _ _ _ _ _ _ _ (T5.setTop (mkF m 35 #[.val (.ref b), .val (.int (0 : Int32)), .val (.int (3 : Int32)), .val (.ref a1), .val (.int (Int32.ofNat kx)), .val (.ref e)] [(.int (StrChars.pairCh (StrChars.lo8 (([c0, c1, c2] : List Int32).getD kx 0)) (StrChars.hi8 (([c0, c1, c2] : List Int32).getD kx 0))))]))
 refine Fi.by' (st' := T5.setTop (mkF m 38 #[.val (.ref b), .val (.int (0 : Int32)), .val (.int (3 : Int32)), .val (.ref a1), .val (.int (Int32.ofNat kx)), .val (.ref e)] [(.int (255 : Int32)), (.int (StrChars.pairCh (StrChars.lo8 (([c0, c1, c2] : List Int32).getD kx 0)) (StrChars.hi8 (([c0, c1, c2] : List Int32).getD kx 0))))])) (fun t k => ?_) ?_
 ·refine sipushZ W5.here hx rfl (hb hby d8_35) (z := (255 : Int32)) rfl ?_
  exact k
 refine Fi.by' (st' := T5.setTop (mkF m 56 #[.val (.ref b), .val (.int (0 : Int32)), .val (.int (3 : Int32)), .val (.ref a1), .val (.int (Int32.ofNat kx)), .val (.ref e)] [(.ref e)])) (fun t k => ?_) ?_
 ·refine XS.icmpYes W5.here hx rfl (pc0 := 38) (pc' := 54) rfl (hb hby d8_38) rfl (tlt (by rw [StrChars.pair_says (getD_rng (cs := [c0, c1, c2]) hk hr).1 (getD_rng (cs := [c0, c1, c2]) hk hr).2]; exact hc)).2.2.1 (by decide) (by decide) ?_
  refine XS.aload W5.here hx rfl (hb hby d8_54) rfl rfl ?_
  exact k
 exact W5.aret hx hlk hret rfl rfl (hb hby d8_56) ⟨e, ke, rfl, x4, by omega, B3⟩ (by decide) (by decide)
def Q_inA3 (Z : State) (x b : Addr) (zc c0 c1 c2 : Int32) (kc : ClassId) (h0 : Heap) (v : Option Value) (h : Heap) : Prop := v = none ∧ Keep h0 h [x] ∧ StrA Z h x [c0, c1, c2]
set_option maxRecDepth 65536 in
set_option maxHeartbeats 40000000 in
theorem rm_inA3 (l : Launch) (Z : State) (a0 : Array Value) (hw : ∀ d ∈ tables_1, d.before a0 Z = true) (x b : Addr) (zc c0 c1 c2 : Int32) (kc : ClassId) (h0 : Heap) (n0 : Nat) (Z0 : n0 ≤ h0.size) (g0 : n0 ≤ x) (A0 : Exa Z h0 x "java/lang/String") (V0 : Fld Z h0 x "java/lang/String" "value" "[B" .null) (C1 : Fld Z h0 x "java/lang/String" "coder" "B" (.int (0 : Int32))) (S0 : Sta Z h0 "java/lang/String" "COMPACT_STRINGS" "Z" (.int zc)) (hz : ¬ zc = 0) (D0 : Sta Z h0 "java/lang/StringUTF16" "$assertionsDisabled" "Z" (.int 1)) (HB0 : Sta Z h0 "java/lang/StringUTF16" "HI_BYTE_SHIFT" "I" (.int 0)) (LB0 : Sta Z h0 "java/lang/StringUTF16" "LO_BYTE_SHIFT" "I" (.int 8)) (C0 : Arv Z h0 b kc .char (3 : Int32) (([c0, c1, c2] : List Int32).map Value.int) (.int (0 : Int32))) (hr : ∀ c ∈ ([c0, c1, c2] : List Int32), ¬ c < 0 ∧ ¬ (65535 : Int32) < c) (hwd : ¬ ∀ c ∈ ([c0, c1, c2] : List Int32), ¬ (255 : Int32) < c) :
  Con l Z EL y_17 jdk_42_method_149_code 6 none [] ({ frames := 4, cells := 2, slots := 9, locals := 57 } : Room) #[(.ref x), (.ref b), (.int (0 : Int32)), (.int (3 : Int32)), .null] h0 n0 (Q_inA3 Z x b zc c0 c1 c2 kc h0) := by
 refine Con.intro (own := "java/lang/String") rfl (plainFor_of_name plain_java_lang_String) (hEL hw) ?_
 intro p e s m below meth c s₁ hx hby hml hret hlk hnm W0
 refine Fi.cast (show entryFrame m #[(.ref x), (.ref b), (.int (0 : Int32)), (.int (3 : Int32)), .null] 6 = (mkF m 0 #[.val (.ref x), .val (.ref b), .val (.int (0 : Int32)), .val (.int (3 : Int32)), .val .null, .unset] []) from by first | (simp [entryFrame, mkF, argsToLocals, Value.category]; done) | rfl) ?_
 refine Fi.by' (st' := s₁.setTop (mkF m 1 #[.val (.ref x), .val (.ref b), .val (.int (0 : Int32)), .val (.int (3 : Int32)), .val .null, .unset] [(.ref x)])) (fun t k => ?_) ?_
 ·refine XS.aloadN W0.here hx rfl (hb hby d3_0) rfl rfl ?_
  exact k
 refine W0.initO hx (ww hw 17 rfl) (ww hw 18 rfl) (ww hw 19 rfl) (g := (mkF m 1 #[.val (.ref x), .val (.ref b), .val (.int (0 : Int32)), .val (.int (3 : Int32)), .val .null, .unset] [(.ref x)])) rfl (by rw [hml]; rfl) rfl (hb hby d3_1) (by decide) (Wd := 0) (ble_ rfl) (by decide) (fun T1 W1 => ?_)
 change Fi _ _ _ _ _ _ _ _ _ _ (T1.setTop (mkF m 4 #[.val (.ref x), .val (.ref b), .val (.int (0 : Int32)), .val (.int (3 : Int32)), .val .null, .unset] []))
 refine Fi.by' (st' := T1.setTop (mkF m 27 #[.val (.ref x), .val (.ref b), .val (.int (0 : Int32)), .val (.int (3 : Int32)), .val .null, .unset] [])) (fun t k => ?_) ?_
 ·refine XS.iloadN W1.here hx rfl (hb hby d3_4) rfl ?_
  refine XS.ifYes W1.here hx rfl (pc0 := 5) (pc' := 27) rfl (hb hby d3_5) rfl ((if0 _ _).trans (feq (by decide : ¬ ((3 : Int32) = (0 : Int32)))).2) (by decide) (by decide) ?_
  exact k
 refine W1.getS hx (ww hw 42 rfl) S0 (g := (mkF m 27 #[.val (.ref x), .val (.ref b), .val (.int (0 : Int32)), .val (.int (3 : Int32)), .val .null, .unset] [])) rfl (hb hby d3_27) (fun T2 W2 => ?_)
 change Fi _ _ _ _ _ _ _ _ _ _ (T2.setTop (mkF m 30 #[.val (.ref x), .val (.ref b), .val (.int (0 : Int32)), .val (.int (3 : Int32)), .val .null, .unset] [(.int zc)]))
 refine Fi.by' (st' := T2.setTop (mkF m 36 #[.val (.ref x), .val (.ref b), .val (.int (0 : Int32)), .val (.int (3 : Int32)), .val .null, .unset] [(.int (3 : Int32)), (.int (0 : Int32)), (.ref b)])) (fun t k => ?_) ?_
 ·refine XS.ifNo W2.here hx rfl (hb hby d3_30) rfl ((if0 _ _).trans (feq hz).1) ?_
  refine XS.aloadN W2.here hx rfl (hb hby d3_33) rfl rfl ?_
  refine XS.iloadN W2.here hx rfl (hb hby d3_34) rfl ?_
  refine XS.iloadN W2.here hx rfl (hb hby d3_35) rfl ?_
  exact k
 refine W2.callS hx (y := y_16) (ww hw 43 rfl) (ww hw 44 rfl) (ww hw 45 rfl) (ww hw 46 rfl) (by decide) (Pay.of_con (Wd := 0) (rm_cmpB3 l Z a0 hw b c0 c1 c2 kc h0 n0 (by omega) D0 HB0 LB0 C0 hr hwd) (ww hw 46 rfl) (ww hw 45 rfl) (hEL hw) (by decide) (by decide)) (g := (mkF m 36 #[.val (.ref x), .val (.ref b), .val (.int (0 : Int32)), .val (.int (3 : Int32)), .val .null, .unset] [(.int (3 : Int32)), (.int (0 : Int32)), (.ref b)])) rfl (by rw [hml]; rfl) (argsL := [(.ref b), (.int (0 : Int32)), (.int (3 : Int32))]) (rest := []) (lenOf pd_5 rfl) rfl rfl (ble_ rfl) (hb hby d3_36) (by decide) (by decide) (fun v3 T3 h3 W3 sz3 q3 => ?_)
 obtain ⟨e, ke, rfl, E3, ge, B3⟩ := q3
 change Fi _ _ _ _ _ _ _ _ _ _ (T3.setTop (mkF m 39 #[.val (.ref x), .val (.ref b), .val (.int (0 : Int32)), .val (.int (3 : Int32)), .val .null, .unset] [(.ref e)]))
 have lx : @LT.lt Nat _ x h0.size := A0.lt
 refine Fi.by' (st' := T3.setTop (mkF m 45 #[.val (.ref x), .val (.ref b), .val (.int (0 : Int32)), .val (.int (3 : Int32)), .val .null, .val (.ref e)] [(.int (3 : Int32)), (.ref e), (.ref x)])) (fun t k => ?_) ?_
 ·refine XS.astore W3.here hx rfl (hb hby d3_39) rfl rfl (l' := #[.val (.ref x), .val (.ref b), .val (.int (0 : Int32)), .val (.int (3 : Int32)), .val .null, .val (.ref e)]) rfl ?_
  refine XS.aloadN W3.here hx rfl (hb hby d3_41) rfl rfl ?_
  refine XS.aload W3.here hx rfl (hb hby d3_42) rfl rfl ?_
  refine XS.iloadN W3.here hx rfl (hb hby d3_44) rfl ?_
  exact k
 refine W3.callS hx (y := y_12) (ww hw 50 rfl) (ww hw 51 rfl) (ww hw 45 rfl) (ww hw 52 rfl) (by decide) (Pay.of_con (Wd := 1) (rm_cfl l Z a0 hw e (3 : Int32) (6 : Int32) ke _ h3 n0 (by omega) B3 (by decide)) (ww hw 52 rfl) (ww hw 45 rfl) (hEL hw) (by decide) (by decide)) (g := (mkF m 45 #[.val (.ref x), .val (.ref b), .val (.int (0 : Int32)), .val (.int (3 : Int32)), .val .null, .val (.ref e)] [(.int (3 : Int32)), (.ref e), (.ref x)])) rfl (by rw [hml]; rfl) (argsL := [(.ref e), (.int (3 : Int32))]) (rest := [(.ref x)]) (lenOf pd_7 rfl) rfl rfl (ble_ rfl) (hb hby d3_45) (by decide) (by decide) (fun v4 T4 h4 W4 sz4 q4 => ?_)
 obtain ⟨rfl, rfl⟩ := q4
 change Fi _ _ _ _ _ _ _ _ _ _ (T4.setTop (mkF m 48 #[.val (.ref x), .val (.ref b), .val (.int (0 : Int32)), .val (.int (3 : Int32)), .val .null, .val (.ref e)] [(.int (1 : Int32)), (.ref x)]))
 refine W4.putF hx (ww hw 27 rfl) (Fld.ext E3 C1) (Exa.ext E3 A0) (Or.inr ⟨(ww hw 23 rfl), rfl, hnm⟩) (ww hw 8 rfl) (ty := .byte) (by decide) rfl rfl (g := (mkF m 48 #[.val (.ref x), .val (.ref b), .val (.int (0 : Int32)), .val (.int (3 : Int32)), .val .null, .val (.ref e)] [(.int (1 : Int32)), (.ref x)])) rfl rfl (hb hby d3_48) g0 (fun _ _ _ => safeN rfl) (fun T5 h5 W5 R5 => ?_)
 change Fi _ _ _ _ _ _ _ _ _ _ (T5.setTop (mkF m 51 #[.val (.ref x), .val (.ref b), .val (.int (0 : Int32)), .val (.int (3 : Int32)), .val .null, .val (.ref e)] []))
 have K5 := ((Keep.refl h0 [x]).ext E3).wr R5 (Or.inl (List.mem_singleton.mpr rfl))
 have A5 := Exa.wr R5 (Exa.ext E3 A0)
 have F5_value := Fld.other R5 (Fld.ext E3 V0) (Or.inr (slot_ne (Or.inr (ww hw 22 rfl)) (Or.inr (ww hw 23 rfl)) (by decide) (t := (.array .byte)) (t' := .byte) (by decide) (by decide)))
 have F5_coder := Fld.same R5 (Fld.ext E3 C1)
 refine Fi.by' (st' := T5.setTop (mkF m 54 #[.val (.ref x), .val (.ref b), .val (.int (0 : Int32)), .val (.int (3 : Int32)), .val .null, .val (.ref e)] [(.ref e), (.ref x)])) (fun t k => ?_) ?_
 ·refine XS.aloadN W5.here hx rfl (hb hby d3_51) rfl rfl ?_
  refine XS.aload W5.here hx rfl (hb hby d3_52) rfl rfl ?_
  exact k
 refine W5.putF hx (ww hw 26 rfl) F5_value A5 (Or.inr ⟨(ww hw 22 rfl), rfl, hnm⟩) (ww hw 8 rfl) (ty := (.array .byte)) (by decide) rfl rfl (g := (mkF m 54 #[.val (.ref x), .val (.ref b), .val (.int (0 : Int32)), .val (.int (3 : Int32)), .val .null, .val (.ref e)] [(.ref e), (.ref x)])) rfl rfl (hb hby d3_54) g0 (fun _ _ _ => safeN rfl) (fun T6 h6 W6 R6 => ?_)
 change Fi _ _ _ _ _ _ _ _ _ _ (T6.setTop (mkF m 57 #[.val (.ref x), .val (.ref b), .val (.int (0 : Int32)), .val (.int (3 : Int32)), .val .null, .val (.ref e)] []))
 have K6 := K5.wr R6 (Or.inl (List.mem_singleton.mpr rfl))
 have A6 := Exa.wr R6 A5
 have F6_value := Fld.same R6 F5_value
 have F6_coder := Fld.other R6 F5_coder (Or.inr (slot_ne (Or.inr (ww hw 23 rfl)) (Or.inr (ww hw 22 rfl)) (by decide) (t := .byte) (t' := (.array .byte)) (by decide) (by decide)))
 have Z5 := Arv.other B3 R5 (fun q => by have q2 : @Eq Nat e x := q; omega)
 have Z6 := Arv.other Z5 R6 (fun q => by have q2 : @Eq Nat e x := q; omega)
 exact W6.vret hx hlk hret (hb hby d3_57) ⟨rfl, K6, e, ke, 1, _, _, A6, F6_value, F6_coder, Z6, Or.inr ⟨rfl, rfl, rfl, wide_ex hwd⟩, hr, ble_ rfl⟩ (by decide) (by decide)
def Q_inB3 (Z : State) (x b : Addr) (zc c0 c1 c2 : Int32) (kc : ClassId) (h0 : Heap) (v : Option Value) (h : Heap) : Prop := v = none ∧ Keep h0 h [x] ∧ StrA Z h x [c0, c1, c2]
set_option maxRecDepth 65536 in
set_option maxHeartbeats 40000000 in
theorem rm_inB3 (l : Launch) (Z : State) (a0 : Array Value) (hw : ∀ d ∈ tables_1, d.before a0 Z = true) (x b : Addr) (zc c0 c1 c2 : Int32) (kc : ClassId) (h0 : Heap) (n0 : Nat) (Z0 : n0 ≤ h0.size) (g0 : n0 ≤ x) (A0 : Exa Z h0 x "java/lang/String") (V0 : Fld Z h0 x "java/lang/String" "value" "[B" .null) (C1 : Fld Z h0 x "java/lang/String" "coder" "B" (.int (0 : Int32))) (S0 : Sta Z h0 "java/lang/String" "COMPACT_STRINGS" "Z" (.int zc)) (hz : ¬ zc = 0) (D0 : Sta Z h0 "java/lang/StringUTF16" "$assertionsDisabled" "Z" (.int 1)) (HB0 : Sta Z h0 "java/lang/StringUTF16" "HI_BYTE_SHIFT" "I" (.int 0)) (LB0 : Sta Z h0 "java/lang/StringUTF16" "LO_BYTE_SHIFT" "I" (.int 8)) (C0 : Arv Z h0 b kc .char (3 : Int32) (([c0, c1, c2] : List Int32).map Value.int) (.int (0 : Int32))) (hr : ∀ c ∈ ([c0, c1, c2] : List Int32), ¬ c < 0 ∧ ¬ (65535 : Int32) < c) (hwd : ¬ ∀ c ∈ ([c0, c1, c2] : List Int32), ¬ (255 : Int32) < c) :
  Con l Z EL y_18 jdk_42_method_3_code 2 none [] ({ frames := 5, cells := 2, slots := 9, locals := 74 } : Room) #[(.ref x), (.ref b)] h0 n0 (Q_inB3 Z x b zc c0 c1 c2 kc h0) := by
 refine Con.intro (own := "java/lang/String") rfl (plainFor_of_name plain_java_lang_String) (hEL hw) ?_
 intro p e s m below meth c s₁ hx hby hml hret hlk hnm W0
 refine Fi.cast (show entryFrame m #[(.ref x), (.ref b)] 2 = (mkF m 0 #[.val (.ref x), .val (.ref b)] []) from by first | (simp [entryFrame, mkF, argsToLocals, Value.category]; done) | rfl) ?_
 refine Fi.by' (st' := s₁.setTop (mkF m 4 #[.val (.ref x), .val (.ref b)] [(.ref b), (.int (0 : Int32)), (.ref b), (.ref x)])) (fun t k => ?_) ?_
 ·refine XS.aloadN W0.here hx rfl (hb hby d2_0) rfl rfl ?_
  refine XS.aloadN W0.here hx rfl (hb hby d2_1) rfl rfl ?_
  refine iconstZ W0.here hx rfl (hb hby d2_2) (z := (0 : Int32)) rfl ?_
  refine XS.aloadN W0.here hx rfl (hb hby d2_3) rfl rfl ?_
  exact k
 refine W0.alen hx C0 (g := (mkF m 4 #[.val (.ref x), .val (.ref b)] [(.ref b), (.int (0 : Int32)), (.ref b), (.ref x)])) rfl rfl (hb hby d2_4) ?_
 change Fi _ _ _ _ _ _ _ _ _ _ (s₁.setTop (mkF m 5 #[.val (.ref x), .val (.ref b)] [(.int (3 : Int32)), (.int (0 : Int32)), (.ref b), (.ref x)]))
 refine Fi.by' (st' := s₁.setTop (mkF m 6 #[.val (.ref x), .val (.ref b)] [.null, (.int (3 : Int32)), (.int (0 : Int32)), (.ref b), (.ref x)])) (fun t k => ?_) ?_
 ·refine XS.aconstNull W0.here hx rfl (hb hby d2_5) ?_
  exact k
 refine W0.callI hx (y := y_17) rfl (ww hw 13 rfl) (ww hw 14 rfl) (ww hw 16 rfl) (by decide) (Pay.of_con (Wd := 0) (rm_inA3 l Z a0 hw x b zc c0 c1 c2 kc h0 n0 (by omega) g0 A0 V0 C1 S0 hz D0 HB0 LB0 C0 hr hwd) (ww hw 16 rfl) (ww hw 9 rfl) (hEL hw) (by decide) (by decide)) (a := x) (g := (mkF m 6 #[.val (.ref x), .val (.ref b)] [.null, (.int (3 : Int32)), (.int (0 : Int32)), (.ref b), (.ref x)])) rfl (by rw [hml]; rfl) (argsL := [(.ref b), (.int (0 : Int32)), (.int (3 : Int32)), .null]) (rest := []) (lenOf pd_8 rfl) rfl rfl (ble_ rfl) (hb hby d2_6) (by decide) (by decide) (fun v2 T2 h2 W2 sz2 q2 => ?_)
 obtain ⟨rfl, qK, qS⟩ := q2
 change Fi _ _ _ _ _ _ _ _ _ _ (T2.setTop (mkF m 9 #[.val (.ref x), .val (.ref b)] []))
 exact W2.vret hx hlk hret (hb hby d2_9) ⟨rfl, qK, qS⟩ (by decide) (by decide)
section PaidI3
variable {p : Program} {l : Launch} {e : Env} {R : Room} {s : State} {args : Array Value} {below : List Frame} {Z : State} {a0 : Array Value} {n0 : Nat} {h0 : Heap}
theorem payIn3 (hw : ∀ d ∈ tables_1, d.before a0 Z = true) {Wd : Nat} {x b : Addr} {kc : ClassId} {zc c0 c1 c2 : Int32} (Z0 : n0 ≤ h0.size) (g0 : n0 ≤ x) (A0 : Exa Z h0 x "java/lang/String") (V0 : Fld Z h0 x "java/lang/String" "value" "[B" .null) (C1 : Fld Z h0 x "java/lang/String" "coder" "B" (.int (0 : Int32))) (S0 : Sta Z h0 "java/lang/String" "COMPACT_STRINGS" "Z" (.int zc)) (hz : ¬ zc = 0) (D0 : Sta Z h0 "java/lang/StringUTF16" "$assertionsDisabled" "Z" (.int 1)) (HB0 : Sta Z h0 "java/lang/StringUTF16" "HI_BYTE_SHIFT" "I" (.int 0)) (LB0 : Sta Z h0 "java/lang/StringUTF16" "LO_BYTE_SHIFT" "I" (.int 8)) (C0 : Arv Z h0 b kc .char (3 : Int32) (([c0, c1, c2] : List Int32).map Value.int) (.int (0 : Int32))) (hr : ∀ c ∈ ([c0, c1, c2] : List Int32), ¬ c < 0 ∧ ¬ (65535 : Int32) < c) (hf : 6 ≤ R.frames) (hl : Wd + 87 ≤ R.locals) :
  Pay l R p e below s args Z EL n0 y_18 Wd #[.ref x, .ref b] h0 (fun v h' => v = none ∧ Keep h0 h' [x] ∧ StrA Z h' x [c0, c1, c2]) 2 9 := by
 by_cases hwd : ∀ c ∈ ([c0, c1, c2] : List Int32), ¬ (255 : Int32) < c
 ·exact ((payS hw Z0 g0 A0 V0 C1 C0 S0 hz rfl rfl (ble_ rfl) (ble_ rfl) (fun c hc => ⟨(hr c hc).1, hwd c hc⟩) (Nat.le_trans (by decide) hf) (Nat.le_trans (Nat.add_le_add_left (by decide) _) hl)).weak fun v h' q => ⟨q.1, q.2.1, StrA.of_l q.2.2⟩).more (ble_ rfl) (ble_ rfl)
 ·exact (Pay.of_con (rm_inB3 l Z a0 hw x b zc c0 c1 c2 kc h0 n0 Z0 g0 A0 V0 C1 S0 hz D0 HB0 LB0 C0 hr hwd) (ww hw 12 rfl) (ww hw 9 rfl) (hEL hw) (Nat.le_trans (by decide) hf) (Nat.le_trans (by rw [Nat.add_assoc]; exact Nat.add_le_add_left (by decide) _) hl)).more (by decide) (by decide)
end PaidI3
def Q_nbf4 (Z : State)  (h0 : Heap) (v : Option Value) (h : Heap) : Prop := ∃ (b : Addr) (k : ClassId), v = some (.ref b) ∧ Ext h0 h ∧ h0.size ≤ b ∧ Arv Z h b k .byte (8 : Int32) (([0, 0, 0, 0, 0, 0, 0, 0] : List Int32).map Value.int) (.int (0 : Int32))
set_option maxRecDepth 65536 in
set_option maxHeartbeats 40000000 in
theorem rm_nbf4 (l : Launch) (Z : State) (a0 : Array Value) (hw : ∀ d ∈ tables_1, d.before a0 Z = true)  (h0 : Heap) (n0 : Nat) (Z0 : n0 ≤ h0.size)  :
  Con l Z EL y_13 jdk_52_method_2_code 1 (some (.array .byte)) [] ({ frames := 1, cells := 1, slots := 8, locals := 12 } : Room) #[(.int (4 : Int32))] h0 n0 (Q_nbf4 Z  h0) := by
 refine Con.intro (own := "java/lang/StringUTF16") rfl (plainFor_of_name plain_java_lang_StringUTF16) (hEL hw) ?_
 intro p e s m below meth c s₁ hx hby hml hret hlk hnm W0
 refine Fi.cast (show entryFrame m #[(.int (4 : Int32))] 1 = (mkF m 0 #[.val (.int (4 : Int32))] []) from by first | (simp [entryFrame, mkF, argsToLocals, Value.category]; done) | rfl) ?_
 refine Fi.by' (st' := s₁.setTop (mkF m 1 #[.val (.int (4 : Int32))] [(.int (4 : Int32))])) (fun t k => ?_) ?_
 ·refine XS.iloadN W0.here hx rfl (hb hby d22_0) rfl ?_
  exact k
 refine W0.callS hx (y := y_9) (ww hw 101 rfl) (ww hw 102 rfl) (ww hw 45 rfl) (ww hw 103 rfl) (by decide) (Pay.of_con (Wd := 0) (rm_nbl l Z a0 hw (4 : Int32) h0 n0 (by omega) (by decide) (by decide)) (ww hw 103 rfl) (ww hw 45 rfl) (hEL hw) (by decide) (by decide)) (g := (mkF m 1 #[.val (.int (4 : Int32))] [(.int (4 : Int32))])) rfl (by rw [hml]; rfl) (argsL := [(.int (4 : Int32))]) (rest := []) (lenOf pd_1 rfl) rfl rfl (ble_ rfl) (hb hby d22_1) (by decide) (by decide) (fun v1 T1 h1 W1 sz1 q1 => ?_)
 obtain ⟨rfl, rfl⟩ := q1
 change Fi _ _ _ _ _ _ _ _ _ _ (T1.setTop (mkF m 4 #[.val (.int (4 : Int32))] [(.int ((4 : Int32) <<< ((1 : Int32) &&& 31)))]))
 rw [show ((4 : Int32) <<< ((1 : Int32) &&& 31)) = (8 : Int32) from by decide]
 refine W1.newP hx (aty := .byte) (ww hw 21 rfl) (g := (mkF m 4 #[.val (.int (4 : Int32))] [(.int (8 : Int32))])) rfl (hb hby d22_4) rfl (by decide) (cap := 8) (by decide) (by decide) (by decide) (by decide) (fun T2 h2 a2 k2 ha2 W2 E2 A2 => ?_)
 change Fi _ _ _ _ _ _ _ _ _ _ (T2.setTop (mkF m 6 #[.val (.int (4 : Int32))] [(.ref a2)]))
 have sz2 := E2.1
 have V2 : Arv Z h2 a2 k2 .byte (8 : Int32) (([0, 0, 0, 0, 0, 0, 0, 0] : List Int32).map Value.int) (.int (0 : Int32)) := A2.pad (pad_rep [] (.int (0 : Int32)) 8)
 exact W2.aret hx hlk hret rfl rfl (hb hby d22_6) ⟨a2, k2, rfl, E2, by omega, V2⟩ (by decide) (by decide)
def Q_toB4 (Z : State) (b : Addr) (c0 c1 c2 c3 : Int32) (kc : ClassId) (h0 : Heap) (v : Option Value) (h : Heap) : Prop := ∃ (e : Addr) (k : ClassId), v = some (.ref e) ∧ Ext h0 h ∧ h0.size ≤ e ∧ Arv Z h e k .byte (8 : Int32) (StrChars.Road.wideBytes [c0, c1, c2, c3]) (.int (0 : Int32))
set_option maxRecDepth 65536 in
set_option maxHeartbeats 40000000 in
theorem rm_toB4 (l : Launch) (Z : State) (a0 : Array Value) (hw : ∀ d ∈ tables_1, d.before a0 Z = true) (b : Addr) (c0 c1 c2 c3 : Int32) (kc : ClassId) (h0 : Heap) (n0 : Nat) (Z0 : n0 ≤ h0.size) (D0 : Sta Z h0 "java/lang/StringUTF16" "$assertionsDisabled" "Z" (.int 1)) (HB0 : Sta Z h0 "java/lang/StringUTF16" "HI_BYTE_SHIFT" "I" (.int 0)) (LB0 : Sta Z h0 "java/lang/StringUTF16" "LO_BYTE_SHIFT" "I" (.int 8)) (C0 : Arv Z h0 b kc .char (4 : Int32) (([c0, c1, c2, c3] : List Int32).map Value.int) (.int (0 : Int32))) :
  Con l Z EL y_14 jdk_52_method_14_code 5 (some (.array .byte)) [] ({ frames := 2, cells := 1, slots := 8, locals := 24 } : Room) #[(.ref b), (.int (0 : Int32)), (.int (4 : Int32))] h0 n0 (Q_toB4 Z b c0 c1 c2 c3 kc h0) := by
 refine Con.intro (own := "java/lang/StringUTF16") rfl (plainFor_of_name plain_java_lang_StringUTF16) (hEL hw) ?_
 intro p e s m below meth c s₁ hx hby hml hret hlk hnm W0
 refine Fi.cast (show entryFrame m #[(.ref b), (.int (0 : Int32)), (.int (4 : Int32))] 5 = (mkF m 0 #[.val (.ref b), .val (.int (0 : Int32)), .val (.int (4 : Int32)), .unset, .unset] []) from by first | (simp [entryFrame, mkF, argsToLocals, Value.category]; done) | rfl) ?_
 refine Fi.by' (st' := s₁.setTop (mkF m 1 #[.val (.ref b), .val (.int (0 : Int32)), .val (.int (4 : Int32)), .unset, .unset] [(.int (4 : Int32))])) (fun t k => ?_) ?_
 ·refine XS.iloadN W0.here hx rfl (hb hby d21_0) rfl ?_
  exact k
 refine W0.callS hx (y := y_13) (ww hw 98 rfl) (ww hw 99 rfl) (ww hw 45 rfl) (ww hw 100 rfl) (by decide) (Pay.of_con (Wd := 0) (rm_nbf4 l Z a0 hw h0 n0 (by omega)) (ww hw 100 rfl) (ww hw 45 rfl) (hEL hw) (by decide) (by decide)) (g := (mkF m 1 #[.val (.ref b), .val (.int (0 : Int32)), .val (.int (4 : Int32)), .unset, .unset] [(.int (4 : Int32))])) rfl (by rw [hml]; rfl) (argsL := [(.int (4 : Int32))]) (rest := []) (lenOf pd_2 rfl) rfl rfl (ble_ rfl) (hb hby d21_1) (by decide) (by decide) (fun v1 T1 h1 W1 sz1 q1 => ?_)
 obtain ⟨e, ke, rfl, E1, ge, B1⟩ := q1
 change Fi _ _ _ _ _ _ _ _ _ _ (T1.setTop (mkF m 4 #[.val (.ref b), .val (.int (0 : Int32)), .val (.int (4 : Int32)), .unset, .unset] [(.ref e)]))
 refine Fi.by' (st' := T1.setTop (mkF m 19 #[.val (.ref b), .val (.int (0 : Int32)), .val (.int (4 : Int32)), .val (.ref e), .val (.int (0 : Int32))] [(.int (0 : Int32)), (.ref b), (.int (0 : Int32)), (.ref e)])) (fun t k => ?_) ?_
 ·refine XS.astoreN W1.here hx rfl (hb hby d21_4) rfl rfl (l' := #[.val (.ref b), .val (.int (0 : Int32)), .val (.int (4 : Int32)), .val (.ref e), .unset]) rfl ?_
  refine iconstZ W1.here hx rfl (hb hby d21_5) (z := (0 : Int32)) rfl ?_
  refine XS.istore W1.here hx rfl (hb hby d21_6) rfl (l' := #[.val (.ref b), .val (.int (0 : Int32)), .val (.int (4 : Int32)), .val (.ref e), .val (.int (0 : Int32))]) rfl ?_
  refine XS.iload W1.here hx rfl (hb hby d21_8) rfl ?_
  refine XS.iloadN W1.here hx rfl (hb hby d21_10) rfl ?_
  refine XS.icmpNo W1.here hx rfl (hb hby d21_11) rfl (tlt (by decide : ((0 : Int32) < (4 : Int32)))).2.1 ?_
  refine XS.aloadN W1.here hx rfl (hb hby d21_14) rfl rfl ?_
  refine XS.iload W1.here hx rfl (hb hby d21_15) rfl ?_
  refine XS.aloadN W1.here hx rfl (hb hby d21_17) rfl rfl ?_
  refine XS.iloadN W1.here hx rfl (hb hby d21_18) rfl ?_
  exact k
 refine W1.caload hx (C0.ext E1) (j := (0 : Int32)) (v := .int c0) (by decide) rfl (g := (mkF m 19 #[.val (.ref b), .val (.int (0 : Int32)), .val (.int (4 : Int32)), .val (.ref e), .val (.int (0 : Int32))] [(.int (0 : Int32)), (.ref b), (.int (0 : Int32)), (.ref e)])) rfl rfl (hb hby d21_19) ?_
 change Fi _ _ _ _ _ _ _ _ _ _ (T1.setTop (mkF m 20 #[.val (.ref b), .val (.int (0 : Int32)), .val (.int (4 : Int32)), .val (.ref e), .val (.int (0 : Int32))] [(.int c0), (.int (0 : Int32)), (.ref e)]))
 refine W1.callS hx (y := y_10) (ww hw 105 rfl) (ww hw 106 rfl) (ww hw 45 rfl) (ww hw 107 rfl) (by decide) (Pay.of_con (Wd := 0) (rm_putC l Z a0 hw e (0 : Int32) c0 (8 : Int32) 0 ([0, 0, 0, 0, 0, 0, 0, 0] : List Int32) ke h1 n0 (by omega) (by omega) (Sta.ext E1 D0) (Sta.ext E1 HB0) (Sta.ext E1 LB0) rfl rfl (ble_ rfl) (ble_ rfl) B1) (ww hw 107 rfl) (ww hw 45 rfl) (hEL hw) (by decide) (by decide)) (g := (mkF m 20 #[.val (.ref b), .val (.int (0 : Int32)), .val (.int (4 : Int32)), .val (.ref e), .val (.int (0 : Int32))] [(.int c0), (.int (0 : Int32)), (.ref e)])) rfl (by rw [hml]; rfl) (argsL := [(.ref e), (.int (0 : Int32)), (.int c0)]) (rest := []) (lenOf pd_3 rfl) rfl rfl (ble_ rfl) (hb hby d21_20) (by decide) (by decide) (fun v2 T2 h2 W2 sz2 q2 => ?_)
 obtain ⟨rfl, K2, B2⟩ := q2
 change Fi _ _ _ _ _ _ _ _ _ _ (T2.setTop (mkF m 23 #[.val (.ref b), .val (.int (0 : Int32)), .val (.int (4 : Int32)), .val (.ref e), .val (.int (0 : Int32))] []))
 have x2k : Ext h0 h2 := ext_keep1 E1 K2 (by omega)
 have V2 : Arv Z h2 e ke .byte (8 : Int32) (([((c0 >>> ((0 : Int32) &&& 31)).toInt8.toInt32), ((c0 >>> ((8 : Int32) &&& 31)).toInt8.toInt32), 0, 0, 0, 0, 0, 0] : List Int32).map Value.int) (.int (0 : Int32)) := B2
 refine Fi.by' (st' := T2.setTop (mkF m 19 #[.val (.ref b), .val (.int (1 : Int32)), .val (.int (4 : Int32)), .val (.ref e), .val (.int (1 : Int32))] [(.int (1 : Int32)), (.ref b), (.int (1 : Int32)), (.ref e)])) (fun t k => ?_) ?_
 ·refine XS.iinc W2.here hx rfl (hb hby d21_23) rfl (l' := #[.val (.ref b), .val (.int (1 : Int32)), .val (.int (4 : Int32)), .val (.ref e), .val (.int (0 : Int32))]) rfl ?_
  refine XS.iinc W2.here hx rfl (hb hby d21_26) rfl (l' := #[.val (.ref b), .val (.int (1 : Int32)), .val (.int (4 : Int32)), .val (.ref e), .val (.int (1 : Int32))]) rfl ?_
  refine XS.goto W2.here hx rfl (pc0 := 29) (pc' := 8) rfl (hb hby d21_29) (by decide) (by decide) ?_
  refine XS.iload W2.here hx rfl (hb hby d21_8) rfl ?_
  refine XS.iloadN W2.here hx rfl (hb hby d21_10) rfl ?_
  refine XS.icmpNo W2.here hx rfl (hb hby d21_11) rfl (tlt (by decide : ((1 : Int32) < (4 : Int32)))).2.1 ?_
  refine XS.aloadN W2.here hx rfl (hb hby d21_14) rfl rfl ?_
  refine XS.iload W2.here hx rfl (hb hby d21_15) rfl ?_
  refine XS.aloadN W2.here hx rfl (hb hby d21_17) rfl rfl ?_
  refine XS.iloadN W2.here hx rfl (hb hby d21_18) rfl ?_
  exact k
 refine W2.caload hx (C0.ext x2k) (j := (1 : Int32)) (v := .int c1) (by decide) rfl (g := (mkF m 19 #[.val (.ref b), .val (.int (1 : Int32)), .val (.int (4 : Int32)), .val (.ref e), .val (.int (1 : Int32))] [(.int (1 : Int32)), (.ref b), (.int (1 : Int32)), (.ref e)])) rfl rfl (hb hby d21_19) ?_
 change Fi _ _ _ _ _ _ _ _ _ _ (T2.setTop (mkF m 20 #[.val (.ref b), .val (.int (1 : Int32)), .val (.int (4 : Int32)), .val (.ref e), .val (.int (1 : Int32))] [(.int c1), (.int (1 : Int32)), (.ref e)]))
 refine W2.callS hx (y := y_10) (ww hw 105 rfl) (ww hw 106 rfl) (ww hw 45 rfl) (ww hw 107 rfl) (by decide) (Pay.of_con (Wd := 0) (rm_putC l Z a0 hw e (1 : Int32) c1 (8 : Int32) 1 ([((c0 >>> ((0 : Int32) &&& 31)).toInt8.toInt32), ((c0 >>> ((8 : Int32) &&& 31)).toInt8.toInt32), 0, 0, 0, 0, 0, 0] : List Int32) ke h2 n0 (by omega) (by omega) (Sta.ext x2k D0) (Sta.ext x2k HB0) (Sta.ext x2k LB0) rfl rfl (ble_ rfl) (ble_ rfl) V2) (ww hw 107 rfl) (ww hw 45 rfl) (hEL hw) (by decide) (by decide)) (g := (mkF m 20 #[.val (.ref b), .val (.int (1 : Int32)), .val (.int (4 : Int32)), .val (.ref e), .val (.int (1 : Int32))] [(.int c1), (.int (1 : Int32)), (.ref e)])) rfl (by rw [hml]; rfl) (argsL := [(.ref e), (.int (1 : Int32)), (.int c1)]) (rest := []) (lenOf pd_3 rfl) rfl rfl (ble_ rfl) (hb hby d21_20) (by decide) (by decide) (fun v3 T3 h3 W3 sz3 q3 => ?_)
 obtain ⟨rfl, K3, B3⟩ := q3
 change Fi _ _ _ _ _ _ _ _ _ _ (T3.setTop (mkF m 23 #[.val (.ref b), .val (.int (1 : Int32)), .val (.int (4 : Int32)), .val (.ref e), .val (.int (1 : Int32))] []))
 have x3k : Ext h0 h3 := ext_keep1 x2k K3 (by omega)
 have V3 : Arv Z h3 e ke .byte (8 : Int32) (([((c0 >>> ((0 : Int32) &&& 31)).toInt8.toInt32), ((c0 >>> ((8 : Int32) &&& 31)).toInt8.toInt32), ((c1 >>> ((0 : Int32) &&& 31)).toInt8.toInt32), ((c1 >>> ((8 : Int32) &&& 31)).toInt8.toInt32), 0, 0, 0, 0] : List Int32).map Value.int) (.int (0 : Int32)) := B3
 refine Fi.by' (st' := T3.setTop (mkF m 19 #[.val (.ref b), .val (.int (2 : Int32)), .val (.int (4 : Int32)), .val (.ref e), .val (.int (2 : Int32))] [(.int (2 : Int32)), (.ref b), (.int (2 : Int32)), (.ref e)])) (fun t k => ?_) ?_
 ·refine XS.iinc W3.here hx rfl (hb hby d21_23) rfl (l' := #[.val (.ref b), .val (.int (2 : Int32)), .val (.int (4 : Int32)), .val (.ref e), .val (.int (1 : Int32))]) rfl ?_
  refine XS.iinc W3.here hx rfl (hb hby d21_26) rfl (l' := #[.val (.ref b), .val (.int (2 : Int32)), .val (.int (4 : Int32)), .val (.ref e), .val (.int (2 : Int32))]) rfl ?_
  refine XS.goto W3.here hx rfl (pc0 := 29) (pc' := 8) rfl (hb hby d21_29) (by decide) (by decide) ?_
  refine XS.iload W3.here hx rfl (hb hby d21_8) rfl ?_
  refine XS.iloadN W3.here hx rfl (hb hby d21_10) rfl ?_
  refine XS.icmpNo W3.here hx rfl (hb hby d21_11) rfl (tlt (by decide : ((2 : Int32) < (4 : Int32)))).2.1 ?_
  refine XS.aloadN W3.here hx rfl (hb hby d21_14) rfl rfl ?_
  refine XS.iload W3.here hx rfl (hb hby d21_15) rfl ?_
  refine XS.aloadN W3.here hx rfl (hb hby d21_17) rfl rfl ?_
  refine XS.iloadN W3.here hx rfl (hb hby d21_18) rfl ?_
  exact k
 refine W3.caload hx (C0.ext x3k) (j := (2 : Int32)) (v := .int c2) (by decide) rfl (g := (mkF m 19 #[.val (.ref b), .val (.int (2 : Int32)), .val (.int (4 : Int32)), .val (.ref e), .val (.int (2 : Int32))] [(.int (2 : Int32)), (.ref b), (.int (2 : Int32)), (.ref e)])) rfl rfl (hb hby d21_19) ?_
 change Fi _ _ _ _ _ _ _ _ _ _ (T3.setTop (mkF m 20 #[.val (.ref b), .val (.int (2 : Int32)), .val (.int (4 : Int32)), .val (.ref e), .val (.int (2 : Int32))] [(.int c2), (.int (2 : Int32)), (.ref e)]))
 refine W3.callS hx (y := y_10) (ww hw 105 rfl) (ww hw 106 rfl) (ww hw 45 rfl) (ww hw 107 rfl) (by decide) (Pay.of_con (Wd := 0) (rm_putC l Z a0 hw e (2 : Int32) c2 (8 : Int32) 2 ([((c0 >>> ((0 : Int32) &&& 31)).toInt8.toInt32), ((c0 >>> ((8 : Int32) &&& 31)).toInt8.toInt32), ((c1 >>> ((0 : Int32) &&& 31)).toInt8.toInt32), ((c1 >>> ((8 : Int32) &&& 31)).toInt8.toInt32), 0, 0, 0, 0] : List Int32) ke h3 n0 (by omega) (by omega) (Sta.ext x3k D0) (Sta.ext x3k HB0) (Sta.ext x3k LB0) rfl rfl (ble_ rfl) (ble_ rfl) V3) (ww hw 107 rfl) (ww hw 45 rfl) (hEL hw) (by decide) (by decide)) (g := (mkF m 20 #[.val (.ref b), .val (.int (2 : Int32)), .val (.int (4 : Int32)), .val (.ref e), .val (.int (2 : Int32))] [(.int c2), (.int (2 : Int32)), (.ref e)])) rfl (by rw [hml]; rfl) (argsL := [(.ref e), (.int (2 : Int32)), (.int c2)]) (rest := []) (lenOf pd_3 rfl) rfl rfl (ble_ rfl) (hb hby d21_20) (by decide) (by decide) (fun v4 T4 h4 W4 sz4 q4 => ?_)
 obtain ⟨rfl, K4, B4⟩ := q4
 change Fi _ _ _ _ _ _ _ _ _ _ (T4.setTop (mkF m 23 #[.val (.ref b), .val (.int (2 : Int32)), .val (.int (4 : Int32)), .val (.ref e), .val (.int (2 : Int32))] []))
 have x4k : Ext h0 h4 := ext_keep1 x3k K4 (by omega)
 have V4 : Arv Z h4 e ke .byte (8 : Int32) (([((c0 >>> ((0 : Int32) &&& 31)).toInt8.toInt32), ((c0 >>> ((8 : Int32) &&& 31)).toInt8.toInt32), ((c1 >>> ((0 : Int32) &&& 31)).toInt8.toInt32), ((c1 >>> ((8 : Int32) &&& 31)).toInt8.toInt32), ((c2 >>> ((0 : Int32) &&& 31)).toInt8.toInt32), ((c2 >>> ((8 : Int32) &&& 31)).toInt8.toInt32), 0, 0] : List Int32).map Value.int) (.int (0 : Int32)) := B4
 refine Fi.by' (st' := T4.setTop (mkF m 19 #[.val (.ref b), .val (.int (3 : Int32)), .val (.int (4 : Int32)), .val (.ref e), .val (.int (3 : Int32))] [(.int (3 : Int32)), (.ref b), (.int (3 : Int32)), (.ref e)])) (fun t k => ?_) ?_
 ·refine XS.iinc W4.here hx rfl (hb hby d21_23) rfl (l' := #[.val (.ref b), .val (.int (3 : Int32)), .val (.int (4 : Int32)), .val (.ref e), .val (.int (2 : Int32))]) rfl ?_
  refine XS.iinc W4.here hx rfl (hb hby d21_26) rfl (l' := #[.val (.ref b), .val (.int (3 : Int32)), .val (.int (4 : Int32)), .val (.ref e), .val (.int (3 : Int32))]) rfl ?_
  refine XS.goto W4.here hx rfl (pc0 := 29) (pc' := 8) rfl (hb hby d21_29) (by decide) (by decide) ?_
  refine XS.iload W4.here hx rfl (hb hby d21_8) rfl ?_
  refine XS.iloadN W4.here hx rfl (hb hby d21_10) rfl ?_
  refine XS.icmpNo W4.here hx rfl (hb hby d21_11) rfl (tlt (by decide : ((3 : Int32) < (4 : Int32)))).2.1 ?_
  refine XS.aloadN W4.here hx rfl (hb hby d21_14) rfl rfl ?_
  refine XS.iload W4.here hx rfl (hb hby d21_15) rfl ?_
  refine XS.aloadN W4.here hx rfl (hb hby d21_17) rfl rfl ?_
  refine XS.iloadN W4.here hx rfl (hb hby d21_18) rfl ?_
  exact k
 refine W4.caload hx (C0.ext x4k) (j := (3 : Int32)) (v := .int c3) (by decide) rfl (g := (mkF m 19 #[.val (.ref b), .val (.int (3 : Int32)), .val (.int (4 : Int32)), .val (.ref e), .val (.int (3 : Int32))] [(.int (3 : Int32)), (.ref b), (.int (3 : Int32)), (.ref e)])) rfl rfl (hb hby d21_19) ?_
 change Fi _ _ _ _ _ _ _ _ _ _ (T4.setTop (mkF m 20 #[.val (.ref b), .val (.int (3 : Int32)), .val (.int (4 : Int32)), .val (.ref e), .val (.int (3 : Int32))] [(.int c3), (.int (3 : Int32)), (.ref e)]))
 refine W4.callS hx (y := y_10) (ww hw 105 rfl) (ww hw 106 rfl) (ww hw 45 rfl) (ww hw 107 rfl) (by decide) (Pay.of_con (Wd := 0) (rm_putC l Z a0 hw e (3 : Int32) c3 (8 : Int32) 3 ([((c0 >>> ((0 : Int32) &&& 31)).toInt8.toInt32), ((c0 >>> ((8 : Int32) &&& 31)).toInt8.toInt32), ((c1 >>> ((0 : Int32) &&& 31)).toInt8.toInt32), ((c1 >>> ((8 : Int32) &&& 31)).toInt8.toInt32), ((c2 >>> ((0 : Int32) &&& 31)).toInt8.toInt32), ((c2 >>> ((8 : Int32) &&& 31)).toInt8.toInt32), 0, 0] : List Int32) ke h4 n0 (by omega) (by omega) (Sta.ext x4k D0) (Sta.ext x4k HB0) (Sta.ext x4k LB0) rfl rfl (ble_ rfl) (ble_ rfl) V4) (ww hw 107 rfl) (ww hw 45 rfl) (hEL hw) (by decide) (by decide)) (g := (mkF m 20 #[.val (.ref b), .val (.int (3 : Int32)), .val (.int (4 : Int32)), .val (.ref e), .val (.int (3 : Int32))] [(.int c3), (.int (3 : Int32)), (.ref e)])) rfl (by rw [hml]; rfl) (argsL := [(.ref e), (.int (3 : Int32)), (.int c3)]) (rest := []) (lenOf pd_3 rfl) rfl rfl (ble_ rfl) (hb hby d21_20) (by decide) (by decide) (fun v5 T5 h5 W5 sz5 q5 => ?_)
 obtain ⟨rfl, K5, B5⟩ := q5
 change Fi _ _ _ _ _ _ _ _ _ _ (T5.setTop (mkF m 23 #[.val (.ref b), .val (.int (3 : Int32)), .val (.int (4 : Int32)), .val (.ref e), .val (.int (3 : Int32))] []))
 have x5k : Ext h0 h5 := ext_keep1 x4k K5 (by omega)
 have V5 : Arv Z h5 e ke .byte (8 : Int32) (([((c0 >>> ((0 : Int32) &&& 31)).toInt8.toInt32), ((c0 >>> ((8 : Int32) &&& 31)).toInt8.toInt32), ((c1 >>> ((0 : Int32) &&& 31)).toInt8.toInt32), ((c1 >>> ((8 : Int32) &&& 31)).toInt8.toInt32), ((c2 >>> ((0 : Int32) &&& 31)).toInt8.toInt32), ((c2 >>> ((8 : Int32) &&& 31)).toInt8.toInt32), ((c3 >>> ((0 : Int32) &&& 31)).toInt8.toInt32), ((c3 >>> ((8 : Int32) &&& 31)).toInt8.toInt32)] : List Int32).map Value.int) (.int (0 : Int32)) := B5
 refine Fi.by' (st' := T5.setTop (mkF m 33 #[.val (.ref b), .val (.int (4 : Int32)), .val (.int (4 : Int32)), .val (.ref e), .val (.int (4 : Int32))] [(.ref e)])) (fun t k => ?_) ?_
 ·refine XS.iinc W5.here hx rfl (hb hby d21_23) rfl (l' := #[.val (.ref b), .val (.int (4 : Int32)), .val (.int (4 : Int32)), .val (.ref e), .val (.int (3 : Int32))]) rfl ?_
  refine XS.iinc W5.here hx rfl (hb hby d21_26) rfl (l' := #[.val (.ref b), .val (.int (4 : Int32)), .val (.int (4 : Int32)), .val (.ref e), .val (.int (4 : Int32))]) rfl ?_
  refine XS.goto W5.here hx rfl (pc0 := 29) (pc' := 8) rfl (hb hby d21_29) (by decide) (by decide) ?_
  refine XS.iload W5.here hx rfl (hb hby d21_8) rfl ?_
  refine XS.iloadN W5.here hx rfl (hb hby d21_10) rfl ?_
  refine XS.icmpYes W5.here hx rfl (pc0 := 11) (pc' := 32) rfl (hb hby d21_11) rfl (flt (by decide : ¬ ((4 : Int32) < (4 : Int32)))).2.1 (by decide) (by decide) ?_
  refine XS.aloadN W5.here hx rfl (hb hby d21_32) rfl rfl ?_
  exact k
 have hB : Arv Z h5 e ke .byte (8 : Int32) (StrChars.Road.wideBytes [c0, c1, c2, c3]) (.int (0 : Int32)) := by
  have q := V5
  simp only [StrChars.shr0] at q
  exact q
 exact W5.aret hx hlk hret rfl rfl (hb hby d21_33) ⟨e, ke, rfl, x5k, ge, hB⟩ (by decide) (by decide)
def Q_cmpA4 (Z : State) (b d : Addr) (c0 c1 c2 c3 : Int32) (kc kd : ClassId) (h0 : Heap) (v : Option Value) (h : Heap) : Prop := ∃ k : Nat, k < 4 ∧ v = some (.int (Int32.ofNat k)) ∧ (255 : Int32) < ([c0, c1, c2, c3] : List Int32).getD k 0 ∧ Keep h0 h [d]
set_option maxRecDepth 65536 in
set_option maxHeartbeats 40000000 in
theorem rm_cmpA4 (l : Launch) (Z : State) (a0 : Array Value) (hw : ∀ d ∈ tables_1, d.before a0 Z = true) (b d : Addr) (c0 c1 c2 c3 : Int32) (kc kd : ClassId) (h0 : Heap) (n0 : Nat) (Z0 : n0 ≤ h0.size) (g0 : n0 ≤ d) (hne : b ≠ d) (C0 : Arv Z h0 b kc .char (4 : Int32) (([c0, c1, c2, c3] : List Int32).map Value.int) (.int (0 : Int32))) (B0 : Arv Z h0 d kd .byte (4 : Int32) (([0, 0, 0, 0] : List Int32).map Value.int) (.int (0 : Int32))) (hwd : ¬ ∀ c ∈ ([c0, c1, c2, c3] : List Int32), ¬ (255 : Int32) < c) :
  Con l Z EL y_15 jdk_52_method_21_code 7 (some .int) [] ({ frames := 0, cells := 0, slots := 0, locals := 0 } : Room) #[(.ref b), (.int (0 : Int32)), (.ref d), (.int (0 : Int32)), (.int (4 : Int32))] h0 n0 (Q_cmpA4 Z b d c0 c1 c2 c3 kc kd h0) := by
 refine Con.intro (own := "java/lang/StringUTF16") rfl (plainFor_of_name plain_java_lang_StringUTF16) (hEL hw) ?_
 intro p e s m below meth c s₁ hx hby hml hret hlk hnm W0
 refine Fi.cast (show entryFrame m #[(.ref b), (.int (0 : Int32)), (.ref d), (.int (0 : Int32)), (.int (4 : Int32))] 7 = (mkF m 0 #[.val (.ref b), .val (.int (0 : Int32)), .val (.ref d), .val (.int (0 : Int32)), .val (.int (4 : Int32)), .unset, .unset] []) from by first | (simp [entryFrame, mkF, argsToLocals, Value.category]; done) | rfl) ?_
 refine Fi.by' (st' := s₁.setTop (mkF m 12 #[.val (.ref b), .val (.int (0 : Int32)), .val (.ref d), .val (.int (0 : Int32)), .val (.int (4 : Int32)), .val (.int (0 : Int32)), .unset] [(.int (0 : Int32)), (.ref b)])) (fun t k => ?_) ?_
 ·refine iconstZ W0.here hx rfl (hb hby d9_0) (z := (0 : Int32)) rfl ?_
  refine XS.istore W0.here hx rfl (hb hby d9_1) rfl (l' := #[.val (.ref b), .val (.int (0 : Int32)), .val (.ref d), .val (.int (0 : Int32)), .val (.int (4 : Int32)), .val (.int (0 : Int32)), .unset]) rfl ?_
  refine XS.iload W0.here hx rfl (hb hby d9_3) rfl ?_
  refine XS.iload W0.here hx rfl (hb hby d9_5) rfl ?_
  refine XS.icmpNo W0.here hx rfl (hb hby d9_7) rfl (tlt (by decide : ((0 : Int32) < (4 : Int32)))).2.1 ?_
  refine XS.aloadN W0.here hx rfl (hb hby d9_10) rfl rfl ?_
  refine XS.iloadN W0.here hx rfl (hb hby d9_11) rfl ?_
  exact k
 refine W0.caload hx C0 (j := (0 : Int32)) (v := .int c0) (by decide) rfl (g := (mkF m 12 #[.val (.ref b), .val (.int (0 : Int32)), .val (.ref d), .val (.int (0 : Int32)), .val (.int (4 : Int32)), .val (.int (0 : Int32)), .unset] [(.int (0 : Int32)), (.ref b)])) rfl rfl (hb hby d9_12) ?_
 change Fi _ _ _ _ _ _ _ _ _ _ (s₁.setTop (mkF m 13 #[.val (.ref b), .val (.int (0 : Int32)), .val (.ref d), .val (.int (0 : Int32)), .val (.int (4 : Int32)), .val (.int (0 : Int32)), .unset] [(.int c0)]))
 refine Fi.by' (st' := s₁.setTop (mkF m 20 #[.val (.ref b), .val (.int (0 : Int32)), .val (.ref d), .val (.int (0 : Int32)), .val (.int (4 : Int32)), .val (.int (0 : Int32)), .val (.int c0)] [(.int (255 : Int32)), (.int c0)])) (fun t k => ?_) ?_
 ·refine XS.istore W0.here hx rfl (hb hby d9_13) rfl (l' := #[.val (.ref b), .val (.int (0 : Int32)), .val (.ref d), .val (.int (0 : Int32)), .val (.int (4 : Int32)), .val (.int (0 : Int32)), .val (.int c0)]) rfl ?_
  refine XS.iload W0.here hx rfl (hb hby d9_15) rfl ?_
  refine sipushZ W0.here hx rfl (hb hby d9_17) (z := (255 : Int32)) rfl ?_
  exact k
 by_cases hc20_1 : (255 : Int32) < c0
 ·refine Fi.by' (st' := s₁.setTop (mkF m 25 #[.val (.ref b), .val (.int (0 : Int32)), .val (.ref d), .val (.int (0 : Int32)), .val (.int (4 : Int32)), .val (.int (0 : Int32)), .val (.int c0)] [(.int (0 : Int32))])) (fun t k => ?_) ?_
  ·refine XS.icmpNo W0.here hx rfl (hb hby d9_20) rfl (tlt hc20_1).2.2.2 ?_
   refine XS.iload W0.here hx rfl (hb hby d9_23) rfl ?_
   exact k
  exact W0.iret hx hlk hret (by simp) rfl (hb hby d9_25) ⟨0, by decide, rfl, hc20_1, (Keep.refl h0 [d])⟩ (by decide) (by decide)
 ·refine Fi.by' (st' := s₁.setTop (mkF m 31 #[.val (.ref b), .val (.int (0 : Int32)), .val (.ref d), .val (.int (0 : Int32)), .val (.int (4 : Int32)), .val (.int (0 : Int32)), .val (.int c0)] [(.int (c0.toInt8.toInt32)), (.int (0 : Int32)), (.ref d)])) (fun t k => ?_) ?_
  ·refine XS.icmpYes W0.here hx rfl (pc0 := 20) (pc' := 26) rfl (hb hby d9_20) rfl (flt hc20_1).2.2.2 (by decide) (by decide) ?_
   refine XS.aloadN W0.here hx rfl (hb hby d9_26) rfl rfl ?_
   refine XS.iloadN W0.here hx rfl (hb hby d9_27) rfl ?_
   refine XS.iload W0.here hx rfl (hb hby d9_28) rfl ?_
   refine XS.i2b W0.here hx rfl (hb hby d9_30) rfl ?_
   exact k
  refine Wk.bastoreN rfl W0 hx B0 (i := 0) (ble_ rfl) (j := (0 : Int32)) rfl (by decide) rfl (low_ok c0) (g := (mkF m 31 #[.val (.ref b), .val (.int (0 : Int32)), .val (.ref d), .val (.int (0 : Int32)), .val (.int (4 : Int32)), .val (.int (0 : Int32)), .val (.int c0)] [(.int (c0.toInt8.toInt32)), (.int (0 : Int32)), (.ref d)])) rfl rfl (hb hby d9_31) g0 (fun T2 h2 W2 R2 V2 => ?_)
  change Fi _ _ _ _ _ _ _ _ _ _ (T2.setTop (mkF m 32 #[.val (.ref b), .val (.int (0 : Int32)), .val (.ref d), .val (.int (0 : Int32)), .val (.int (4 : Int32)), .val (.int (0 : Int32)), .val (.int c0)] []))
  have Q2 : Arv Z h2 d kd .byte (4 : Int32) (([(c0.toInt8.toInt32), 0, 0, 0] : List Int32).map Value.int) (.int (0 : Int32)) := V2
  have Y2 := Arv.other C0 R2 hne
  refine Fi.by' (st' := T2.setTop (mkF m 12 #[.val (.ref b), .val (.int (1 : Int32)), .val (.ref d), .val (.int (1 : Int32)), .val (.int (4 : Int32)), .val (.int (1 : Int32)), .val (.int c0)] [(.int (1 : Int32)), (.ref b)])) (fun t k => ?_) ?_
  ·refine XS.iinc W2.here hx rfl (hb hby d9_32) rfl (l' := #[.val (.ref b), .val (.int (1 : Int32)), .val (.ref d), .val (.int (0 : Int32)), .val (.int (4 : Int32)), .val (.int (0 : Int32)), .val (.int c0)]) rfl ?_
   refine XS.iinc W2.here hx rfl (hb hby d9_35) rfl (l' := #[.val (.ref b), .val (.int (1 : Int32)), .val (.ref d), .val (.int (1 : Int32)), .val (.int (4 : Int32)), .val (.int (0 : Int32)), .val (.int c0)]) rfl ?_
   refine XS.iinc W2.here hx rfl (hb hby d9_38) rfl (l' := #[.val (.ref b), .val (.int (1 : Int32)), .val (.ref d), .val (.int (1 : Int32)), .val (.int (4 : Int32)), .val (.int (1 : Int32)), .val (.int c0)]) rfl ?_
   refine XS.goto W2.here hx rfl (pc0 := 41) (pc' := 3) rfl (hb hby d9_41) (by decide) (by decide) ?_
   refine XS.iload W2.here hx rfl (hb hby d9_3) rfl ?_
   refine XS.iload W2.here hx rfl (hb hby d9_5) rfl ?_
   refine XS.icmpNo W2.here hx rfl (hb hby d9_7) rfl (tlt (by decide : ((1 : Int32) < (4 : Int32)))).2.1 ?_
   refine XS.aloadN W2.here hx rfl (hb hby d9_10) rfl rfl ?_
   refine XS.iloadN W2.here hx rfl (hb hby d9_11) rfl ?_
   exact k
  refine W2.caload hx Y2 (j := (1 : Int32)) (v := .int c1) (by decide) rfl (g := (mkF m 12 #[.val (.ref b), .val (.int (1 : Int32)), .val (.ref d), .val (.int (1 : Int32)), .val (.int (4 : Int32)), .val (.int (1 : Int32)), .val (.int c0)] [(.int (1 : Int32)), (.ref b)])) rfl rfl (hb hby d9_12) ?_
  change Fi _ _ _ _ _ _ _ _ _ _ (T2.setTop (mkF m 13 #[.val (.ref b), .val (.int (1 : Int32)), .val (.ref d), .val (.int (1 : Int32)), .val (.int (4 : Int32)), .val (.int (1 : Int32)), .val (.int c0)] [(.int c1)]))
  refine Fi.by' (st' := T2.setTop (mkF m 20 #[.val (.ref b), .val (.int (1 : Int32)), .val (.ref d), .val (.int (1 : Int32)), .val (.int (4 : Int32)), .val (.int (1 : Int32)), .val (.int c1)] [(.int (255 : Int32)), (.int c1)])) (fun t k => ?_) ?_
  ·refine XS.istore W2.here hx rfl (hb hby d9_13) rfl (l' := #[.val (.ref b), .val (.int (1 : Int32)), .val (.ref d), .val (.int (1 : Int32)), .val (.int (4 : Int32)), .val (.int (1 : Int32)), .val (.int c1)]) rfl ?_
   refine XS.iload W2.here hx rfl (hb hby d9_15) rfl ?_
   refine sipushZ W2.here hx rfl (hb hby d9_17) (z := (255 : Int32)) rfl ?_
   exact k
  by_cases hc20_3 : (255 : Int32) < c1
  ·refine Fi.by' (st' := T2.setTop (mkF m 25 #[.val (.ref b), .val (.int (1 : Int32)), .val (.ref d), .val (.int (1 : Int32)), .val (.int (4 : Int32)), .val (.int (1 : Int32)), .val (.int c1)] [(.int (1 : Int32))])) (fun t k => ?_) ?_
   ·refine XS.icmpNo W2.here hx rfl (hb hby d9_20) rfl (tlt hc20_3).2.2.2 ?_
    refine XS.iload W2.here hx rfl (hb hby d9_23) rfl ?_
    exact k
   exact W2.iret hx hlk hret (by simp) rfl (hb hby d9_25) ⟨1, by decide, rfl, hc20_3, ((Keep.refl h0 [d]).wr R2 (Or.inl (List.mem_singleton.mpr rfl)))⟩ (by decide) (by decide)
  ·refine Fi.by' (st' := T2.setTop (mkF m 31 #[.val (.ref b), .val (.int (1 : Int32)), .val (.ref d), .val (.int (1 : Int32)), .val (.int (4 : Int32)), .val (.int (1 : Int32)), .val (.int c1)] [(.int (c1.toInt8.toInt32)), (.int (1 : Int32)), (.ref d)])) (fun t k => ?_) ?_
   ·refine XS.icmpYes W2.here hx rfl (pc0 := 20) (pc' := 26) rfl (hb hby d9_20) rfl (flt hc20_3).2.2.2 (by decide) (by decide) ?_
    refine XS.aloadN W2.here hx rfl (hb hby d9_26) rfl rfl ?_
    refine XS.iloadN W2.here hx rfl (hb hby d9_27) rfl ?_
    refine XS.iload W2.here hx rfl (hb hby d9_28) rfl ?_
    refine XS.i2b W2.here hx rfl (hb hby d9_30) rfl ?_
    exact k
   refine Wk.bastoreN rfl W2 hx Q2 (i := 1) (ble_ rfl) (j := (1 : Int32)) rfl (by decide) rfl (low_ok c1) (g := (mkF m 31 #[.val (.ref b), .val (.int (1 : Int32)), .val (.ref d), .val (.int (1 : Int32)), .val (.int (4 : Int32)), .val (.int (1 : Int32)), .val (.int c1)] [(.int (c1.toInt8.toInt32)), (.int (1 : Int32)), (.ref d)])) rfl rfl (hb hby d9_31) g0 (fun T4 h4 W4 R4 V4 => ?_)
   change Fi _ _ _ _ _ _ _ _ _ _ (T4.setTop (mkF m 32 #[.val (.ref b), .val (.int (1 : Int32)), .val (.ref d), .val (.int (1 : Int32)), .val (.int (4 : Int32)), .val (.int (1 : Int32)), .val (.int c1)] []))
   have Q4 : Arv Z h4 d kd .byte (4 : Int32) (([(c0.toInt8.toInt32), (c1.toInt8.toInt32), 0, 0] : List Int32).map Value.int) (.int (0 : Int32)) := V4
   have Y4 := Arv.other Y2 R4 hne
   refine Fi.by' (st' := T4.setTop (mkF m 12 #[.val (.ref b), .val (.int (2 : Int32)), .val (.ref d), .val (.int (2 : Int32)), .val (.int (4 : Int32)), .val (.int (2 : Int32)), .val (.int c1)] [(.int (2 : Int32)), (.ref b)])) (fun t k => ?_) ?_
   ·refine XS.iinc W4.here hx rfl (hb hby d9_32) rfl (l' := #[.val (.ref b), .val (.int (2 : Int32)), .val (.ref d), .val (.int (1 : Int32)), .val (.int (4 : Int32)), .val (.int (1 : Int32)), .val (.int c1)]) rfl ?_
    refine XS.iinc W4.here hx rfl (hb hby d9_35) rfl (l' := #[.val (.ref b), .val (.int (2 : Int32)), .val (.ref d), .val (.int (2 : Int32)), .val (.int (4 : Int32)), .val (.int (1 : Int32)), .val (.int c1)]) rfl ?_
    refine XS.iinc W4.here hx rfl (hb hby d9_38) rfl (l' := #[.val (.ref b), .val (.int (2 : Int32)), .val (.ref d), .val (.int (2 : Int32)), .val (.int (4 : Int32)), .val (.int (2 : Int32)), .val (.int c1)]) rfl ?_
    refine XS.goto W4.here hx rfl (pc0 := 41) (pc' := 3) rfl (hb hby d9_41) (by decide) (by decide) ?_
    refine XS.iload W4.here hx rfl (hb hby d9_3) rfl ?_
    refine XS.iload W4.here hx rfl (hb hby d9_5) rfl ?_
    refine XS.icmpNo W4.here hx rfl (hb hby d9_7) rfl (tlt (by decide : ((2 : Int32) < (4 : Int32)))).2.1 ?_
    refine XS.aloadN W4.here hx rfl (hb hby d9_10) rfl rfl ?_
    refine XS.iloadN W4.here hx rfl (hb hby d9_11) rfl ?_
    exact k
   refine W4.caload hx Y4 (j := (2 : Int32)) (v := .int c2) (by decide) rfl (g := (mkF m 12 #[.val (.ref b), .val (.int (2 : Int32)), .val (.ref d), .val (.int (2 : Int32)), .val (.int (4 : Int32)), .val (.int (2 : Int32)), .val (.int c1)] [(.int (2 : Int32)), (.ref b)])) rfl rfl (hb hby d9_12) ?_
   change Fi _ _ _ _ _ _ _ _ _ _ (T4.setTop (mkF m 13 #[.val (.ref b), .val (.int (2 : Int32)), .val (.ref d), .val (.int (2 : Int32)), .val (.int (4 : Int32)), .val (.int (2 : Int32)), .val (.int c1)] [(.int c2)]))
   refine Fi.by' (st' := T4.setTop (mkF m 20 #[.val (.ref b), .val (.int (2 : Int32)), .val (.ref d), .val (.int (2 : Int32)), .val (.int (4 : Int32)), .val (.int (2 : Int32)), .val (.int c2)] [(.int (255 : Int32)), (.int c2)])) (fun t k => ?_) ?_
   ·refine XS.istore W4.here hx rfl (hb hby d9_13) rfl (l' := #[.val (.ref b), .val (.int (2 : Int32)), .val (.ref d), .val (.int (2 : Int32)), .val (.int (4 : Int32)), .val (.int (2 : Int32)), .val (.int c2)]) rfl ?_
    refine XS.iload W4.here hx rfl (hb hby d9_15) rfl ?_
    refine sipushZ W4.here hx rfl (hb hby d9_17) (z := (255 : Int32)) rfl ?_
    exact k
   by_cases hc20_5 : (255 : Int32) < c2
   ·refine Fi.by' (st' := T4.setTop (mkF m 25 #[.val (.ref b), .val (.int (2 : Int32)), .val (.ref d), .val (.int (2 : Int32)), .val (.int (4 : Int32)), .val (.int (2 : Int32)), .val (.int c2)] [(.int (2 : Int32))])) (fun t k => ?_) ?_
    ·refine XS.icmpNo W4.here hx rfl (hb hby d9_20) rfl (tlt hc20_5).2.2.2 ?_
     refine XS.iload W4.here hx rfl (hb hby d9_23) rfl ?_
     exact k
    exact W4.iret hx hlk hret (by simp) rfl (hb hby d9_25) ⟨2, by decide, rfl, hc20_5, (((Keep.refl h0 [d]).wr R2 (Or.inl (List.mem_singleton.mpr rfl))).wr R4 (Or.inl (List.mem_singleton.mpr rfl)))⟩ (by decide) (by decide)
   ·refine Fi.by' (st' := T4.setTop (mkF m 31 #[.val (.ref b), .val (.int (2 : Int32)), .val (.ref d), .val (.int (2 : Int32)), .val (.int (4 : Int32)), .val (.int (2 : Int32)), .val (.int c2)] [(.int (c2.toInt8.toInt32)), (.int (2 : Int32)), (.ref d)])) (fun t k => ?_) ?_
    ·refine XS.icmpYes W4.here hx rfl (pc0 := 20) (pc' := 26) rfl (hb hby d9_20) rfl (flt hc20_5).2.2.2 (by decide) (by decide) ?_
     refine XS.aloadN W4.here hx rfl (hb hby d9_26) rfl rfl ?_
     refine XS.iloadN W4.here hx rfl (hb hby d9_27) rfl ?_
     refine XS.iload W4.here hx rfl (hb hby d9_28) rfl ?_
     refine XS.i2b W4.here hx rfl (hb hby d9_30) rfl ?_
     exact k
    refine Wk.bastoreN rfl W4 hx Q4 (i := 2) (ble_ rfl) (j := (2 : Int32)) rfl (by decide) rfl (low_ok c2) (g := (mkF m 31 #[.val (.ref b), .val (.int (2 : Int32)), .val (.ref d), .val (.int (2 : Int32)), .val (.int (4 : Int32)), .val (.int (2 : Int32)), .val (.int c2)] [(.int (c2.toInt8.toInt32)), (.int (2 : Int32)), (.ref d)])) rfl rfl (hb hby d9_31) g0 (fun T6 h6 W6 R6 V6 => ?_)
    change Fi _ _ _ _ _ _ _ _ _ _ (T6.setTop (mkF m 32 #[.val (.ref b), .val (.int (2 : Int32)), .val (.ref d), .val (.int (2 : Int32)), .val (.int (4 : Int32)), .val (.int (2 : Int32)), .val (.int c2)] []))
    have Q6 : Arv Z h6 d kd .byte (4 : Int32) (([(c0.toInt8.toInt32), (c1.toInt8.toInt32), (c2.toInt8.toInt32), 0] : List Int32).map Value.int) (.int (0 : Int32)) := V6
    have Y6 := Arv.other Y4 R6 hne
    refine Fi.by' (st' := T6.setTop (mkF m 12 #[.val (.ref b), .val (.int (3 : Int32)), .val (.ref d), .val (.int (3 : Int32)), .val (.int (4 : Int32)), .val (.int (3 : Int32)), .val (.int c2)] [(.int (3 : Int32)), (.ref b)])) (fun t k => ?_) ?_
    ·refine XS.iinc W6.here hx rfl (hb hby d9_32) rfl (l' := #[.val (.ref b), .val (.int (3 : Int32)), .val (.ref d), .val (.int (2 : Int32)), .val (.int (4 : Int32)), .val (.int (2 : Int32)), .val (.int c2)]) rfl ?_
     refine XS.iinc W6.here hx rfl (hb hby d9_35) rfl (l' := #[.val (.ref b), .val (.int (3 : Int32)), .val (.ref d), .val (.int (3 : Int32)), .val (.int (4 : Int32)), .val (.int (2 : Int32)), .val (.int c2)]) rfl ?_
     refine XS.iinc W6.here hx rfl (hb hby d9_38) rfl (l' := #[.val (.ref b), .val (.int (3 : Int32)), .val (.ref d), .val (.int (3 : Int32)), .val (.int (4 : Int32)), .val (.int (3 : Int32)), .val (.int c2)]) rfl ?_
     refine XS.goto W6.here hx rfl (pc0 := 41) (pc' := 3) rfl (hb hby d9_41) (by decide) (by decide) ?_
     refine XS.iload W6.here hx rfl (hb hby d9_3) rfl ?_
     refine XS.iload W6.here hx rfl (hb hby d9_5) rfl ?_
     refine XS.icmpNo W6.here hx rfl (hb hby d9_7) rfl (tlt (by decide : ((3 : Int32) < (4 : Int32)))).2.1 ?_
     refine XS.aloadN W6.here hx rfl (hb hby d9_10) rfl rfl ?_
     refine XS.iloadN W6.here hx rfl (hb hby d9_11) rfl ?_
     exact k
    refine W6.caload hx Y6 (j := (3 : Int32)) (v := .int c3) (by decide) rfl (g := (mkF m 12 #[.val (.ref b), .val (.int (3 : Int32)), .val (.ref d), .val (.int (3 : Int32)), .val (.int (4 : Int32)), .val (.int (3 : Int32)), .val (.int c2)] [(.int (3 : Int32)), (.ref b)])) rfl rfl (hb hby d9_12) ?_
    change Fi _ _ _ _ _ _ _ _ _ _ (T6.setTop (mkF m 13 #[.val (.ref b), .val (.int (3 : Int32)), .val (.ref d), .val (.int (3 : Int32)), .val (.int (4 : Int32)), .val (.int (3 : Int32)), .val (.int c2)] [(.int c3)]))
    refine Fi.by' (st' := T6.setTop (mkF m 20 #[.val (.ref b), .val (.int (3 : Int32)), .val (.ref d), .val (.int (3 : Int32)), .val (.int (4 : Int32)), .val (.int (3 : Int32)), .val (.int c3)] [(.int (255 : Int32)), (.int c3)])) (fun t k => ?_) ?_
    ·refine XS.istore W6.here hx rfl (hb hby d9_13) rfl (l' := #[.val (.ref b), .val (.int (3 : Int32)), .val (.ref d), .val (.int (3 : Int32)), .val (.int (4 : Int32)), .val (.int (3 : Int32)), .val (.int c3)]) rfl ?_
     refine XS.iload W6.here hx rfl (hb hby d9_15) rfl ?_
     refine sipushZ W6.here hx rfl (hb hby d9_17) (z := (255 : Int32)) rfl ?_
     exact k
    by_cases hc20_7 : (255 : Int32) < c3
    ·refine Fi.by' (st' := T6.setTop (mkF m 25 #[.val (.ref b), .val (.int (3 : Int32)), .val (.ref d), .val (.int (3 : Int32)), .val (.int (4 : Int32)), .val (.int (3 : Int32)), .val (.int c3)] [(.int (3 : Int32))])) (fun t k => ?_) ?_
     ·refine XS.icmpNo W6.here hx rfl (hb hby d9_20) rfl (tlt hc20_7).2.2.2 ?_
      refine XS.iload W6.here hx rfl (hb hby d9_23) rfl ?_
      exact k
     exact W6.iret hx hlk hret (by simp) rfl (hb hby d9_25) ⟨3, by decide, rfl, hc20_7, ((((Keep.refl h0 [d]).wr R2 (Or.inl (List.mem_singleton.mpr rfl))).wr R4 (Or.inl (List.mem_singleton.mpr rfl))).wr R6 (Or.inl (List.mem_singleton.mpr rfl)))⟩ (by decide) (by decide)
    ·refine Fi.by' (st' := T6.setTop (mkF m 31 #[.val (.ref b), .val (.int (3 : Int32)), .val (.ref d), .val (.int (3 : Int32)), .val (.int (4 : Int32)), .val (.int (3 : Int32)), .val (.int c3)] [(.int (c3.toInt8.toInt32)), (.int (3 : Int32)), (.ref d)])) (fun t k => ?_) ?_
     ·refine XS.icmpYes W6.here hx rfl (pc0 := 20) (pc' := 26) rfl (hb hby d9_20) rfl (flt hc20_7).2.2.2 (by decide) (by decide) ?_
      refine XS.aloadN W6.here hx rfl (hb hby d9_26) rfl rfl ?_
      refine XS.iloadN W6.here hx rfl (hb hby d9_27) rfl ?_
      refine XS.iload W6.here hx rfl (hb hby d9_28) rfl ?_
      refine XS.i2b W6.here hx rfl (hb hby d9_30) rfl ?_
      exact k
     refine Wk.bastoreN rfl W6 hx Q6 (i := 3) (ble_ rfl) (j := (3 : Int32)) rfl (by decide) rfl (low_ok c3) (g := (mkF m 31 #[.val (.ref b), .val (.int (3 : Int32)), .val (.ref d), .val (.int (3 : Int32)), .val (.int (4 : Int32)), .val (.int (3 : Int32)), .val (.int c3)] [(.int (c3.toInt8.toInt32)), (.int (3 : Int32)), (.ref d)])) rfl rfl (hb hby d9_31) g0 (fun T8 h8 W8 R8 V8 => ?_)
     change Fi _ _ _ _ _ _ _ _ _ _ (T8.setTop (mkF m 32 #[.val (.ref b), .val (.int (3 : Int32)), .val (.ref d), .val (.int (3 : Int32)), .val (.int (4 : Int32)), .val (.int (3 : Int32)), .val (.int c3)] []))
     have Q8 : Arv Z h8 d kd .byte (4 : Int32) (([(c0.toInt8.toInt32), (c1.toInt8.toInt32), (c2.toInt8.toInt32), (c3.toInt8.toInt32)] : List Int32).map Value.int) (.int (0 : Int32)) := V8
     have Y8 := Arv.other Y6 R8 hne
     refine Fi.by' (st' := T8.setTop (mkF m 46 #[.val (.ref b), .val (.int (4 : Int32)), .val (.ref d), .val (.int (4 : Int32)), .val (.int (4 : Int32)), .val (.int (4 : Int32)), .val (.int c3)] [(.int (4 : Int32))])) (fun t k => ?_) ?_
     ·refine XS.iinc W8.here hx rfl (hb hby d9_32) rfl (l' := #[.val (.ref b), .val (.int (4 : Int32)), .val (.ref d), .val (.int (3 : Int32)), .val (.int (4 : Int32)), .val (.int (3 : Int32)), .val (.int c3)]) rfl ?_
      refine XS.iinc W8.here hx rfl (hb hby d9_35) rfl (l' := #[.val (.ref b), .val (.int (4 : Int32)), .val (.ref d), .val (.int (4 : Int32)), .val (.int (4 : Int32)), .val (.int (3 : Int32)), .val (.int c3)]) rfl ?_
      refine XS.iinc W8.here hx rfl (hb hby d9_38) rfl (l' := #[.val (.ref b), .val (.int (4 : Int32)), .val (.ref d), .val (.int (4 : Int32)), .val (.int (4 : Int32)), .val (.int (4 : Int32)), .val (.int c3)]) rfl ?_
      refine XS.goto W8.here hx rfl (pc0 := 41) (pc' := 3) rfl (hb hby d9_41) (by decide) (by decide) ?_
      refine XS.iload W8.here hx rfl (hb hby d9_3) rfl ?_
      refine XS.iload W8.here hx rfl (hb hby d9_5) rfl ?_
      refine XS.icmpYes W8.here hx rfl (pc0 := 7) (pc' := 44) rfl (hb hby d9_7) rfl (flt (by decide : ¬ ((4 : Int32) < (4 : Int32)))).2.1 (by decide) (by decide) ?_
      refine XS.iload W8.here hx rfl (hb hby d9_44) rfl ?_
      exact k
     exact absurd (all_cons hc20_1 (all_cons hc20_3 (all_cons hc20_5 (all_cons hc20_7 all_nil)))) hwd
def Q_cmpB4 (Z : State) (b : Addr) (c0 c1 c2 c3 : Int32) (kc : ClassId) (h0 : Heap) (v : Option Value) (h : Heap) : Prop := ∃ (e : Addr) (k : ClassId), v = some (.ref e) ∧ Ext h0 h ∧ h0.size ≤ e ∧ Arv Z h e k .byte (8 : Int32) (StrChars.Road.wideBytes [c0, c1, c2, c3]) (.int (0 : Int32))
set_option maxRecDepth 65536 in
set_option maxHeartbeats 40000000 in
theorem rm_cmpB4 (l : Launch) (Z : State) (a0 : Array Value) (hw : ∀ d ∈ tables_1, d.before a0 Z = true) (b : Addr) (c0 c1 c2 c3 : Int32) (kc : ClassId) (h0 : Heap) (n0 : Nat) (Z0 : n0 ≤ h0.size) (D0 : Sta Z h0 "java/lang/StringUTF16" "$assertionsDisabled" "Z" (.int 1)) (HB0 : Sta Z h0 "java/lang/StringUTF16" "HI_BYTE_SHIFT" "I" (.int 0)) (LB0 : Sta Z h0 "java/lang/StringUTF16" "LO_BYTE_SHIFT" "I" (.int 8)) (C0 : Arv Z h0 b kc .char (4 : Int32) (([c0, c1, c2, c3] : List Int32).map Value.int) (.int (0 : Int32))) (hr : ∀ c ∈ ([c0, c1, c2, c3] : List Int32), ¬ c < 0 ∧ ¬ (65535 : Int32) < c) (hwd : ¬ ∀ c ∈ ([c0, c1, c2, c3] : List Int32), ¬ (255 : Int32) < c) :
  Con l Z EL y_16 jdk_52_method_16_code 6 (some (.array .byte)) [] ({ frames := 3, cells := 2, slots := 12, locals := 40 } : Room) #[(.ref b), (.int (0 : Int32)), (.int (4 : Int32))] h0 n0 (Q_cmpB4 Z b c0 c1 c2 c3 kc h0) := by
 refine Con.intro (own := "java/lang/StringUTF16") rfl (plainFor_of_name plain_java_lang_StringUTF16) (hEL hw) ?_
 intro p e s m below meth c s₁ hx hby hml hret hlk hnm W0
 refine Fi.cast (show entryFrame m #[(.ref b), (.int (0 : Int32)), (.int (4 : Int32))] 6 = (mkF m 0 #[.val (.ref b), .val (.int (0 : Int32)), .val (.int (4 : Int32)), .unset, .unset, .unset] []) from by first | (simp [entryFrame, mkF, argsToLocals, Value.category]; done) | rfl) ?_
 refine Fi.by' (st' := s₁.setTop (mkF m 1 #[.val (.ref b), .val (.int (0 : Int32)), .val (.int (4 : Int32)), .unset, .unset, .unset] [(.int (4 : Int32))])) (fun t k => ?_) ?_
 ·refine XS.iloadN W0.here hx rfl (hb hby d8_0) rfl ?_
  exact k
 refine W0.newP hx (aty := .byte) (ww hw 21 rfl) (g := (mkF m 1 #[.val (.ref b), .val (.int (0 : Int32)), .val (.int (4 : Int32)), .unset, .unset, .unset] [(.int (4 : Int32))])) rfl (hb hby d8_1) rfl (by decide) (cap := 4) (by decide) (by decide) (by decide) (by decide) (fun T1 h1 a1 k1 ha1 W1 E1 A1 => ?_)
 change Fi _ _ _ _ _ _ _ _ _ _ (T1.setTop (mkF m 3 #[.val (.ref b), .val (.int (0 : Int32)), .val (.int (4 : Int32)), .unset, .unset, .unset] [(.ref a1)]))
 have sz1 := E1.1
 have V1 : Arv Z h1 a1 k1 .byte (4 : Int32) (([0, 0, 0, 0] : List Int32).map Value.int) (.int (0 : Int32)) := A1.pad (pad_rep [] (.int (0 : Int32)) 4)
 refine Fi.by' (st' := T1.setTop (mkF m 9 #[.val (.ref b), .val (.int (0 : Int32)), .val (.int (4 : Int32)), .val (.ref a1), .unset, .unset] [(.int (4 : Int32)), (.int (0 : Int32)), (.ref a1), (.int (0 : Int32)), (.ref b)])) (fun t k => ?_) ?_
 ·refine XS.astoreN W1.here hx rfl (hb hby d8_3) rfl rfl (l' := #[.val (.ref b), .val (.int (0 : Int32)), .val (.int (4 : Int32)), .val (.ref a1), .unset, .unset]) rfl ?_
  refine XS.aloadN W1.here hx rfl (hb hby d8_4) rfl rfl ?_
  refine XS.iloadN W1.here hx rfl (hb hby d8_5) rfl ?_
  refine XS.aloadN W1.here hx rfl (hb hby d8_6) rfl rfl ?_
  refine iconstZ W1.here hx rfl (hb hby d8_7) (z := (0 : Int32)) rfl ?_
  refine XS.iloadN W1.here hx rfl (hb hby d8_8) rfl ?_
  exact k
 have lb : @LT.lt Nat _ b h0.size := C0.lt
 refine W1.callS hx (y := y_15) (ww hw 47 rfl) (ww hw 48 rfl) (ww hw 45 rfl) (ww hw 49 rfl) (by decide) (Pay.of_con (Wd := 0) (rm_cmpA4 l Z a0 hw b a1 c0 c1 c2 c3 kc k1 h1 n0 (by omega) (by omega) (fun q => by have q2 : @Eq Nat b a1 := q; omega) (C0.ext E1) V1 hwd) (ww hw 49 rfl) (ww hw 45 rfl) (hEL hw) (by decide) (by decide)) (g := (mkF m 9 #[.val (.ref b), .val (.int (0 : Int32)), .val (.int (4 : Int32)), .val (.ref a1), .unset, .unset] [(.int (4 : Int32)), (.int (0 : Int32)), (.ref a1), (.int (0 : Int32)), (.ref b)])) rfl (by rw [hml]; rfl) (argsL := [(.ref b), (.int (0 : Int32)), (.ref a1), (.int (0 : Int32)), (.int (4 : Int32))]) (rest := []) (lenOf pd_4 rfl) rfl rfl (ble_ rfl) (hb hby d8_9) (by decide) (by decide) (fun v2 T2 h2 W2 sz2 q2 => ?_)
 obtain ⟨kx, hk, rfl, hc, K2⟩ := q2
 change Fi _ _ _ _ _ _ _ _ _ _ (T2.setTop (mkF m 12 #[.val (.ref b), .val (.int (0 : Int32)), .val (.int (4 : Int32)), .val (.ref a1), .unset, .unset] [(.int (Int32.ofNat kx))]))
 have x2k : Ext h0 h2 := ext_keep1 E1 K2 (by omega)
 refine Fi.by' (st' := T2.setTop (mkF m 17 #[.val (.ref b), .val (.int (0 : Int32)), .val (.int (4 : Int32)), .val (.ref a1), .val (.int (Int32.ofNat kx)), .unset] [(.int (4 : Int32)), (.int (Int32.ofNat kx))])) (fun t k => ?_) ?_
 ·refine XS.istore W2.here hx rfl (hb hby d8_12) rfl (l' := #[.val (.ref b), .val (.int (0 : Int32)), .val (.int (4 : Int32)), .val (.ref a1), .val (.int (Int32.ofNat kx)), .unset]) rfl ?_
  refine XS.iload W2.here hx rfl (hb hby d8_14) rfl ?_
  refine XS.iloadN W2.here hx rfl (hb hby d8_16) rfl ?_
  exact k
 refine Fi.by' (st' := T2.setTop (mkF m 23 #[.val (.ref b), .val (.int (0 : Int32)), .val (.int (4 : Int32)), .val (.ref a1), .val (.int (Int32.ofNat kx)), .unset] [(.int (4 : Int32)), (.int (0 : Int32)), (.ref b)])) (fun t k => ?_) ?_
 ·refine XS.icmpNo W2.here hx rfl (hb hby d8_17) rfl (feq (ofNat_ne hk (by decide))).1 ?_
  refine XS.aloadN W2.here hx rfl (hb hby d8_20) rfl rfl ?_
  refine XS.iloadN W2.here hx rfl (hb hby d8_21) rfl ?_
  refine XS.iloadN W2.here hx rfl (hb hby d8_22) rfl ?_
  exact k
 refine W2.callS hx (y := y_14) (ww hw 95 rfl) (ww hw 96 rfl) (ww hw 45 rfl) (ww hw 97 rfl) (by decide) (Pay.of_con (Wd := 0) (rm_toB4 l Z a0 hw b c0 c1 c2 c3 kc h2 n0 (by omega) (Sta.ext x2k D0) (Sta.ext x2k HB0) (Sta.ext x2k LB0) (C0.ext x2k)) (ww hw 97 rfl) (ww hw 45 rfl) (hEL hw) (by decide) (by decide)) (g := (mkF m 23 #[.val (.ref b), .val (.int (0 : Int32)), .val (.int (4 : Int32)), .val (.ref a1), .val (.int (Int32.ofNat kx)), .unset] [(.int (4 : Int32)), (.int (0 : Int32)), (.ref b)])) rfl (by rw [hml]; rfl) (argsL := [(.ref b), (.int (0 : Int32)), (.int (4 : Int32))]) (rest := []) (lenOf pd_5 rfl) rfl rfl (ble_ rfl) (hb hby d8_23) (by decide) (by decide) (fun v3 T3 h3 W3 sz3 q3 => ?_)
 obtain ⟨e, ke, rfl, E3, ge, B3⟩ := q3
 change Fi _ _ _ _ _ _ _ _ _ _ (T3.setTop (mkF m 26 #[.val (.ref b), .val (.int (0 : Int32)), .val (.int (4 : Int32)), .val (.ref a1), .val (.int (Int32.ofNat kx)), .unset] [(.ref e)]))
 refine Fi.by' (st' := T3.setTop (mkF m 32 #[.val (.ref b), .val (.int (0 : Int32)), .val (.int (4 : Int32)), .val (.ref a1), .val (.int (Int32.ofNat kx)), .val (.ref e)] [(.int (Int32.ofNat kx)), (.ref e)])) (fun t k => ?_) ?_
 ·refine XS.astore W3.here hx rfl (hb hby d8_26) rfl rfl (l' := #[.val (.ref b), .val (.int (0 : Int32)), .val (.int (4 : Int32)), .val (.ref a1), .val (.int (Int32.ofNat kx)), .val (.ref e)]) rfl ?_
  refine XS.aload W3.here hx rfl (hb hby d8_28) rfl rfl ?_
  refine XS.iload W3.here hx rfl (hb hby d8_30) rfl ?_
  exact k
 have x4 : Ext h0 h3 := ext_trans x2k E3
 refine W3.callS hx (y := y_11) (ww hw 111 rfl) (ww hw 112 rfl) (ww hw 45 rfl) (ww hw 113 rfl) (by decide) (Pay.of_con (Wd := 0) (rm_getC l Z a0 hw e (Int32.ofNat kx) (8 : Int32) _ _ kx _ ke h3 n0 (by omega) (Sta.ext x4 D0) (Sta.ext x4 HB0) (Sta.ext x4 LB0) rfl (by omega) (by rw [show (8 : Int32).toNatClampNeg = 8 from rfl]; omega) B3 (StrChars.Road.wide_lo _ [c0, c1, c2, c3] kx hk) (StrChars.Road.wide_hi _ [c0, c1, c2, c3] kx hk)) (ww hw 113 rfl) (ww hw 45 rfl) (hEL hw) (by decide) (by decide)) (g := (mkF m 32 #[.val (.ref b), .val (.int (0 : Int32)), .val (.int (4 : Int32)), .val (.ref a1), .val (.int (Int32.ofNat kx)), .val (.ref e)] [(.int (Int32.ofNat kx)), (.ref e)])) rfl (by rw [hml]; rfl) (argsL := [(.ref e), (.int (Int32.ofNat kx))]) (rest := []) (lenOf pd_6 rfl) rfl rfl (ble_ rfl) (hb hby d8_32) (by decide) (by decide) (fun v5 T5 h5 W5 sz5 q5 => ?_)
 obtain ⟨rfl, rfl⟩ := q5
 change Fi _ _ _ _ _ _ _ _ _ _ (T5.setTop (mkF m 35 #[.val (.ref b), .val (.int (0 : Int32)), .val (.int (4 : Int32)), .val (.ref a1), .val (.int (Int32.ofNat kx)), .val (.ref e)] [(.int (StrChars.pairCh (StrChars.lo8 (([c0, c1, c2, c3] : List Int32).getD kx 0)) (StrChars.hi8 (([c0, c1, c2, c3] : List Int32).getD kx 0))))]))
 refine Fi.by' (st' := T5.setTop (mkF m 38 #[.val (.ref b), .val (.int (0 : Int32)), .val (.int (4 : Int32)), .val (.ref a1), .val (.int (Int32.ofNat kx)), .val (.ref e)] [(.int (255 : Int32)), (.int (StrChars.pairCh (StrChars.lo8 (([c0, c1, c2, c3] : List Int32).getD kx 0)) (StrChars.hi8 (([c0, c1, c2, c3] : List Int32).getD kx 0))))])) (fun t k => ?_) ?_
 ·refine sipushZ W5.here hx rfl (hb hby d8_35) (z := (255 : Int32)) rfl ?_
  exact k
 refine Fi.by' (st' := T5.setTop (mkF m 56 #[.val (.ref b), .val (.int (0 : Int32)), .val (.int (4 : Int32)), .val (.ref a1), .val (.int (Int32.ofNat kx)), .val (.ref e)] [(.ref e)])) (fun t k => ?_) ?_
 ·refine XS.icmpYes W5.here hx rfl (pc0 := 38) (pc' := 54) rfl (hb hby d8_38) rfl (tlt (by rw [StrChars.pair_says (getD_rng (cs := [c0, c1, c2, c3]) hk hr).1 (getD_rng (cs := [c0, c1, c2, c3]) hk hr).2]; exact hc)).2.2.1 (by decide) (by decide) ?_
  refine XS.aload W5.here hx rfl (hb hby d8_54) rfl rfl ?_
  exact k
 exact W5.aret hx hlk hret rfl rfl (hb hby d8_56) ⟨e, ke, rfl, x4, by omega, B3⟩ (by decide) (by decide)
def Q_inA4 (Z : State) (x b : Addr) (zc c0 c1 c2 c3 : Int32) (kc : ClassId) (h0 : Heap) (v : Option Value) (h : Heap) : Prop := v = none ∧ Keep h0 h [x] ∧ StrA Z h x [c0, c1, c2, c3]
set_option maxRecDepth 65536 in
set_option maxHeartbeats 40000000 in
theorem rm_inA4 (l : Launch) (Z : State) (a0 : Array Value) (hw : ∀ d ∈ tables_1, d.before a0 Z = true) (x b : Addr) (zc c0 c1 c2 c3 : Int32) (kc : ClassId) (h0 : Heap) (n0 : Nat) (Z0 : n0 ≤ h0.size) (g0 : n0 ≤ x) (A0 : Exa Z h0 x "java/lang/String") (V0 : Fld Z h0 x "java/lang/String" "value" "[B" .null) (C1 : Fld Z h0 x "java/lang/String" "coder" "B" (.int (0 : Int32))) (S0 : Sta Z h0 "java/lang/String" "COMPACT_STRINGS" "Z" (.int zc)) (hz : ¬ zc = 0) (D0 : Sta Z h0 "java/lang/StringUTF16" "$assertionsDisabled" "Z" (.int 1)) (HB0 : Sta Z h0 "java/lang/StringUTF16" "HI_BYTE_SHIFT" "I" (.int 0)) (LB0 : Sta Z h0 "java/lang/StringUTF16" "LO_BYTE_SHIFT" "I" (.int 8)) (C0 : Arv Z h0 b kc .char (4 : Int32) (([c0, c1, c2, c3] : List Int32).map Value.int) (.int (0 : Int32))) (hr : ∀ c ∈ ([c0, c1, c2, c3] : List Int32), ¬ c < 0 ∧ ¬ (65535 : Int32) < c) (hwd : ¬ ∀ c ∈ ([c0, c1, c2, c3] : List Int32), ¬ (255 : Int32) < c) :
  Con l Z EL y_17 jdk_42_method_149_code 6 none [] ({ frames := 4, cells := 2, slots := 12, locals := 57 } : Room) #[(.ref x), (.ref b), (.int (0 : Int32)), (.int (4 : Int32)), .null] h0 n0 (Q_inA4 Z x b zc c0 c1 c2 c3 kc h0) := by
 refine Con.intro (own := "java/lang/String") rfl (plainFor_of_name plain_java_lang_String) (hEL hw) ?_
 intro p e s m below meth c s₁ hx hby hml hret hlk hnm W0
 refine Fi.cast (show entryFrame m #[(.ref x), (.ref b), (.int (0 : Int32)), (.int (4 : Int32)), .null] 6 = (mkF m 0 #[.val (.ref x), .val (.ref b), .val (.int (0 : Int32)), .val (.int (4 : Int32)), .val .null, .unset] []) from by first | (simp [entryFrame, mkF, argsToLocals, Value.category]; done) | rfl) ?_
 refine Fi.by' (st' := s₁.setTop (mkF m 1 #[.val (.ref x), .val (.ref b), .val (.int (0 : Int32)), .val (.int (4 : Int32)), .val .null, .unset] [(.ref x)])) (fun t k => ?_) ?_
 ·refine XS.aloadN W0.here hx rfl (hb hby d3_0) rfl rfl ?_
  exact k
 refine W0.initO hx (ww hw 17 rfl) (ww hw 18 rfl) (ww hw 19 rfl) (g := (mkF m 1 #[.val (.ref x), .val (.ref b), .val (.int (0 : Int32)), .val (.int (4 : Int32)), .val .null, .unset] [(.ref x)])) rfl (by rw [hml]; rfl) rfl (hb hby d3_1) (by decide) (Wd := 0) (ble_ rfl) (by decide) (fun T1 W1 => ?_)
 change Fi _ _ _ _ _ _ _ _ _ _ (T1.setTop (mkF m 4 #[.val (.ref x), .val (.ref b), .val (.int (0 : Int32)), .val (.int (4 : Int32)), .val .null, .unset] []))
 refine Fi.by' (st' := T1.setTop (mkF m 27 #[.val (.ref x), .val (.ref b), .val (.int (0 : Int32)), .val (.int (4 : Int32)), .val .null, .unset] [])) (fun t k => ?_) ?_
 ·refine XS.iloadN W1.here hx rfl (hb hby d3_4) rfl ?_
  refine XS.ifYes W1.here hx rfl (pc0 := 5) (pc' := 27) rfl (hb hby d3_5) rfl ((if0 _ _).trans (feq (by decide : ¬ ((4 : Int32) = (0 : Int32)))).2) (by decide) (by decide) ?_
  exact k
 refine W1.getS hx (ww hw 42 rfl) S0 (g := (mkF m 27 #[.val (.ref x), .val (.ref b), .val (.int (0 : Int32)), .val (.int (4 : Int32)), .val .null, .unset] [])) rfl (hb hby d3_27) (fun T2 W2 => ?_)
 change Fi _ _ _ _ _ _ _ _ _ _ (T2.setTop (mkF m 30 #[.val (.ref x), .val (.ref b), .val (.int (0 : Int32)), .val (.int (4 : Int32)), .val .null, .unset] [(.int zc)]))
 refine Fi.by' (st' := T2.setTop (mkF m 36 #[.val (.ref x), .val (.ref b), .val (.int (0 : Int32)), .val (.int (4 : Int32)), .val .null, .unset] [(.int (4 : Int32)), (.int (0 : Int32)), (.ref b)])) (fun t k => ?_) ?_
 ·refine XS.ifNo W2.here hx rfl (hb hby d3_30) rfl ((if0 _ _).trans (feq hz).1) ?_
  refine XS.aloadN W2.here hx rfl (hb hby d3_33) rfl rfl ?_
  refine XS.iloadN W2.here hx rfl (hb hby d3_34) rfl ?_
  refine XS.iloadN W2.here hx rfl (hb hby d3_35) rfl ?_
  exact k
 refine W2.callS hx (y := y_16) (ww hw 43 rfl) (ww hw 44 rfl) (ww hw 45 rfl) (ww hw 46 rfl) (by decide) (Pay.of_con (Wd := 0) (rm_cmpB4 l Z a0 hw b c0 c1 c2 c3 kc h0 n0 (by omega) D0 HB0 LB0 C0 hr hwd) (ww hw 46 rfl) (ww hw 45 rfl) (hEL hw) (by decide) (by decide)) (g := (mkF m 36 #[.val (.ref x), .val (.ref b), .val (.int (0 : Int32)), .val (.int (4 : Int32)), .val .null, .unset] [(.int (4 : Int32)), (.int (0 : Int32)), (.ref b)])) rfl (by rw [hml]; rfl) (argsL := [(.ref b), (.int (0 : Int32)), (.int (4 : Int32))]) (rest := []) (lenOf pd_5 rfl) rfl rfl (ble_ rfl) (hb hby d3_36) (by decide) (by decide) (fun v3 T3 h3 W3 sz3 q3 => ?_)
 obtain ⟨e, ke, rfl, E3, ge, B3⟩ := q3
 change Fi _ _ _ _ _ _ _ _ _ _ (T3.setTop (mkF m 39 #[.val (.ref x), .val (.ref b), .val (.int (0 : Int32)), .val (.int (4 : Int32)), .val .null, .unset] [(.ref e)]))
 have lx : @LT.lt Nat _ x h0.size := A0.lt
 refine Fi.by' (st' := T3.setTop (mkF m 45 #[.val (.ref x), .val (.ref b), .val (.int (0 : Int32)), .val (.int (4 : Int32)), .val .null, .val (.ref e)] [(.int (4 : Int32)), (.ref e), (.ref x)])) (fun t k => ?_) ?_
 ·refine XS.astore W3.here hx rfl (hb hby d3_39) rfl rfl (l' := #[.val (.ref x), .val (.ref b), .val (.int (0 : Int32)), .val (.int (4 : Int32)), .val .null, .val (.ref e)]) rfl ?_
  refine XS.aloadN W3.here hx rfl (hb hby d3_41) rfl rfl ?_
  refine XS.aload W3.here hx rfl (hb hby d3_42) rfl rfl ?_
  refine XS.iloadN W3.here hx rfl (hb hby d3_44) rfl ?_
  exact k
 refine W3.callS hx (y := y_12) (ww hw 50 rfl) (ww hw 51 rfl) (ww hw 45 rfl) (ww hw 52 rfl) (by decide) (Pay.of_con (Wd := 1) (rm_cfl l Z a0 hw e (4 : Int32) (8 : Int32) ke _ h3 n0 (by omega) B3 (by decide)) (ww hw 52 rfl) (ww hw 45 rfl) (hEL hw) (by decide) (by decide)) (g := (mkF m 45 #[.val (.ref x), .val (.ref b), .val (.int (0 : Int32)), .val (.int (4 : Int32)), .val .null, .val (.ref e)] [(.int (4 : Int32)), (.ref e), (.ref x)])) rfl (by rw [hml]; rfl) (argsL := [(.ref e), (.int (4 : Int32))]) (rest := [(.ref x)]) (lenOf pd_7 rfl) rfl rfl (ble_ rfl) (hb hby d3_45) (by decide) (by decide) (fun v4 T4 h4 W4 sz4 q4 => ?_)
 obtain ⟨rfl, rfl⟩ := q4
 change Fi _ _ _ _ _ _ _ _ _ _ (T4.setTop (mkF m 48 #[.val (.ref x), .val (.ref b), .val (.int (0 : Int32)), .val (.int (4 : Int32)), .val .null, .val (.ref e)] [(.int (1 : Int32)), (.ref x)]))
 refine W4.putF hx (ww hw 27 rfl) (Fld.ext E3 C1) (Exa.ext E3 A0) (Or.inr ⟨(ww hw 23 rfl), rfl, hnm⟩) (ww hw 8 rfl) (ty := .byte) (by decide) rfl rfl (g := (mkF m 48 #[.val (.ref x), .val (.ref b), .val (.int (0 : Int32)), .val (.int (4 : Int32)), .val .null, .val (.ref e)] [(.int (1 : Int32)), (.ref x)])) rfl rfl (hb hby d3_48) g0 (fun _ _ _ => safeN rfl) (fun T5 h5 W5 R5 => ?_)
 change Fi _ _ _ _ _ _ _ _ _ _ (T5.setTop (mkF m 51 #[.val (.ref x), .val (.ref b), .val (.int (0 : Int32)), .val (.int (4 : Int32)), .val .null, .val (.ref e)] []))
 have K5 := ((Keep.refl h0 [x]).ext E3).wr R5 (Or.inl (List.mem_singleton.mpr rfl))
 have A5 := Exa.wr R5 (Exa.ext E3 A0)
 have F5_value := Fld.other R5 (Fld.ext E3 V0) (Or.inr (slot_ne (Or.inr (ww hw 22 rfl)) (Or.inr (ww hw 23 rfl)) (by decide) (t := (.array .byte)) (t' := .byte) (by decide) (by decide)))
 have F5_coder := Fld.same R5 (Fld.ext E3 C1)
 refine Fi.by' (st' := T5.setTop (mkF m 54 #[.val (.ref x), .val (.ref b), .val (.int (0 : Int32)), .val (.int (4 : Int32)), .val .null, .val (.ref e)] [(.ref e), (.ref x)])) (fun t k => ?_) ?_
 ·refine XS.aloadN W5.here hx rfl (hb hby d3_51) rfl rfl ?_
  refine XS.aload W5.here hx rfl (hb hby d3_52) rfl rfl ?_
  exact k
 refine W5.putF hx (ww hw 26 rfl) F5_value A5 (Or.inr ⟨(ww hw 22 rfl), rfl, hnm⟩) (ww hw 8 rfl) (ty := (.array .byte)) (by decide) rfl rfl (g := (mkF m 54 #[.val (.ref x), .val (.ref b), .val (.int (0 : Int32)), .val (.int (4 : Int32)), .val .null, .val (.ref e)] [(.ref e), (.ref x)])) rfl rfl (hb hby d3_54) g0 (fun _ _ _ => safeN rfl) (fun T6 h6 W6 R6 => ?_)
 change Fi _ _ _ _ _ _ _ _ _ _ (T6.setTop (mkF m 57 #[.val (.ref x), .val (.ref b), .val (.int (0 : Int32)), .val (.int (4 : Int32)), .val .null, .val (.ref e)] []))
 have K6 := K5.wr R6 (Or.inl (List.mem_singleton.mpr rfl))
 have A6 := Exa.wr R6 A5
 have F6_value := Fld.same R6 F5_value
 have F6_coder := Fld.other R6 F5_coder (Or.inr (slot_ne (Or.inr (ww hw 23 rfl)) (Or.inr (ww hw 22 rfl)) (by decide) (t := .byte) (t' := (.array .byte)) (by decide) (by decide)))
 have Z5 := Arv.other B3 R5 (fun q => by have q2 : @Eq Nat e x := q; omega)
 have Z6 := Arv.other Z5 R6 (fun q => by have q2 : @Eq Nat e x := q; omega)
 exact W6.vret hx hlk hret (hb hby d3_57) ⟨rfl, K6, e, ke, 1, _, _, A6, F6_value, F6_coder, Z6, Or.inr ⟨rfl, rfl, rfl, wide_ex hwd⟩, hr, ble_ rfl⟩ (by decide) (by decide)
def Q_inB4 (Z : State) (x b : Addr) (zc c0 c1 c2 c3 : Int32) (kc : ClassId) (h0 : Heap) (v : Option Value) (h : Heap) : Prop := v = none ∧ Keep h0 h [x] ∧ StrA Z h x [c0, c1, c2, c3]
set_option maxRecDepth 65536 in
set_option maxHeartbeats 40000000 in
theorem rm_inB4 (l : Launch) (Z : State) (a0 : Array Value) (hw : ∀ d ∈ tables_1, d.before a0 Z = true) (x b : Addr) (zc c0 c1 c2 c3 : Int32) (kc : ClassId) (h0 : Heap) (n0 : Nat) (Z0 : n0 ≤ h0.size) (g0 : n0 ≤ x) (A0 : Exa Z h0 x "java/lang/String") (V0 : Fld Z h0 x "java/lang/String" "value" "[B" .null) (C1 : Fld Z h0 x "java/lang/String" "coder" "B" (.int (0 : Int32))) (S0 : Sta Z h0 "java/lang/String" "COMPACT_STRINGS" "Z" (.int zc)) (hz : ¬ zc = 0) (D0 : Sta Z h0 "java/lang/StringUTF16" "$assertionsDisabled" "Z" (.int 1)) (HB0 : Sta Z h0 "java/lang/StringUTF16" "HI_BYTE_SHIFT" "I" (.int 0)) (LB0 : Sta Z h0 "java/lang/StringUTF16" "LO_BYTE_SHIFT" "I" (.int 8)) (C0 : Arv Z h0 b kc .char (4 : Int32) (([c0, c1, c2, c3] : List Int32).map Value.int) (.int (0 : Int32))) (hr : ∀ c ∈ ([c0, c1, c2, c3] : List Int32), ¬ c < 0 ∧ ¬ (65535 : Int32) < c) (hwd : ¬ ∀ c ∈ ([c0, c1, c2, c3] : List Int32), ¬ (255 : Int32) < c) :
  Con l Z EL y_18 jdk_42_method_3_code 2 none [] ({ frames := 5, cells := 2, slots := 12, locals := 74 } : Room) #[(.ref x), (.ref b)] h0 n0 (Q_inB4 Z x b zc c0 c1 c2 c3 kc h0) := by
 refine Con.intro (own := "java/lang/String") rfl (plainFor_of_name plain_java_lang_String) (hEL hw) ?_
 intro p e s m below meth c s₁ hx hby hml hret hlk hnm W0
 refine Fi.cast (show entryFrame m #[(.ref x), (.ref b)] 2 = (mkF m 0 #[.val (.ref x), .val (.ref b)] []) from by first | (simp [entryFrame, mkF, argsToLocals, Value.category]; done) | rfl) ?_
 refine Fi.by' (st' := s₁.setTop (mkF m 4 #[.val (.ref x), .val (.ref b)] [(.ref b), (.int (0 : Int32)), (.ref b), (.ref x)])) (fun t k => ?_) ?_
 ·refine XS.aloadN W0.here hx rfl (hb hby d2_0) rfl rfl ?_
  refine XS.aloadN W0.here hx rfl (hb hby d2_1) rfl rfl ?_
  refine iconstZ W0.here hx rfl (hb hby d2_2) (z := (0 : Int32)) rfl ?_
  refine XS.aloadN W0.here hx rfl (hb hby d2_3) rfl rfl ?_
  exact k
 refine W0.alen hx C0 (g := (mkF m 4 #[.val (.ref x), .val (.ref b)] [(.ref b), (.int (0 : Int32)), (.ref b), (.ref x)])) rfl rfl (hb hby d2_4) ?_
 change Fi _ _ _ _ _ _ _ _ _ _ (s₁.setTop (mkF m 5 #[.val (.ref x), .val (.ref b)] [(.int (4 : Int32)), (.int (0 : Int32)), (.ref b), (.ref x)]))
 refine Fi.by' (st' := s₁.setTop (mkF m 6 #[.val (.ref x), .val (.ref b)] [.null, (.int (4 : Int32)), (.int (0 : Int32)), (.ref b), (.ref x)])) (fun t k => ?_) ?_
 ·refine XS.aconstNull W0.here hx rfl (hb hby d2_5) ?_
  exact k
 refine W0.callI hx (y := y_17) rfl (ww hw 13 rfl) (ww hw 14 rfl) (ww hw 16 rfl) (by decide) (Pay.of_con (Wd := 0) (rm_inA4 l Z a0 hw x b zc c0 c1 c2 c3 kc h0 n0 (by omega) g0 A0 V0 C1 S0 hz D0 HB0 LB0 C0 hr hwd) (ww hw 16 rfl) (ww hw 9 rfl) (hEL hw) (by decide) (by decide)) (a := x) (g := (mkF m 6 #[.val (.ref x), .val (.ref b)] [.null, (.int (4 : Int32)), (.int (0 : Int32)), (.ref b), (.ref x)])) rfl (by rw [hml]; rfl) (argsL := [(.ref b), (.int (0 : Int32)), (.int (4 : Int32)), .null]) (rest := []) (lenOf pd_8 rfl) rfl rfl (ble_ rfl) (hb hby d2_6) (by decide) (by decide) (fun v2 T2 h2 W2 sz2 q2 => ?_)
 obtain ⟨rfl, qK, qS⟩ := q2
 change Fi _ _ _ _ _ _ _ _ _ _ (T2.setTop (mkF m 9 #[.val (.ref x), .val (.ref b)] []))
 exact W2.vret hx hlk hret (hb hby d2_9) ⟨rfl, qK, qS⟩ (by decide) (by decide)
section PaidI4
variable {p : Program} {l : Launch} {e : Env} {R : Room} {s : State} {args : Array Value} {below : List Frame} {Z : State} {a0 : Array Value} {n0 : Nat} {h0 : Heap}
theorem payIn4 (hw : ∀ d ∈ tables_1, d.before a0 Z = true) {Wd : Nat} {x b : Addr} {kc : ClassId} {zc c0 c1 c2 c3 : Int32} (Z0 : n0 ≤ h0.size) (g0 : n0 ≤ x) (A0 : Exa Z h0 x "java/lang/String") (V0 : Fld Z h0 x "java/lang/String" "value" "[B" .null) (C1 : Fld Z h0 x "java/lang/String" "coder" "B" (.int (0 : Int32))) (S0 : Sta Z h0 "java/lang/String" "COMPACT_STRINGS" "Z" (.int zc)) (hz : ¬ zc = 0) (D0 : Sta Z h0 "java/lang/StringUTF16" "$assertionsDisabled" "Z" (.int 1)) (HB0 : Sta Z h0 "java/lang/StringUTF16" "HI_BYTE_SHIFT" "I" (.int 0)) (LB0 : Sta Z h0 "java/lang/StringUTF16" "LO_BYTE_SHIFT" "I" (.int 8)) (C0 : Arv Z h0 b kc .char (4 : Int32) (([c0, c1, c2, c3] : List Int32).map Value.int) (.int (0 : Int32))) (hr : ∀ c ∈ ([c0, c1, c2, c3] : List Int32), ¬ c < 0 ∧ ¬ (65535 : Int32) < c) (hf : 6 ≤ R.frames) (hl : Wd + 87 ≤ R.locals) :
  Pay l R p e below s args Z EL n0 y_18 Wd #[.ref x, .ref b] h0 (fun v h' => v = none ∧ Keep h0 h' [x] ∧ StrA Z h' x [c0, c1, c2, c3]) 2 12 := by
 by_cases hwd : ∀ c ∈ ([c0, c1, c2, c3] : List Int32), ¬ (255 : Int32) < c
 ·exact ((payS hw Z0 g0 A0 V0 C1 C0 S0 hz rfl rfl (ble_ rfl) (ble_ rfl) (fun c hc => ⟨(hr c hc).1, hwd c hc⟩) (Nat.le_trans (by decide) hf) (Nat.le_trans (Nat.add_le_add_left (by decide) _) hl)).weak fun v h' q => ⟨q.1, q.2.1, StrA.of_l q.2.2⟩).more (ble_ rfl) (ble_ rfl)
 ·exact (Pay.of_con (rm_inB4 l Z a0 hw x b zc c0 c1 c2 c3 kc h0 n0 Z0 g0 A0 V0 C1 S0 hz D0 HB0 LB0 C0 hr hwd) (ww hw 12 rfl) (ww hw 9 rfl) (hEL hw) (Nat.le_trans (by decide) hf) (Nat.le_trans (by rw [Nat.add_assoc]; exact Nat.add_le_add_left (by decide) _) hl)).more (by decide) (by decide)
end PaidI4
def Q_isl (Z : State) (x : Addr) (zc : Int32) (h0 : Heap) (v : Option Value) (h : Heap) : Prop := v = some (.int 0) ∧ h0 = h
set_option maxRecDepth 65536 in
set_option maxHeartbeats 40000000 in
theorem rm_isl (l : Launch) (Z : State) (a0 : Array Value) (hw : ∀ d ∈ tables_1, d.before a0 Z = true) (x : Addr) (zc : Int32) (h0 : Heap) (n0 : Nat) (Z0 : n0 ≤ h0.size) (S0 : Sta Z h0 "java/lang/String" "COMPACT_STRINGS" "Z" (.int zc)) (hz : ¬ zc = 0) (C1 : Fld Z h0 x "java/lang/String" "coder" "B" (.int 1)) :
  Con l Z EL y_19 jdk_42_method_154_code 1 (some .boolean) [] ({ frames := 0, cells := 0, slots := 0, locals := 0 } : Room) #[(.ref x)] h0 n0 (Q_isl Z x zc h0) := by
 refine Con.intro (own := "java/lang/String") rfl (plainFor_of_name plain_java_lang_String) (hEL hw) ?_
 intro p e s m below meth c s₁ hx hby hml hret hlk hnm W0
 refine Fi.cast (show entryFrame m #[(.ref x)] 1 = (mkF m 0 #[.val (.ref x)] []) from by first | (simp [entryFrame, mkF, argsToLocals, Value.category]; done) | rfl) ?_
 refine W0.getS hx (ww hw 42 rfl) S0 (g := (mkF m 0 #[.val (.ref x)] [])) rfl (hb hby d15_0) (fun T1 W1 => ?_)
 change Fi _ _ _ _ _ _ _ _ _ _ (T1.setTop (mkF m 3 #[.val (.ref x)] [(.int zc)]))
 refine Fi.by' (st' := T1.setTop (mkF m 7 #[.val (.ref x)] [(.ref x)])) (fun t k => ?_) ?_
 ·refine XS.ifNo W1.here hx rfl (hb hby d15_3) rfl ((if0 _ _).trans (feq hz).1) ?_
  refine XS.aloadN W1.here hx rfl (hb hby d15_6) rfl rfl ?_
  exact k
 refine W1.getF hx (ww hw 27 rfl) C1 (g := (mkF m 7 #[.val (.ref x)] [(.ref x)])) rfl rfl (hb hby d15_7) (fun T2 W2 => ?_)
 change Fi _ _ _ _ _ _ _ _ _ _ (T2.setTop (mkF m 10 #[.val (.ref x)] [(.int (1 : Int32))]))
 refine Fi.by' (st' := T2.setTop (mkF m 18 #[.val (.ref x)] [(.int (0 : Int32))])) (fun t k => ?_) ?_
 ·refine XS.ifYes W2.here hx rfl (pc0 := 10) (pc' := 17) rfl (hb hby d15_10) rfl ((if0 _ _).trans (feq (by decide : ¬ ((1 : Int32) = (0 : Int32)))).2) (by decide) (by decide) ?_
  refine iconstZ W2.here hx rfl (hb hby d15_17) (z := (0 : Int32)) rfl ?_
  exact k
 exact W2.iret hx hlk hret (by simp) rfl (hb hby d15_18) ⟨rfl, rfl⟩ (by decide) (by decide)
def Q_uln (Z : State) (t : Addr) (N2 : Int32) (kb : ClassId) (vs : List Value) (h0 : Heap) (v : Option Value) (h : Heap) : Prop := v = some (.int (N2 >>> ((1 : Int32) &&& 31))) ∧ h0 = h
set_option maxRecDepth 65536 in
set_option maxHeartbeats 40000000 in
theorem rm_uln (l : Launch) (Z : State) (a0 : Array Value) (hw : ∀ d ∈ tables_1, d.before a0 Z = true) (t : Addr) (N2 : Int32) (kb : ClassId) (vs : List Value) (h0 : Heap) (n0 : Nat) (Z0 : n0 ≤ h0.size) (B0 : Arv Z h0 t kb .byte N2 vs (.int 0)) :
  Con l Z EL y_20 jdk_52_method_6_code 1 (some .int) [] ({ frames := 0, cells := 0, slots := 0, locals := 0 } : Room) #[(.ref t)] h0 n0 (Q_uln Z t N2 kb vs h0) := by
 refine Con.intro (own := "java/lang/StringUTF16") rfl (plainFor_of_name plain_java_lang_StringUTF16) (hEL hw) ?_
 intro p e s m below meth c s₁ hx hby hml hret hlk hnm W0
 refine Fi.cast (show entryFrame m #[(.ref t)] 1 = (mkF m 0 #[.val (.ref t)] []) from by first | (simp [entryFrame, mkF, argsToLocals, Value.category]; done) | rfl) ?_
 refine Fi.by' (st' := s₁.setTop (mkF m 1 #[.val (.ref t)] [(.ref t)])) (fun t k => ?_) ?_
 ·refine XS.aloadN W0.here hx rfl (hb hby d28_0) rfl rfl ?_
  exact k
 refine W0.alen hx B0 (g := (mkF m 1 #[.val (.ref t)] [(.ref t)])) rfl rfl (hb hby d28_1) ?_
 change Fi _ _ _ _ _ _ _ _ _ _ (s₁.setTop (mkF m 2 #[.val (.ref t)] [(.int N2)]))
 refine Fi.by' (st' := s₁.setTop (mkF m 4 #[.val (.ref t)] [(.int (N2 >>> ((1 : Int32) &&& 31)))])) (fun t k => ?_) ?_
 ·refine iconstZ W0.here hx rfl (hb hby d28_2) (z := (1 : Int32)) rfl ?_
  refine XS.ishr W0.here hx rfl (hb hby d28_3) rfl ?_
  exact k
 exact W0.iret hx hlk hret (by simp) rfl (hb hby d28_4) ⟨rfl, rfl⟩ (by decide) (by decide)
def Q_prc (Z : State) (ii nn : Int32) (fm : Value) (h0 : Heap) (v : Option Value) (h : Heap) : Prop := v = some (.int ii) ∧ h0 = h
set_option maxRecDepth 65536 in
set_option maxHeartbeats 40000000 in
theorem rm_prc (l : Launch) (Z : State) (a0 : Array Value) (hw : ∀ d ∈ tables_1, d.before a0 Z = true) (ii nn : Int32) (fm : Value) (h0 : Heap) (n0 : Nat) (Z0 : n0 ≤ h0.size) (rf : fm.isRef = true) (q0 : ¬ ii < 0) (q1 : ii < nn) :
  Con l Z EL y_21 jdk_41_method_11_code 3 (some .int) [] ({ frames := 0, cells := 0, slots := 0, locals := 0 } : Room) #[(.int ii), (.int nn), fm] h0 n0 (Q_prc Z ii nn fm h0) := by
 refine Con.intro (own := "jdk/internal/util/Preconditions") rfl (plainFor_of_name plain_jdk_internal_util_Preconditions) (hEL hw) ?_
 intro p e s m below meth c s₁ hx hby hml hret hlk hnm W0
 refine Fi.cast (show entryFrame m #[(.int ii), (.int nn), fm] 3 = (mkF m 0 #[.val (.int ii), .val (.int nn), .val fm] []) from by first | (simp [entryFrame, mkF, argsToLocals, Value.category]; done) | rfl | (rcases ref_cases rf with rfl | ⟨_, rfl⟩ <;> rfl)) ?_
 refine Fi.by' (st' := s₁.setTop (mkF m 1 #[.val (.int ii), .val (.int nn), .val fm] [(.int ii)])) (fun t k => ?_) ?_
 ·refine XS.iloadN W0.here hx rfl (hb hby d18_0) rfl ?_
  exact k
 refine Fi.by' (st' := s₁.setTop (mkF m 6 #[.val (.int ii), .val (.int nn), .val fm] [(.int nn), (.int ii)])) (fun t k => ?_) ?_
 ·refine XS.ifNo W0.here hx rfl (hb hby d18_1) rfl ((if0 _ _).trans (flt q0).1) ?_
  refine XS.iloadN W0.here hx rfl (hb hby d18_4) rfl ?_
  refine XS.iloadN W0.here hx rfl (hb hby d18_5) rfl ?_
  exact k
 refine Fi.by' (st' := s₁.setTop (mkF m 17 #[.val (.int ii), .val (.int nn), .val fm] [(.int ii)])) (fun t k => ?_) ?_
 ·refine XS.icmpYes W0.here hx rfl (pc0 := 6) (pc' := 16) rfl (hb hby d18_6) rfl (tlt q1).1 (by decide) (by decide) ?_
  refine XS.iloadN W0.here hx rfl (hb hby d18_16) rfl ?_
  exact k
 exact W0.iret hx hlk hret (by simp) rfl (hb hby d18_17) ⟨rfl, rfl⟩ (by decide) (by decide)
def Q_sci (Z : State) (ii nn : Int32) (fm : Value) (h0 : Heap) (v : Option Value) (h : Heap) : Prop := v = none ∧ h0 = h
set_option maxRecDepth 65536 in
set_option maxHeartbeats 40000000 in
theorem rm_sci (l : Launch) (Z : State) (a0 : Array Value) (hw : ∀ d ∈ tables_1, d.before a0 Z = true) (ii nn : Int32) (fm : Value) (h0 : Heap) (n0 : Nat) (Z0 : n0 ≤ h0.size) (G0 : Sta Z h0 "jdk/internal/util/Preconditions" "SIOOBE_FORMATTER" "Ljava/util/function/BiFunction;" fm) (rf : fm.isRef = true) (q0 : ¬ ii < 0) (q1 : ii < nn) :
  Con l Z EL y_22 jdk_42_method_155_code 2 none [] ({ frames := 1, cells := 0, slots := 0, locals := 14 } : Room) #[(.int ii), (.int nn)] h0 n0 (Q_sci Z ii nn fm h0) := by
 refine Con.intro (own := "java/lang/String") rfl (plainFor_of_name plain_java_lang_String) (hEL hw) ?_
 intro p e s m below meth c s₁ hx hby hml hret hlk hnm W0
 refine Fi.cast (show entryFrame m #[(.int ii), (.int nn)] 2 = (mkF m 0 #[.val (.int ii), .val (.int nn)] []) from by first | (simp [entryFrame, mkF, argsToLocals, Value.category]; done) | rfl) ?_
 refine Fi.by' (st' := s₁.setTop (mkF m 2 #[.val (.int ii), .val (.int nn)] [(.int nn), (.int ii)])) (fun t k => ?_) ?_
 ·refine XS.iloadN W0.here hx rfl (hb hby d17_0) rfl ?_
  refine XS.iloadN W0.here hx rfl (hb hby d17_1) rfl ?_
  exact k
 refine W0.getS hx (ww hw 81 rfl) G0 (g := (mkF m 2 #[.val (.int ii), .val (.int nn)] [(.int nn), (.int ii)])) rfl (hb hby d17_2) (fun T1 W1 => ?_)
 change Fi _ _ _ _ _ _ _ _ _ _ (T1.setTop (mkF m 5 #[.val (.int ii), .val (.int nn)] [fm, (.int nn), (.int ii)]))
 refine W1.callS hx (y := y_21) (ww hw 83 rfl) (ww hw 84 rfl) (ww hw 82 rfl) (ww hw 85 rfl) (by decide) (Pay.of_con (Wd := 0) (rm_prc l Z a0 hw ii nn fm h0 n0 (by omega) rf q0 q1) (ww hw 85 rfl) (ww hw 82 rfl) (hEL hw) (by decide) (by decide)) (g := (mkF m 5 #[.val (.int ii), .val (.int nn)] [fm, (.int nn), (.int ii)])) rfl (by rw [hml]; rfl) (argsL := [(.int ii), (.int nn), fm]) (rest := []) (lenOf pd_9 rfl) rfl rfl (ble_ rfl) (hb hby d17_5) (by decide) (by decide) (fun v2 T2 h2 W2 sz2 q2 => ?_)
 obtain ⟨rfl, rfl⟩ := q2
 change Fi _ _ _ _ _ _ _ _ _ _ (T2.setTop (mkF m 8 #[.val (.int ii), .val (.int nn)] [(.int ii)]))
 refine Fi.by' (st' := T2.setTop (mkF m 9 #[.val (.int ii), .val (.int nn)] [])) (fun t k => ?_) ?_
 ·refine XS.pop W2.here hx rfl (hb hby d17_8) rfl rfl ?_
  exact k
 exact W2.vret hx hlk hret (hb hby d17_9) ⟨rfl, rfl⟩ (by decide) (by decide)
def Q_uci (Z : State) (t : Addr) (fm : Value) (iN : Nat) (cs : List Int32) (kb : ClassId) (h0 : Heap) (v : Option Value) (h : Heap) : Prop := v = none ∧ h0 = h
set_option maxRecDepth 65536 in
set_option maxHeartbeats 40000000 in
theorem rm_uci (l : Launch) (Z : State) (a0 : Array Value) (hw : ∀ d ∈ tables_1, d.before a0 Z = true) (t : Addr) (fm : Value) (iN : Nat) (cs : List Int32) (kb : ClassId) (h0 : Heap) (n0 : Nat) (Z0 : n0 ≤ h0.size) (G0 : Sta Z h0 "jdk/internal/util/Preconditions" "SIOOBE_FORMATTER" "Ljava/util/function/BiFunction;" fm) (rf : fm.isRef = true) (B0 : Arv Z h0 t kb .byte (Int32.ofNat (2 * cs.length)) (StrChars.Road.wideBytes cs) (.int 0)) (h4 : cs.length ≤ 4) (hi : iN < cs.length) :
  Con l Z EL y_23 jdk_52_method_91_code 2 none [] ({ frames := 2, cells := 0, slots := 0, locals := 27 } : Room) #[(.int (Int32.ofNat iN)), (.ref t)] h0 n0 (Q_uci Z t fm iN cs kb h0) := by
 refine Con.intro (own := "java/lang/StringUTF16") rfl (plainFor_of_name plain_java_lang_StringUTF16) (hEL hw) ?_
 intro p e s m below meth c s₁ hx hby hml hret hlk hnm W0
 refine Fi.cast (show entryFrame m #[(.int (Int32.ofNat iN)), (.ref t)] 2 = (mkF m 0 #[.val (.int (Int32.ofNat iN)), .val (.ref t)] []) from by first | (simp [entryFrame, mkF, argsToLocals, Value.category]; done) | rfl) ?_
 refine Fi.by' (st' := s₁.setTop (mkF m 2 #[.val (.int (Int32.ofNat iN)), .val (.ref t)] [(.ref t), (.int (Int32.ofNat iN))])) (fun t k => ?_) ?_
 ·refine XS.iloadN W0.here hx rfl (hb hby d27_0) rfl ?_
  refine XS.aloadN W0.here hx rfl (hb hby d27_1) rfl rfl ?_
  exact k
 refine W0.callS hx (y := y_20) (ww hw 122 rfl) (ww hw 123 rfl) (ww hw 45 rfl) (ww hw 124 rfl) (by decide) (Pay.of_con (Wd := 1) (rm_uln l Z a0 hw t _ kb _ h0 n0 (by omega) B0) (ww hw 124 rfl) (ww hw 45 rfl) (hEL hw) (by decide) (by decide)) (g := (mkF m 2 #[.val (.int (Int32.ofNat iN)), .val (.ref t)] [(.ref t), (.int (Int32.ofNat iN))])) rfl (by rw [hml]; rfl) (argsL := [(.ref t)]) (rest := [(.int (Int32.ofNat iN))]) (lenOf pd_10 rfl) rfl rfl (ble_ rfl) (hb hby d27_2) (by decide) (by decide) (fun v1 T1 h1 W1 sz1 q1 => ?_)
 obtain ⟨rfl, rfl⟩ := q1
 change Fi _ _ _ _ _ _ _ _ _ _ (T1.setTop (mkF m 5 #[.val (.int (Int32.ofNat iN)), .val (.ref t)] [(.int ((Int32.ofNat (2 * cs.length)) >>> ((1 : Int32) &&& 31))), (.int (Int32.ofNat iN))]))
 rw [StrChars.shr1 (n := cs.length) (by omega)]
 refine W1.callS hx (y := y_22) (ww hw 125 rfl) (ww hw 79 rfl) (ww hw 9 rfl) (ww hw 80 rfl) (by decide) (Pay.of_con (Wd := 0) (rm_sci l Z a0 hw _ _ fm h0 n0 (by omega) G0 rf (ofNat_lt hi (by omega)).1 (ofNat_lt hi (by omega)).2) (ww hw 80 rfl) (ww hw 9 rfl) (hEL hw) (by decide) (by decide)) (g := (mkF m 5 #[.val (.int (Int32.ofNat iN)), .val (.ref t)] [(.int (Int32.ofNat cs.length)), (.int (Int32.ofNat iN))])) rfl (by rw [hml]; rfl) (argsL := [(.int (Int32.ofNat iN)), (.int (Int32.ofNat cs.length))]) (rest := []) (lenOf pd_11 rfl) rfl rfl (ble_ rfl) (hb hby d27_5) (by decide) (by decide) (fun v2 T2 h2 W2 sz2 q2 => ?_)
 obtain ⟨rfl, rfl⟩ := q2
 change Fi _ _ _ _ _ _ _ _ _ _ (T2.setTop (mkF m 8 #[.val (.int (Int32.ofNat iN)), .val (.ref t)] []))
 exact W2.vret hx hlk hret (hb hby d27_8) ⟨rfl, rfl⟩ (by decide) (by decide)
def Q_uch (Z : State) (t : Addr) (fm : Value) (iN : Nat) (cs : List Int32) (kb : ClassId) (h0 : Heap) (v : Option Value) (h : Heap) : Prop := v = some (.int (cs.getD iN 0)) ∧ h0 = h
set_option maxRecDepth 65536 in
set_option maxHeartbeats 40000000 in
theorem rm_uch (l : Launch) (Z : State) (a0 : Array Value) (hw : ∀ d ∈ tables_1, d.before a0 Z = true) (t : Addr) (fm : Value) (iN : Nat) (cs : List Int32) (kb : ClassId) (h0 : Heap) (n0 : Nat) (Z0 : n0 ≤ h0.size) (G0 : Sta Z h0 "jdk/internal/util/Preconditions" "SIOOBE_FORMATTER" "Ljava/util/function/BiFunction;" fm) (rf : fm.isRef = true) (D0 : Sta Z h0 "java/lang/StringUTF16" "$assertionsDisabled" "Z" (.int 1)) (HB0 : Sta Z h0 "java/lang/StringUTF16" "HI_BYTE_SHIFT" "I" (.int 0)) (LB0 : Sta Z h0 "java/lang/StringUTF16" "LO_BYTE_SHIFT" "I" (.int 8)) (B0 : Arv Z h0 t kb .byte (Int32.ofNat (2 * cs.length)) (StrChars.Road.wideBytes cs) (.int 0)) (h4 : cs.length ≤ 4) (hi : iN < cs.length) (hr : ∀ c ∈ cs, ¬ c < 0 ∧ ¬ (65535 : Int32) < c) :
  Con l Z EL y_24 jdk_52_method_83_code 2 (some .char) [] ({ frames := 3, cells := 0, slots := 0, locals := 40 } : Room) #[(.ref t), (.int (Int32.ofNat iN))] h0 n0 (Q_uch Z t fm iN cs kb h0) := by
 refine Con.intro (own := "java/lang/StringUTF16") rfl (plainFor_of_name plain_java_lang_StringUTF16) (hEL hw) ?_
 intro p e s m below meth c s₁ hx hby hml hret hlk hnm W0
 refine Fi.cast (show entryFrame m #[(.ref t), (.int (Int32.ofNat iN))] 2 = (mkF m 0 #[.val (.ref t), .val (.int (Int32.ofNat iN))] []) from by first | (simp [entryFrame, mkF, argsToLocals, Value.category]; done) | rfl) ?_
 refine Fi.by' (st' := s₁.setTop (mkF m 2 #[.val (.ref t), .val (.int (Int32.ofNat iN))] [(.ref t), (.int (Int32.ofNat iN))])) (fun t k => ?_) ?_
 ·refine XS.iloadN W0.here hx rfl (hb hby d26_0) rfl ?_
  refine XS.aloadN W0.here hx rfl (hb hby d26_1) rfl rfl ?_
  exact k
 refine W0.callS hx (y := y_23) (ww hw 119 rfl) (ww hw 120 rfl) (ww hw 45 rfl) (ww hw 121 rfl) (by decide) (Pay.of_con (Wd := 0) (rm_uci l Z a0 hw t fm iN cs kb h0 n0 (by omega) G0 rf B0 h4 hi) (ww hw 121 rfl) (ww hw 45 rfl) (hEL hw) (by decide) (by decide)) (g := (mkF m 2 #[.val (.ref t), .val (.int (Int32.ofNat iN))] [(.ref t), (.int (Int32.ofNat iN))])) rfl (by rw [hml]; rfl) (argsL := [(.int (Int32.ofNat iN)), (.ref t)]) (rest := []) (lenOf pd_12 rfl) rfl rfl (ble_ rfl) (hb hby d26_2) (by decide) (by decide) (fun v1 T1 h1 W1 sz1 q1 => ?_)
 obtain ⟨rfl, rfl⟩ := q1
 change Fi _ _ _ _ _ _ _ _ _ _ (T1.setTop (mkF m 5 #[.val (.ref t), .val (.int (Int32.ofNat iN))] []))
 refine Fi.by' (st' := T1.setTop (mkF m 7 #[.val (.ref t), .val (.int (Int32.ofNat iN))] [(.int (Int32.ofNat iN)), (.ref t)])) (fun t k => ?_) ?_
 ·refine XS.aloadN W1.here hx rfl (hb hby d26_5) rfl rfl ?_
  refine XS.iloadN W1.here hx rfl (hb hby d26_6) rfl ?_
  exact k
 refine W1.callS hx (y := y_11) (ww hw 111 rfl) (ww hw 112 rfl) (ww hw 45 rfl) (ww hw 113 rfl) (by decide) (Pay.of_con (Wd := 0) (rm_getC l Z a0 hw t (Int32.ofNat iN) _ _ _ iN _ kb h0 n0 (by omega) D0 HB0 LB0 rfl (by omega) (by rw [show (Int32.ofNat (2 * cs.length)).toNatClampNeg = 2 * cs.length from by simp only [Int32.toNatClampNeg, show (Int32.ofNat (2 * cs.length)).toInt = ((2 * cs.length : Nat) : Int) from len_toInt (by omega)]; omega]; omega) B0 (StrChars.Road.wide_lo _ cs iN hi) (StrChars.Road.wide_hi _ cs iN hi)) (ww hw 113 rfl) (ww hw 45 rfl) (hEL hw) (by decide) (by decide)) (g := (mkF m 7 #[.val (.ref t), .val (.int (Int32.ofNat iN))] [(.int (Int32.ofNat iN)), (.ref t)])) rfl (by rw [hml]; rfl) (argsL := [(.ref t), (.int (Int32.ofNat iN))]) (rest := []) (lenOf pd_6 rfl) rfl rfl (ble_ rfl) (hb hby d26_7) (by decide) (by decide) (fun v2 T2 h2 W2 sz2 q2 => ?_)
 obtain ⟨rfl, rfl⟩ := q2
 change Fi _ _ _ _ _ _ _ _ _ _ (T2.setTop (mkF m 10 #[.val (.ref t), .val (.int (Int32.ofNat iN))] [(.int (StrChars.pairCh (StrChars.lo8 (cs.getD iN 0)) (StrChars.hi8 (cs.getD iN 0))))]))
 rw [StrChars.pair_says (getD_rng hi hr).1 (getD_rng hi hr).2]
 exact W2.iret hx hlk hret (by simp) (ch_nar16 (getD_rng hi hr)) (hb hby d26_10) ⟨rfl, rfl⟩ (by decide) (by decide)
def Q_sch (Z : State) (x t : Addr) (zc : Int32) (fm : Value) (iN : Nat) (cs : List Int32) (kb : ClassId) (h0 : Heap) (v : Option Value) (h : Heap) : Prop := v = some (.int (cs.getD iN 0)) ∧ h0 = h
set_option maxRecDepth 65536 in
set_option maxHeartbeats 40000000 in
theorem rm_sch (l : Launch) (Z : State) (a0 : Array Value) (hw : ∀ d ∈ tables_1, d.before a0 Z = true) (x t : Addr) (zc : Int32) (fm : Value) (iN : Nat) (cs : List Int32) (kb : ClassId) (h0 : Heap) (n0 : Nat) (Z0 : n0 ≤ h0.size) (A0 : Exa Z h0 x "java/lang/String") (V0 : Fld Z h0 x "java/lang/String" "value" "[B" (.ref t)) (C1 : Fld Z h0 x "java/lang/String" "coder" "B" (.int 1)) (B0 : Arv Z h0 t kb .byte (Int32.ofNat (2 * cs.length)) (StrChars.Road.wideBytes cs) (.int 0)) (hr : ∀ c ∈ cs, ¬ c < 0 ∧ ¬ (65535 : Int32) < c) (h4 : cs.length ≤ 4) (hi : iN < cs.length) (S0 : Sta Z h0 "java/lang/String" "COMPACT_STRINGS" "Z" (.int zc)) (hz : ¬ zc = 0) (G0 : Sta Z h0 "jdk/internal/util/Preconditions" "SIOOBE_FORMATTER" "Ljava/util/function/BiFunction;" fm) (rf : fm.isRef = true) (D0 : Sta Z h0 "java/lang/StringUTF16" "$assertionsDisabled" "Z" (.int 1)) (HB0 : Sta Z h0 "java/lang/StringUTF16" "HI_BYTE_SHIFT" "I" (.int 0)) (LB0 : Sta Z h0 "java/lang/StringUTF16" "LO_BYTE_SHIFT" "I" (.int 8)) :
  Con l Z EL y_1 jdk_42_method_56_code 2 (some .char) [] ({ frames := 4, cells := 0, slots := 0, locals := 53 } : Room) #[(.ref x), (.int (Int32.ofNat iN))] h0 n0 (Q_sch Z x t zc fm iN cs kb h0) := by
 refine Con.intro (own := "java/lang/String") rfl (plainFor_of_name plain_java_lang_String) (hEL hw) ?_
 intro p e s m below meth c s₁ hx hby hml hret hlk hnm W0
 refine Fi.cast (show entryFrame m #[(.ref x), (.int (Int32.ofNat iN))] 2 = (mkF m 0 #[.val (.ref x), .val (.int (Int32.ofNat iN))] []) from by first | (simp [entryFrame, mkF, argsToLocals, Value.category]; done) | rfl) ?_
 refine Fi.by' (st' := s₁.setTop (mkF m 1 #[.val (.ref x), .val (.int (Int32.ofNat iN))] [(.ref x)])) (fun t k => ?_) ?_
 ·refine XS.aloadN W0.here hx rfl (hb hby d14_0) rfl rfl ?_
  exact k
 refine W0.callV hx (y := y_19) (C := "java/lang/String") (ww hw 69 rfl) (ww hw 70 rfl) (ww hw 72 rfl) (ww hw 71 rfl) (by decide) (Pay.of_con (Wd := 0) (rm_isl l Z a0 hw x zc h0 n0 (by omega) S0 hz C1) (ww hw 73 rfl) (ww hw 9 rfl) (hEL hw) (by decide) (by decide)) A0 (g := (mkF m 1 #[.val (.ref x), .val (.int (Int32.ofNat iN))] [(.ref x)])) rfl (by rw [hml]; rfl) (argsL := []) (rest := []) (lenOf pd_13 rfl) rfl rfl (ble_ rfl) (hb hby d14_1) (by decide) (by decide) (fun v1 T1 h1 W1 sz1 q1 => ?_)
 obtain ⟨rfl, rfl⟩ := q1
 change Fi _ _ _ _ _ _ _ _ _ _ (T1.setTop (mkF m 4 #[.val (.ref x), .val (.int (Int32.ofNat iN))] [(.int (0 : Int32))]))
 refine Fi.by' (st' := T1.setTop (mkF m 17 #[.val (.ref x), .val (.int (Int32.ofNat iN))] [(.ref x)])) (fun t k => ?_) ?_
 ·refine XS.ifYes W1.here hx rfl (pc0 := 4) (pc' := 16) rfl (hb hby d14_4) rfl ((if0 _ _).trans (teq (by decide : ((0 : Int32) = (0 : Int32)))).1) (by decide) (by decide) ?_
  refine XS.aloadN W1.here hx rfl (hb hby d14_16) rfl rfl ?_
  exact k
 refine W1.getF hx (ww hw 26 rfl) V0 (g := (mkF m 17 #[.val (.ref x), .val (.int (Int32.ofNat iN))] [(.ref x)])) rfl rfl (hb hby d14_17) (fun T2 W2 => ?_)
 change Fi _ _ _ _ _ _ _ _ _ _ (T2.setTop (mkF m 20 #[.val (.ref x), .val (.int (Int32.ofNat iN))] [(.ref t)]))
 refine Fi.by' (st' := T2.setTop (mkF m 21 #[.val (.ref x), .val (.int (Int32.ofNat iN))] [(.int (Int32.ofNat iN)), (.ref t)])) (fun t k => ?_) ?_
 ·refine XS.iloadN W2.here hx rfl (hb hby d14_20) rfl ?_
  exact k
 refine W2.callS hx (y := y_24) (ww hw 116 rfl) (ww hw 117 rfl) (ww hw 45 rfl) (ww hw 118 rfl) (by decide) (Pay.of_con (Wd := 0) (rm_uch l Z a0 hw t fm iN cs kb h0 n0 (by omega) G0 rf D0 HB0 LB0 B0 h4 hi hr) (ww hw 118 rfl) (ww hw 45 rfl) (hEL hw) (by decide) (by decide)) (g := (mkF m 21 #[.val (.ref x), .val (.int (Int32.ofNat iN))] [(.int (Int32.ofNat iN)), (.ref t)])) rfl (by rw [hml]; rfl) (argsL := [(.ref t), (.int (Int32.ofNat iN))]) (rest := []) (lenOf pd_6 rfl) rfl rfl (ble_ rfl) (hb hby d14_21) (by decide) (by decide) (fun v3 T3 h3 W3 sz3 q3 => ?_)
 obtain ⟨rfl, rfl⟩ := q3
 change Fi _ _ _ _ _ _ _ _ _ _ (T3.setTop (mkF m 24 #[.val (.ref x), .val (.int (Int32.ofNat iN))] [(.int (cs.getD iN 0))]))
 exact W3.iret hx hlk hret (by simp) (ch_nar16 (getD_rng hi hr)) (hb hby d14_24) ⟨rfl, rfl⟩ (by decide) (by decide)
section PaidL
variable {p : Program} {l : Launch} {e : Env} {R : Room} {s : State} {args : Array Value} {below : List Frame} {Z : State} {a0 : Array Value} {n0 : Nat} {h : Heap}
theorem wsLen {a0 : Array Value} {Z : State} (hw : ∀ d ∈ tables_1, d.before a0 Z = true) : ∀ d ∈ StrChars.Road.wordsLen, d.before a0 Z = true := fun d hd => hw d ((by decide +kernel : ∀ d ∈ StrChars.Road.wordsLen, d ∈ tables_1) d hd)
theorem payLen (hw : ∀ d ∈ tables_1, d.before a0 Z = true) {Wd : Nat} {x : Addr} {cs : List Int32} {z : Int32} (F : StrA Z h x cs) (S : Sta Z h "java/lang/String" "COMPACT_STRINGS" "Z" (.int z)) (hz : ¬ z = 0) (hf : 2 ≤ R.frames) (hl : Wd + 25 ≤ R.locals) :
  Pay l R p e below s args Z EL n0 y_0 Wd #[.ref x] h (fun v h' => v = some (.int (Int32.ofNat cs.length)) ∧ h = h') 0 0 := by
 obtain ⟨t1, k1, cd, N2, vs, a1, a2, a3, a4, a5, a6, a7⟩ := F
 refine Pay.of_back (ws := []) (hEL hw) (fun vm0 hZ => Back.mono (StrChars.Road.lenW (s := s.setVm vm0) hZ (wsLen hw) (ww hw 8 rfl) a1 a2 a3 a4 a5 a6 S hz a7 hf hl) (fun _ _ q => q) (fun _ _ v B _ q => ?_)) (fun _ _ _ _ q => (nomatch q))
 obtain ⟨L, ⟨q1, rfl, q3⟩, r1, r2, r3⟩ := q
 exact ⟨[], ⟨Fr.nil _, by rw [q3]; exact Keep.refl _ _, q1, q3.symm⟩, r1, r2, r3⟩
end PaidL
section PaidC
variable {p : Program} {l : Launch} {e : Env} {R : Room} {s : State} {args : Array Value} {below : List Frame} {Z : State} {a0 : Array Value} {n0 : Nat} {h : Heap}
theorem wsCh {a0 : Array Value} {Z : State} (hw : ∀ d ∈ tables_1, d.before a0 Z = true) : ∀ d ∈ StrChars.Road.wordsChN, d.before a0 Z = true := fun d hd => hw d ((by decide +kernel : ∀ d ∈ StrChars.Road.wordsChN, d ∈ tables_1) d hd)
theorem payCh (hw : ∀ d ∈ tables_1, d.before a0 Z = true) {Wd i : Nat} {x : Addr} {cs : List Int32} {z j : Int32} {fm : Value} (F : StrA Z h x cs) (h4 : cs.length ≤ 4) (S : Sta Z h "java/lang/String" "COMPACT_STRINGS" "Z" (.int z)) (hz : ¬ z = 0) (G : Sta Z h "jdk/internal/util/Preconditions" "SIOOBE_FORMATTER" "Ljava/util/function/BiFunction;" fm) (rf : fm.isRef = true) (D0 : Sta Z h "java/lang/StringUTF16" "$assertionsDisabled" "Z" (.int 1)) (HB0 : Sta Z h "java/lang/StringUTF16" "HI_BYTE_SHIFT" "I" (.int 0)) (LB0 : Sta Z h "java/lang/StringUTF16" "LO_BYTE_SHIFT" "I" (.int 8)) (Z0 : n0 ≤ h.size) (hi : i < cs.length) (hj : j = Int32.ofNat i) (hf : 5 ≤ R.frames) (hl : Wd + 66 ≤ R.locals) :
  Pay l R p e below s args Z EL n0 y_1 Wd #[.ref x, .int j] h (fun v h' => v = some (.int (cs.getD i 0)) ∧ h = h') 0 0 := by
 obtain ⟨t1, k1, cd, N2, vs, a1, a2, a3, a4, a5, a6, a7⟩ := F
 rcases id a5 with ⟨rfl, rfl, rfl, b4⟩ | ⟨rfl, rfl, rfl, -⟩
 ·refine Pay.of_back (ws := []) (hEL hw) (fun vm0 hZ => Back.mono (StrChars.Road.chN (s := s.setVm vm0) hZ (wsCh hw) (ww hw 8 rfl) a1 a2 a3 a4 a5 a6 S hz G rf a7 hi hj (Nat.le_trans (by decide) hf) (Nat.le_trans (Nat.add_le_add_left (by decide) _) hl)) (fun _ _ q => q) (fun _ _ v B _ q => ?_)) (fun _ _ _ _ q => (nomatch q))
  obtain ⟨L, ⟨q1, rfl, q3⟩, r1, r2, r3⟩ := q
  exact ⟨[], ⟨Fr.nil _, by rw [q3]; exact Keep.refl _ _, q1, q3.symm⟩, r1, r2, r3⟩
 ·subst hj
  exact Pay.of_con (rm_sch l Z a0 hw x t1 z fm i cs k1 h n0 Z0 a1 a2 a3 a4 a6 h4 hi S hz G rf D0 HB0 LB0) (ww hw 68 rfl) (ww hw 9 rfl) (hEL hw) hf hl
end PaidC
def Q_enc1 (Z : State) (x : Addr) (zc c0 : Int32) (fm : Value) (h0 : Heap) (v : Option Value) (h : Heap) : Prop := v = some (.int (b2i (encB [c0]))) ∧ h0 = h
set_option maxRecDepth 65536 in
set_option maxHeartbeats 40000000 in
theorem rm_enc1 (l : Launch) (Z : State) (a0 : Array Value) (hw : ∀ d ∈ tables_1, d.before a0 Z = true) (x : Addr) (zc c0 : Int32) (fm : Value) (h0 : Heap) (n0 : Nat) (Z0 : n0 ≤ h0.size) (S0 : Sta Z h0 "java/lang/String" "COMPACT_STRINGS" "Z" (.int zc)) (hz : ¬ zc = 0) (G0 : Sta Z h0 "jdk/internal/util/Preconditions" "SIOOBE_FORMATTER" "Ljava/util/function/BiFunction;" fm) (rf : fm.isRef = true) (D0 : Sta Z h0 "java/lang/StringUTF16" "$assertionsDisabled" "Z" (.int 1)) (HB0 : Sta Z h0 "java/lang/StringUTF16" "HI_BYTE_SHIFT" "I" (.int 0)) (LB0 : Sta Z h0 "java/lang/StringUTF16" "LO_BYTE_SHIFT" "I" (.int 8)) (A0 : StrA Z h0 x [c0]) :
  Con l Z EL y_25 prog_46_method_4_code 3 (some .boolean) [] ({ frames := 5, cells := 0, slots := 0, locals := 66 } : Room) #[(.ref x)] h0 n0 (Q_enc1 Z x zc c0 fm h0) := by
 refine Con.intro (own := "com/example/record_hold/recordhold/text/Utf8") rfl (plainFor_of_name plain_com_example_record_hold_recordhold_text_Utf8) (hEL hw) ?_
 intro p e s m below meth c s₁ hx hby hml hret hlk hnm W0
 refine Fi.cast (show entryFrame m #[(.ref x)] 3 = (mkF m 0 #[.val (.ref x), .unset, .unset] []) from by first | (simp [entryFrame, mkF, argsToLocals, Value.category]; done) | rfl) ?_
 refine Fi.by' (st' := s₁.setTop (mkF m 4 #[.val (.ref x), .val (.int (0 : Int32)), .unset] [(.ref x), (.int (0 : Int32))])) (fun t k => ?_) ?_
 ·refine iconstZ W0.here hx rfl (hb hby d5_0) (z := (0 : Int32)) rfl ?_
  refine XS.istoreN W0.here hx rfl (hb hby d5_1) rfl (l' := #[.val (.ref x), .val (.int (0 : Int32)), .unset]) rfl ?_
  refine XS.iloadN W0.here hx rfl (hb hby d5_2) rfl ?_
  refine XS.aloadN W0.here hx rfl (hb hby d5_3) rfl rfl ?_
  exact k
 refine W0.callV hx (y := y_0) (C := "java/lang/String") (ww hw 32 rfl) (ww hw 33 rfl) (ww hw 35 rfl) (ww hw 34 rfl) (by decide) (payLen (Wd := 1) hw A0 S0 hz (by decide) (by decide)) (A0).exa (g := (mkF m 4 #[.val (.ref x), .val (.int (0 : Int32)), .unset] [(.ref x), (.int (0 : Int32))])) rfl (by rw [hml]; rfl) (argsL := []) (rest := [(.int (0 : Int32))]) (lenOf pd_14 rfl) rfl rfl (ble_ rfl) (hb hby d5_4) (by decide) (by decide) (fun v1 T1 h1 W1 sz1 q1 => ?_)
 obtain ⟨rfl, rfl⟩ := q1
 change Fi _ _ _ _ _ _ _ _ _ _ (T1.setTop (mkF m 7 #[.val (.ref x), .val (.int (0 : Int32)), .unset] [(.int (1 : Int32)), (.int (0 : Int32))]))
 refine Fi.by' (st' := T1.setTop (mkF m 12 #[.val (.ref x), .val (.int (0 : Int32)), .unset] [(.int (0 : Int32)), (.ref x)])) (fun t k => ?_) ?_
 ·refine XS.icmpNo W1.here hx rfl (hb hby d5_7) rfl (tlt (by decide : ((0 : Int32) < (1 : Int32)))).2.1 ?_
  refine XS.aloadN W1.here hx rfl (hb hby d5_10) rfl rfl ?_
  refine XS.iloadN W1.here hx rfl (hb hby d5_11) rfl ?_
  exact k
 refine W1.callV hx (y := y_1) (C := "java/lang/String") (ww hw 64 rfl) (ww hw 65 rfl) (ww hw 67 rfl) (ww hw 66 rfl) (by decide) (payCh (Wd := 0) (i := 0) hw A0 (ble_ rfl) S0 hz G0 rf D0 HB0 LB0 Z0 (ble_ rfl) rfl (by decide) (by decide)) (A0).exa (g := (mkF m 12 #[.val (.ref x), .val (.int (0 : Int32)), .unset] [(.int (0 : Int32)), (.ref x)])) rfl (by rw [hml]; rfl) (argsL := [(.int (0 : Int32))]) (rest := []) (lenOf pd_15 rfl) rfl rfl (ble_ rfl) (hb hby d5_12) (by decide) (by decide) (fun v2 T2 h2 W2 sz2 q2 => ?_)
 obtain ⟨rfl, rfl⟩ := q2
 change Fi _ _ _ _ _ _ _ _ _ _ (T2.setTop (mkF m 15 #[.val (.ref x), .val (.int (0 : Int32)), .unset] [(.int c0)]))
 refine Fi.by' (st' := T2.setTop (mkF m 17 #[.val (.ref x), .val (.int (0 : Int32)), .val (.int c0)] [(.int c0)])) (fun t k => ?_) ?_
 ·refine XS.istoreN W2.here hx rfl (hb hby d5_15) rfl (l' := #[.val (.ref x), .val (.int (0 : Int32)), .val (.int c0)]) rfl ?_
  refine XS.iloadN W2.here hx rfl (hb hby d5_16) rfl ?_
  exact k
 refine W2.callS hx (y := y_6) (ww hw 86 rfl) (ww hw 87 rfl) (ww hw 88 rfl) (ww hw 89 rfl) (by decide) (Pay.of_con (Wd := 0) (rm_chHi l Z a0 hw c0 h0 n0 (by omega)) (ww hw 89 rfl) (ww hw 88 rfl) (hEL hw) (by decide) (by decide)) (g := (mkF m 17 #[.val (.ref x), .val (.int (0 : Int32)), .val (.int c0)] [(.int c0)])) rfl (by rw [hml]; rfl) (argsL := [(.int c0)]) (rest := []) (lenOf pd_0 rfl) rfl rfl (ble_ rfl) (hb hby d5_17) (by decide) (by decide) (fun v3 T3 h3 W3 sz3 q3 => ?_)
 obtain ⟨rfl, rfl⟩ := q3
 change Fi _ _ _ _ _ _ _ _ _ _ (T3.setTop (mkF m 20 #[.val (.ref x), .val (.int (0 : Int32)), .val (.int c0)] [(.int (b2i (hiB c0)))]))
 by_cases hc20_4 : (b2i (hiB c0)) = (0 : Int32)
 ·refine Fi.by' (st' := T3.setTop (mkF m 53 #[.val (.ref x), .val (.int (0 : Int32)), .val (.int c0)] [(.int c0)])) (fun t k => ?_) ?_
  ·refine XS.ifYes W3.here hx rfl (pc0 := 20) (pc' := 52) rfl (hb hby d5_20) rfl ((if0 _ _).trans (teq hc20_4).1) (by decide) (by decide) ?_
   refine XS.iloadN W3.here hx rfl (hb hby d5_52) rfl ?_
   exact k
  refine W3.callS hx (y := y_8) (ww hw 91 rfl) (ww hw 92 rfl) (ww hw 88 rfl) (ww hw 93 rfl) (by decide) (Pay.of_con (Wd := 0) (rm_chSu l Z a0 hw c0 h0 n0 (by omega)) (ww hw 93 rfl) (ww hw 88 rfl) (hEL hw) (by decide) (by decide)) (g := (mkF m 53 #[.val (.ref x), .val (.int (0 : Int32)), .val (.int c0)] [(.int c0)])) rfl (by rw [hml]; rfl) (argsL := [(.int c0)]) (rest := []) (lenOf pd_0 rfl) rfl rfl (ble_ rfl) (hb hby d5_53) (by decide) (by decide) (fun v5 T5 h5 W5 sz5 q5 => ?_)
  obtain ⟨rfl, rfl⟩ := q5
  change Fi _ _ _ _ _ _ _ _ _ _ (T5.setTop (mkF m 56 #[.val (.ref x), .val (.int (0 : Int32)), .val (.int c0)] [(.int (b2i (suB c0)))]))
  by_cases hc56_6 : (b2i (suB c0)) = (0 : Int32)
  ·refine Fi.by' (st' := T5.setTop (mkF m 4 #[.val (.ref x), .val (.int (1 : Int32)), .val (.int c0)] [(.ref x), (.int (1 : Int32))])) (fun t k => ?_) ?_
   ·refine XS.ifYes W5.here hx rfl (pc0 := 56) (pc' := 61) rfl (hb hby d5_56) rfl ((if0 _ _).trans (teq hc56_6).1) (by decide) (by decide) ?_
    refine XS.iinc W5.here hx rfl (hb hby d5_61) rfl (l' := #[.val (.ref x), .val (.int (1 : Int32)), .val (.int c0)]) rfl ?_
    refine XS.goto W5.here hx rfl (pc0 := 64) (pc' := 2) rfl (hb hby d5_64) (by decide) (by decide) ?_
    refine XS.iloadN W5.here hx rfl (hb hby d5_2) rfl ?_
    refine XS.aloadN W5.here hx rfl (hb hby d5_3) rfl rfl ?_
    exact k
   refine W5.callV hx (y := y_0) (C := "java/lang/String") (ww hw 32 rfl) (ww hw 33 rfl) (ww hw 35 rfl) (ww hw 34 rfl) (by decide) (payLen (Wd := 1) hw A0 S0 hz (by decide) (by decide)) (A0).exa (g := (mkF m 4 #[.val (.ref x), .val (.int (1 : Int32)), .val (.int c0)] [(.ref x), (.int (1 : Int32))])) rfl (by rw [hml]; rfl) (argsL := []) (rest := [(.int (1 : Int32))]) (lenOf pd_14 rfl) rfl rfl (ble_ rfl) (hb hby d5_4) (by decide) (by decide) (fun v7 T7 h7 W7 sz7 q7 => ?_)
   obtain ⟨rfl, rfl⟩ := q7
   change Fi _ _ _ _ _ _ _ _ _ _ (T7.setTop (mkF m 7 #[.val (.ref x), .val (.int (1 : Int32)), .val (.int c0)] [(.int (1 : Int32)), (.int (1 : Int32))]))
   refine Fi.by' (st' := T7.setTop (mkF m 68 #[.val (.ref x), .val (.int (1 : Int32)), .val (.int c0)] [(.int (1 : Int32))])) (fun t k => ?_) ?_
   ·refine XS.icmpYes W7.here hx rfl (pc0 := 7) (pc' := 67) rfl (hb hby d5_7) rfl (flt (by decide : ¬ ((1 : Int32) < (1 : Int32)))).2.1 (by decide) (by decide) ?_
    refine iconstZ W7.here hx rfl (hb hby d5_67) (z := (1 : Int32)) rfl ?_
    exact k
   have f0 := b2i_f hc20_4
   have f1 := b2i_f hc56_6
   have hv : b2i (encB [c0]) = (1 : Int32) := by simp [b2i, encB, f0, f1]
   exact W7.iret hx hlk hret (by simp) rfl (hb hby d5_68) ⟨by rw [hv], rfl⟩ (by decide) (by decide)
  ·refine Fi.by' (st' := T5.setTop (mkF m 60 #[.val (.ref x), .val (.int (0 : Int32)), .val (.int c0)] [(.int (0 : Int32))])) (fun t k => ?_) ?_
   ·refine XS.ifNo W5.here hx rfl (hb hby d5_56) rfl ((if0 _ _).trans (feq hc56_6).1) ?_
    refine iconstZ W5.here hx rfl (hb hby d5_59) (z := (0 : Int32)) rfl ?_
    exact k
   have f0 := b2i_f hc20_4
   have f1 := b2i_t hc56_6
   have hv : b2i (encB [c0]) = (0 : Int32) := by simp [b2i, encB, f0, f1]
   exact W5.iret hx hlk hret (by simp) rfl (hb hby d5_60) ⟨by rw [hv], rfl⟩ (by decide) (by decide)
 ·refine Fi.by' (st' := T3.setTop (mkF m 27 #[.val (.ref x), .val (.int (0 : Int32)), .val (.int c0)] [(.ref x), (.int (1 : Int32))])) (fun t k => ?_) ?_
  ·refine XS.ifNo W3.here hx rfl (hb hby d5_20) rfl ((if0 _ _).trans (feq hc20_4).1) ?_
   refine XS.iloadN W3.here hx rfl (hb hby d5_23) rfl ?_
   refine iconstZ W3.here hx rfl (hb hby d5_24) (z := (1 : Int32)) rfl ?_
   refine XS.iadd W3.here hx rfl (hb hby d5_25) rfl ?_
   refine XS.aloadN W3.here hx rfl (hb hby d5_26) rfl rfl ?_
   exact k
  refine W3.callV hx (y := y_0) (C := "java/lang/String") (ww hw 32 rfl) (ww hw 33 rfl) (ww hw 35 rfl) (ww hw 34 rfl) (by decide) (payLen (Wd := 1) hw A0 S0 hz (by decide) (by decide)) (A0).exa (g := (mkF m 27 #[.val (.ref x), .val (.int (0 : Int32)), .val (.int c0)] [(.ref x), (.int (1 : Int32))])) rfl (by rw [hml]; rfl) (argsL := []) (rest := [(.int (1 : Int32))]) (lenOf pd_14 rfl) rfl rfl (ble_ rfl) (hb hby d5_27) (by decide) (by decide) (fun v8 T8 h8 W8 sz8 q8 => ?_)
  obtain ⟨rfl, rfl⟩ := q8
  change Fi _ _ _ _ _ _ _ _ _ _ (T8.setTop (mkF m 30 #[.val (.ref x), .val (.int (0 : Int32)), .val (.int c0)] [(.int (1 : Int32)), (.int (1 : Int32))]))
  refine Fi.by' (st' := T8.setTop (mkF m 53 #[.val (.ref x), .val (.int (0 : Int32)), .val (.int c0)] [(.int c0)])) (fun t k => ?_) ?_
  ·refine XS.icmpYes W8.here hx rfl (pc0 := 30) (pc' := 52) rfl (hb hby d5_30) rfl (flt (by decide : ¬ ((1 : Int32) < (1 : Int32)))).2.1 (by decide) (by decide) ?_
   refine XS.iloadN W8.here hx rfl (hb hby d5_52) rfl ?_
   exact k
  refine W8.callS hx (y := y_8) (ww hw 91 rfl) (ww hw 92 rfl) (ww hw 88 rfl) (ww hw 93 rfl) (by decide) (Pay.of_con (Wd := 0) (rm_chSu l Z a0 hw c0 h0 n0 (by omega)) (ww hw 93 rfl) (ww hw 88 rfl) (hEL hw) (by decide) (by decide)) (g := (mkF m 53 #[.val (.ref x), .val (.int (0 : Int32)), .val (.int c0)] [(.int c0)])) rfl (by rw [hml]; rfl) (argsL := [(.int c0)]) (rest := []) (lenOf pd_0 rfl) rfl rfl (ble_ rfl) (hb hby d5_53) (by decide) (by decide) (fun v9 T9 h9 W9 sz9 q9 => ?_)
  obtain ⟨rfl, rfl⟩ := q9
  change Fi _ _ _ _ _ _ _ _ _ _ (T9.setTop (mkF m 56 #[.val (.ref x), .val (.int (0 : Int32)), .val (.int c0)] [(.int (b2i (suB c0)))]))
  have su10 : suB c0 = true := by rw [su_is, b2i_t hc20_4]; rfl
  refine Fi.by' (st' := T9.setTop (mkF m 60 #[.val (.ref x), .val (.int (0 : Int32)), .val (.int c0)] [(.int (0 : Int32))])) (fun t k => ?_) ?_
  ·refine XS.ifNo W9.here hx rfl (hb hby d5_56) rfl ((if0 _ _).trans (feq (by rw [su10]; decide)).1) ?_
   refine iconstZ W9.here hx rfl (hb hby d5_59) (z := (0 : Int32)) rfl ?_
   exact k
  have f0 := b2i_t hc20_4
  have hv : b2i (encB [c0]) = (0 : Int32) := by simp [b2i, encB, f0, su10]
  exact W9.iret hx hlk hret (by simp) rfl (hb hby d5_60) ⟨by rw [hv], rfl⟩ (by decide) (by decide)
def Q_enc2 (Z : State) (x : Addr) (zc c0 c1 : Int32) (fm : Value) (h0 : Heap) (v : Option Value) (h : Heap) : Prop := v = some (.int (b2i (encB [c0, c1]))) ∧ h0 = h
set_option maxRecDepth 65536 in
set_option maxHeartbeats 40000000 in
theorem rm_enc2 (l : Launch) (Z : State) (a0 : Array Value) (hw : ∀ d ∈ tables_1, d.before a0 Z = true) (x : Addr) (zc c0 c1 : Int32) (fm : Value) (h0 : Heap) (n0 : Nat) (Z0 : n0 ≤ h0.size) (S0 : Sta Z h0 "java/lang/String" "COMPACT_STRINGS" "Z" (.int zc)) (hz : ¬ zc = 0) (G0 : Sta Z h0 "jdk/internal/util/Preconditions" "SIOOBE_FORMATTER" "Ljava/util/function/BiFunction;" fm) (rf : fm.isRef = true) (D0 : Sta Z h0 "java/lang/StringUTF16" "$assertionsDisabled" "Z" (.int 1)) (HB0 : Sta Z h0 "java/lang/StringUTF16" "HI_BYTE_SHIFT" "I" (.int 0)) (LB0 : Sta Z h0 "java/lang/StringUTF16" "LO_BYTE_SHIFT" "I" (.int 8)) (A0 : StrA Z h0 x [c0, c1]) :
  Con l Z EL y_25 prog_46_method_4_code 3 (some .boolean) [] ({ frames := 5, cells := 0, slots := 0, locals := 66 } : Room) #[(.ref x)] h0 n0 (Q_enc2 Z x zc c0 c1 fm h0) := by
 refine Con.intro (own := "com/example/record_hold/recordhold/text/Utf8") rfl (plainFor_of_name plain_com_example_record_hold_recordhold_text_Utf8) (hEL hw) ?_
 intro p e s m below meth c s₁ hx hby hml hret hlk hnm W0
 refine Fi.cast (show entryFrame m #[(.ref x)] 3 = (mkF m 0 #[.val (.ref x), .unset, .unset] []) from by first | (simp [entryFrame, mkF, argsToLocals, Value.category]; done) | rfl) ?_
 refine Fi.by' (st' := s₁.setTop (mkF m 4 #[.val (.ref x), .val (.int (0 : Int32)), .unset] [(.ref x), (.int (0 : Int32))])) (fun t k => ?_) ?_
 ·refine iconstZ W0.here hx rfl (hb hby d5_0) (z := (0 : Int32)) rfl ?_
  refine XS.istoreN W0.here hx rfl (hb hby d5_1) rfl (l' := #[.val (.ref x), .val (.int (0 : Int32)), .unset]) rfl ?_
  refine XS.iloadN W0.here hx rfl (hb hby d5_2) rfl ?_
  refine XS.aloadN W0.here hx rfl (hb hby d5_3) rfl rfl ?_
  exact k
 refine W0.callV hx (y := y_0) (C := "java/lang/String") (ww hw 32 rfl) (ww hw 33 rfl) (ww hw 35 rfl) (ww hw 34 rfl) (by decide) (payLen (Wd := 1) hw A0 S0 hz (by decide) (by decide)) (A0).exa (g := (mkF m 4 #[.val (.ref x), .val (.int (0 : Int32)), .unset] [(.ref x), (.int (0 : Int32))])) rfl (by rw [hml]; rfl) (argsL := []) (rest := [(.int (0 : Int32))]) (lenOf pd_14 rfl) rfl rfl (ble_ rfl) (hb hby d5_4) (by decide) (by decide) (fun v1 T1 h1 W1 sz1 q1 => ?_)
 obtain ⟨rfl, rfl⟩ := q1
 change Fi _ _ _ _ _ _ _ _ _ _ (T1.setTop (mkF m 7 #[.val (.ref x), .val (.int (0 : Int32)), .unset] [(.int (2 : Int32)), (.int (0 : Int32))]))
 refine Fi.by' (st' := T1.setTop (mkF m 12 #[.val (.ref x), .val (.int (0 : Int32)), .unset] [(.int (0 : Int32)), (.ref x)])) (fun t k => ?_) ?_
 ·refine XS.icmpNo W1.here hx rfl (hb hby d5_7) rfl (tlt (by decide : ((0 : Int32) < (2 : Int32)))).2.1 ?_
  refine XS.aloadN W1.here hx rfl (hb hby d5_10) rfl rfl ?_
  refine XS.iloadN W1.here hx rfl (hb hby d5_11) rfl ?_
  exact k
 refine W1.callV hx (y := y_1) (C := "java/lang/String") (ww hw 64 rfl) (ww hw 65 rfl) (ww hw 67 rfl) (ww hw 66 rfl) (by decide) (payCh (Wd := 0) (i := 0) hw A0 (ble_ rfl) S0 hz G0 rf D0 HB0 LB0 Z0 (ble_ rfl) rfl (by decide) (by decide)) (A0).exa (g := (mkF m 12 #[.val (.ref x), .val (.int (0 : Int32)), .unset] [(.int (0 : Int32)), (.ref x)])) rfl (by rw [hml]; rfl) (argsL := [(.int (0 : Int32))]) (rest := []) (lenOf pd_15 rfl) rfl rfl (ble_ rfl) (hb hby d5_12) (by decide) (by decide) (fun v2 T2 h2 W2 sz2 q2 => ?_)
 obtain ⟨rfl, rfl⟩ := q2
 change Fi _ _ _ _ _ _ _ _ _ _ (T2.setTop (mkF m 15 #[.val (.ref x), .val (.int (0 : Int32)), .unset] [(.int c0)]))
 refine Fi.by' (st' := T2.setTop (mkF m 17 #[.val (.ref x), .val (.int (0 : Int32)), .val (.int c0)] [(.int c0)])) (fun t k => ?_) ?_
 ·refine XS.istoreN W2.here hx rfl (hb hby d5_15) rfl (l' := #[.val (.ref x), .val (.int (0 : Int32)), .val (.int c0)]) rfl ?_
  refine XS.iloadN W2.here hx rfl (hb hby d5_16) rfl ?_
  exact k
 refine W2.callS hx (y := y_6) (ww hw 86 rfl) (ww hw 87 rfl) (ww hw 88 rfl) (ww hw 89 rfl) (by decide) (Pay.of_con (Wd := 0) (rm_chHi l Z a0 hw c0 h0 n0 (by omega)) (ww hw 89 rfl) (ww hw 88 rfl) (hEL hw) (by decide) (by decide)) (g := (mkF m 17 #[.val (.ref x), .val (.int (0 : Int32)), .val (.int c0)] [(.int c0)])) rfl (by rw [hml]; rfl) (argsL := [(.int c0)]) (rest := []) (lenOf pd_0 rfl) rfl rfl (ble_ rfl) (hb hby d5_17) (by decide) (by decide) (fun v3 T3 h3 W3 sz3 q3 => ?_)
 obtain ⟨rfl, rfl⟩ := q3
 change Fi _ _ _ _ _ _ _ _ _ _ (T3.setTop (mkF m 20 #[.val (.ref x), .val (.int (0 : Int32)), .val (.int c0)] [(.int (b2i (hiB c0)))]))
 by_cases hc20_4 : (b2i (hiB c0)) = (0 : Int32)
 ·refine Fi.by' (st' := T3.setTop (mkF m 53 #[.val (.ref x), .val (.int (0 : Int32)), .val (.int c0)] [(.int c0)])) (fun t k => ?_) ?_
  ·refine XS.ifYes W3.here hx rfl (pc0 := 20) (pc' := 52) rfl (hb hby d5_20) rfl ((if0 _ _).trans (teq hc20_4).1) (by decide) (by decide) ?_
   refine XS.iloadN W3.here hx rfl (hb hby d5_52) rfl ?_
   exact k
  refine W3.callS hx (y := y_8) (ww hw 91 rfl) (ww hw 92 rfl) (ww hw 88 rfl) (ww hw 93 rfl) (by decide) (Pay.of_con (Wd := 0) (rm_chSu l Z a0 hw c0 h0 n0 (by omega)) (ww hw 93 rfl) (ww hw 88 rfl) (hEL hw) (by decide) (by decide)) (g := (mkF m 53 #[.val (.ref x), .val (.int (0 : Int32)), .val (.int c0)] [(.int c0)])) rfl (by rw [hml]; rfl) (argsL := [(.int c0)]) (rest := []) (lenOf pd_0 rfl) rfl rfl (ble_ rfl) (hb hby d5_53) (by decide) (by decide) (fun v5 T5 h5 W5 sz5 q5 => ?_)
  obtain ⟨rfl, rfl⟩ := q5
  change Fi _ _ _ _ _ _ _ _ _ _ (T5.setTop (mkF m 56 #[.val (.ref x), .val (.int (0 : Int32)), .val (.int c0)] [(.int (b2i (suB c0)))]))
  by_cases hc56_6 : (b2i (suB c0)) = (0 : Int32)
  ·refine Fi.by' (st' := T5.setTop (mkF m 4 #[.val (.ref x), .val (.int (1 : Int32)), .val (.int c0)] [(.ref x), (.int (1 : Int32))])) (fun t k => ?_) ?_
   ·refine XS.ifYes W5.here hx rfl (pc0 := 56) (pc' := 61) rfl (hb hby d5_56) rfl ((if0 _ _).trans (teq hc56_6).1) (by decide) (by decide) ?_
    refine XS.iinc W5.here hx rfl (hb hby d5_61) rfl (l' := #[.val (.ref x), .val (.int (1 : Int32)), .val (.int c0)]) rfl ?_
    refine XS.goto W5.here hx rfl (pc0 := 64) (pc' := 2) rfl (hb hby d5_64) (by decide) (by decide) ?_
    refine XS.iloadN W5.here hx rfl (hb hby d5_2) rfl ?_
    refine XS.aloadN W5.here hx rfl (hb hby d5_3) rfl rfl ?_
    exact k
   refine W5.callV hx (y := y_0) (C := "java/lang/String") (ww hw 32 rfl) (ww hw 33 rfl) (ww hw 35 rfl) (ww hw 34 rfl) (by decide) (payLen (Wd := 1) hw A0 S0 hz (by decide) (by decide)) (A0).exa (g := (mkF m 4 #[.val (.ref x), .val (.int (1 : Int32)), .val (.int c0)] [(.ref x), (.int (1 : Int32))])) rfl (by rw [hml]; rfl) (argsL := []) (rest := [(.int (1 : Int32))]) (lenOf pd_14 rfl) rfl rfl (ble_ rfl) (hb hby d5_4) (by decide) (by decide) (fun v7 T7 h7 W7 sz7 q7 => ?_)
   obtain ⟨rfl, rfl⟩ := q7
   change Fi _ _ _ _ _ _ _ _ _ _ (T7.setTop (mkF m 7 #[.val (.ref x), .val (.int (1 : Int32)), .val (.int c0)] [(.int (2 : Int32)), (.int (1 : Int32))]))
   refine Fi.by' (st' := T7.setTop (mkF m 12 #[.val (.ref x), .val (.int (1 : Int32)), .val (.int c0)] [(.int (1 : Int32)), (.ref x)])) (fun t k => ?_) ?_
   ·refine XS.icmpNo W7.here hx rfl (hb hby d5_7) rfl (tlt (by decide : ((1 : Int32) < (2 : Int32)))).2.1 ?_
    refine XS.aloadN W7.here hx rfl (hb hby d5_10) rfl rfl ?_
    refine XS.iloadN W7.here hx rfl (hb hby d5_11) rfl ?_
    exact k
   refine W7.callV hx (y := y_1) (C := "java/lang/String") (ww hw 64 rfl) (ww hw 65 rfl) (ww hw 67 rfl) (ww hw 66 rfl) (by decide) (payCh (Wd := 0) (i := 1) hw A0 (ble_ rfl) S0 hz G0 rf D0 HB0 LB0 Z0 (ble_ rfl) rfl (by decide) (by decide)) (A0).exa (g := (mkF m 12 #[.val (.ref x), .val (.int (1 : Int32)), .val (.int c0)] [(.int (1 : Int32)), (.ref x)])) rfl (by rw [hml]; rfl) (argsL := [(.int (1 : Int32))]) (rest := []) (lenOf pd_15 rfl) rfl rfl (ble_ rfl) (hb hby d5_12) (by decide) (by decide) (fun v8 T8 h8 W8 sz8 q8 => ?_)
   obtain ⟨rfl, rfl⟩ := q8
   change Fi _ _ _ _ _ _ _ _ _ _ (T8.setTop (mkF m 15 #[.val (.ref x), .val (.int (1 : Int32)), .val (.int c0)] [(.int c1)]))
   refine Fi.by' (st' := T8.setTop (mkF m 17 #[.val (.ref x), .val (.int (1 : Int32)), .val (.int c1)] [(.int c1)])) (fun t k => ?_) ?_
   ·refine XS.istoreN W8.here hx rfl (hb hby d5_15) rfl (l' := #[.val (.ref x), .val (.int (1 : Int32)), .val (.int c1)]) rfl ?_
    refine XS.iloadN W8.here hx rfl (hb hby d5_16) rfl ?_
    exact k
   refine W8.callS hx (y := y_6) (ww hw 86 rfl) (ww hw 87 rfl) (ww hw 88 rfl) (ww hw 89 rfl) (by decide) (Pay.of_con (Wd := 0) (rm_chHi l Z a0 hw c1 h0 n0 (by omega)) (ww hw 89 rfl) (ww hw 88 rfl) (hEL hw) (by decide) (by decide)) (g := (mkF m 17 #[.val (.ref x), .val (.int (1 : Int32)), .val (.int c1)] [(.int c1)])) rfl (by rw [hml]; rfl) (argsL := [(.int c1)]) (rest := []) (lenOf pd_0 rfl) rfl rfl (ble_ rfl) (hb hby d5_17) (by decide) (by decide) (fun v9 T9 h9 W9 sz9 q9 => ?_)
   obtain ⟨rfl, rfl⟩ := q9
   change Fi _ _ _ _ _ _ _ _ _ _ (T9.setTop (mkF m 20 #[.val (.ref x), .val (.int (1 : Int32)), .val (.int c1)] [(.int (b2i (hiB c1)))]))
   by_cases hc20_10 : (b2i (hiB c1)) = (0 : Int32)
   ·refine Fi.by' (st' := T9.setTop (mkF m 53 #[.val (.ref x), .val (.int (1 : Int32)), .val (.int c1)] [(.int c1)])) (fun t k => ?_) ?_
    ·refine XS.ifYes W9.here hx rfl (pc0 := 20) (pc' := 52) rfl (hb hby d5_20) rfl ((if0 _ _).trans (teq hc20_10).1) (by decide) (by decide) ?_
     refine XS.iloadN W9.here hx rfl (hb hby d5_52) rfl ?_
     exact k
    refine W9.callS hx (y := y_8) (ww hw 91 rfl) (ww hw 92 rfl) (ww hw 88 rfl) (ww hw 93 rfl) (by decide) (Pay.of_con (Wd := 0) (rm_chSu l Z a0 hw c1 h0 n0 (by omega)) (ww hw 93 rfl) (ww hw 88 rfl) (hEL hw) (by decide) (by decide)) (g := (mkF m 53 #[.val (.ref x), .val (.int (1 : Int32)), .val (.int c1)] [(.int c1)])) rfl (by rw [hml]; rfl) (argsL := [(.int c1)]) (rest := []) (lenOf pd_0 rfl) rfl rfl (ble_ rfl) (hb hby d5_53) (by decide) (by decide) (fun v11 T11 h11 W11 sz11 q11 => ?_)
    obtain ⟨rfl, rfl⟩ := q11
    change Fi _ _ _ _ _ _ _ _ _ _ (T11.setTop (mkF m 56 #[.val (.ref x), .val (.int (1 : Int32)), .val (.int c1)] [(.int (b2i (suB c1)))]))
    by_cases hc56_12 : (b2i (suB c1)) = (0 : Int32)
    ·refine Fi.by' (st' := T11.setTop (mkF m 4 #[.val (.ref x), .val (.int (2 : Int32)), .val (.int c1)] [(.ref x), (.int (2 : Int32))])) (fun t k => ?_) ?_
     ·refine XS.ifYes W11.here hx rfl (pc0 := 56) (pc' := 61) rfl (hb hby d5_56) rfl ((if0 _ _).trans (teq hc56_12).1) (by decide) (by decide) ?_
      refine XS.iinc W11.here hx rfl (hb hby d5_61) rfl (l' := #[.val (.ref x), .val (.int (2 : Int32)), .val (.int c1)]) rfl ?_
      refine XS.goto W11.here hx rfl (pc0 := 64) (pc' := 2) rfl (hb hby d5_64) (by decide) (by decide) ?_
      refine XS.iloadN W11.here hx rfl (hb hby d5_2) rfl ?_
      refine XS.aloadN W11.here hx rfl (hb hby d5_3) rfl rfl ?_
      exact k
     refine W11.callV hx (y := y_0) (C := "java/lang/String") (ww hw 32 rfl) (ww hw 33 rfl) (ww hw 35 rfl) (ww hw 34 rfl) (by decide) (payLen (Wd := 1) hw A0 S0 hz (by decide) (by decide)) (A0).exa (g := (mkF m 4 #[.val (.ref x), .val (.int (2 : Int32)), .val (.int c1)] [(.ref x), (.int (2 : Int32))])) rfl (by rw [hml]; rfl) (argsL := []) (rest := [(.int (2 : Int32))]) (lenOf pd_14 rfl) rfl rfl (ble_ rfl) (hb hby d5_4) (by decide) (by decide) (fun v13 T13 h13 W13 sz13 q13 => ?_)
     obtain ⟨rfl, rfl⟩ := q13
     change Fi _ _ _ _ _ _ _ _ _ _ (T13.setTop (mkF m 7 #[.val (.ref x), .val (.int (2 : Int32)), .val (.int c1)] [(.int (2 : Int32)), (.int (2 : Int32))]))
     refine Fi.by' (st' := T13.setTop (mkF m 68 #[.val (.ref x), .val (.int (2 : Int32)), .val (.int c1)] [(.int (1 : Int32))])) (fun t k => ?_) ?_
     ·refine XS.icmpYes W13.here hx rfl (pc0 := 7) (pc' := 67) rfl (hb hby d5_7) rfl (flt (by decide : ¬ ((2 : Int32) < (2 : Int32)))).2.1 (by decide) (by decide) ?_
      refine iconstZ W13.here hx rfl (hb hby d5_67) (z := (1 : Int32)) rfl ?_
      exact k
     have f0 := b2i_f hc20_4
     have f1 := b2i_f hc56_6
     have f2 := b2i_f hc20_10
     have f3 := b2i_f hc56_12
     have hv : b2i (encB [c0, c1]) = (1 : Int32) := by simp [b2i, encB, f0, f1, f2, f3]
     exact W13.iret hx hlk hret (by simp) rfl (hb hby d5_68) ⟨by rw [hv], rfl⟩ (by decide) (by decide)
    ·refine Fi.by' (st' := T11.setTop (mkF m 60 #[.val (.ref x), .val (.int (1 : Int32)), .val (.int c1)] [(.int (0 : Int32))])) (fun t k => ?_) ?_
     ·refine XS.ifNo W11.here hx rfl (hb hby d5_56) rfl ((if0 _ _).trans (feq hc56_12).1) ?_
      refine iconstZ W11.here hx rfl (hb hby d5_59) (z := (0 : Int32)) rfl ?_
      exact k
     have f0 := b2i_f hc20_4
     have f1 := b2i_f hc56_6
     have f2 := b2i_f hc20_10
     have f3 := b2i_t hc56_12
     have hv : b2i (encB [c0, c1]) = (0 : Int32) := by simp [b2i, encB, f0, f1, f2, f3]
     exact W11.iret hx hlk hret (by simp) rfl (hb hby d5_60) ⟨by rw [hv], rfl⟩ (by decide) (by decide)
   ·refine Fi.by' (st' := T9.setTop (mkF m 27 #[.val (.ref x), .val (.int (1 : Int32)), .val (.int c1)] [(.ref x), (.int (2 : Int32))])) (fun t k => ?_) ?_
    ·refine XS.ifNo W9.here hx rfl (hb hby d5_20) rfl ((if0 _ _).trans (feq hc20_10).1) ?_
     refine XS.iloadN W9.here hx rfl (hb hby d5_23) rfl ?_
     refine iconstZ W9.here hx rfl (hb hby d5_24) (z := (1 : Int32)) rfl ?_
     refine XS.iadd W9.here hx rfl (hb hby d5_25) rfl ?_
     refine XS.aloadN W9.here hx rfl (hb hby d5_26) rfl rfl ?_
     exact k
    refine W9.callV hx (y := y_0) (C := "java/lang/String") (ww hw 32 rfl) (ww hw 33 rfl) (ww hw 35 rfl) (ww hw 34 rfl) (by decide) (payLen (Wd := 1) hw A0 S0 hz (by decide) (by decide)) (A0).exa (g := (mkF m 27 #[.val (.ref x), .val (.int (1 : Int32)), .val (.int c1)] [(.ref x), (.int (2 : Int32))])) rfl (by rw [hml]; rfl) (argsL := []) (rest := [(.int (2 : Int32))]) (lenOf pd_14 rfl) rfl rfl (ble_ rfl) (hb hby d5_27) (by decide) (by decide) (fun v14 T14 h14 W14 sz14 q14 => ?_)
    obtain ⟨rfl, rfl⟩ := q14
    change Fi _ _ _ _ _ _ _ _ _ _ (T14.setTop (mkF m 30 #[.val (.ref x), .val (.int (1 : Int32)), .val (.int c1)] [(.int (2 : Int32)), (.int (2 : Int32))]))
    refine Fi.by' (st' := T14.setTop (mkF m 53 #[.val (.ref x), .val (.int (1 : Int32)), .val (.int c1)] [(.int c1)])) (fun t k => ?_) ?_
    ·refine XS.icmpYes W14.here hx rfl (pc0 := 30) (pc' := 52) rfl (hb hby d5_30) rfl (flt (by decide : ¬ ((2 : Int32) < (2 : Int32)))).2.1 (by decide) (by decide) ?_
     refine XS.iloadN W14.here hx rfl (hb hby d5_52) rfl ?_
     exact k
    refine W14.callS hx (y := y_8) (ww hw 91 rfl) (ww hw 92 rfl) (ww hw 88 rfl) (ww hw 93 rfl) (by decide) (Pay.of_con (Wd := 0) (rm_chSu l Z a0 hw c1 h0 n0 (by omega)) (ww hw 93 rfl) (ww hw 88 rfl) (hEL hw) (by decide) (by decide)) (g := (mkF m 53 #[.val (.ref x), .val (.int (1 : Int32)), .val (.int c1)] [(.int c1)])) rfl (by rw [hml]; rfl) (argsL := [(.int c1)]) (rest := []) (lenOf pd_0 rfl) rfl rfl (ble_ rfl) (hb hby d5_53) (by decide) (by decide) (fun v15 T15 h15 W15 sz15 q15 => ?_)
    obtain ⟨rfl, rfl⟩ := q15
    change Fi _ _ _ _ _ _ _ _ _ _ (T15.setTop (mkF m 56 #[.val (.ref x), .val (.int (1 : Int32)), .val (.int c1)] [(.int (b2i (suB c1)))]))
    have su16 : suB c1 = true := by rw [su_is, b2i_t hc20_10]; rfl
    refine Fi.by' (st' := T15.setTop (mkF m 60 #[.val (.ref x), .val (.int (1 : Int32)), .val (.int c1)] [(.int (0 : Int32))])) (fun t k => ?_) ?_
    ·refine XS.ifNo W15.here hx rfl (hb hby d5_56) rfl ((if0 _ _).trans (feq (by rw [su16]; decide)).1) ?_
     refine iconstZ W15.here hx rfl (hb hby d5_59) (z := (0 : Int32)) rfl ?_
     exact k
    have f0 := b2i_f hc20_4
    have f1 := b2i_f hc56_6
    have f2 := b2i_t hc20_10
    have hv : b2i (encB [c0, c1]) = (0 : Int32) := by simp [b2i, encB, f0, f1, f2, su16]
    exact W15.iret hx hlk hret (by simp) rfl (hb hby d5_60) ⟨by rw [hv], rfl⟩ (by decide) (by decide)
  ·refine Fi.by' (st' := T5.setTop (mkF m 60 #[.val (.ref x), .val (.int (0 : Int32)), .val (.int c0)] [(.int (0 : Int32))])) (fun t k => ?_) ?_
   ·refine XS.ifNo W5.here hx rfl (hb hby d5_56) rfl ((if0 _ _).trans (feq hc56_6).1) ?_
    refine iconstZ W5.here hx rfl (hb hby d5_59) (z := (0 : Int32)) rfl ?_
    exact k
   have f0 := b2i_f hc20_4
   have f1 := b2i_t hc56_6
   have hv : b2i (encB [c0, c1]) = (0 : Int32) := by simp [b2i, encB, f0, f1]
   exact W5.iret hx hlk hret (by simp) rfl (hb hby d5_60) ⟨by rw [hv], rfl⟩ (by decide) (by decide)
 ·refine Fi.by' (st' := T3.setTop (mkF m 27 #[.val (.ref x), .val (.int (0 : Int32)), .val (.int c0)] [(.ref x), (.int (1 : Int32))])) (fun t k => ?_) ?_
  ·refine XS.ifNo W3.here hx rfl (hb hby d5_20) rfl ((if0 _ _).trans (feq hc20_4).1) ?_
   refine XS.iloadN W3.here hx rfl (hb hby d5_23) rfl ?_
   refine iconstZ W3.here hx rfl (hb hby d5_24) (z := (1 : Int32)) rfl ?_
   refine XS.iadd W3.here hx rfl (hb hby d5_25) rfl ?_
   refine XS.aloadN W3.here hx rfl (hb hby d5_26) rfl rfl ?_
   exact k
  refine W3.callV hx (y := y_0) (C := "java/lang/String") (ww hw 32 rfl) (ww hw 33 rfl) (ww hw 35 rfl) (ww hw 34 rfl) (by decide) (payLen (Wd := 1) hw A0 S0 hz (by decide) (by decide)) (A0).exa (g := (mkF m 27 #[.val (.ref x), .val (.int (0 : Int32)), .val (.int c0)] [(.ref x), (.int (1 : Int32))])) rfl (by rw [hml]; rfl) (argsL := []) (rest := [(.int (1 : Int32))]) (lenOf pd_14 rfl) rfl rfl (ble_ rfl) (hb hby d5_27) (by decide) (by decide) (fun v17 T17 h17 W17 sz17 q17 => ?_)
  obtain ⟨rfl, rfl⟩ := q17
  change Fi _ _ _ _ _ _ _ _ _ _ (T17.setTop (mkF m 30 #[.val (.ref x), .val (.int (0 : Int32)), .val (.int c0)] [(.int (2 : Int32)), (.int (1 : Int32))]))
  refine Fi.by' (st' := T17.setTop (mkF m 37 #[.val (.ref x), .val (.int (0 : Int32)), .val (.int c0)] [(.int (1 : Int32)), (.ref x)])) (fun t k => ?_) ?_
  ·refine XS.icmpNo W17.here hx rfl (hb hby d5_30) rfl (tlt (by decide : ((1 : Int32) < (2 : Int32)))).2.1 ?_
   refine XS.aloadN W17.here hx rfl (hb hby d5_33) rfl rfl ?_
   refine XS.iloadN W17.here hx rfl (hb hby d5_34) rfl ?_
   refine iconstZ W17.here hx rfl (hb hby d5_35) (z := (1 : Int32)) rfl ?_
   refine XS.iadd W17.here hx rfl (hb hby d5_36) rfl ?_
   exact k
  refine W17.callV hx (y := y_1) (C := "java/lang/String") (ww hw 64 rfl) (ww hw 65 rfl) (ww hw 67 rfl) (ww hw 66 rfl) (by decide) (payCh (Wd := 0) (i := 1) hw A0 (ble_ rfl) S0 hz G0 rf D0 HB0 LB0 Z0 (ble_ rfl) rfl (by decide) (by decide)) (A0).exa (g := (mkF m 37 #[.val (.ref x), .val (.int (0 : Int32)), .val (.int c0)] [(.int (1 : Int32)), (.ref x)])) rfl (by rw [hml]; rfl) (argsL := [(.int (1 : Int32))]) (rest := []) (lenOf pd_15 rfl) rfl rfl (ble_ rfl) (hb hby d5_37) (by decide) (by decide) (fun v18 T18 h18 W18 sz18 q18 => ?_)
  obtain ⟨rfl, rfl⟩ := q18
  change Fi _ _ _ _ _ _ _ _ _ _ (T18.setTop (mkF m 40 #[.val (.ref x), .val (.int (0 : Int32)), .val (.int c0)] [(.int c1)]))
  refine W18.callS hx (y := y_7) (ww hw 129 rfl) (ww hw 130 rfl) (ww hw 88 rfl) (ww hw 131 rfl) (by decide) (Pay.of_con (Wd := 0) (rm_chLo l Z a0 hw c1 h0 n0 (by omega)) (ww hw 131 rfl) (ww hw 88 rfl) (hEL hw) (by decide) (by decide)) (g := (mkF m 40 #[.val (.ref x), .val (.int (0 : Int32)), .val (.int c0)] [(.int c1)])) rfl (by rw [hml]; rfl) (argsL := [(.int c1)]) (rest := []) (lenOf pd_0 rfl) rfl rfl (ble_ rfl) (hb hby d5_40) (by decide) (by decide) (fun v19 T19 h19 W19 sz19 q19 => ?_)
  obtain ⟨rfl, rfl⟩ := q19
  change Fi _ _ _ _ _ _ _ _ _ _ (T19.setTop (mkF m 43 #[.val (.ref x), .val (.int (0 : Int32)), .val (.int c0)] [(.int (b2i (loB c1)))]))
  by_cases hc43_20 : (b2i (loB c1)) = (0 : Int32)
  ·refine Fi.by' (st' := T19.setTop (mkF m 53 #[.val (.ref x), .val (.int (0 : Int32)), .val (.int c0)] [(.int c0)])) (fun t k => ?_) ?_
   ·refine XS.ifYes W19.here hx rfl (pc0 := 43) (pc' := 52) rfl (hb hby d5_43) rfl ((if0 _ _).trans (teq hc43_20).1) (by decide) (by decide) ?_
    refine XS.iloadN W19.here hx rfl (hb hby d5_52) rfl ?_
    exact k
   refine W19.callS hx (y := y_8) (ww hw 91 rfl) (ww hw 92 rfl) (ww hw 88 rfl) (ww hw 93 rfl) (by decide) (Pay.of_con (Wd := 0) (rm_chSu l Z a0 hw c0 h0 n0 (by omega)) (ww hw 93 rfl) (ww hw 88 rfl) (hEL hw) (by decide) (by decide)) (g := (mkF m 53 #[.val (.ref x), .val (.int (0 : Int32)), .val (.int c0)] [(.int c0)])) rfl (by rw [hml]; rfl) (argsL := [(.int c0)]) (rest := []) (lenOf pd_0 rfl) rfl rfl (ble_ rfl) (hb hby d5_53) (by decide) (by decide) (fun v21 T21 h21 W21 sz21 q21 => ?_)
   obtain ⟨rfl, rfl⟩ := q21
   change Fi _ _ _ _ _ _ _ _ _ _ (T21.setTop (mkF m 56 #[.val (.ref x), .val (.int (0 : Int32)), .val (.int c0)] [(.int (b2i (suB c0)))]))
   have su22 : suB c0 = true := by rw [su_is, b2i_t hc20_4]; rfl
   refine Fi.by' (st' := T21.setTop (mkF m 60 #[.val (.ref x), .val (.int (0 : Int32)), .val (.int c0)] [(.int (0 : Int32))])) (fun t k => ?_) ?_
   ·refine XS.ifNo W21.here hx rfl (hb hby d5_56) rfl ((if0 _ _).trans (feq (by rw [su22]; decide)).1) ?_
    refine iconstZ W21.here hx rfl (hb hby d5_59) (z := (0 : Int32)) rfl ?_
    exact k
   have f0 := b2i_t hc20_4
   have f1 := b2i_f hc43_20
   have hv : b2i (encB [c0, c1]) = (0 : Int32) := by simp [b2i, encB, f0, f1, su22]
   exact W21.iret hx hlk hret (by simp) rfl (hb hby d5_60) ⟨by rw [hv], rfl⟩ (by decide) (by decide)
  ·refine Fi.by' (st' := T19.setTop (mkF m 4 #[.val (.ref x), .val (.int (2 : Int32)), .val (.int c0)] [(.ref x), (.int (2 : Int32))])) (fun t k => ?_) ?_
   ·refine XS.ifNo W19.here hx rfl (hb hby d5_43) rfl ((if0 _ _).trans (feq hc43_20).1) ?_
    refine XS.iinc W19.here hx rfl (hb hby d5_46) rfl (l' := #[.val (.ref x), .val (.int (1 : Int32)), .val (.int c0)]) rfl ?_
    refine XS.goto W19.here hx rfl (pc0 := 49) (pc' := 61) rfl (hb hby d5_49) (by decide) (by decide) ?_
    refine XS.iinc W19.here hx rfl (hb hby d5_61) rfl (l' := #[.val (.ref x), .val (.int (2 : Int32)), .val (.int c0)]) rfl ?_
    refine XS.goto W19.here hx rfl (pc0 := 64) (pc' := 2) rfl (hb hby d5_64) (by decide) (by decide) ?_
    refine XS.iloadN W19.here hx rfl (hb hby d5_2) rfl ?_
    refine XS.aloadN W19.here hx rfl (hb hby d5_3) rfl rfl ?_
    exact k
   refine W19.callV hx (y := y_0) (C := "java/lang/String") (ww hw 32 rfl) (ww hw 33 rfl) (ww hw 35 rfl) (ww hw 34 rfl) (by decide) (payLen (Wd := 1) hw A0 S0 hz (by decide) (by decide)) (A0).exa (g := (mkF m 4 #[.val (.ref x), .val (.int (2 : Int32)), .val (.int c0)] [(.ref x), (.int (2 : Int32))])) rfl (by rw [hml]; rfl) (argsL := []) (rest := [(.int (2 : Int32))]) (lenOf pd_14 rfl) rfl rfl (ble_ rfl) (hb hby d5_4) (by decide) (by decide) (fun v23 T23 h23 W23 sz23 q23 => ?_)
   obtain ⟨rfl, rfl⟩ := q23
   change Fi _ _ _ _ _ _ _ _ _ _ (T23.setTop (mkF m 7 #[.val (.ref x), .val (.int (2 : Int32)), .val (.int c0)] [(.int (2 : Int32)), (.int (2 : Int32))]))
   refine Fi.by' (st' := T23.setTop (mkF m 68 #[.val (.ref x), .val (.int (2 : Int32)), .val (.int c0)] [(.int (1 : Int32))])) (fun t k => ?_) ?_
   ·refine XS.icmpYes W23.here hx rfl (pc0 := 7) (pc' := 67) rfl (hb hby d5_7) rfl (flt (by decide : ¬ ((2 : Int32) < (2 : Int32)))).2.1 (by decide) (by decide) ?_
    refine iconstZ W23.here hx rfl (hb hby d5_67) (z := (1 : Int32)) rfl ?_
    exact k
   have f0 := b2i_t hc20_4
   have f1 := b2i_t hc43_20
   have hv : b2i (encB [c0, c1]) = (1 : Int32) := by simp [b2i, encB, f0, f1]
   exact W23.iret hx hlk hret (by simp) rfl (hb hby d5_68) ⟨by rw [hv], rfl⟩ (by decide) (by decide)
def Q_enc3 (Z : State) (x : Addr) (zc c0 c1 c2 : Int32) (fm : Value) (h0 : Heap) (v : Option Value) (h : Heap) : Prop := v = some (.int (b2i (encB [c0, c1, c2]))) ∧ h0 = h
set_option maxRecDepth 65536 in
set_option maxHeartbeats 40000000 in
theorem rm_enc3 (l : Launch) (Z : State) (a0 : Array Value) (hw : ∀ d ∈ tables_1, d.before a0 Z = true) (x : Addr) (zc c0 c1 c2 : Int32) (fm : Value) (h0 : Heap) (n0 : Nat) (Z0 : n0 ≤ h0.size) (S0 : Sta Z h0 "java/lang/String" "COMPACT_STRINGS" "Z" (.int zc)) (hz : ¬ zc = 0) (G0 : Sta Z h0 "jdk/internal/util/Preconditions" "SIOOBE_FORMATTER" "Ljava/util/function/BiFunction;" fm) (rf : fm.isRef = true) (D0 : Sta Z h0 "java/lang/StringUTF16" "$assertionsDisabled" "Z" (.int 1)) (HB0 : Sta Z h0 "java/lang/StringUTF16" "HI_BYTE_SHIFT" "I" (.int 0)) (LB0 : Sta Z h0 "java/lang/StringUTF16" "LO_BYTE_SHIFT" "I" (.int 8)) (A0 : StrA Z h0 x [c0, c1, c2]) :
  Con l Z EL y_25 prog_46_method_4_code 3 (some .boolean) [] ({ frames := 5, cells := 0, slots := 0, locals := 66 } : Room) #[(.ref x)] h0 n0 (Q_enc3 Z x zc c0 c1 c2 fm h0) := by
 refine Con.intro (own := "com/example/record_hold/recordhold/text/Utf8") rfl (plainFor_of_name plain_com_example_record_hold_recordhold_text_Utf8) (hEL hw) ?_
 intro p e s m below meth c s₁ hx hby hml hret hlk hnm W0
 refine Fi.cast (show entryFrame m #[(.ref x)] 3 = (mkF m 0 #[.val (.ref x), .unset, .unset] []) from by first | (simp [entryFrame, mkF, argsToLocals, Value.category]; done) | rfl) ?_
 refine Fi.by' (st' := s₁.setTop (mkF m 4 #[.val (.ref x), .val (.int (0 : Int32)), .unset] [(.ref x), (.int (0 : Int32))])) (fun t k => ?_) ?_
 ·refine iconstZ W0.here hx rfl (hb hby d5_0) (z := (0 : Int32)) rfl ?_
  refine XS.istoreN W0.here hx rfl (hb hby d5_1) rfl (l' := #[.val (.ref x), .val (.int (0 : Int32)), .unset]) rfl ?_
  refine XS.iloadN W0.here hx rfl (hb hby d5_2) rfl ?_
  refine XS.aloadN W0.here hx rfl (hb hby d5_3) rfl rfl ?_
  exact k
 refine W0.callV hx (y := y_0) (C := "java/lang/String") (ww hw 32 rfl) (ww hw 33 rfl) (ww hw 35 rfl) (ww hw 34 rfl) (by decide) (payLen (Wd := 1) hw A0 S0 hz (by decide) (by decide)) (A0).exa (g := (mkF m 4 #[.val (.ref x), .val (.int (0 : Int32)), .unset] [(.ref x), (.int (0 : Int32))])) rfl (by rw [hml]; rfl) (argsL := []) (rest := [(.int (0 : Int32))]) (lenOf pd_14 rfl) rfl rfl (ble_ rfl) (hb hby d5_4) (by decide) (by decide) (fun v1 T1 h1 W1 sz1 q1 => ?_)
 obtain ⟨rfl, rfl⟩ := q1
 change Fi _ _ _ _ _ _ _ _ _ _ (T1.setTop (mkF m 7 #[.val (.ref x), .val (.int (0 : Int32)), .unset] [(.int (3 : Int32)), (.int (0 : Int32))]))
 refine Fi.by' (st' := T1.setTop (mkF m 12 #[.val (.ref x), .val (.int (0 : Int32)), .unset] [(.int (0 : Int32)), (.ref x)])) (fun t k => ?_) ?_
 ·refine XS.icmpNo W1.here hx rfl (hb hby d5_7) rfl (tlt (by decide : ((0 : Int32) < (3 : Int32)))).2.1 ?_
  refine XS.aloadN W1.here hx rfl (hb hby d5_10) rfl rfl ?_
  refine XS.iloadN W1.here hx rfl (hb hby d5_11) rfl ?_
  exact k
 refine W1.callV hx (y := y_1) (C := "java/lang/String") (ww hw 64 rfl) (ww hw 65 rfl) (ww hw 67 rfl) (ww hw 66 rfl) (by decide) (payCh (Wd := 0) (i := 0) hw A0 (ble_ rfl) S0 hz G0 rf D0 HB0 LB0 Z0 (ble_ rfl) rfl (by decide) (by decide)) (A0).exa (g := (mkF m 12 #[.val (.ref x), .val (.int (0 : Int32)), .unset] [(.int (0 : Int32)), (.ref x)])) rfl (by rw [hml]; rfl) (argsL := [(.int (0 : Int32))]) (rest := []) (lenOf pd_15 rfl) rfl rfl (ble_ rfl) (hb hby d5_12) (by decide) (by decide) (fun v2 T2 h2 W2 sz2 q2 => ?_)
 obtain ⟨rfl, rfl⟩ := q2
 change Fi _ _ _ _ _ _ _ _ _ _ (T2.setTop (mkF m 15 #[.val (.ref x), .val (.int (0 : Int32)), .unset] [(.int c0)]))
 refine Fi.by' (st' := T2.setTop (mkF m 17 #[.val (.ref x), .val (.int (0 : Int32)), .val (.int c0)] [(.int c0)])) (fun t k => ?_) ?_
 ·refine XS.istoreN W2.here hx rfl (hb hby d5_15) rfl (l' := #[.val (.ref x), .val (.int (0 : Int32)), .val (.int c0)]) rfl ?_
  refine XS.iloadN W2.here hx rfl (hb hby d5_16) rfl ?_
  exact k
 refine W2.callS hx (y := y_6) (ww hw 86 rfl) (ww hw 87 rfl) (ww hw 88 rfl) (ww hw 89 rfl) (by decide) (Pay.of_con (Wd := 0) (rm_chHi l Z a0 hw c0 h0 n0 (by omega)) (ww hw 89 rfl) (ww hw 88 rfl) (hEL hw) (by decide) (by decide)) (g := (mkF m 17 #[.val (.ref x), .val (.int (0 : Int32)), .val (.int c0)] [(.int c0)])) rfl (by rw [hml]; rfl) (argsL := [(.int c0)]) (rest := []) (lenOf pd_0 rfl) rfl rfl (ble_ rfl) (hb hby d5_17) (by decide) (by decide) (fun v3 T3 h3 W3 sz3 q3 => ?_)
 obtain ⟨rfl, rfl⟩ := q3
 change Fi _ _ _ _ _ _ _ _ _ _ (T3.setTop (mkF m 20 #[.val (.ref x), .val (.int (0 : Int32)), .val (.int c0)] [(.int (b2i (hiB c0)))]))
 by_cases hc20_4 : (b2i (hiB c0)) = (0 : Int32)
 ·refine Fi.by' (st' := T3.setTop (mkF m 53 #[.val (.ref x), .val (.int (0 : Int32)), .val (.int c0)] [(.int c0)])) (fun t k => ?_) ?_
  ·refine XS.ifYes W3.here hx rfl (pc0 := 20) (pc' := 52) rfl (hb hby d5_20) rfl ((if0 _ _).trans (teq hc20_4).1) (by decide) (by decide) ?_
   refine XS.iloadN W3.here hx rfl (hb hby d5_52) rfl ?_
   exact k
  refine W3.callS hx (y := y_8) (ww hw 91 rfl) (ww hw 92 rfl) (ww hw 88 rfl) (ww hw 93 rfl) (by decide) (Pay.of_con (Wd := 0) (rm_chSu l Z a0 hw c0 h0 n0 (by omega)) (ww hw 93 rfl) (ww hw 88 rfl) (hEL hw) (by decide) (by decide)) (g := (mkF m 53 #[.val (.ref x), .val (.int (0 : Int32)), .val (.int c0)] [(.int c0)])) rfl (by rw [hml]; rfl) (argsL := [(.int c0)]) (rest := []) (lenOf pd_0 rfl) rfl rfl (ble_ rfl) (hb hby d5_53) (by decide) (by decide) (fun v5 T5 h5 W5 sz5 q5 => ?_)
  obtain ⟨rfl, rfl⟩ := q5
  change Fi _ _ _ _ _ _ _ _ _ _ (T5.setTop (mkF m 56 #[.val (.ref x), .val (.int (0 : Int32)), .val (.int c0)] [(.int (b2i (suB c0)))]))
  by_cases hc56_6 : (b2i (suB c0)) = (0 : Int32)
  ·refine Fi.by' (st' := T5.setTop (mkF m 4 #[.val (.ref x), .val (.int (1 : Int32)), .val (.int c0)] [(.ref x), (.int (1 : Int32))])) (fun t k => ?_) ?_
   ·refine XS.ifYes W5.here hx rfl (pc0 := 56) (pc' := 61) rfl (hb hby d5_56) rfl ((if0 _ _).trans (teq hc56_6).1) (by decide) (by decide) ?_
    refine XS.iinc W5.here hx rfl (hb hby d5_61) rfl (l' := #[.val (.ref x), .val (.int (1 : Int32)), .val (.int c0)]) rfl ?_
    refine XS.goto W5.here hx rfl (pc0 := 64) (pc' := 2) rfl (hb hby d5_64) (by decide) (by decide) ?_
    refine XS.iloadN W5.here hx rfl (hb hby d5_2) rfl ?_
    refine XS.aloadN W5.here hx rfl (hb hby d5_3) rfl rfl ?_
    exact k
   refine W5.callV hx (y := y_0) (C := "java/lang/String") (ww hw 32 rfl) (ww hw 33 rfl) (ww hw 35 rfl) (ww hw 34 rfl) (by decide) (payLen (Wd := 1) hw A0 S0 hz (by decide) (by decide)) (A0).exa (g := (mkF m 4 #[.val (.ref x), .val (.int (1 : Int32)), .val (.int c0)] [(.ref x), (.int (1 : Int32))])) rfl (by rw [hml]; rfl) (argsL := []) (rest := [(.int (1 : Int32))]) (lenOf pd_14 rfl) rfl rfl (ble_ rfl) (hb hby d5_4) (by decide) (by decide) (fun v7 T7 h7 W7 sz7 q7 => ?_)
   obtain ⟨rfl, rfl⟩ := q7
   change Fi _ _ _ _ _ _ _ _ _ _ (T7.setTop (mkF m 7 #[.val (.ref x), .val (.int (1 : Int32)), .val (.int c0)] [(.int (3 : Int32)), (.int (1 : Int32))]))
   refine Fi.by' (st' := T7.setTop (mkF m 12 #[.val (.ref x), .val (.int (1 : Int32)), .val (.int c0)] [(.int (1 : Int32)), (.ref x)])) (fun t k => ?_) ?_
   ·refine XS.icmpNo W7.here hx rfl (hb hby d5_7) rfl (tlt (by decide : ((1 : Int32) < (3 : Int32)))).2.1 ?_
    refine XS.aloadN W7.here hx rfl (hb hby d5_10) rfl rfl ?_
    refine XS.iloadN W7.here hx rfl (hb hby d5_11) rfl ?_
    exact k
   refine W7.callV hx (y := y_1) (C := "java/lang/String") (ww hw 64 rfl) (ww hw 65 rfl) (ww hw 67 rfl) (ww hw 66 rfl) (by decide) (payCh (Wd := 0) (i := 1) hw A0 (ble_ rfl) S0 hz G0 rf D0 HB0 LB0 Z0 (ble_ rfl) rfl (by decide) (by decide)) (A0).exa (g := (mkF m 12 #[.val (.ref x), .val (.int (1 : Int32)), .val (.int c0)] [(.int (1 : Int32)), (.ref x)])) rfl (by rw [hml]; rfl) (argsL := [(.int (1 : Int32))]) (rest := []) (lenOf pd_15 rfl) rfl rfl (ble_ rfl) (hb hby d5_12) (by decide) (by decide) (fun v8 T8 h8 W8 sz8 q8 => ?_)
   obtain ⟨rfl, rfl⟩ := q8
   change Fi _ _ _ _ _ _ _ _ _ _ (T8.setTop (mkF m 15 #[.val (.ref x), .val (.int (1 : Int32)), .val (.int c0)] [(.int c1)]))
   refine Fi.by' (st' := T8.setTop (mkF m 17 #[.val (.ref x), .val (.int (1 : Int32)), .val (.int c1)] [(.int c1)])) (fun t k => ?_) ?_
   ·refine XS.istoreN W8.here hx rfl (hb hby d5_15) rfl (l' := #[.val (.ref x), .val (.int (1 : Int32)), .val (.int c1)]) rfl ?_
    refine XS.iloadN W8.here hx rfl (hb hby d5_16) rfl ?_
    exact k
   refine W8.callS hx (y := y_6) (ww hw 86 rfl) (ww hw 87 rfl) (ww hw 88 rfl) (ww hw 89 rfl) (by decide) (Pay.of_con (Wd := 0) (rm_chHi l Z a0 hw c1 h0 n0 (by omega)) (ww hw 89 rfl) (ww hw 88 rfl) (hEL hw) (by decide) (by decide)) (g := (mkF m 17 #[.val (.ref x), .val (.int (1 : Int32)), .val (.int c1)] [(.int c1)])) rfl (by rw [hml]; rfl) (argsL := [(.int c1)]) (rest := []) (lenOf pd_0 rfl) rfl rfl (ble_ rfl) (hb hby d5_17) (by decide) (by decide) (fun v9 T9 h9 W9 sz9 q9 => ?_)
   obtain ⟨rfl, rfl⟩ := q9
   change Fi _ _ _ _ _ _ _ _ _ _ (T9.setTop (mkF m 20 #[.val (.ref x), .val (.int (1 : Int32)), .val (.int c1)] [(.int (b2i (hiB c1)))]))
   by_cases hc20_10 : (b2i (hiB c1)) = (0 : Int32)
   ·refine Fi.by' (st' := T9.setTop (mkF m 53 #[.val (.ref x), .val (.int (1 : Int32)), .val (.int c1)] [(.int c1)])) (fun t k => ?_) ?_
    ·refine XS.ifYes W9.here hx rfl (pc0 := 20) (pc' := 52) rfl (hb hby d5_20) rfl ((if0 _ _).trans (teq hc20_10).1) (by decide) (by decide) ?_
     refine XS.iloadN W9.here hx rfl (hb hby d5_52) rfl ?_
     exact k
    refine W9.callS hx (y := y_8) (ww hw 91 rfl) (ww hw 92 rfl) (ww hw 88 rfl) (ww hw 93 rfl) (by decide) (Pay.of_con (Wd := 0) (rm_chSu l Z a0 hw c1 h0 n0 (by omega)) (ww hw 93 rfl) (ww hw 88 rfl) (hEL hw) (by decide) (by decide)) (g := (mkF m 53 #[.val (.ref x), .val (.int (1 : Int32)), .val (.int c1)] [(.int c1)])) rfl (by rw [hml]; rfl) (argsL := [(.int c1)]) (rest := []) (lenOf pd_0 rfl) rfl rfl (ble_ rfl) (hb hby d5_53) (by decide) (by decide) (fun v11 T11 h11 W11 sz11 q11 => ?_)
    obtain ⟨rfl, rfl⟩ := q11
    change Fi _ _ _ _ _ _ _ _ _ _ (T11.setTop (mkF m 56 #[.val (.ref x), .val (.int (1 : Int32)), .val (.int c1)] [(.int (b2i (suB c1)))]))
    by_cases hc56_12 : (b2i (suB c1)) = (0 : Int32)
    ·refine Fi.by' (st' := T11.setTop (mkF m 4 #[.val (.ref x), .val (.int (2 : Int32)), .val (.int c1)] [(.ref x), (.int (2 : Int32))])) (fun t k => ?_) ?_
     ·refine XS.ifYes W11.here hx rfl (pc0 := 56) (pc' := 61) rfl (hb hby d5_56) rfl ((if0 _ _).trans (teq hc56_12).1) (by decide) (by decide) ?_
      refine XS.iinc W11.here hx rfl (hb hby d5_61) rfl (l' := #[.val (.ref x), .val (.int (2 : Int32)), .val (.int c1)]) rfl ?_
      refine XS.goto W11.here hx rfl (pc0 := 64) (pc' := 2) rfl (hb hby d5_64) (by decide) (by decide) ?_
      refine XS.iloadN W11.here hx rfl (hb hby d5_2) rfl ?_
      refine XS.aloadN W11.here hx rfl (hb hby d5_3) rfl rfl ?_
      exact k
     refine W11.callV hx (y := y_0) (C := "java/lang/String") (ww hw 32 rfl) (ww hw 33 rfl) (ww hw 35 rfl) (ww hw 34 rfl) (by decide) (payLen (Wd := 1) hw A0 S0 hz (by decide) (by decide)) (A0).exa (g := (mkF m 4 #[.val (.ref x), .val (.int (2 : Int32)), .val (.int c1)] [(.ref x), (.int (2 : Int32))])) rfl (by rw [hml]; rfl) (argsL := []) (rest := [(.int (2 : Int32))]) (lenOf pd_14 rfl) rfl rfl (ble_ rfl) (hb hby d5_4) (by decide) (by decide) (fun v13 T13 h13 W13 sz13 q13 => ?_)
     obtain ⟨rfl, rfl⟩ := q13
     change Fi _ _ _ _ _ _ _ _ _ _ (T13.setTop (mkF m 7 #[.val (.ref x), .val (.int (2 : Int32)), .val (.int c1)] [(.int (3 : Int32)), (.int (2 : Int32))]))
     refine Fi.by' (st' := T13.setTop (mkF m 12 #[.val (.ref x), .val (.int (2 : Int32)), .val (.int c1)] [(.int (2 : Int32)), (.ref x)])) (fun t k => ?_) ?_
     ·refine XS.icmpNo W13.here hx rfl (hb hby d5_7) rfl (tlt (by decide : ((2 : Int32) < (3 : Int32)))).2.1 ?_
      refine XS.aloadN W13.here hx rfl (hb hby d5_10) rfl rfl ?_
      refine XS.iloadN W13.here hx rfl (hb hby d5_11) rfl ?_
      exact k
     refine W13.callV hx (y := y_1) (C := "java/lang/String") (ww hw 64 rfl) (ww hw 65 rfl) (ww hw 67 rfl) (ww hw 66 rfl) (by decide) (payCh (Wd := 0) (i := 2) hw A0 (ble_ rfl) S0 hz G0 rf D0 HB0 LB0 Z0 (ble_ rfl) rfl (by decide) (by decide)) (A0).exa (g := (mkF m 12 #[.val (.ref x), .val (.int (2 : Int32)), .val (.int c1)] [(.int (2 : Int32)), (.ref x)])) rfl (by rw [hml]; rfl) (argsL := [(.int (2 : Int32))]) (rest := []) (lenOf pd_15 rfl) rfl rfl (ble_ rfl) (hb hby d5_12) (by decide) (by decide) (fun v14 T14 h14 W14 sz14 q14 => ?_)
     obtain ⟨rfl, rfl⟩ := q14
     change Fi _ _ _ _ _ _ _ _ _ _ (T14.setTop (mkF m 15 #[.val (.ref x), .val (.int (2 : Int32)), .val (.int c1)] [(.int c2)]))
     refine Fi.by' (st' := T14.setTop (mkF m 17 #[.val (.ref x), .val (.int (2 : Int32)), .val (.int c2)] [(.int c2)])) (fun t k => ?_) ?_
     ·refine XS.istoreN W14.here hx rfl (hb hby d5_15) rfl (l' := #[.val (.ref x), .val (.int (2 : Int32)), .val (.int c2)]) rfl ?_
      refine XS.iloadN W14.here hx rfl (hb hby d5_16) rfl ?_
      exact k
     refine W14.callS hx (y := y_6) (ww hw 86 rfl) (ww hw 87 rfl) (ww hw 88 rfl) (ww hw 89 rfl) (by decide) (Pay.of_con (Wd := 0) (rm_chHi l Z a0 hw c2 h0 n0 (by omega)) (ww hw 89 rfl) (ww hw 88 rfl) (hEL hw) (by decide) (by decide)) (g := (mkF m 17 #[.val (.ref x), .val (.int (2 : Int32)), .val (.int c2)] [(.int c2)])) rfl (by rw [hml]; rfl) (argsL := [(.int c2)]) (rest := []) (lenOf pd_0 rfl) rfl rfl (ble_ rfl) (hb hby d5_17) (by decide) (by decide) (fun v15 T15 h15 W15 sz15 q15 => ?_)
     obtain ⟨rfl, rfl⟩ := q15
     change Fi _ _ _ _ _ _ _ _ _ _ (T15.setTop (mkF m 20 #[.val (.ref x), .val (.int (2 : Int32)), .val (.int c2)] [(.int (b2i (hiB c2)))]))
     by_cases hc20_16 : (b2i (hiB c2)) = (0 : Int32)
     ·refine Fi.by' (st' := T15.setTop (mkF m 53 #[.val (.ref x), .val (.int (2 : Int32)), .val (.int c2)] [(.int c2)])) (fun t k => ?_) ?_
      ·refine XS.ifYes W15.here hx rfl (pc0 := 20) (pc' := 52) rfl (hb hby d5_20) rfl ((if0 _ _).trans (teq hc20_16).1) (by decide) (by decide) ?_
       refine XS.iloadN W15.here hx rfl (hb hby d5_52) rfl ?_
       exact k
      refine W15.callS hx (y := y_8) (ww hw 91 rfl) (ww hw 92 rfl) (ww hw 88 rfl) (ww hw 93 rfl) (by decide) (Pay.of_con (Wd := 0) (rm_chSu l Z a0 hw c2 h0 n0 (by omega)) (ww hw 93 rfl) (ww hw 88 rfl) (hEL hw) (by decide) (by decide)) (g := (mkF m 53 #[.val (.ref x), .val (.int (2 : Int32)), .val (.int c2)] [(.int c2)])) rfl (by rw [hml]; rfl) (argsL := [(.int c2)]) (rest := []) (lenOf pd_0 rfl) rfl rfl (ble_ rfl) (hb hby d5_53) (by decide) (by decide) (fun v17 T17 h17 W17 sz17 q17 => ?_)
      obtain ⟨rfl, rfl⟩ := q17
      change Fi _ _ _ _ _ _ _ _ _ _ (T17.setTop (mkF m 56 #[.val (.ref x), .val (.int (2 : Int32)), .val (.int c2)] [(.int (b2i (suB c2)))]))
      by_cases hc56_18 : (b2i (suB c2)) = (0 : Int32)
      ·refine Fi.by' (st' := T17.setTop (mkF m 4 #[.val (.ref x), .val (.int (3 : Int32)), .val (.int c2)] [(.ref x), (.int (3 : Int32))])) (fun t k => ?_) ?_
       ·refine XS.ifYes W17.here hx rfl (pc0 := 56) (pc' := 61) rfl (hb hby d5_56) rfl ((if0 _ _).trans (teq hc56_18).1) (by decide) (by decide) ?_
        refine XS.iinc W17.here hx rfl (hb hby d5_61) rfl (l' := #[.val (.ref x), .val (.int (3 : Int32)), .val (.int c2)]) rfl ?_
        refine XS.goto W17.here hx rfl (pc0 := 64) (pc' := 2) rfl (hb hby d5_64) (by decide) (by decide) ?_
        refine XS.iloadN W17.here hx rfl (hb hby d5_2) rfl ?_
        refine XS.aloadN W17.here hx rfl (hb hby d5_3) rfl rfl ?_
        exact k
       refine W17.callV hx (y := y_0) (C := "java/lang/String") (ww hw 32 rfl) (ww hw 33 rfl) (ww hw 35 rfl) (ww hw 34 rfl) (by decide) (payLen (Wd := 1) hw A0 S0 hz (by decide) (by decide)) (A0).exa (g := (mkF m 4 #[.val (.ref x), .val (.int (3 : Int32)), .val (.int c2)] [(.ref x), (.int (3 : Int32))])) rfl (by rw [hml]; rfl) (argsL := []) (rest := [(.int (3 : Int32))]) (lenOf pd_14 rfl) rfl rfl (ble_ rfl) (hb hby d5_4) (by decide) (by decide) (fun v19 T19 h19 W19 sz19 q19 => ?_)
       obtain ⟨rfl, rfl⟩ := q19
       change Fi _ _ _ _ _ _ _ _ _ _ (T19.setTop (mkF m 7 #[.val (.ref x), .val (.int (3 : Int32)), .val (.int c2)] [(.int (3 : Int32)), (.int (3 : Int32))]))
       refine Fi.by' (st' := T19.setTop (mkF m 68 #[.val (.ref x), .val (.int (3 : Int32)), .val (.int c2)] [(.int (1 : Int32))])) (fun t k => ?_) ?_
       ·refine XS.icmpYes W19.here hx rfl (pc0 := 7) (pc' := 67) rfl (hb hby d5_7) rfl (flt (by decide : ¬ ((3 : Int32) < (3 : Int32)))).2.1 (by decide) (by decide) ?_
        refine iconstZ W19.here hx rfl (hb hby d5_67) (z := (1 : Int32)) rfl ?_
        exact k
       have f0 := b2i_f hc20_4
       have f1 := b2i_f hc56_6
       have f2 := b2i_f hc20_10
       have f3 := b2i_f hc56_12
       have f4 := b2i_f hc20_16
       have f5 := b2i_f hc56_18
       have hv : b2i (encB [c0, c1, c2]) = (1 : Int32) := by simp [b2i, encB, f0, f1, f2, f3, f4, f5]
       exact W19.iret hx hlk hret (by simp) rfl (hb hby d5_68) ⟨by rw [hv], rfl⟩ (by decide) (by decide)
      ·refine Fi.by' (st' := T17.setTop (mkF m 60 #[.val (.ref x), .val (.int (2 : Int32)), .val (.int c2)] [(.int (0 : Int32))])) (fun t k => ?_) ?_
       ·refine XS.ifNo W17.here hx rfl (hb hby d5_56) rfl ((if0 _ _).trans (feq hc56_18).1) ?_
        refine iconstZ W17.here hx rfl (hb hby d5_59) (z := (0 : Int32)) rfl ?_
        exact k
       have f0 := b2i_f hc20_4
       have f1 := b2i_f hc56_6
       have f2 := b2i_f hc20_10
       have f3 := b2i_f hc56_12
       have f4 := b2i_f hc20_16
       have f5 := b2i_t hc56_18
       have hv : b2i (encB [c0, c1, c2]) = (0 : Int32) := by simp [b2i, encB, f0, f1, f2, f3, f4, f5]
       exact W17.iret hx hlk hret (by simp) rfl (hb hby d5_60) ⟨by rw [hv], rfl⟩ (by decide) (by decide)
     ·refine Fi.by' (st' := T15.setTop (mkF m 27 #[.val (.ref x), .val (.int (2 : Int32)), .val (.int c2)] [(.ref x), (.int (3 : Int32))])) (fun t k => ?_) ?_
      ·refine XS.ifNo W15.here hx rfl (hb hby d5_20) rfl ((if0 _ _).trans (feq hc20_16).1) ?_
       refine XS.iloadN W15.here hx rfl (hb hby d5_23) rfl ?_
       refine iconstZ W15.here hx rfl (hb hby d5_24) (z := (1 : Int32)) rfl ?_
       refine XS.iadd W15.here hx rfl (hb hby d5_25) rfl ?_
       refine XS.aloadN W15.here hx rfl (hb hby d5_26) rfl rfl ?_
       exact k
      refine W15.callV hx (y := y_0) (C := "java/lang/String") (ww hw 32 rfl) (ww hw 33 rfl) (ww hw 35 rfl) (ww hw 34 rfl) (by decide) (payLen (Wd := 1) hw A0 S0 hz (by decide) (by decide)) (A0).exa (g := (mkF m 27 #[.val (.ref x), .val (.int (2 : Int32)), .val (.int c2)] [(.ref x), (.int (3 : Int32))])) rfl (by rw [hml]; rfl) (argsL := []) (rest := [(.int (3 : Int32))]) (lenOf pd_14 rfl) rfl rfl (ble_ rfl) (hb hby d5_27) (by decide) (by decide) (fun v20 T20 h20 W20 sz20 q20 => ?_)
      obtain ⟨rfl, rfl⟩ := q20
      change Fi _ _ _ _ _ _ _ _ _ _ (T20.setTop (mkF m 30 #[.val (.ref x), .val (.int (2 : Int32)), .val (.int c2)] [(.int (3 : Int32)), (.int (3 : Int32))]))
      refine Fi.by' (st' := T20.setTop (mkF m 53 #[.val (.ref x), .val (.int (2 : Int32)), .val (.int c2)] [(.int c2)])) (fun t k => ?_) ?_
      ·refine XS.icmpYes W20.here hx rfl (pc0 := 30) (pc' := 52) rfl (hb hby d5_30) rfl (flt (by decide : ¬ ((3 : Int32) < (3 : Int32)))).2.1 (by decide) (by decide) ?_
       refine XS.iloadN W20.here hx rfl (hb hby d5_52) rfl ?_
       exact k
      refine W20.callS hx (y := y_8) (ww hw 91 rfl) (ww hw 92 rfl) (ww hw 88 rfl) (ww hw 93 rfl) (by decide) (Pay.of_con (Wd := 0) (rm_chSu l Z a0 hw c2 h0 n0 (by omega)) (ww hw 93 rfl) (ww hw 88 rfl) (hEL hw) (by decide) (by decide)) (g := (mkF m 53 #[.val (.ref x), .val (.int (2 : Int32)), .val (.int c2)] [(.int c2)])) rfl (by rw [hml]; rfl) (argsL := [(.int c2)]) (rest := []) (lenOf pd_0 rfl) rfl rfl (ble_ rfl) (hb hby d5_53) (by decide) (by decide) (fun v21 T21 h21 W21 sz21 q21 => ?_)
      obtain ⟨rfl, rfl⟩ := q21
      change Fi _ _ _ _ _ _ _ _ _ _ (T21.setTop (mkF m 56 #[.val (.ref x), .val (.int (2 : Int32)), .val (.int c2)] [(.int (b2i (suB c2)))]))
      have su22 : suB c2 = true := by rw [su_is, b2i_t hc20_16]; rfl
      refine Fi.by' (st' := T21.setTop (mkF m 60 #[.val (.ref x), .val (.int (2 : Int32)), .val (.int c2)] [(.int (0 : Int32))])) (fun t k => ?_) ?_
      ·refine XS.ifNo W21.here hx rfl (hb hby d5_56) rfl ((if0 _ _).trans (feq (by rw [su22]; decide)).1) ?_
       refine iconstZ W21.here hx rfl (hb hby d5_59) (z := (0 : Int32)) rfl ?_
       exact k
      have f0 := b2i_f hc20_4
      have f1 := b2i_f hc56_6
      have f2 := b2i_f hc20_10
      have f3 := b2i_f hc56_12
      have f4 := b2i_t hc20_16
      have hv : b2i (encB [c0, c1, c2]) = (0 : Int32) := by simp [b2i, encB, f0, f1, f2, f3, f4, su22]
      exact W21.iret hx hlk hret (by simp) rfl (hb hby d5_60) ⟨by rw [hv], rfl⟩ (by decide) (by decide)
    ·refine Fi.by' (st' := T11.setTop (mkF m 60 #[.val (.ref x), .val (.int (1 : Int32)), .val (.int c1)] [(.int (0 : Int32))])) (fun t k => ?_) ?_
     ·refine XS.ifNo W11.here hx rfl (hb hby d5_56) rfl ((if0 _ _).trans (feq hc56_12).1) ?_
      refine iconstZ W11.here hx rfl (hb hby d5_59) (z := (0 : Int32)) rfl ?_
      exact k
     have f0 := b2i_f hc20_4
     have f1 := b2i_f hc56_6
     have f2 := b2i_f hc20_10
     have f3 := b2i_t hc56_12
     have hv : b2i (encB [c0, c1, c2]) = (0 : Int32) := by simp [b2i, encB, f0, f1, f2, f3]
     exact W11.iret hx hlk hret (by simp) rfl (hb hby d5_60) ⟨by rw [hv], rfl⟩ (by decide) (by decide)
   ·refine Fi.by' (st' := T9.setTop (mkF m 27 #[.val (.ref x), .val (.int (1 : Int32)), .val (.int c1)] [(.ref x), (.int (2 : Int32))])) (fun t k => ?_) ?_
    ·refine XS.ifNo W9.here hx rfl (hb hby d5_20) rfl ((if0 _ _).trans (feq hc20_10).1) ?_
     refine XS.iloadN W9.here hx rfl (hb hby d5_23) rfl ?_
     refine iconstZ W9.here hx rfl (hb hby d5_24) (z := (1 : Int32)) rfl ?_
     refine XS.iadd W9.here hx rfl (hb hby d5_25) rfl ?_
     refine XS.aloadN W9.here hx rfl (hb hby d5_26) rfl rfl ?_
     exact k
    refine W9.callV hx (y := y_0) (C := "java/lang/String") (ww hw 32 rfl) (ww hw 33 rfl) (ww hw 35 rfl) (ww hw 34 rfl) (by decide) (payLen (Wd := 1) hw A0 S0 hz (by decide) (by decide)) (A0).exa (g := (mkF m 27 #[.val (.ref x), .val (.int (1 : Int32)), .val (.int c1)] [(.ref x), (.int (2 : Int32))])) rfl (by rw [hml]; rfl) (argsL := []) (rest := [(.int (2 : Int32))]) (lenOf pd_14 rfl) rfl rfl (ble_ rfl) (hb hby d5_27) (by decide) (by decide) (fun v23 T23 h23 W23 sz23 q23 => ?_)
    obtain ⟨rfl, rfl⟩ := q23
    change Fi _ _ _ _ _ _ _ _ _ _ (T23.setTop (mkF m 30 #[.val (.ref x), .val (.int (1 : Int32)), .val (.int c1)] [(.int (3 : Int32)), (.int (2 : Int32))]))
    refine Fi.by' (st' := T23.setTop (mkF m 37 #[.val (.ref x), .val (.int (1 : Int32)), .val (.int c1)] [(.int (2 : Int32)), (.ref x)])) (fun t k => ?_) ?_
    ·refine XS.icmpNo W23.here hx rfl (hb hby d5_30) rfl (tlt (by decide : ((2 : Int32) < (3 : Int32)))).2.1 ?_
     refine XS.aloadN W23.here hx rfl (hb hby d5_33) rfl rfl ?_
     refine XS.iloadN W23.here hx rfl (hb hby d5_34) rfl ?_
     refine iconstZ W23.here hx rfl (hb hby d5_35) (z := (1 : Int32)) rfl ?_
     refine XS.iadd W23.here hx rfl (hb hby d5_36) rfl ?_
     exact k
    refine W23.callV hx (y := y_1) (C := "java/lang/String") (ww hw 64 rfl) (ww hw 65 rfl) (ww hw 67 rfl) (ww hw 66 rfl) (by decide) (payCh (Wd := 0) (i := 2) hw A0 (ble_ rfl) S0 hz G0 rf D0 HB0 LB0 Z0 (ble_ rfl) rfl (by decide) (by decide)) (A0).exa (g := (mkF m 37 #[.val (.ref x), .val (.int (1 : Int32)), .val (.int c1)] [(.int (2 : Int32)), (.ref x)])) rfl (by rw [hml]; rfl) (argsL := [(.int (2 : Int32))]) (rest := []) (lenOf pd_15 rfl) rfl rfl (ble_ rfl) (hb hby d5_37) (by decide) (by decide) (fun v24 T24 h24 W24 sz24 q24 => ?_)
    obtain ⟨rfl, rfl⟩ := q24
    change Fi _ _ _ _ _ _ _ _ _ _ (T24.setTop (mkF m 40 #[.val (.ref x), .val (.int (1 : Int32)), .val (.int c1)] [(.int c2)]))
    refine W24.callS hx (y := y_7) (ww hw 129 rfl) (ww hw 130 rfl) (ww hw 88 rfl) (ww hw 131 rfl) (by decide) (Pay.of_con (Wd := 0) (rm_chLo l Z a0 hw c2 h0 n0 (by omega)) (ww hw 131 rfl) (ww hw 88 rfl) (hEL hw) (by decide) (by decide)) (g := (mkF m 40 #[.val (.ref x), .val (.int (1 : Int32)), .val (.int c1)] [(.int c2)])) rfl (by rw [hml]; rfl) (argsL := [(.int c2)]) (rest := []) (lenOf pd_0 rfl) rfl rfl (ble_ rfl) (hb hby d5_40) (by decide) (by decide) (fun v25 T25 h25 W25 sz25 q25 => ?_)
    obtain ⟨rfl, rfl⟩ := q25
    change Fi _ _ _ _ _ _ _ _ _ _ (T25.setTop (mkF m 43 #[.val (.ref x), .val (.int (1 : Int32)), .val (.int c1)] [(.int (b2i (loB c2)))]))
    by_cases hc43_26 : (b2i (loB c2)) = (0 : Int32)
    ·refine Fi.by' (st' := T25.setTop (mkF m 53 #[.val (.ref x), .val (.int (1 : Int32)), .val (.int c1)] [(.int c1)])) (fun t k => ?_) ?_
     ·refine XS.ifYes W25.here hx rfl (pc0 := 43) (pc' := 52) rfl (hb hby d5_43) rfl ((if0 _ _).trans (teq hc43_26).1) (by decide) (by decide) ?_
      refine XS.iloadN W25.here hx rfl (hb hby d5_52) rfl ?_
      exact k
     refine W25.callS hx (y := y_8) (ww hw 91 rfl) (ww hw 92 rfl) (ww hw 88 rfl) (ww hw 93 rfl) (by decide) (Pay.of_con (Wd := 0) (rm_chSu l Z a0 hw c1 h0 n0 (by omega)) (ww hw 93 rfl) (ww hw 88 rfl) (hEL hw) (by decide) (by decide)) (g := (mkF m 53 #[.val (.ref x), .val (.int (1 : Int32)), .val (.int c1)] [(.int c1)])) rfl (by rw [hml]; rfl) (argsL := [(.int c1)]) (rest := []) (lenOf pd_0 rfl) rfl rfl (ble_ rfl) (hb hby d5_53) (by decide) (by decide) (fun v27 T27 h27 W27 sz27 q27 => ?_)
     obtain ⟨rfl, rfl⟩ := q27
     change Fi _ _ _ _ _ _ _ _ _ _ (T27.setTop (mkF m 56 #[.val (.ref x), .val (.int (1 : Int32)), .val (.int c1)] [(.int (b2i (suB c1)))]))
     have su28 : suB c1 = true := by rw [su_is, b2i_t hc20_10]; rfl
     refine Fi.by' (st' := T27.setTop (mkF m 60 #[.val (.ref x), .val (.int (1 : Int32)), .val (.int c1)] [(.int (0 : Int32))])) (fun t k => ?_) ?_
     ·refine XS.ifNo W27.here hx rfl (hb hby d5_56) rfl ((if0 _ _).trans (feq (by rw [su28]; decide)).1) ?_
      refine iconstZ W27.here hx rfl (hb hby d5_59) (z := (0 : Int32)) rfl ?_
      exact k
     have f0 := b2i_f hc20_4
     have f1 := b2i_f hc56_6
     have f2 := b2i_t hc20_10
     have f3 := b2i_f hc43_26
     have hv : b2i (encB [c0, c1, c2]) = (0 : Int32) := by simp [b2i, encB, f0, f1, f2, f3, su28]
     exact W27.iret hx hlk hret (by simp) rfl (hb hby d5_60) ⟨by rw [hv], rfl⟩ (by decide) (by decide)
    ·refine Fi.by' (st' := T25.setTop (mkF m 4 #[.val (.ref x), .val (.int (3 : Int32)), .val (.int c1)] [(.ref x), (.int (3 : Int32))])) (fun t k => ?_) ?_
     ·refine XS.ifNo W25.here hx rfl (hb hby d5_43) rfl ((if0 _ _).trans (feq hc43_26).1) ?_
      refine XS.iinc W25.here hx rfl (hb hby d5_46) rfl (l' := #[.val (.ref x), .val (.int (2 : Int32)), .val (.int c1)]) rfl ?_
      refine XS.goto W25.here hx rfl (pc0 := 49) (pc' := 61) rfl (hb hby d5_49) (by decide) (by decide) ?_
      refine XS.iinc W25.here hx rfl (hb hby d5_61) rfl (l' := #[.val (.ref x), .val (.int (3 : Int32)), .val (.int c1)]) rfl ?_
      refine XS.goto W25.here hx rfl (pc0 := 64) (pc' := 2) rfl (hb hby d5_64) (by decide) (by decide) ?_
      refine XS.iloadN W25.here hx rfl (hb hby d5_2) rfl ?_
      refine XS.aloadN W25.here hx rfl (hb hby d5_3) rfl rfl ?_
      exact k
     refine W25.callV hx (y := y_0) (C := "java/lang/String") (ww hw 32 rfl) (ww hw 33 rfl) (ww hw 35 rfl) (ww hw 34 rfl) (by decide) (payLen (Wd := 1) hw A0 S0 hz (by decide) (by decide)) (A0).exa (g := (mkF m 4 #[.val (.ref x), .val (.int (3 : Int32)), .val (.int c1)] [(.ref x), (.int (3 : Int32))])) rfl (by rw [hml]; rfl) (argsL := []) (rest := [(.int (3 : Int32))]) (lenOf pd_14 rfl) rfl rfl (ble_ rfl) (hb hby d5_4) (by decide) (by decide) (fun v29 T29 h29 W29 sz29 q29 => ?_)
     obtain ⟨rfl, rfl⟩ := q29
     change Fi _ _ _ _ _ _ _ _ _ _ (T29.setTop (mkF m 7 #[.val (.ref x), .val (.int (3 : Int32)), .val (.int c1)] [(.int (3 : Int32)), (.int (3 : Int32))]))
     refine Fi.by' (st' := T29.setTop (mkF m 68 #[.val (.ref x), .val (.int (3 : Int32)), .val (.int c1)] [(.int (1 : Int32))])) (fun t k => ?_) ?_
     ·refine XS.icmpYes W29.here hx rfl (pc0 := 7) (pc' := 67) rfl (hb hby d5_7) rfl (flt (by decide : ¬ ((3 : Int32) < (3 : Int32)))).2.1 (by decide) (by decide) ?_
      refine iconstZ W29.here hx rfl (hb hby d5_67) (z := (1 : Int32)) rfl ?_
      exact k
     have f0 := b2i_f hc20_4
     have f1 := b2i_f hc56_6
     have f2 := b2i_t hc20_10
     have f3 := b2i_t hc43_26
     have hv : b2i (encB [c0, c1, c2]) = (1 : Int32) := by simp [b2i, encB, f0, f1, f2, f3]
     exact W29.iret hx hlk hret (by simp) rfl (hb hby d5_68) ⟨by rw [hv], rfl⟩ (by decide) (by decide)
  ·refine Fi.by' (st' := T5.setTop (mkF m 60 #[.val (.ref x), .val (.int (0 : Int32)), .val (.int c0)] [(.int (0 : Int32))])) (fun t k => ?_) ?_
   ·refine XS.ifNo W5.here hx rfl (hb hby d5_56) rfl ((if0 _ _).trans (feq hc56_6).1) ?_
    refine iconstZ W5.here hx rfl (hb hby d5_59) (z := (0 : Int32)) rfl ?_
    exact k
   have f0 := b2i_f hc20_4
   have f1 := b2i_t hc56_6
   have hv : b2i (encB [c0, c1, c2]) = (0 : Int32) := by simp [b2i, encB, f0, f1]
   exact W5.iret hx hlk hret (by simp) rfl (hb hby d5_60) ⟨by rw [hv], rfl⟩ (by decide) (by decide)
 ·refine Fi.by' (st' := T3.setTop (mkF m 27 #[.val (.ref x), .val (.int (0 : Int32)), .val (.int c0)] [(.ref x), (.int (1 : Int32))])) (fun t k => ?_) ?_
  ·refine XS.ifNo W3.here hx rfl (hb hby d5_20) rfl ((if0 _ _).trans (feq hc20_4).1) ?_
   refine XS.iloadN W3.here hx rfl (hb hby d5_23) rfl ?_
   refine iconstZ W3.here hx rfl (hb hby d5_24) (z := (1 : Int32)) rfl ?_
   refine XS.iadd W3.here hx rfl (hb hby d5_25) rfl ?_
   refine XS.aloadN W3.here hx rfl (hb hby d5_26) rfl rfl ?_
   exact k
  refine W3.callV hx (y := y_0) (C := "java/lang/String") (ww hw 32 rfl) (ww hw 33 rfl) (ww hw 35 rfl) (ww hw 34 rfl) (by decide) (payLen (Wd := 1) hw A0 S0 hz (by decide) (by decide)) (A0).exa (g := (mkF m 27 #[.val (.ref x), .val (.int (0 : Int32)), .val (.int c0)] [(.ref x), (.int (1 : Int32))])) rfl (by rw [hml]; rfl) (argsL := []) (rest := [(.int (1 : Int32))]) (lenOf pd_14 rfl) rfl rfl (ble_ rfl) (hb hby d5_27) (by decide) (by decide) (fun v30 T30 h30 W30 sz30 q30 => ?_)
  obtain ⟨rfl, rfl⟩ := q30
  change Fi _ _ _ _ _ _ _ _ _ _ (T30.setTop (mkF m 30 #[.val (.ref x), .val (.int (0 : Int32)), .val (.int c0)] [(.int (3 : Int32)), (.int (1 : Int32))]))
  refine Fi.by' (st' := T30.setTop (mkF m 37 #[.val (.ref x), .val (.int (0 : Int32)), .val (.int c0)] [(.int (1 : Int32)), (.ref x)])) (fun t k => ?_) ?_
  ·refine XS.icmpNo W30.here hx rfl (hb hby d5_30) rfl (tlt (by decide : ((1 : Int32) < (3 : Int32)))).2.1 ?_
   refine XS.aloadN W30.here hx rfl (hb hby d5_33) rfl rfl ?_
   refine XS.iloadN W30.here hx rfl (hb hby d5_34) rfl ?_
   refine iconstZ W30.here hx rfl (hb hby d5_35) (z := (1 : Int32)) rfl ?_
   refine XS.iadd W30.here hx rfl (hb hby d5_36) rfl ?_
   exact k
  refine W30.callV hx (y := y_1) (C := "java/lang/String") (ww hw 64 rfl) (ww hw 65 rfl) (ww hw 67 rfl) (ww hw 66 rfl) (by decide) (payCh (Wd := 0) (i := 1) hw A0 (ble_ rfl) S0 hz G0 rf D0 HB0 LB0 Z0 (ble_ rfl) rfl (by decide) (by decide)) (A0).exa (g := (mkF m 37 #[.val (.ref x), .val (.int (0 : Int32)), .val (.int c0)] [(.int (1 : Int32)), (.ref x)])) rfl (by rw [hml]; rfl) (argsL := [(.int (1 : Int32))]) (rest := []) (lenOf pd_15 rfl) rfl rfl (ble_ rfl) (hb hby d5_37) (by decide) (by decide) (fun v31 T31 h31 W31 sz31 q31 => ?_)
  obtain ⟨rfl, rfl⟩ := q31
  change Fi _ _ _ _ _ _ _ _ _ _ (T31.setTop (mkF m 40 #[.val (.ref x), .val (.int (0 : Int32)), .val (.int c0)] [(.int c1)]))
  refine W31.callS hx (y := y_7) (ww hw 129 rfl) (ww hw 130 rfl) (ww hw 88 rfl) (ww hw 131 rfl) (by decide) (Pay.of_con (Wd := 0) (rm_chLo l Z a0 hw c1 h0 n0 (by omega)) (ww hw 131 rfl) (ww hw 88 rfl) (hEL hw) (by decide) (by decide)) (g := (mkF m 40 #[.val (.ref x), .val (.int (0 : Int32)), .val (.int c0)] [(.int c1)])) rfl (by rw [hml]; rfl) (argsL := [(.int c1)]) (rest := []) (lenOf pd_0 rfl) rfl rfl (ble_ rfl) (hb hby d5_40) (by decide) (by decide) (fun v32 T32 h32 W32 sz32 q32 => ?_)
  obtain ⟨rfl, rfl⟩ := q32
  change Fi _ _ _ _ _ _ _ _ _ _ (T32.setTop (mkF m 43 #[.val (.ref x), .val (.int (0 : Int32)), .val (.int c0)] [(.int (b2i (loB c1)))]))
  by_cases hc43_33 : (b2i (loB c1)) = (0 : Int32)
  ·refine Fi.by' (st' := T32.setTop (mkF m 53 #[.val (.ref x), .val (.int (0 : Int32)), .val (.int c0)] [(.int c0)])) (fun t k => ?_) ?_
   ·refine XS.ifYes W32.here hx rfl (pc0 := 43) (pc' := 52) rfl (hb hby d5_43) rfl ((if0 _ _).trans (teq hc43_33).1) (by decide) (by decide) ?_
    refine XS.iloadN W32.here hx rfl (hb hby d5_52) rfl ?_
    exact k
   refine W32.callS hx (y := y_8) (ww hw 91 rfl) (ww hw 92 rfl) (ww hw 88 rfl) (ww hw 93 rfl) (by decide) (Pay.of_con (Wd := 0) (rm_chSu l Z a0 hw c0 h0 n0 (by omega)) (ww hw 93 rfl) (ww hw 88 rfl) (hEL hw) (by decide) (by decide)) (g := (mkF m 53 #[.val (.ref x), .val (.int (0 : Int32)), .val (.int c0)] [(.int c0)])) rfl (by rw [hml]; rfl) (argsL := [(.int c0)]) (rest := []) (lenOf pd_0 rfl) rfl rfl (ble_ rfl) (hb hby d5_53) (by decide) (by decide) (fun v34 T34 h34 W34 sz34 q34 => ?_)
   obtain ⟨rfl, rfl⟩ := q34
   change Fi _ _ _ _ _ _ _ _ _ _ (T34.setTop (mkF m 56 #[.val (.ref x), .val (.int (0 : Int32)), .val (.int c0)] [(.int (b2i (suB c0)))]))
   have su35 : suB c0 = true := by rw [su_is, b2i_t hc20_4]; rfl
   refine Fi.by' (st' := T34.setTop (mkF m 60 #[.val (.ref x), .val (.int (0 : Int32)), .val (.int c0)] [(.int (0 : Int32))])) (fun t k => ?_) ?_
   ·refine XS.ifNo W34.here hx rfl (hb hby d5_56) rfl ((if0 _ _).trans (feq (by rw [su35]; decide)).1) ?_
    refine iconstZ W34.here hx rfl (hb hby d5_59) (z := (0 : Int32)) rfl ?_
    exact k
   have f0 := b2i_t hc20_4
   have f1 := b2i_f hc43_33
   have hv : b2i (encB [c0, c1, c2]) = (0 : Int32) := by simp [b2i, encB, f0, f1, su35]
   exact W34.iret hx hlk hret (by simp) rfl (hb hby d5_60) ⟨by rw [hv], rfl⟩ (by decide) (by decide)
  ·refine Fi.by' (st' := T32.setTop (mkF m 4 #[.val (.ref x), .val (.int (2 : Int32)), .val (.int c0)] [(.ref x), (.int (2 : Int32))])) (fun t k => ?_) ?_
   ·refine XS.ifNo W32.here hx rfl (hb hby d5_43) rfl ((if0 _ _).trans (feq hc43_33).1) ?_
    refine XS.iinc W32.here hx rfl (hb hby d5_46) rfl (l' := #[.val (.ref x), .val (.int (1 : Int32)), .val (.int c0)]) rfl ?_
    refine XS.goto W32.here hx rfl (pc0 := 49) (pc' := 61) rfl (hb hby d5_49) (by decide) (by decide) ?_
    refine XS.iinc W32.here hx rfl (hb hby d5_61) rfl (l' := #[.val (.ref x), .val (.int (2 : Int32)), .val (.int c0)]) rfl ?_
    refine XS.goto W32.here hx rfl (pc0 := 64) (pc' := 2) rfl (hb hby d5_64) (by decide) (by decide) ?_
    refine XS.iloadN W32.here hx rfl (hb hby d5_2) rfl ?_
    refine XS.aloadN W32.here hx rfl (hb hby d5_3) rfl rfl ?_
    exact k
   refine W32.callV hx (y := y_0) (C := "java/lang/String") (ww hw 32 rfl) (ww hw 33 rfl) (ww hw 35 rfl) (ww hw 34 rfl) (by decide) (payLen (Wd := 1) hw A0 S0 hz (by decide) (by decide)) (A0).exa (g := (mkF m 4 #[.val (.ref x), .val (.int (2 : Int32)), .val (.int c0)] [(.ref x), (.int (2 : Int32))])) rfl (by rw [hml]; rfl) (argsL := []) (rest := [(.int (2 : Int32))]) (lenOf pd_14 rfl) rfl rfl (ble_ rfl) (hb hby d5_4) (by decide) (by decide) (fun v36 T36 h36 W36 sz36 q36 => ?_)
   obtain ⟨rfl, rfl⟩ := q36
   change Fi _ _ _ _ _ _ _ _ _ _ (T36.setTop (mkF m 7 #[.val (.ref x), .val (.int (2 : Int32)), .val (.int c0)] [(.int (3 : Int32)), (.int (2 : Int32))]))
   refine Fi.by' (st' := T36.setTop (mkF m 12 #[.val (.ref x), .val (.int (2 : Int32)), .val (.int c0)] [(.int (2 : Int32)), (.ref x)])) (fun t k => ?_) ?_
   ·refine XS.icmpNo W36.here hx rfl (hb hby d5_7) rfl (tlt (by decide : ((2 : Int32) < (3 : Int32)))).2.1 ?_
    refine XS.aloadN W36.here hx rfl (hb hby d5_10) rfl rfl ?_
    refine XS.iloadN W36.here hx rfl (hb hby d5_11) rfl ?_
    exact k
   refine W36.callV hx (y := y_1) (C := "java/lang/String") (ww hw 64 rfl) (ww hw 65 rfl) (ww hw 67 rfl) (ww hw 66 rfl) (by decide) (payCh (Wd := 0) (i := 2) hw A0 (ble_ rfl) S0 hz G0 rf D0 HB0 LB0 Z0 (ble_ rfl) rfl (by decide) (by decide)) (A0).exa (g := (mkF m 12 #[.val (.ref x), .val (.int (2 : Int32)), .val (.int c0)] [(.int (2 : Int32)), (.ref x)])) rfl (by rw [hml]; rfl) (argsL := [(.int (2 : Int32))]) (rest := []) (lenOf pd_15 rfl) rfl rfl (ble_ rfl) (hb hby d5_12) (by decide) (by decide) (fun v37 T37 h37 W37 sz37 q37 => ?_)
   obtain ⟨rfl, rfl⟩ := q37
   change Fi _ _ _ _ _ _ _ _ _ _ (T37.setTop (mkF m 15 #[.val (.ref x), .val (.int (2 : Int32)), .val (.int c0)] [(.int c2)]))
   refine Fi.by' (st' := T37.setTop (mkF m 17 #[.val (.ref x), .val (.int (2 : Int32)), .val (.int c2)] [(.int c2)])) (fun t k => ?_) ?_
   ·refine XS.istoreN W37.here hx rfl (hb hby d5_15) rfl (l' := #[.val (.ref x), .val (.int (2 : Int32)), .val (.int c2)]) rfl ?_
    refine XS.iloadN W37.here hx rfl (hb hby d5_16) rfl ?_
    exact k
   refine W37.callS hx (y := y_6) (ww hw 86 rfl) (ww hw 87 rfl) (ww hw 88 rfl) (ww hw 89 rfl) (by decide) (Pay.of_con (Wd := 0) (rm_chHi l Z a0 hw c2 h0 n0 (by omega)) (ww hw 89 rfl) (ww hw 88 rfl) (hEL hw) (by decide) (by decide)) (g := (mkF m 17 #[.val (.ref x), .val (.int (2 : Int32)), .val (.int c2)] [(.int c2)])) rfl (by rw [hml]; rfl) (argsL := [(.int c2)]) (rest := []) (lenOf pd_0 rfl) rfl rfl (ble_ rfl) (hb hby d5_17) (by decide) (by decide) (fun v38 T38 h38 W38 sz38 q38 => ?_)
   obtain ⟨rfl, rfl⟩ := q38
   change Fi _ _ _ _ _ _ _ _ _ _ (T38.setTop (mkF m 20 #[.val (.ref x), .val (.int (2 : Int32)), .val (.int c2)] [(.int (b2i (hiB c2)))]))
   by_cases hc20_39 : (b2i (hiB c2)) = (0 : Int32)
   ·refine Fi.by' (st' := T38.setTop (mkF m 53 #[.val (.ref x), .val (.int (2 : Int32)), .val (.int c2)] [(.int c2)])) (fun t k => ?_) ?_
    ·refine XS.ifYes W38.here hx rfl (pc0 := 20) (pc' := 52) rfl (hb hby d5_20) rfl ((if0 _ _).trans (teq hc20_39).1) (by decide) (by decide) ?_
     refine XS.iloadN W38.here hx rfl (hb hby d5_52) rfl ?_
     exact k
    refine W38.callS hx (y := y_8) (ww hw 91 rfl) (ww hw 92 rfl) (ww hw 88 rfl) (ww hw 93 rfl) (by decide) (Pay.of_con (Wd := 0) (rm_chSu l Z a0 hw c2 h0 n0 (by omega)) (ww hw 93 rfl) (ww hw 88 rfl) (hEL hw) (by decide) (by decide)) (g := (mkF m 53 #[.val (.ref x), .val (.int (2 : Int32)), .val (.int c2)] [(.int c2)])) rfl (by rw [hml]; rfl) (argsL := [(.int c2)]) (rest := []) (lenOf pd_0 rfl) rfl rfl (ble_ rfl) (hb hby d5_53) (by decide) (by decide) (fun v40 T40 h40 W40 sz40 q40 => ?_)
    obtain ⟨rfl, rfl⟩ := q40
    change Fi _ _ _ _ _ _ _ _ _ _ (T40.setTop (mkF m 56 #[.val (.ref x), .val (.int (2 : Int32)), .val (.int c2)] [(.int (b2i (suB c2)))]))
    by_cases hc56_41 : (b2i (suB c2)) = (0 : Int32)
    ·refine Fi.by' (st' := T40.setTop (mkF m 4 #[.val (.ref x), .val (.int (3 : Int32)), .val (.int c2)] [(.ref x), (.int (3 : Int32))])) (fun t k => ?_) ?_
     ·refine XS.ifYes W40.here hx rfl (pc0 := 56) (pc' := 61) rfl (hb hby d5_56) rfl ((if0 _ _).trans (teq hc56_41).1) (by decide) (by decide) ?_
      refine XS.iinc W40.here hx rfl (hb hby d5_61) rfl (l' := #[.val (.ref x), .val (.int (3 : Int32)), .val (.int c2)]) rfl ?_
      refine XS.goto W40.here hx rfl (pc0 := 64) (pc' := 2) rfl (hb hby d5_64) (by decide) (by decide) ?_
      refine XS.iloadN W40.here hx rfl (hb hby d5_2) rfl ?_
      refine XS.aloadN W40.here hx rfl (hb hby d5_3) rfl rfl ?_
      exact k
     refine W40.callV hx (y := y_0) (C := "java/lang/String") (ww hw 32 rfl) (ww hw 33 rfl) (ww hw 35 rfl) (ww hw 34 rfl) (by decide) (payLen (Wd := 1) hw A0 S0 hz (by decide) (by decide)) (A0).exa (g := (mkF m 4 #[.val (.ref x), .val (.int (3 : Int32)), .val (.int c2)] [(.ref x), (.int (3 : Int32))])) rfl (by rw [hml]; rfl) (argsL := []) (rest := [(.int (3 : Int32))]) (lenOf pd_14 rfl) rfl rfl (ble_ rfl) (hb hby d5_4) (by decide) (by decide) (fun v42 T42 h42 W42 sz42 q42 => ?_)
     obtain ⟨rfl, rfl⟩ := q42
     change Fi _ _ _ _ _ _ _ _ _ _ (T42.setTop (mkF m 7 #[.val (.ref x), .val (.int (3 : Int32)), .val (.int c2)] [(.int (3 : Int32)), (.int (3 : Int32))]))
     refine Fi.by' (st' := T42.setTop (mkF m 68 #[.val (.ref x), .val (.int (3 : Int32)), .val (.int c2)] [(.int (1 : Int32))])) (fun t k => ?_) ?_
     ·refine XS.icmpYes W42.here hx rfl (pc0 := 7) (pc' := 67) rfl (hb hby d5_7) rfl (flt (by decide : ¬ ((3 : Int32) < (3 : Int32)))).2.1 (by decide) (by decide) ?_
      refine iconstZ W42.here hx rfl (hb hby d5_67) (z := (1 : Int32)) rfl ?_
      exact k
     have f0 := b2i_t hc20_4
     have f1 := b2i_t hc43_33
     have f2 := b2i_f hc20_39
     have f3 := b2i_f hc56_41
     have hv : b2i (encB [c0, c1, c2]) = (1 : Int32) := by simp [b2i, encB, f0, f1, f2, f3]
     exact W42.iret hx hlk hret (by simp) rfl (hb hby d5_68) ⟨by rw [hv], rfl⟩ (by decide) (by decide)
    ·refine Fi.by' (st' := T40.setTop (mkF m 60 #[.val (.ref x), .val (.int (2 : Int32)), .val (.int c2)] [(.int (0 : Int32))])) (fun t k => ?_) ?_
     ·refine XS.ifNo W40.here hx rfl (hb hby d5_56) rfl ((if0 _ _).trans (feq hc56_41).1) ?_
      refine iconstZ W40.here hx rfl (hb hby d5_59) (z := (0 : Int32)) rfl ?_
      exact k
     have f0 := b2i_t hc20_4
     have f1 := b2i_t hc43_33
     have f2 := b2i_f hc20_39
     have f3 := b2i_t hc56_41
     have hv : b2i (encB [c0, c1, c2]) = (0 : Int32) := by simp [b2i, encB, f0, f1, f2, f3]
     exact W40.iret hx hlk hret (by simp) rfl (hb hby d5_60) ⟨by rw [hv], rfl⟩ (by decide) (by decide)
   ·refine Fi.by' (st' := T38.setTop (mkF m 27 #[.val (.ref x), .val (.int (2 : Int32)), .val (.int c2)] [(.ref x), (.int (3 : Int32))])) (fun t k => ?_) ?_
    ·refine XS.ifNo W38.here hx rfl (hb hby d5_20) rfl ((if0 _ _).trans (feq hc20_39).1) ?_
     refine XS.iloadN W38.here hx rfl (hb hby d5_23) rfl ?_
     refine iconstZ W38.here hx rfl (hb hby d5_24) (z := (1 : Int32)) rfl ?_
     refine XS.iadd W38.here hx rfl (hb hby d5_25) rfl ?_
     refine XS.aloadN W38.here hx rfl (hb hby d5_26) rfl rfl ?_
     exact k
    refine W38.callV hx (y := y_0) (C := "java/lang/String") (ww hw 32 rfl) (ww hw 33 rfl) (ww hw 35 rfl) (ww hw 34 rfl) (by decide) (payLen (Wd := 1) hw A0 S0 hz (by decide) (by decide)) (A0).exa (g := (mkF m 27 #[.val (.ref x), .val (.int (2 : Int32)), .val (.int c2)] [(.ref x), (.int (3 : Int32))])) rfl (by rw [hml]; rfl) (argsL := []) (rest := [(.int (3 : Int32))]) (lenOf pd_14 rfl) rfl rfl (ble_ rfl) (hb hby d5_27) (by decide) (by decide) (fun v43 T43 h43 W43 sz43 q43 => ?_)
    obtain ⟨rfl, rfl⟩ := q43
    change Fi _ _ _ _ _ _ _ _ _ _ (T43.setTop (mkF m 30 #[.val (.ref x), .val (.int (2 : Int32)), .val (.int c2)] [(.int (3 : Int32)), (.int (3 : Int32))]))
    refine Fi.by' (st' := T43.setTop (mkF m 53 #[.val (.ref x), .val (.int (2 : Int32)), .val (.int c2)] [(.int c2)])) (fun t k => ?_) ?_
    ·refine XS.icmpYes W43.here hx rfl (pc0 := 30) (pc' := 52) rfl (hb hby d5_30) rfl (flt (by decide : ¬ ((3 : Int32) < (3 : Int32)))).2.1 (by decide) (by decide) ?_
     refine XS.iloadN W43.here hx rfl (hb hby d5_52) rfl ?_
     exact k
    refine W43.callS hx (y := y_8) (ww hw 91 rfl) (ww hw 92 rfl) (ww hw 88 rfl) (ww hw 93 rfl) (by decide) (Pay.of_con (Wd := 0) (rm_chSu l Z a0 hw c2 h0 n0 (by omega)) (ww hw 93 rfl) (ww hw 88 rfl) (hEL hw) (by decide) (by decide)) (g := (mkF m 53 #[.val (.ref x), .val (.int (2 : Int32)), .val (.int c2)] [(.int c2)])) rfl (by rw [hml]; rfl) (argsL := [(.int c2)]) (rest := []) (lenOf pd_0 rfl) rfl rfl (ble_ rfl) (hb hby d5_53) (by decide) (by decide) (fun v44 T44 h44 W44 sz44 q44 => ?_)
    obtain ⟨rfl, rfl⟩ := q44
    change Fi _ _ _ _ _ _ _ _ _ _ (T44.setTop (mkF m 56 #[.val (.ref x), .val (.int (2 : Int32)), .val (.int c2)] [(.int (b2i (suB c2)))]))
    have su45 : suB c2 = true := by rw [su_is, b2i_t hc20_39]; rfl
    refine Fi.by' (st' := T44.setTop (mkF m 60 #[.val (.ref x), .val (.int (2 : Int32)), .val (.int c2)] [(.int (0 : Int32))])) (fun t k => ?_) ?_
    ·refine XS.ifNo W44.here hx rfl (hb hby d5_56) rfl ((if0 _ _).trans (feq (by rw [su45]; decide)).1) ?_
     refine iconstZ W44.here hx rfl (hb hby d5_59) (z := (0 : Int32)) rfl ?_
     exact k
    have f0 := b2i_t hc20_4
    have f1 := b2i_t hc43_33
    have f2 := b2i_t hc20_39
    have hv : b2i (encB [c0, c1, c2]) = (0 : Int32) := by simp [b2i, encB, f0, f1, f2, su45]
    exact W44.iret hx hlk hret (by simp) rfl (hb hby d5_60) ⟨by rw [hv], rfl⟩ (by decide) (by decide)
def Q_enc4 (Z : State) (x : Addr) (zc c0 c1 c2 c3 : Int32) (fm : Value) (h0 : Heap) (v : Option Value) (h : Heap) : Prop := v = some (.int (b2i (encB [c0, c1, c2, c3]))) ∧ h0 = h
set_option maxRecDepth 65536 in
set_option maxHeartbeats 40000000 in
theorem rm_enc4 (l : Launch) (Z : State) (a0 : Array Value) (hw : ∀ d ∈ tables_1, d.before a0 Z = true) (x : Addr) (zc c0 c1 c2 c3 : Int32) (fm : Value) (h0 : Heap) (n0 : Nat) (Z0 : n0 ≤ h0.size) (S0 : Sta Z h0 "java/lang/String" "COMPACT_STRINGS" "Z" (.int zc)) (hz : ¬ zc = 0) (G0 : Sta Z h0 "jdk/internal/util/Preconditions" "SIOOBE_FORMATTER" "Ljava/util/function/BiFunction;" fm) (rf : fm.isRef = true) (D0 : Sta Z h0 "java/lang/StringUTF16" "$assertionsDisabled" "Z" (.int 1)) (HB0 : Sta Z h0 "java/lang/StringUTF16" "HI_BYTE_SHIFT" "I" (.int 0)) (LB0 : Sta Z h0 "java/lang/StringUTF16" "LO_BYTE_SHIFT" "I" (.int 8)) (A0 : StrA Z h0 x [c0, c1, c2, c3]) :
  Con l Z EL y_25 prog_46_method_4_code 3 (some .boolean) [] ({ frames := 5, cells := 0, slots := 0, locals := 66 } : Room) #[(.ref x)] h0 n0 (Q_enc4 Z x zc c0 c1 c2 c3 fm h0) := by
 refine Con.intro (own := "com/example/record_hold/recordhold/text/Utf8") rfl (plainFor_of_name plain_com_example_record_hold_recordhold_text_Utf8) (hEL hw) ?_
 intro p e s m below meth c s₁ hx hby hml hret hlk hnm W0
 refine Fi.cast (show entryFrame m #[(.ref x)] 3 = (mkF m 0 #[.val (.ref x), .unset, .unset] []) from by first | (simp [entryFrame, mkF, argsToLocals, Value.category]; done) | rfl) ?_
 refine Fi.by' (st' := s₁.setTop (mkF m 4 #[.val (.ref x), .val (.int (0 : Int32)), .unset] [(.ref x), (.int (0 : Int32))])) (fun t k => ?_) ?_
 ·refine iconstZ W0.here hx rfl (hb hby d5_0) (z := (0 : Int32)) rfl ?_
  refine XS.istoreN W0.here hx rfl (hb hby d5_1) rfl (l' := #[.val (.ref x), .val (.int (0 : Int32)), .unset]) rfl ?_
  refine XS.iloadN W0.here hx rfl (hb hby d5_2) rfl ?_
  refine XS.aloadN W0.here hx rfl (hb hby d5_3) rfl rfl ?_
  exact k
 refine W0.callV hx (y := y_0) (C := "java/lang/String") (ww hw 32 rfl) (ww hw 33 rfl) (ww hw 35 rfl) (ww hw 34 rfl) (by decide) (payLen (Wd := 1) hw A0 S0 hz (by decide) (by decide)) (A0).exa (g := (mkF m 4 #[.val (.ref x), .val (.int (0 : Int32)), .unset] [(.ref x), (.int (0 : Int32))])) rfl (by rw [hml]; rfl) (argsL := []) (rest := [(.int (0 : Int32))]) (lenOf pd_14 rfl) rfl rfl (ble_ rfl) (hb hby d5_4) (by decide) (by decide) (fun v1 T1 h1 W1 sz1 q1 => ?_)
 obtain ⟨rfl, rfl⟩ := q1
 change Fi _ _ _ _ _ _ _ _ _ _ (T1.setTop (mkF m 7 #[.val (.ref x), .val (.int (0 : Int32)), .unset] [(.int (4 : Int32)), (.int (0 : Int32))]))
 refine Fi.by' (st' := T1.setTop (mkF m 12 #[.val (.ref x), .val (.int (0 : Int32)), .unset] [(.int (0 : Int32)), (.ref x)])) (fun t k => ?_) ?_
 ·refine XS.icmpNo W1.here hx rfl (hb hby d5_7) rfl (tlt (by decide : ((0 : Int32) < (4 : Int32)))).2.1 ?_
  refine XS.aloadN W1.here hx rfl (hb hby d5_10) rfl rfl ?_
  refine XS.iloadN W1.here hx rfl (hb hby d5_11) rfl ?_
  exact k
 refine W1.callV hx (y := y_1) (C := "java/lang/String") (ww hw 64 rfl) (ww hw 65 rfl) (ww hw 67 rfl) (ww hw 66 rfl) (by decide) (payCh (Wd := 0) (i := 0) hw A0 (ble_ rfl) S0 hz G0 rf D0 HB0 LB0 Z0 (ble_ rfl) rfl (by decide) (by decide)) (A0).exa (g := (mkF m 12 #[.val (.ref x), .val (.int (0 : Int32)), .unset] [(.int (0 : Int32)), (.ref x)])) rfl (by rw [hml]; rfl) (argsL := [(.int (0 : Int32))]) (rest := []) (lenOf pd_15 rfl) rfl rfl (ble_ rfl) (hb hby d5_12) (by decide) (by decide) (fun v2 T2 h2 W2 sz2 q2 => ?_)
 obtain ⟨rfl, rfl⟩ := q2
 change Fi _ _ _ _ _ _ _ _ _ _ (T2.setTop (mkF m 15 #[.val (.ref x), .val (.int (0 : Int32)), .unset] [(.int c0)]))
 refine Fi.by' (st' := T2.setTop (mkF m 17 #[.val (.ref x), .val (.int (0 : Int32)), .val (.int c0)] [(.int c0)])) (fun t k => ?_) ?_
 ·refine XS.istoreN W2.here hx rfl (hb hby d5_15) rfl (l' := #[.val (.ref x), .val (.int (0 : Int32)), .val (.int c0)]) rfl ?_
  refine XS.iloadN W2.here hx rfl (hb hby d5_16) rfl ?_
  exact k
 refine W2.callS hx (y := y_6) (ww hw 86 rfl) (ww hw 87 rfl) (ww hw 88 rfl) (ww hw 89 rfl) (by decide) (Pay.of_con (Wd := 0) (rm_chHi l Z a0 hw c0 h0 n0 (by omega)) (ww hw 89 rfl) (ww hw 88 rfl) (hEL hw) (by decide) (by decide)) (g := (mkF m 17 #[.val (.ref x), .val (.int (0 : Int32)), .val (.int c0)] [(.int c0)])) rfl (by rw [hml]; rfl) (argsL := [(.int c0)]) (rest := []) (lenOf pd_0 rfl) rfl rfl (ble_ rfl) (hb hby d5_17) (by decide) (by decide) (fun v3 T3 h3 W3 sz3 q3 => ?_)
 obtain ⟨rfl, rfl⟩ := q3
 change Fi _ _ _ _ _ _ _ _ _ _ (T3.setTop (mkF m 20 #[.val (.ref x), .val (.int (0 : Int32)), .val (.int c0)] [(.int (b2i (hiB c0)))]))
 by_cases hc20_4 : (b2i (hiB c0)) = (0 : Int32)
 ·refine Fi.by' (st' := T3.setTop (mkF m 53 #[.val (.ref x), .val (.int (0 : Int32)), .val (.int c0)] [(.int c0)])) (fun t k => ?_) ?_
  ·refine XS.ifYes W3.here hx rfl (pc0 := 20) (pc' := 52) rfl (hb hby d5_20) rfl ((if0 _ _).trans (teq hc20_4).1) (by decide) (by decide) ?_
   refine XS.iloadN W3.here hx rfl (hb hby d5_52) rfl ?_
   exact k
  refine W3.callS hx (y := y_8) (ww hw 91 rfl) (ww hw 92 rfl) (ww hw 88 rfl) (ww hw 93 rfl) (by decide) (Pay.of_con (Wd := 0) (rm_chSu l Z a0 hw c0 h0 n0 (by omega)) (ww hw 93 rfl) (ww hw 88 rfl) (hEL hw) (by decide) (by decide)) (g := (mkF m 53 #[.val (.ref x), .val (.int (0 : Int32)), .val (.int c0)] [(.int c0)])) rfl (by rw [hml]; rfl) (argsL := [(.int c0)]) (rest := []) (lenOf pd_0 rfl) rfl rfl (ble_ rfl) (hb hby d5_53) (by decide) (by decide) (fun v5 T5 h5 W5 sz5 q5 => ?_)
  obtain ⟨rfl, rfl⟩ := q5
  change Fi _ _ _ _ _ _ _ _ _ _ (T5.setTop (mkF m 56 #[.val (.ref x), .val (.int (0 : Int32)), .val (.int c0)] [(.int (b2i (suB c0)))]))
  by_cases hc56_6 : (b2i (suB c0)) = (0 : Int32)
  ·refine Fi.by' (st' := T5.setTop (mkF m 4 #[.val (.ref x), .val (.int (1 : Int32)), .val (.int c0)] [(.ref x), (.int (1 : Int32))])) (fun t k => ?_) ?_
   ·refine XS.ifYes W5.here hx rfl (pc0 := 56) (pc' := 61) rfl (hb hby d5_56) rfl ((if0 _ _).trans (teq hc56_6).1) (by decide) (by decide) ?_
    refine XS.iinc W5.here hx rfl (hb hby d5_61) rfl (l' := #[.val (.ref x), .val (.int (1 : Int32)), .val (.int c0)]) rfl ?_
    refine XS.goto W5.here hx rfl (pc0 := 64) (pc' := 2) rfl (hb hby d5_64) (by decide) (by decide) ?_
    refine XS.iloadN W5.here hx rfl (hb hby d5_2) rfl ?_
    refine XS.aloadN W5.here hx rfl (hb hby d5_3) rfl rfl ?_
    exact k
   refine W5.callV hx (y := y_0) (C := "java/lang/String") (ww hw 32 rfl) (ww hw 33 rfl) (ww hw 35 rfl) (ww hw 34 rfl) (by decide) (payLen (Wd := 1) hw A0 S0 hz (by decide) (by decide)) (A0).exa (g := (mkF m 4 #[.val (.ref x), .val (.int (1 : Int32)), .val (.int c0)] [(.ref x), (.int (1 : Int32))])) rfl (by rw [hml]; rfl) (argsL := []) (rest := [(.int (1 : Int32))]) (lenOf pd_14 rfl) rfl rfl (ble_ rfl) (hb hby d5_4) (by decide) (by decide) (fun v7 T7 h7 W7 sz7 q7 => ?_)
   obtain ⟨rfl, rfl⟩ := q7
   change Fi _ _ _ _ _ _ _ _ _ _ (T7.setTop (mkF m 7 #[.val (.ref x), .val (.int (1 : Int32)), .val (.int c0)] [(.int (4 : Int32)), (.int (1 : Int32))]))
   refine Fi.by' (st' := T7.setTop (mkF m 12 #[.val (.ref x), .val (.int (1 : Int32)), .val (.int c0)] [(.int (1 : Int32)), (.ref x)])) (fun t k => ?_) ?_
   ·refine XS.icmpNo W7.here hx rfl (hb hby d5_7) rfl (tlt (by decide : ((1 : Int32) < (4 : Int32)))).2.1 ?_
    refine XS.aloadN W7.here hx rfl (hb hby d5_10) rfl rfl ?_
    refine XS.iloadN W7.here hx rfl (hb hby d5_11) rfl ?_
    exact k
   refine W7.callV hx (y := y_1) (C := "java/lang/String") (ww hw 64 rfl) (ww hw 65 rfl) (ww hw 67 rfl) (ww hw 66 rfl) (by decide) (payCh (Wd := 0) (i := 1) hw A0 (ble_ rfl) S0 hz G0 rf D0 HB0 LB0 Z0 (ble_ rfl) rfl (by decide) (by decide)) (A0).exa (g := (mkF m 12 #[.val (.ref x), .val (.int (1 : Int32)), .val (.int c0)] [(.int (1 : Int32)), (.ref x)])) rfl (by rw [hml]; rfl) (argsL := [(.int (1 : Int32))]) (rest := []) (lenOf pd_15 rfl) rfl rfl (ble_ rfl) (hb hby d5_12) (by decide) (by decide) (fun v8 T8 h8 W8 sz8 q8 => ?_)
   obtain ⟨rfl, rfl⟩ := q8
   change Fi _ _ _ _ _ _ _ _ _ _ (T8.setTop (mkF m 15 #[.val (.ref x), .val (.int (1 : Int32)), .val (.int c0)] [(.int c1)]))
   refine Fi.by' (st' := T8.setTop (mkF m 17 #[.val (.ref x), .val (.int (1 : Int32)), .val (.int c1)] [(.int c1)])) (fun t k => ?_) ?_
   ·refine XS.istoreN W8.here hx rfl (hb hby d5_15) rfl (l' := #[.val (.ref x), .val (.int (1 : Int32)), .val (.int c1)]) rfl ?_
    refine XS.iloadN W8.here hx rfl (hb hby d5_16) rfl ?_
    exact k
   refine W8.callS hx (y := y_6) (ww hw 86 rfl) (ww hw 87 rfl) (ww hw 88 rfl) (ww hw 89 rfl) (by decide) (Pay.of_con (Wd := 0) (rm_chHi l Z a0 hw c1 h0 n0 (by omega)) (ww hw 89 rfl) (ww hw 88 rfl) (hEL hw) (by decide) (by decide)) (g := (mkF m 17 #[.val (.ref x), .val (.int (1 : Int32)), .val (.int c1)] [(.int c1)])) rfl (by rw [hml]; rfl) (argsL := [(.int c1)]) (rest := []) (lenOf pd_0 rfl) rfl rfl (ble_ rfl) (hb hby d5_17) (by decide) (by decide) (fun v9 T9 h9 W9 sz9 q9 => ?_)
   obtain ⟨rfl, rfl⟩ := q9
   change Fi _ _ _ _ _ _ _ _ _ _ (T9.setTop (mkF m 20 #[.val (.ref x), .val (.int (1 : Int32)), .val (.int c1)] [(.int (b2i (hiB c1)))]))
   by_cases hc20_10 : (b2i (hiB c1)) = (0 : Int32)
   ·refine Fi.by' (st' := T9.setTop (mkF m 53 #[.val (.ref x), .val (.int (1 : Int32)), .val (.int c1)] [(.int c1)])) (fun t k => ?_) ?_
    ·refine XS.ifYes W9.here hx rfl (pc0 := 20) (pc' := 52) rfl (hb hby d5_20) rfl ((if0 _ _).trans (teq hc20_10).1) (by decide) (by decide) ?_
     refine XS.iloadN W9.here hx rfl (hb hby d5_52) rfl ?_
     exact k
    refine W9.callS hx (y := y_8) (ww hw 91 rfl) (ww hw 92 rfl) (ww hw 88 rfl) (ww hw 93 rfl) (by decide) (Pay.of_con (Wd := 0) (rm_chSu l Z a0 hw c1 h0 n0 (by omega)) (ww hw 93 rfl) (ww hw 88 rfl) (hEL hw) (by decide) (by decide)) (g := (mkF m 53 #[.val (.ref x), .val (.int (1 : Int32)), .val (.int c1)] [(.int c1)])) rfl (by rw [hml]; rfl) (argsL := [(.int c1)]) (rest := []) (lenOf pd_0 rfl) rfl rfl (ble_ rfl) (hb hby d5_53) (by decide) (by decide) (fun v11 T11 h11 W11 sz11 q11 => ?_)
    obtain ⟨rfl, rfl⟩ := q11
    change Fi _ _ _ _ _ _ _ _ _ _ (T11.setTop (mkF m 56 #[.val (.ref x), .val (.int (1 : Int32)), .val (.int c1)] [(.int (b2i (suB c1)))]))
    by_cases hc56_12 : (b2i (suB c1)) = (0 : Int32)
    ·refine Fi.by' (st' := T11.setTop (mkF m 4 #[.val (.ref x), .val (.int (2 : Int32)), .val (.int c1)] [(.ref x), (.int (2 : Int32))])) (fun t k => ?_) ?_
     ·refine XS.ifYes W11.here hx rfl (pc0 := 56) (pc' := 61) rfl (hb hby d5_56) rfl ((if0 _ _).trans (teq hc56_12).1) (by decide) (by decide) ?_
      refine XS.iinc W11.here hx rfl (hb hby d5_61) rfl (l' := #[.val (.ref x), .val (.int (2 : Int32)), .val (.int c1)]) rfl ?_
      refine XS.goto W11.here hx rfl (pc0 := 64) (pc' := 2) rfl (hb hby d5_64) (by decide) (by decide) ?_
      refine XS.iloadN W11.here hx rfl (hb hby d5_2) rfl ?_
      refine XS.aloadN W11.here hx rfl (hb hby d5_3) rfl rfl ?_
      exact k
     refine W11.callV hx (y := y_0) (C := "java/lang/String") (ww hw 32 rfl) (ww hw 33 rfl) (ww hw 35 rfl) (ww hw 34 rfl) (by decide) (payLen (Wd := 1) hw A0 S0 hz (by decide) (by decide)) (A0).exa (g := (mkF m 4 #[.val (.ref x), .val (.int (2 : Int32)), .val (.int c1)] [(.ref x), (.int (2 : Int32))])) rfl (by rw [hml]; rfl) (argsL := []) (rest := [(.int (2 : Int32))]) (lenOf pd_14 rfl) rfl rfl (ble_ rfl) (hb hby d5_4) (by decide) (by decide) (fun v13 T13 h13 W13 sz13 q13 => ?_)
     obtain ⟨rfl, rfl⟩ := q13
     change Fi _ _ _ _ _ _ _ _ _ _ (T13.setTop (mkF m 7 #[.val (.ref x), .val (.int (2 : Int32)), .val (.int c1)] [(.int (4 : Int32)), (.int (2 : Int32))]))
     refine Fi.by' (st' := T13.setTop (mkF m 12 #[.val (.ref x), .val (.int (2 : Int32)), .val (.int c1)] [(.int (2 : Int32)), (.ref x)])) (fun t k => ?_) ?_
     ·refine XS.icmpNo W13.here hx rfl (hb hby d5_7) rfl (tlt (by decide : ((2 : Int32) < (4 : Int32)))).2.1 ?_
      refine XS.aloadN W13.here hx rfl (hb hby d5_10) rfl rfl ?_
      refine XS.iloadN W13.here hx rfl (hb hby d5_11) rfl ?_
      exact k
     refine W13.callV hx (y := y_1) (C := "java/lang/String") (ww hw 64 rfl) (ww hw 65 rfl) (ww hw 67 rfl) (ww hw 66 rfl) (by decide) (payCh (Wd := 0) (i := 2) hw A0 (ble_ rfl) S0 hz G0 rf D0 HB0 LB0 Z0 (ble_ rfl) rfl (by decide) (by decide)) (A0).exa (g := (mkF m 12 #[.val (.ref x), .val (.int (2 : Int32)), .val (.int c1)] [(.int (2 : Int32)), (.ref x)])) rfl (by rw [hml]; rfl) (argsL := [(.int (2 : Int32))]) (rest := []) (lenOf pd_15 rfl) rfl rfl (ble_ rfl) (hb hby d5_12) (by decide) (by decide) (fun v14 T14 h14 W14 sz14 q14 => ?_)
     obtain ⟨rfl, rfl⟩ := q14
     change Fi _ _ _ _ _ _ _ _ _ _ (T14.setTop (mkF m 15 #[.val (.ref x), .val (.int (2 : Int32)), .val (.int c1)] [(.int c2)]))
     refine Fi.by' (st' := T14.setTop (mkF m 17 #[.val (.ref x), .val (.int (2 : Int32)), .val (.int c2)] [(.int c2)])) (fun t k => ?_) ?_
     ·refine XS.istoreN W14.here hx rfl (hb hby d5_15) rfl (l' := #[.val (.ref x), .val (.int (2 : Int32)), .val (.int c2)]) rfl ?_
      refine XS.iloadN W14.here hx rfl (hb hby d5_16) rfl ?_
      exact k
     refine W14.callS hx (y := y_6) (ww hw 86 rfl) (ww hw 87 rfl) (ww hw 88 rfl) (ww hw 89 rfl) (by decide) (Pay.of_con (Wd := 0) (rm_chHi l Z a0 hw c2 h0 n0 (by omega)) (ww hw 89 rfl) (ww hw 88 rfl) (hEL hw) (by decide) (by decide)) (g := (mkF m 17 #[.val (.ref x), .val (.int (2 : Int32)), .val (.int c2)] [(.int c2)])) rfl (by rw [hml]; rfl) (argsL := [(.int c2)]) (rest := []) (lenOf pd_0 rfl) rfl rfl (ble_ rfl) (hb hby d5_17) (by decide) (by decide) (fun v15 T15 h15 W15 sz15 q15 => ?_)
     obtain ⟨rfl, rfl⟩ := q15
     change Fi _ _ _ _ _ _ _ _ _ _ (T15.setTop (mkF m 20 #[.val (.ref x), .val (.int (2 : Int32)), .val (.int c2)] [(.int (b2i (hiB c2)))]))
     by_cases hc20_16 : (b2i (hiB c2)) = (0 : Int32)
     ·refine Fi.by' (st' := T15.setTop (mkF m 53 #[.val (.ref x), .val (.int (2 : Int32)), .val (.int c2)] [(.int c2)])) (fun t k => ?_) ?_
      ·refine XS.ifYes W15.here hx rfl (pc0 := 20) (pc' := 52) rfl (hb hby d5_20) rfl ((if0 _ _).trans (teq hc20_16).1) (by decide) (by decide) ?_
       refine XS.iloadN W15.here hx rfl (hb hby d5_52) rfl ?_
       exact k
      refine W15.callS hx (y := y_8) (ww hw 91 rfl) (ww hw 92 rfl) (ww hw 88 rfl) (ww hw 93 rfl) (by decide) (Pay.of_con (Wd := 0) (rm_chSu l Z a0 hw c2 h0 n0 (by omega)) (ww hw 93 rfl) (ww hw 88 rfl) (hEL hw) (by decide) (by decide)) (g := (mkF m 53 #[.val (.ref x), .val (.int (2 : Int32)), .val (.int c2)] [(.int c2)])) rfl (by rw [hml]; rfl) (argsL := [(.int c2)]) (rest := []) (lenOf pd_0 rfl) rfl rfl (ble_ rfl) (hb hby d5_53) (by decide) (by decide) (fun v17 T17 h17 W17 sz17 q17 => ?_)
      obtain ⟨rfl, rfl⟩ := q17
      change Fi _ _ _ _ _ _ _ _ _ _ (T17.setTop (mkF m 56 #[.val (.ref x), .val (.int (2 : Int32)), .val (.int c2)] [(.int (b2i (suB c2)))]))
      by_cases hc56_18 : (b2i (suB c2)) = (0 : Int32)
      ·refine Fi.by' (st' := T17.setTop (mkF m 4 #[.val (.ref x), .val (.int (3 : Int32)), .val (.int c2)] [(.ref x), (.int (3 : Int32))])) (fun t k => ?_) ?_
       ·refine XS.ifYes W17.here hx rfl (pc0 := 56) (pc' := 61) rfl (hb hby d5_56) rfl ((if0 _ _).trans (teq hc56_18).1) (by decide) (by decide) ?_
        refine XS.iinc W17.here hx rfl (hb hby d5_61) rfl (l' := #[.val (.ref x), .val (.int (3 : Int32)), .val (.int c2)]) rfl ?_
        refine XS.goto W17.here hx rfl (pc0 := 64) (pc' := 2) rfl (hb hby d5_64) (by decide) (by decide) ?_
        refine XS.iloadN W17.here hx rfl (hb hby d5_2) rfl ?_
        refine XS.aloadN W17.here hx rfl (hb hby d5_3) rfl rfl ?_
        exact k
       refine W17.callV hx (y := y_0) (C := "java/lang/String") (ww hw 32 rfl) (ww hw 33 rfl) (ww hw 35 rfl) (ww hw 34 rfl) (by decide) (payLen (Wd := 1) hw A0 S0 hz (by decide) (by decide)) (A0).exa (g := (mkF m 4 #[.val (.ref x), .val (.int (3 : Int32)), .val (.int c2)] [(.ref x), (.int (3 : Int32))])) rfl (by rw [hml]; rfl) (argsL := []) (rest := [(.int (3 : Int32))]) (lenOf pd_14 rfl) rfl rfl (ble_ rfl) (hb hby d5_4) (by decide) (by decide) (fun v19 T19 h19 W19 sz19 q19 => ?_)
       obtain ⟨rfl, rfl⟩ := q19
       change Fi _ _ _ _ _ _ _ _ _ _ (T19.setTop (mkF m 7 #[.val (.ref x), .val (.int (3 : Int32)), .val (.int c2)] [(.int (4 : Int32)), (.int (3 : Int32))]))
       refine Fi.by' (st' := T19.setTop (mkF m 12 #[.val (.ref x), .val (.int (3 : Int32)), .val (.int c2)] [(.int (3 : Int32)), (.ref x)])) (fun t k => ?_) ?_
       ·refine XS.icmpNo W19.here hx rfl (hb hby d5_7) rfl (tlt (by decide : ((3 : Int32) < (4 : Int32)))).2.1 ?_
        refine XS.aloadN W19.here hx rfl (hb hby d5_10) rfl rfl ?_
        refine XS.iloadN W19.here hx rfl (hb hby d5_11) rfl ?_
        exact k
       refine W19.callV hx (y := y_1) (C := "java/lang/String") (ww hw 64 rfl) (ww hw 65 rfl) (ww hw 67 rfl) (ww hw 66 rfl) (by decide) (payCh (Wd := 0) (i := 3) hw A0 (ble_ rfl) S0 hz G0 rf D0 HB0 LB0 Z0 (ble_ rfl) rfl (by decide) (by decide)) (A0).exa (g := (mkF m 12 #[.val (.ref x), .val (.int (3 : Int32)), .val (.int c2)] [(.int (3 : Int32)), (.ref x)])) rfl (by rw [hml]; rfl) (argsL := [(.int (3 : Int32))]) (rest := []) (lenOf pd_15 rfl) rfl rfl (ble_ rfl) (hb hby d5_12) (by decide) (by decide) (fun v20 T20 h20 W20 sz20 q20 => ?_)
       obtain ⟨rfl, rfl⟩ := q20
       change Fi _ _ _ _ _ _ _ _ _ _ (T20.setTop (mkF m 15 #[.val (.ref x), .val (.int (3 : Int32)), .val (.int c2)] [(.int c3)]))
       refine Fi.by' (st' := T20.setTop (mkF m 17 #[.val (.ref x), .val (.int (3 : Int32)), .val (.int c3)] [(.int c3)])) (fun t k => ?_) ?_
       ·refine XS.istoreN W20.here hx rfl (hb hby d5_15) rfl (l' := #[.val (.ref x), .val (.int (3 : Int32)), .val (.int c3)]) rfl ?_
        refine XS.iloadN W20.here hx rfl (hb hby d5_16) rfl ?_
        exact k
       refine W20.callS hx (y := y_6) (ww hw 86 rfl) (ww hw 87 rfl) (ww hw 88 rfl) (ww hw 89 rfl) (by decide) (Pay.of_con (Wd := 0) (rm_chHi l Z a0 hw c3 h0 n0 (by omega)) (ww hw 89 rfl) (ww hw 88 rfl) (hEL hw) (by decide) (by decide)) (g := (mkF m 17 #[.val (.ref x), .val (.int (3 : Int32)), .val (.int c3)] [(.int c3)])) rfl (by rw [hml]; rfl) (argsL := [(.int c3)]) (rest := []) (lenOf pd_0 rfl) rfl rfl (ble_ rfl) (hb hby d5_17) (by decide) (by decide) (fun v21 T21 h21 W21 sz21 q21 => ?_)
       obtain ⟨rfl, rfl⟩ := q21
       change Fi _ _ _ _ _ _ _ _ _ _ (T21.setTop (mkF m 20 #[.val (.ref x), .val (.int (3 : Int32)), .val (.int c3)] [(.int (b2i (hiB c3)))]))
       by_cases hc20_22 : (b2i (hiB c3)) = (0 : Int32)
       ·refine Fi.by' (st' := T21.setTop (mkF m 53 #[.val (.ref x), .val (.int (3 : Int32)), .val (.int c3)] [(.int c3)])) (fun t k => ?_) ?_
        ·refine XS.ifYes W21.here hx rfl (pc0 := 20) (pc' := 52) rfl (hb hby d5_20) rfl ((if0 _ _).trans (teq hc20_22).1) (by decide) (by decide) ?_
         refine XS.iloadN W21.here hx rfl (hb hby d5_52) rfl ?_
         exact k
        refine W21.callS hx (y := y_8) (ww hw 91 rfl) (ww hw 92 rfl) (ww hw 88 rfl) (ww hw 93 rfl) (by decide) (Pay.of_con (Wd := 0) (rm_chSu l Z a0 hw c3 h0 n0 (by omega)) (ww hw 93 rfl) (ww hw 88 rfl) (hEL hw) (by decide) (by decide)) (g := (mkF m 53 #[.val (.ref x), .val (.int (3 : Int32)), .val (.int c3)] [(.int c3)])) rfl (by rw [hml]; rfl) (argsL := [(.int c3)]) (rest := []) (lenOf pd_0 rfl) rfl rfl (ble_ rfl) (hb hby d5_53) (by decide) (by decide) (fun v23 T23 h23 W23 sz23 q23 => ?_)
        obtain ⟨rfl, rfl⟩ := q23
        change Fi _ _ _ _ _ _ _ _ _ _ (T23.setTop (mkF m 56 #[.val (.ref x), .val (.int (3 : Int32)), .val (.int c3)] [(.int (b2i (suB c3)))]))
        by_cases hc56_24 : (b2i (suB c3)) = (0 : Int32)
        ·refine Fi.by' (st' := T23.setTop (mkF m 4 #[.val (.ref x), .val (.int (4 : Int32)), .val (.int c3)] [(.ref x), (.int (4 : Int32))])) (fun t k => ?_) ?_
         ·refine XS.ifYes W23.here hx rfl (pc0 := 56) (pc' := 61) rfl (hb hby d5_56) rfl ((if0 _ _).trans (teq hc56_24).1) (by decide) (by decide) ?_
          refine XS.iinc W23.here hx rfl (hb hby d5_61) rfl (l' := #[.val (.ref x), .val (.int (4 : Int32)), .val (.int c3)]) rfl ?_
          refine XS.goto W23.here hx rfl (pc0 := 64) (pc' := 2) rfl (hb hby d5_64) (by decide) (by decide) ?_
          refine XS.iloadN W23.here hx rfl (hb hby d5_2) rfl ?_
          refine XS.aloadN W23.here hx rfl (hb hby d5_3) rfl rfl ?_
          exact k
         refine W23.callV hx (y := y_0) (C := "java/lang/String") (ww hw 32 rfl) (ww hw 33 rfl) (ww hw 35 rfl) (ww hw 34 rfl) (by decide) (payLen (Wd := 1) hw A0 S0 hz (by decide) (by decide)) (A0).exa (g := (mkF m 4 #[.val (.ref x), .val (.int (4 : Int32)), .val (.int c3)] [(.ref x), (.int (4 : Int32))])) rfl (by rw [hml]; rfl) (argsL := []) (rest := [(.int (4 : Int32))]) (lenOf pd_14 rfl) rfl rfl (ble_ rfl) (hb hby d5_4) (by decide) (by decide) (fun v25 T25 h25 W25 sz25 q25 => ?_)
         obtain ⟨rfl, rfl⟩ := q25
         change Fi _ _ _ _ _ _ _ _ _ _ (T25.setTop (mkF m 7 #[.val (.ref x), .val (.int (4 : Int32)), .val (.int c3)] [(.int (4 : Int32)), (.int (4 : Int32))]))
         refine Fi.by' (st' := T25.setTop (mkF m 68 #[.val (.ref x), .val (.int (4 : Int32)), .val (.int c3)] [(.int (1 : Int32))])) (fun t k => ?_) ?_
         ·refine XS.icmpYes W25.here hx rfl (pc0 := 7) (pc' := 67) rfl (hb hby d5_7) rfl (flt (by decide : ¬ ((4 : Int32) < (4 : Int32)))).2.1 (by decide) (by decide) ?_
          refine iconstZ W25.here hx rfl (hb hby d5_67) (z := (1 : Int32)) rfl ?_
          exact k
         have f0 := b2i_f hc20_4
         have f1 := b2i_f hc56_6
         have f2 := b2i_f hc20_10
         have f3 := b2i_f hc56_12
         have f4 := b2i_f hc20_16
         have f5 := b2i_f hc56_18
         have f6 := b2i_f hc20_22
         have f7 := b2i_f hc56_24
         have hv : b2i (encB [c0, c1, c2, c3]) = (1 : Int32) := by simp [b2i, encB, f0, f1, f2, f3, f4, f5, f6, f7]
         exact W25.iret hx hlk hret (by simp) rfl (hb hby d5_68) ⟨by rw [hv], rfl⟩ (by decide) (by decide)
        ·refine Fi.by' (st' := T23.setTop (mkF m 60 #[.val (.ref x), .val (.int (3 : Int32)), .val (.int c3)] [(.int (0 : Int32))])) (fun t k => ?_) ?_
         ·refine XS.ifNo W23.here hx rfl (hb hby d5_56) rfl ((if0 _ _).trans (feq hc56_24).1) ?_
          refine iconstZ W23.here hx rfl (hb hby d5_59) (z := (0 : Int32)) rfl ?_
          exact k
         have f0 := b2i_f hc20_4
         have f1 := b2i_f hc56_6
         have f2 := b2i_f hc20_10
         have f3 := b2i_f hc56_12
         have f4 := b2i_f hc20_16
         have f5 := b2i_f hc56_18
         have f6 := b2i_f hc20_22
         have f7 := b2i_t hc56_24
         have hv : b2i (encB [c0, c1, c2, c3]) = (0 : Int32) := by simp [b2i, encB, f0, f1, f2, f3, f4, f5, f6, f7]
         exact W23.iret hx hlk hret (by simp) rfl (hb hby d5_60) ⟨by rw [hv], rfl⟩ (by decide) (by decide)
       ·refine Fi.by' (st' := T21.setTop (mkF m 27 #[.val (.ref x), .val (.int (3 : Int32)), .val (.int c3)] [(.ref x), (.int (4 : Int32))])) (fun t k => ?_) ?_
        ·refine XS.ifNo W21.here hx rfl (hb hby d5_20) rfl ((if0 _ _).trans (feq hc20_22).1) ?_
         refine XS.iloadN W21.here hx rfl (hb hby d5_23) rfl ?_
         refine iconstZ W21.here hx rfl (hb hby d5_24) (z := (1 : Int32)) rfl ?_
         refine XS.iadd W21.here hx rfl (hb hby d5_25) rfl ?_
         refine XS.aloadN W21.here hx rfl (hb hby d5_26) rfl rfl ?_
         exact k
        refine W21.callV hx (y := y_0) (C := "java/lang/String") (ww hw 32 rfl) (ww hw 33 rfl) (ww hw 35 rfl) (ww hw 34 rfl) (by decide) (payLen (Wd := 1) hw A0 S0 hz (by decide) (by decide)) (A0).exa (g := (mkF m 27 #[.val (.ref x), .val (.int (3 : Int32)), .val (.int c3)] [(.ref x), (.int (4 : Int32))])) rfl (by rw [hml]; rfl) (argsL := []) (rest := [(.int (4 : Int32))]) (lenOf pd_14 rfl) rfl rfl (ble_ rfl) (hb hby d5_27) (by decide) (by decide) (fun v26 T26 h26 W26 sz26 q26 => ?_)
        obtain ⟨rfl, rfl⟩ := q26
        change Fi _ _ _ _ _ _ _ _ _ _ (T26.setTop (mkF m 30 #[.val (.ref x), .val (.int (3 : Int32)), .val (.int c3)] [(.int (4 : Int32)), (.int (4 : Int32))]))
        refine Fi.by' (st' := T26.setTop (mkF m 53 #[.val (.ref x), .val (.int (3 : Int32)), .val (.int c3)] [(.int c3)])) (fun t k => ?_) ?_
        ·refine XS.icmpYes W26.here hx rfl (pc0 := 30) (pc' := 52) rfl (hb hby d5_30) rfl (flt (by decide : ¬ ((4 : Int32) < (4 : Int32)))).2.1 (by decide) (by decide) ?_
         refine XS.iloadN W26.here hx rfl (hb hby d5_52) rfl ?_
         exact k
        refine W26.callS hx (y := y_8) (ww hw 91 rfl) (ww hw 92 rfl) (ww hw 88 rfl) (ww hw 93 rfl) (by decide) (Pay.of_con (Wd := 0) (rm_chSu l Z a0 hw c3 h0 n0 (by omega)) (ww hw 93 rfl) (ww hw 88 rfl) (hEL hw) (by decide) (by decide)) (g := (mkF m 53 #[.val (.ref x), .val (.int (3 : Int32)), .val (.int c3)] [(.int c3)])) rfl (by rw [hml]; rfl) (argsL := [(.int c3)]) (rest := []) (lenOf pd_0 rfl) rfl rfl (ble_ rfl) (hb hby d5_53) (by decide) (by decide) (fun v27 T27 h27 W27 sz27 q27 => ?_)
        obtain ⟨rfl, rfl⟩ := q27
        change Fi _ _ _ _ _ _ _ _ _ _ (T27.setTop (mkF m 56 #[.val (.ref x), .val (.int (3 : Int32)), .val (.int c3)] [(.int (b2i (suB c3)))]))
        have su28 : suB c3 = true := by rw [su_is, b2i_t hc20_22]; rfl
        refine Fi.by' (st' := T27.setTop (mkF m 60 #[.val (.ref x), .val (.int (3 : Int32)), .val (.int c3)] [(.int (0 : Int32))])) (fun t k => ?_) ?_
        ·refine XS.ifNo W27.here hx rfl (hb hby d5_56) rfl ((if0 _ _).trans (feq (by rw [su28]; decide)).1) ?_
         refine iconstZ W27.here hx rfl (hb hby d5_59) (z := (0 : Int32)) rfl ?_
         exact k
        have f0 := b2i_f hc20_4
        have f1 := b2i_f hc56_6
        have f2 := b2i_f hc20_10
        have f3 := b2i_f hc56_12
        have f4 := b2i_f hc20_16
        have f5 := b2i_f hc56_18
        have f6 := b2i_t hc20_22
        have hv : b2i (encB [c0, c1, c2, c3]) = (0 : Int32) := by simp [b2i, encB, f0, f1, f2, f3, f4, f5, f6, su28]
        exact W27.iret hx hlk hret (by simp) rfl (hb hby d5_60) ⟨by rw [hv], rfl⟩ (by decide) (by decide)
      ·refine Fi.by' (st' := T17.setTop (mkF m 60 #[.val (.ref x), .val (.int (2 : Int32)), .val (.int c2)] [(.int (0 : Int32))])) (fun t k => ?_) ?_
       ·refine XS.ifNo W17.here hx rfl (hb hby d5_56) rfl ((if0 _ _).trans (feq hc56_18).1) ?_
        refine iconstZ W17.here hx rfl (hb hby d5_59) (z := (0 : Int32)) rfl ?_
        exact k
       have f0 := b2i_f hc20_4
       have f1 := b2i_f hc56_6
       have f2 := b2i_f hc20_10
       have f3 := b2i_f hc56_12
       have f4 := b2i_f hc20_16
       have f5 := b2i_t hc56_18
       have hv : b2i (encB [c0, c1, c2, c3]) = (0 : Int32) := by simp [b2i, encB, f0, f1, f2, f3, f4, f5]
       exact W17.iret hx hlk hret (by simp) rfl (hb hby d5_60) ⟨by rw [hv], rfl⟩ (by decide) (by decide)
     ·refine Fi.by' (st' := T15.setTop (mkF m 27 #[.val (.ref x), .val (.int (2 : Int32)), .val (.int c2)] [(.ref x), (.int (3 : Int32))])) (fun t k => ?_) ?_
      ·refine XS.ifNo W15.here hx rfl (hb hby d5_20) rfl ((if0 _ _).trans (feq hc20_16).1) ?_
       refine XS.iloadN W15.here hx rfl (hb hby d5_23) rfl ?_
       refine iconstZ W15.here hx rfl (hb hby d5_24) (z := (1 : Int32)) rfl ?_
       refine XS.iadd W15.here hx rfl (hb hby d5_25) rfl ?_
       refine XS.aloadN W15.here hx rfl (hb hby d5_26) rfl rfl ?_
       exact k
      refine W15.callV hx (y := y_0) (C := "java/lang/String") (ww hw 32 rfl) (ww hw 33 rfl) (ww hw 35 rfl) (ww hw 34 rfl) (by decide) (payLen (Wd := 1) hw A0 S0 hz (by decide) (by decide)) (A0).exa (g := (mkF m 27 #[.val (.ref x), .val (.int (2 : Int32)), .val (.int c2)] [(.ref x), (.int (3 : Int32))])) rfl (by rw [hml]; rfl) (argsL := []) (rest := [(.int (3 : Int32))]) (lenOf pd_14 rfl) rfl rfl (ble_ rfl) (hb hby d5_27) (by decide) (by decide) (fun v29 T29 h29 W29 sz29 q29 => ?_)
      obtain ⟨rfl, rfl⟩ := q29
      change Fi _ _ _ _ _ _ _ _ _ _ (T29.setTop (mkF m 30 #[.val (.ref x), .val (.int (2 : Int32)), .val (.int c2)] [(.int (4 : Int32)), (.int (3 : Int32))]))
      refine Fi.by' (st' := T29.setTop (mkF m 37 #[.val (.ref x), .val (.int (2 : Int32)), .val (.int c2)] [(.int (3 : Int32)), (.ref x)])) (fun t k => ?_) ?_
      ·refine XS.icmpNo W29.here hx rfl (hb hby d5_30) rfl (tlt (by decide : ((3 : Int32) < (4 : Int32)))).2.1 ?_
       refine XS.aloadN W29.here hx rfl (hb hby d5_33) rfl rfl ?_
       refine XS.iloadN W29.here hx rfl (hb hby d5_34) rfl ?_
       refine iconstZ W29.here hx rfl (hb hby d5_35) (z := (1 : Int32)) rfl ?_
       refine XS.iadd W29.here hx rfl (hb hby d5_36) rfl ?_
       exact k
      refine W29.callV hx (y := y_1) (C := "java/lang/String") (ww hw 64 rfl) (ww hw 65 rfl) (ww hw 67 rfl) (ww hw 66 rfl) (by decide) (payCh (Wd := 0) (i := 3) hw A0 (ble_ rfl) S0 hz G0 rf D0 HB0 LB0 Z0 (ble_ rfl) rfl (by decide) (by decide)) (A0).exa (g := (mkF m 37 #[.val (.ref x), .val (.int (2 : Int32)), .val (.int c2)] [(.int (3 : Int32)), (.ref x)])) rfl (by rw [hml]; rfl) (argsL := [(.int (3 : Int32))]) (rest := []) (lenOf pd_15 rfl) rfl rfl (ble_ rfl) (hb hby d5_37) (by decide) (by decide) (fun v30 T30 h30 W30 sz30 q30 => ?_)
      obtain ⟨rfl, rfl⟩ := q30
      change Fi _ _ _ _ _ _ _ _ _ _ (T30.setTop (mkF m 40 #[.val (.ref x), .val (.int (2 : Int32)), .val (.int c2)] [(.int c3)]))
      refine W30.callS hx (y := y_7) (ww hw 129 rfl) (ww hw 130 rfl) (ww hw 88 rfl) (ww hw 131 rfl) (by decide) (Pay.of_con (Wd := 0) (rm_chLo l Z a0 hw c3 h0 n0 (by omega)) (ww hw 131 rfl) (ww hw 88 rfl) (hEL hw) (by decide) (by decide)) (g := (mkF m 40 #[.val (.ref x), .val (.int (2 : Int32)), .val (.int c2)] [(.int c3)])) rfl (by rw [hml]; rfl) (argsL := [(.int c3)]) (rest := []) (lenOf pd_0 rfl) rfl rfl (ble_ rfl) (hb hby d5_40) (by decide) (by decide) (fun v31 T31 h31 W31 sz31 q31 => ?_)
      obtain ⟨rfl, rfl⟩ := q31
      change Fi _ _ _ _ _ _ _ _ _ _ (T31.setTop (mkF m 43 #[.val (.ref x), .val (.int (2 : Int32)), .val (.int c2)] [(.int (b2i (loB c3)))]))
      by_cases hc43_32 : (b2i (loB c3)) = (0 : Int32)
      ·refine Fi.by' (st' := T31.setTop (mkF m 53 #[.val (.ref x), .val (.int (2 : Int32)), .val (.int c2)] [(.int c2)])) (fun t k => ?_) ?_
       ·refine XS.ifYes W31.here hx rfl (pc0 := 43) (pc' := 52) rfl (hb hby d5_43) rfl ((if0 _ _).trans (teq hc43_32).1) (by decide) (by decide) ?_
        refine XS.iloadN W31.here hx rfl (hb hby d5_52) rfl ?_
        exact k
       refine W31.callS hx (y := y_8) (ww hw 91 rfl) (ww hw 92 rfl) (ww hw 88 rfl) (ww hw 93 rfl) (by decide) (Pay.of_con (Wd := 0) (rm_chSu l Z a0 hw c2 h0 n0 (by omega)) (ww hw 93 rfl) (ww hw 88 rfl) (hEL hw) (by decide) (by decide)) (g := (mkF m 53 #[.val (.ref x), .val (.int (2 : Int32)), .val (.int c2)] [(.int c2)])) rfl (by rw [hml]; rfl) (argsL := [(.int c2)]) (rest := []) (lenOf pd_0 rfl) rfl rfl (ble_ rfl) (hb hby d5_53) (by decide) (by decide) (fun v33 T33 h33 W33 sz33 q33 => ?_)
       obtain ⟨rfl, rfl⟩ := q33
       change Fi _ _ _ _ _ _ _ _ _ _ (T33.setTop (mkF m 56 #[.val (.ref x), .val (.int (2 : Int32)), .val (.int c2)] [(.int (b2i (suB c2)))]))
       have su34 : suB c2 = true := by rw [su_is, b2i_t hc20_16]; rfl
       refine Fi.by' (st' := T33.setTop (mkF m 60 #[.val (.ref x), .val (.int (2 : Int32)), .val (.int c2)] [(.int (0 : Int32))])) (fun t k => ?_) ?_
       ·refine XS.ifNo W33.here hx rfl (hb hby d5_56) rfl ((if0 _ _).trans (feq (by rw [su34]; decide)).1) ?_
        refine iconstZ W33.here hx rfl (hb hby d5_59) (z := (0 : Int32)) rfl ?_
        exact k
       have f0 := b2i_f hc20_4
       have f1 := b2i_f hc56_6
       have f2 := b2i_f hc20_10
       have f3 := b2i_f hc56_12
       have f4 := b2i_t hc20_16
       have f5 := b2i_f hc43_32
       have hv : b2i (encB [c0, c1, c2, c3]) = (0 : Int32) := by simp [b2i, encB, f0, f1, f2, f3, f4, f5, su34]
       exact W33.iret hx hlk hret (by simp) rfl (hb hby d5_60) ⟨by rw [hv], rfl⟩ (by decide) (by decide)
      ·refine Fi.by' (st' := T31.setTop (mkF m 4 #[.val (.ref x), .val (.int (4 : Int32)), .val (.int c2)] [(.ref x), (.int (4 : Int32))])) (fun t k => ?_) ?_
       ·refine XS.ifNo W31.here hx rfl (hb hby d5_43) rfl ((if0 _ _).trans (feq hc43_32).1) ?_
        refine XS.iinc W31.here hx rfl (hb hby d5_46) rfl (l' := #[.val (.ref x), .val (.int (3 : Int32)), .val (.int c2)]) rfl ?_
        refine XS.goto W31.here hx rfl (pc0 := 49) (pc' := 61) rfl (hb hby d5_49) (by decide) (by decide) ?_
        refine XS.iinc W31.here hx rfl (hb hby d5_61) rfl (l' := #[.val (.ref x), .val (.int (4 : Int32)), .val (.int c2)]) rfl ?_
        refine XS.goto W31.here hx rfl (pc0 := 64) (pc' := 2) rfl (hb hby d5_64) (by decide) (by decide) ?_
        refine XS.iloadN W31.here hx rfl (hb hby d5_2) rfl ?_
        refine XS.aloadN W31.here hx rfl (hb hby d5_3) rfl rfl ?_
        exact k
       refine W31.callV hx (y := y_0) (C := "java/lang/String") (ww hw 32 rfl) (ww hw 33 rfl) (ww hw 35 rfl) (ww hw 34 rfl) (by decide) (payLen (Wd := 1) hw A0 S0 hz (by decide) (by decide)) (A0).exa (g := (mkF m 4 #[.val (.ref x), .val (.int (4 : Int32)), .val (.int c2)] [(.ref x), (.int (4 : Int32))])) rfl (by rw [hml]; rfl) (argsL := []) (rest := [(.int (4 : Int32))]) (lenOf pd_14 rfl) rfl rfl (ble_ rfl) (hb hby d5_4) (by decide) (by decide) (fun v35 T35 h35 W35 sz35 q35 => ?_)
       obtain ⟨rfl, rfl⟩ := q35
       change Fi _ _ _ _ _ _ _ _ _ _ (T35.setTop (mkF m 7 #[.val (.ref x), .val (.int (4 : Int32)), .val (.int c2)] [(.int (4 : Int32)), (.int (4 : Int32))]))
       refine Fi.by' (st' := T35.setTop (mkF m 68 #[.val (.ref x), .val (.int (4 : Int32)), .val (.int c2)] [(.int (1 : Int32))])) (fun t k => ?_) ?_
       ·refine XS.icmpYes W35.here hx rfl (pc0 := 7) (pc' := 67) rfl (hb hby d5_7) rfl (flt (by decide : ¬ ((4 : Int32) < (4 : Int32)))).2.1 (by decide) (by decide) ?_
        refine iconstZ W35.here hx rfl (hb hby d5_67) (z := (1 : Int32)) rfl ?_
        exact k
       have f0 := b2i_f hc20_4
       have f1 := b2i_f hc56_6
       have f2 := b2i_f hc20_10
       have f3 := b2i_f hc56_12
       have f4 := b2i_t hc20_16
       have f5 := b2i_t hc43_32
       have hv : b2i (encB [c0, c1, c2, c3]) = (1 : Int32) := by simp [b2i, encB, f0, f1, f2, f3, f4, f5]
       exact W35.iret hx hlk hret (by simp) rfl (hb hby d5_68) ⟨by rw [hv], rfl⟩ (by decide) (by decide)
    ·refine Fi.by' (st' := T11.setTop (mkF m 60 #[.val (.ref x), .val (.int (1 : Int32)), .val (.int c1)] [(.int (0 : Int32))])) (fun t k => ?_) ?_
     ·refine XS.ifNo W11.here hx rfl (hb hby d5_56) rfl ((if0 _ _).trans (feq hc56_12).1) ?_
      refine iconstZ W11.here hx rfl (hb hby d5_59) (z := (0 : Int32)) rfl ?_
      exact k
     have f0 := b2i_f hc20_4
     have f1 := b2i_f hc56_6
     have f2 := b2i_f hc20_10
     have f3 := b2i_t hc56_12
     have hv : b2i (encB [c0, c1, c2, c3]) = (0 : Int32) := by simp [b2i, encB, f0, f1, f2, f3]
     exact W11.iret hx hlk hret (by simp) rfl (hb hby d5_60) ⟨by rw [hv], rfl⟩ (by decide) (by decide)
   ·refine Fi.by' (st' := T9.setTop (mkF m 27 #[.val (.ref x), .val (.int (1 : Int32)), .val (.int c1)] [(.ref x), (.int (2 : Int32))])) (fun t k => ?_) ?_
    ·refine XS.ifNo W9.here hx rfl (hb hby d5_20) rfl ((if0 _ _).trans (feq hc20_10).1) ?_
     refine XS.iloadN W9.here hx rfl (hb hby d5_23) rfl ?_
     refine iconstZ W9.here hx rfl (hb hby d5_24) (z := (1 : Int32)) rfl ?_
     refine XS.iadd W9.here hx rfl (hb hby d5_25) rfl ?_
     refine XS.aloadN W9.here hx rfl (hb hby d5_26) rfl rfl ?_
     exact k
    refine W9.callV hx (y := y_0) (C := "java/lang/String") (ww hw 32 rfl) (ww hw 33 rfl) (ww hw 35 rfl) (ww hw 34 rfl) (by decide) (payLen (Wd := 1) hw A0 S0 hz (by decide) (by decide)) (A0).exa (g := (mkF m 27 #[.val (.ref x), .val (.int (1 : Int32)), .val (.int c1)] [(.ref x), (.int (2 : Int32))])) rfl (by rw [hml]; rfl) (argsL := []) (rest := [(.int (2 : Int32))]) (lenOf pd_14 rfl) rfl rfl (ble_ rfl) (hb hby d5_27) (by decide) (by decide) (fun v36 T36 h36 W36 sz36 q36 => ?_)
    obtain ⟨rfl, rfl⟩ := q36
    change Fi _ _ _ _ _ _ _ _ _ _ (T36.setTop (mkF m 30 #[.val (.ref x), .val (.int (1 : Int32)), .val (.int c1)] [(.int (4 : Int32)), (.int (2 : Int32))]))
    refine Fi.by' (st' := T36.setTop (mkF m 37 #[.val (.ref x), .val (.int (1 : Int32)), .val (.int c1)] [(.int (2 : Int32)), (.ref x)])) (fun t k => ?_) ?_
    ·refine XS.icmpNo W36.here hx rfl (hb hby d5_30) rfl (tlt (by decide : ((2 : Int32) < (4 : Int32)))).2.1 ?_
     refine XS.aloadN W36.here hx rfl (hb hby d5_33) rfl rfl ?_
     refine XS.iloadN W36.here hx rfl (hb hby d5_34) rfl ?_
     refine iconstZ W36.here hx rfl (hb hby d5_35) (z := (1 : Int32)) rfl ?_
     refine XS.iadd W36.here hx rfl (hb hby d5_36) rfl ?_
     exact k
    refine W36.callV hx (y := y_1) (C := "java/lang/String") (ww hw 64 rfl) (ww hw 65 rfl) (ww hw 67 rfl) (ww hw 66 rfl) (by decide) (payCh (Wd := 0) (i := 2) hw A0 (ble_ rfl) S0 hz G0 rf D0 HB0 LB0 Z0 (ble_ rfl) rfl (by decide) (by decide)) (A0).exa (g := (mkF m 37 #[.val (.ref x), .val (.int (1 : Int32)), .val (.int c1)] [(.int (2 : Int32)), (.ref x)])) rfl (by rw [hml]; rfl) (argsL := [(.int (2 : Int32))]) (rest := []) (lenOf pd_15 rfl) rfl rfl (ble_ rfl) (hb hby d5_37) (by decide) (by decide) (fun v37 T37 h37 W37 sz37 q37 => ?_)
    obtain ⟨rfl, rfl⟩ := q37
    change Fi _ _ _ _ _ _ _ _ _ _ (T37.setTop (mkF m 40 #[.val (.ref x), .val (.int (1 : Int32)), .val (.int c1)] [(.int c2)]))
    refine W37.callS hx (y := y_7) (ww hw 129 rfl) (ww hw 130 rfl) (ww hw 88 rfl) (ww hw 131 rfl) (by decide) (Pay.of_con (Wd := 0) (rm_chLo l Z a0 hw c2 h0 n0 (by omega)) (ww hw 131 rfl) (ww hw 88 rfl) (hEL hw) (by decide) (by decide)) (g := (mkF m 40 #[.val (.ref x), .val (.int (1 : Int32)), .val (.int c1)] [(.int c2)])) rfl (by rw [hml]; rfl) (argsL := [(.int c2)]) (rest := []) (lenOf pd_0 rfl) rfl rfl (ble_ rfl) (hb hby d5_40) (by decide) (by decide) (fun v38 T38 h38 W38 sz38 q38 => ?_)
    obtain ⟨rfl, rfl⟩ := q38
    change Fi _ _ _ _ _ _ _ _ _ _ (T38.setTop (mkF m 43 #[.val (.ref x), .val (.int (1 : Int32)), .val (.int c1)] [(.int (b2i (loB c2)))]))
    by_cases hc43_39 : (b2i (loB c2)) = (0 : Int32)
    ·refine Fi.by' (st' := T38.setTop (mkF m 53 #[.val (.ref x), .val (.int (1 : Int32)), .val (.int c1)] [(.int c1)])) (fun t k => ?_) ?_
     ·refine XS.ifYes W38.here hx rfl (pc0 := 43) (pc' := 52) rfl (hb hby d5_43) rfl ((if0 _ _).trans (teq hc43_39).1) (by decide) (by decide) ?_
      refine XS.iloadN W38.here hx rfl (hb hby d5_52) rfl ?_
      exact k
     refine W38.callS hx (y := y_8) (ww hw 91 rfl) (ww hw 92 rfl) (ww hw 88 rfl) (ww hw 93 rfl) (by decide) (Pay.of_con (Wd := 0) (rm_chSu l Z a0 hw c1 h0 n0 (by omega)) (ww hw 93 rfl) (ww hw 88 rfl) (hEL hw) (by decide) (by decide)) (g := (mkF m 53 #[.val (.ref x), .val (.int (1 : Int32)), .val (.int c1)] [(.int c1)])) rfl (by rw [hml]; rfl) (argsL := [(.int c1)]) (rest := []) (lenOf pd_0 rfl) rfl rfl (ble_ rfl) (hb hby d5_53) (by decide) (by decide) (fun v40 T40 h40 W40 sz40 q40 => ?_)
     obtain ⟨rfl, rfl⟩ := q40
     change Fi _ _ _ _ _ _ _ _ _ _ (T40.setTop (mkF m 56 #[.val (.ref x), .val (.int (1 : Int32)), .val (.int c1)] [(.int (b2i (suB c1)))]))
     have su41 : suB c1 = true := by rw [su_is, b2i_t hc20_10]; rfl
     refine Fi.by' (st' := T40.setTop (mkF m 60 #[.val (.ref x), .val (.int (1 : Int32)), .val (.int c1)] [(.int (0 : Int32))])) (fun t k => ?_) ?_
     ·refine XS.ifNo W40.here hx rfl (hb hby d5_56) rfl ((if0 _ _).trans (feq (by rw [su41]; decide)).1) ?_
      refine iconstZ W40.here hx rfl (hb hby d5_59) (z := (0 : Int32)) rfl ?_
      exact k
     have f0 := b2i_f hc20_4
     have f1 := b2i_f hc56_6
     have f2 := b2i_t hc20_10
     have f3 := b2i_f hc43_39
     have hv : b2i (encB [c0, c1, c2, c3]) = (0 : Int32) := by simp [b2i, encB, f0, f1, f2, f3, su41]
     exact W40.iret hx hlk hret (by simp) rfl (hb hby d5_60) ⟨by rw [hv], rfl⟩ (by decide) (by decide)
    ·refine Fi.by' (st' := T38.setTop (mkF m 4 #[.val (.ref x), .val (.int (3 : Int32)), .val (.int c1)] [(.ref x), (.int (3 : Int32))])) (fun t k => ?_) ?_
     ·refine XS.ifNo W38.here hx rfl (hb hby d5_43) rfl ((if0 _ _).trans (feq hc43_39).1) ?_
      refine XS.iinc W38.here hx rfl (hb hby d5_46) rfl (l' := #[.val (.ref x), .val (.int (2 : Int32)), .val (.int c1)]) rfl ?_
      refine XS.goto W38.here hx rfl (pc0 := 49) (pc' := 61) rfl (hb hby d5_49) (by decide) (by decide) ?_
      refine XS.iinc W38.here hx rfl (hb hby d5_61) rfl (l' := #[.val (.ref x), .val (.int (3 : Int32)), .val (.int c1)]) rfl ?_
      refine XS.goto W38.here hx rfl (pc0 := 64) (pc' := 2) rfl (hb hby d5_64) (by decide) (by decide) ?_
      refine XS.iloadN W38.here hx rfl (hb hby d5_2) rfl ?_
      refine XS.aloadN W38.here hx rfl (hb hby d5_3) rfl rfl ?_
      exact k
     refine W38.callV hx (y := y_0) (C := "java/lang/String") (ww hw 32 rfl) (ww hw 33 rfl) (ww hw 35 rfl) (ww hw 34 rfl) (by decide) (payLen (Wd := 1) hw A0 S0 hz (by decide) (by decide)) (A0).exa (g := (mkF m 4 #[.val (.ref x), .val (.int (3 : Int32)), .val (.int c1)] [(.ref x), (.int (3 : Int32))])) rfl (by rw [hml]; rfl) (argsL := []) (rest := [(.int (3 : Int32))]) (lenOf pd_14 rfl) rfl rfl (ble_ rfl) (hb hby d5_4) (by decide) (by decide) (fun v42 T42 h42 W42 sz42 q42 => ?_)
     obtain ⟨rfl, rfl⟩ := q42
     change Fi _ _ _ _ _ _ _ _ _ _ (T42.setTop (mkF m 7 #[.val (.ref x), .val (.int (3 : Int32)), .val (.int c1)] [(.int (4 : Int32)), (.int (3 : Int32))]))
     refine Fi.by' (st' := T42.setTop (mkF m 12 #[.val (.ref x), .val (.int (3 : Int32)), .val (.int c1)] [(.int (3 : Int32)), (.ref x)])) (fun t k => ?_) ?_
     ·refine XS.icmpNo W42.here hx rfl (hb hby d5_7) rfl (tlt (by decide : ((3 : Int32) < (4 : Int32)))).2.1 ?_
      refine XS.aloadN W42.here hx rfl (hb hby d5_10) rfl rfl ?_
      refine XS.iloadN W42.here hx rfl (hb hby d5_11) rfl ?_
      exact k
     refine W42.callV hx (y := y_1) (C := "java/lang/String") (ww hw 64 rfl) (ww hw 65 rfl) (ww hw 67 rfl) (ww hw 66 rfl) (by decide) (payCh (Wd := 0) (i := 3) hw A0 (ble_ rfl) S0 hz G0 rf D0 HB0 LB0 Z0 (ble_ rfl) rfl (by decide) (by decide)) (A0).exa (g := (mkF m 12 #[.val (.ref x), .val (.int (3 : Int32)), .val (.int c1)] [(.int (3 : Int32)), (.ref x)])) rfl (by rw [hml]; rfl) (argsL := [(.int (3 : Int32))]) (rest := []) (lenOf pd_15 rfl) rfl rfl (ble_ rfl) (hb hby d5_12) (by decide) (by decide) (fun v43 T43 h43 W43 sz43 q43 => ?_)
     obtain ⟨rfl, rfl⟩ := q43
     change Fi _ _ _ _ _ _ _ _ _ _ (T43.setTop (mkF m 15 #[.val (.ref x), .val (.int (3 : Int32)), .val (.int c1)] [(.int c3)]))
     refine Fi.by' (st' := T43.setTop (mkF m 17 #[.val (.ref x), .val (.int (3 : Int32)), .val (.int c3)] [(.int c3)])) (fun t k => ?_) ?_
     ·refine XS.istoreN W43.here hx rfl (hb hby d5_15) rfl (l' := #[.val (.ref x), .val (.int (3 : Int32)), .val (.int c3)]) rfl ?_
      refine XS.iloadN W43.here hx rfl (hb hby d5_16) rfl ?_
      exact k
     refine W43.callS hx (y := y_6) (ww hw 86 rfl) (ww hw 87 rfl) (ww hw 88 rfl) (ww hw 89 rfl) (by decide) (Pay.of_con (Wd := 0) (rm_chHi l Z a0 hw c3 h0 n0 (by omega)) (ww hw 89 rfl) (ww hw 88 rfl) (hEL hw) (by decide) (by decide)) (g := (mkF m 17 #[.val (.ref x), .val (.int (3 : Int32)), .val (.int c3)] [(.int c3)])) rfl (by rw [hml]; rfl) (argsL := [(.int c3)]) (rest := []) (lenOf pd_0 rfl) rfl rfl (ble_ rfl) (hb hby d5_17) (by decide) (by decide) (fun v44 T44 h44 W44 sz44 q44 => ?_)
     obtain ⟨rfl, rfl⟩ := q44
     change Fi _ _ _ _ _ _ _ _ _ _ (T44.setTop (mkF m 20 #[.val (.ref x), .val (.int (3 : Int32)), .val (.int c3)] [(.int (b2i (hiB c3)))]))
     by_cases hc20_45 : (b2i (hiB c3)) = (0 : Int32)
     ·refine Fi.by' (st' := T44.setTop (mkF m 53 #[.val (.ref x), .val (.int (3 : Int32)), .val (.int c3)] [(.int c3)])) (fun t k => ?_) ?_
      ·refine XS.ifYes W44.here hx rfl (pc0 := 20) (pc' := 52) rfl (hb hby d5_20) rfl ((if0 _ _).trans (teq hc20_45).1) (by decide) (by decide) ?_
       refine XS.iloadN W44.here hx rfl (hb hby d5_52) rfl ?_
       exact k
      refine W44.callS hx (y := y_8) (ww hw 91 rfl) (ww hw 92 rfl) (ww hw 88 rfl) (ww hw 93 rfl) (by decide) (Pay.of_con (Wd := 0) (rm_chSu l Z a0 hw c3 h0 n0 (by omega)) (ww hw 93 rfl) (ww hw 88 rfl) (hEL hw) (by decide) (by decide)) (g := (mkF m 53 #[.val (.ref x), .val (.int (3 : Int32)), .val (.int c3)] [(.int c3)])) rfl (by rw [hml]; rfl) (argsL := [(.int c3)]) (rest := []) (lenOf pd_0 rfl) rfl rfl (ble_ rfl) (hb hby d5_53) (by decide) (by decide) (fun v46 T46 h46 W46 sz46 q46 => ?_)
      obtain ⟨rfl, rfl⟩ := q46
      change Fi _ _ _ _ _ _ _ _ _ _ (T46.setTop (mkF m 56 #[.val (.ref x), .val (.int (3 : Int32)), .val (.int c3)] [(.int (b2i (suB c3)))]))
      by_cases hc56_47 : (b2i (suB c3)) = (0 : Int32)
      ·refine Fi.by' (st' := T46.setTop (mkF m 4 #[.val (.ref x), .val (.int (4 : Int32)), .val (.int c3)] [(.ref x), (.int (4 : Int32))])) (fun t k => ?_) ?_
       ·refine XS.ifYes W46.here hx rfl (pc0 := 56) (pc' := 61) rfl (hb hby d5_56) rfl ((if0 _ _).trans (teq hc56_47).1) (by decide) (by decide) ?_
        refine XS.iinc W46.here hx rfl (hb hby d5_61) rfl (l' := #[.val (.ref x), .val (.int (4 : Int32)), .val (.int c3)]) rfl ?_
        refine XS.goto W46.here hx rfl (pc0 := 64) (pc' := 2) rfl (hb hby d5_64) (by decide) (by decide) ?_
        refine XS.iloadN W46.here hx rfl (hb hby d5_2) rfl ?_
        refine XS.aloadN W46.here hx rfl (hb hby d5_3) rfl rfl ?_
        exact k
       refine W46.callV hx (y := y_0) (C := "java/lang/String") (ww hw 32 rfl) (ww hw 33 rfl) (ww hw 35 rfl) (ww hw 34 rfl) (by decide) (payLen (Wd := 1) hw A0 S0 hz (by decide) (by decide)) (A0).exa (g := (mkF m 4 #[.val (.ref x), .val (.int (4 : Int32)), .val (.int c3)] [(.ref x), (.int (4 : Int32))])) rfl (by rw [hml]; rfl) (argsL := []) (rest := [(.int (4 : Int32))]) (lenOf pd_14 rfl) rfl rfl (ble_ rfl) (hb hby d5_4) (by decide) (by decide) (fun v48 T48 h48 W48 sz48 q48 => ?_)
       obtain ⟨rfl, rfl⟩ := q48
       change Fi _ _ _ _ _ _ _ _ _ _ (T48.setTop (mkF m 7 #[.val (.ref x), .val (.int (4 : Int32)), .val (.int c3)] [(.int (4 : Int32)), (.int (4 : Int32))]))
       refine Fi.by' (st' := T48.setTop (mkF m 68 #[.val (.ref x), .val (.int (4 : Int32)), .val (.int c3)] [(.int (1 : Int32))])) (fun t k => ?_) ?_
       ·refine XS.icmpYes W48.here hx rfl (pc0 := 7) (pc' := 67) rfl (hb hby d5_7) rfl (flt (by decide : ¬ ((4 : Int32) < (4 : Int32)))).2.1 (by decide) (by decide) ?_
        refine iconstZ W48.here hx rfl (hb hby d5_67) (z := (1 : Int32)) rfl ?_
        exact k
       have f0 := b2i_f hc20_4
       have f1 := b2i_f hc56_6
       have f2 := b2i_t hc20_10
       have f3 := b2i_t hc43_39
       have f4 := b2i_f hc20_45
       have f5 := b2i_f hc56_47
       have hv : b2i (encB [c0, c1, c2, c3]) = (1 : Int32) := by simp [b2i, encB, f0, f1, f2, f3, f4, f5]
       exact W48.iret hx hlk hret (by simp) rfl (hb hby d5_68) ⟨by rw [hv], rfl⟩ (by decide) (by decide)
      ·refine Fi.by' (st' := T46.setTop (mkF m 60 #[.val (.ref x), .val (.int (3 : Int32)), .val (.int c3)] [(.int (0 : Int32))])) (fun t k => ?_) ?_
       ·refine XS.ifNo W46.here hx rfl (hb hby d5_56) rfl ((if0 _ _).trans (feq hc56_47).1) ?_
        refine iconstZ W46.here hx rfl (hb hby d5_59) (z := (0 : Int32)) rfl ?_
        exact k
       have f0 := b2i_f hc20_4
       have f1 := b2i_f hc56_6
       have f2 := b2i_t hc20_10
       have f3 := b2i_t hc43_39
       have f4 := b2i_f hc20_45
       have f5 := b2i_t hc56_47
       have hv : b2i (encB [c0, c1, c2, c3]) = (0 : Int32) := by simp [b2i, encB, f0, f1, f2, f3, f4, f5]
       exact W46.iret hx hlk hret (by simp) rfl (hb hby d5_60) ⟨by rw [hv], rfl⟩ (by decide) (by decide)
     ·refine Fi.by' (st' := T44.setTop (mkF m 27 #[.val (.ref x), .val (.int (3 : Int32)), .val (.int c3)] [(.ref x), (.int (4 : Int32))])) (fun t k => ?_) ?_
      ·refine XS.ifNo W44.here hx rfl (hb hby d5_20) rfl ((if0 _ _).trans (feq hc20_45).1) ?_
       refine XS.iloadN W44.here hx rfl (hb hby d5_23) rfl ?_
       refine iconstZ W44.here hx rfl (hb hby d5_24) (z := (1 : Int32)) rfl ?_
       refine XS.iadd W44.here hx rfl (hb hby d5_25) rfl ?_
       refine XS.aloadN W44.here hx rfl (hb hby d5_26) rfl rfl ?_
       exact k
      refine W44.callV hx (y := y_0) (C := "java/lang/String") (ww hw 32 rfl) (ww hw 33 rfl) (ww hw 35 rfl) (ww hw 34 rfl) (by decide) (payLen (Wd := 1) hw A0 S0 hz (by decide) (by decide)) (A0).exa (g := (mkF m 27 #[.val (.ref x), .val (.int (3 : Int32)), .val (.int c3)] [(.ref x), (.int (4 : Int32))])) rfl (by rw [hml]; rfl) (argsL := []) (rest := [(.int (4 : Int32))]) (lenOf pd_14 rfl) rfl rfl (ble_ rfl) (hb hby d5_27) (by decide) (by decide) (fun v49 T49 h49 W49 sz49 q49 => ?_)
      obtain ⟨rfl, rfl⟩ := q49
      change Fi _ _ _ _ _ _ _ _ _ _ (T49.setTop (mkF m 30 #[.val (.ref x), .val (.int (3 : Int32)), .val (.int c3)] [(.int (4 : Int32)), (.int (4 : Int32))]))
      refine Fi.by' (st' := T49.setTop (mkF m 53 #[.val (.ref x), .val (.int (3 : Int32)), .val (.int c3)] [(.int c3)])) (fun t k => ?_) ?_
      ·refine XS.icmpYes W49.here hx rfl (pc0 := 30) (pc' := 52) rfl (hb hby d5_30) rfl (flt (by decide : ¬ ((4 : Int32) < (4 : Int32)))).2.1 (by decide) (by decide) ?_
       refine XS.iloadN W49.here hx rfl (hb hby d5_52) rfl ?_
       exact k
      refine W49.callS hx (y := y_8) (ww hw 91 rfl) (ww hw 92 rfl) (ww hw 88 rfl) (ww hw 93 rfl) (by decide) (Pay.of_con (Wd := 0) (rm_chSu l Z a0 hw c3 h0 n0 (by omega)) (ww hw 93 rfl) (ww hw 88 rfl) (hEL hw) (by decide) (by decide)) (g := (mkF m 53 #[.val (.ref x), .val (.int (3 : Int32)), .val (.int c3)] [(.int c3)])) rfl (by rw [hml]; rfl) (argsL := [(.int c3)]) (rest := []) (lenOf pd_0 rfl) rfl rfl (ble_ rfl) (hb hby d5_53) (by decide) (by decide) (fun v50 T50 h50 W50 sz50 q50 => ?_)
      obtain ⟨rfl, rfl⟩ := q50
      change Fi _ _ _ _ _ _ _ _ _ _ (T50.setTop (mkF m 56 #[.val (.ref x), .val (.int (3 : Int32)), .val (.int c3)] [(.int (b2i (suB c3)))]))
      have su51 : suB c3 = true := by rw [su_is, b2i_t hc20_45]; rfl
      refine Fi.by' (st' := T50.setTop (mkF m 60 #[.val (.ref x), .val (.int (3 : Int32)), .val (.int c3)] [(.int (0 : Int32))])) (fun t k => ?_) ?_
      ·refine XS.ifNo W50.here hx rfl (hb hby d5_56) rfl ((if0 _ _).trans (feq (by rw [su51]; decide)).1) ?_
       refine iconstZ W50.here hx rfl (hb hby d5_59) (z := (0 : Int32)) rfl ?_
       exact k
      have f0 := b2i_f hc20_4
      have f1 := b2i_f hc56_6
      have f2 := b2i_t hc20_10
      have f3 := b2i_t hc43_39
      have f4 := b2i_t hc20_45
      have hv : b2i (encB [c0, c1, c2, c3]) = (0 : Int32) := by simp [b2i, encB, f0, f1, f2, f3, f4, su51]
      exact W50.iret hx hlk hret (by simp) rfl (hb hby d5_60) ⟨by rw [hv], rfl⟩ (by decide) (by decide)
  ·refine Fi.by' (st' := T5.setTop (mkF m 60 #[.val (.ref x), .val (.int (0 : Int32)), .val (.int c0)] [(.int (0 : Int32))])) (fun t k => ?_) ?_
   ·refine XS.ifNo W5.here hx rfl (hb hby d5_56) rfl ((if0 _ _).trans (feq hc56_6).1) ?_
    refine iconstZ W5.here hx rfl (hb hby d5_59) (z := (0 : Int32)) rfl ?_
    exact k
   have f0 := b2i_f hc20_4
   have f1 := b2i_t hc56_6
   have hv : b2i (encB [c0, c1, c2, c3]) = (0 : Int32) := by simp [b2i, encB, f0, f1]
   exact W5.iret hx hlk hret (by simp) rfl (hb hby d5_60) ⟨by rw [hv], rfl⟩ (by decide) (by decide)
 ·refine Fi.by' (st' := T3.setTop (mkF m 27 #[.val (.ref x), .val (.int (0 : Int32)), .val (.int c0)] [(.ref x), (.int (1 : Int32))])) (fun t k => ?_) ?_
  ·refine XS.ifNo W3.here hx rfl (hb hby d5_20) rfl ((if0 _ _).trans (feq hc20_4).1) ?_
   refine XS.iloadN W3.here hx rfl (hb hby d5_23) rfl ?_
   refine iconstZ W3.here hx rfl (hb hby d5_24) (z := (1 : Int32)) rfl ?_
   refine XS.iadd W3.here hx rfl (hb hby d5_25) rfl ?_
   refine XS.aloadN W3.here hx rfl (hb hby d5_26) rfl rfl ?_
   exact k
  refine W3.callV hx (y := y_0) (C := "java/lang/String") (ww hw 32 rfl) (ww hw 33 rfl) (ww hw 35 rfl) (ww hw 34 rfl) (by decide) (payLen (Wd := 1) hw A0 S0 hz (by decide) (by decide)) (A0).exa (g := (mkF m 27 #[.val (.ref x), .val (.int (0 : Int32)), .val (.int c0)] [(.ref x), (.int (1 : Int32))])) rfl (by rw [hml]; rfl) (argsL := []) (rest := [(.int (1 : Int32))]) (lenOf pd_14 rfl) rfl rfl (ble_ rfl) (hb hby d5_27) (by decide) (by decide) (fun v52 T52 h52 W52 sz52 q52 => ?_)
  obtain ⟨rfl, rfl⟩ := q52
  change Fi _ _ _ _ _ _ _ _ _ _ (T52.setTop (mkF m 30 #[.val (.ref x), .val (.int (0 : Int32)), .val (.int c0)] [(.int (4 : Int32)), (.int (1 : Int32))]))
  refine Fi.by' (st' := T52.setTop (mkF m 37 #[.val (.ref x), .val (.int (0 : Int32)), .val (.int c0)] [(.int (1 : Int32)), (.ref x)])) (fun t k => ?_) ?_
  ·refine XS.icmpNo W52.here hx rfl (hb hby d5_30) rfl (tlt (by decide : ((1 : Int32) < (4 : Int32)))).2.1 ?_
   refine XS.aloadN W52.here hx rfl (hb hby d5_33) rfl rfl ?_
   refine XS.iloadN W52.here hx rfl (hb hby d5_34) rfl ?_
   refine iconstZ W52.here hx rfl (hb hby d5_35) (z := (1 : Int32)) rfl ?_
   refine XS.iadd W52.here hx rfl (hb hby d5_36) rfl ?_
   exact k
  refine W52.callV hx (y := y_1) (C := "java/lang/String") (ww hw 64 rfl) (ww hw 65 rfl) (ww hw 67 rfl) (ww hw 66 rfl) (by decide) (payCh (Wd := 0) (i := 1) hw A0 (ble_ rfl) S0 hz G0 rf D0 HB0 LB0 Z0 (ble_ rfl) rfl (by decide) (by decide)) (A0).exa (g := (mkF m 37 #[.val (.ref x), .val (.int (0 : Int32)), .val (.int c0)] [(.int (1 : Int32)), (.ref x)])) rfl (by rw [hml]; rfl) (argsL := [(.int (1 : Int32))]) (rest := []) (lenOf pd_15 rfl) rfl rfl (ble_ rfl) (hb hby d5_37) (by decide) (by decide) (fun v53 T53 h53 W53 sz53 q53 => ?_)
  obtain ⟨rfl, rfl⟩ := q53
  change Fi _ _ _ _ _ _ _ _ _ _ (T53.setTop (mkF m 40 #[.val (.ref x), .val (.int (0 : Int32)), .val (.int c0)] [(.int c1)]))
  refine W53.callS hx (y := y_7) (ww hw 129 rfl) (ww hw 130 rfl) (ww hw 88 rfl) (ww hw 131 rfl) (by decide) (Pay.of_con (Wd := 0) (rm_chLo l Z a0 hw c1 h0 n0 (by omega)) (ww hw 131 rfl) (ww hw 88 rfl) (hEL hw) (by decide) (by decide)) (g := (mkF m 40 #[.val (.ref x), .val (.int (0 : Int32)), .val (.int c0)] [(.int c1)])) rfl (by rw [hml]; rfl) (argsL := [(.int c1)]) (rest := []) (lenOf pd_0 rfl) rfl rfl (ble_ rfl) (hb hby d5_40) (by decide) (by decide) (fun v54 T54 h54 W54 sz54 q54 => ?_)
  obtain ⟨rfl, rfl⟩ := q54
  change Fi _ _ _ _ _ _ _ _ _ _ (T54.setTop (mkF m 43 #[.val (.ref x), .val (.int (0 : Int32)), .val (.int c0)] [(.int (b2i (loB c1)))]))
  by_cases hc43_55 : (b2i (loB c1)) = (0 : Int32)
  ·refine Fi.by' (st' := T54.setTop (mkF m 53 #[.val (.ref x), .val (.int (0 : Int32)), .val (.int c0)] [(.int c0)])) (fun t k => ?_) ?_
   ·refine XS.ifYes W54.here hx rfl (pc0 := 43) (pc' := 52) rfl (hb hby d5_43) rfl ((if0 _ _).trans (teq hc43_55).1) (by decide) (by decide) ?_
    refine XS.iloadN W54.here hx rfl (hb hby d5_52) rfl ?_
    exact k
   refine W54.callS hx (y := y_8) (ww hw 91 rfl) (ww hw 92 rfl) (ww hw 88 rfl) (ww hw 93 rfl) (by decide) (Pay.of_con (Wd := 0) (rm_chSu l Z a0 hw c0 h0 n0 (by omega)) (ww hw 93 rfl) (ww hw 88 rfl) (hEL hw) (by decide) (by decide)) (g := (mkF m 53 #[.val (.ref x), .val (.int (0 : Int32)), .val (.int c0)] [(.int c0)])) rfl (by rw [hml]; rfl) (argsL := [(.int c0)]) (rest := []) (lenOf pd_0 rfl) rfl rfl (ble_ rfl) (hb hby d5_53) (by decide) (by decide) (fun v56 T56 h56 W56 sz56 q56 => ?_)
   obtain ⟨rfl, rfl⟩ := q56
   change Fi _ _ _ _ _ _ _ _ _ _ (T56.setTop (mkF m 56 #[.val (.ref x), .val (.int (0 : Int32)), .val (.int c0)] [(.int (b2i (suB c0)))]))
   have su57 : suB c0 = true := by rw [su_is, b2i_t hc20_4]; rfl
   refine Fi.by' (st' := T56.setTop (mkF m 60 #[.val (.ref x), .val (.int (0 : Int32)), .val (.int c0)] [(.int (0 : Int32))])) (fun t k => ?_) ?_
   ·refine XS.ifNo W56.here hx rfl (hb hby d5_56) rfl ((if0 _ _).trans (feq (by rw [su57]; decide)).1) ?_
    refine iconstZ W56.here hx rfl (hb hby d5_59) (z := (0 : Int32)) rfl ?_
    exact k
   have f0 := b2i_t hc20_4
   have f1 := b2i_f hc43_55
   have hv : b2i (encB [c0, c1, c2, c3]) = (0 : Int32) := by simp [b2i, encB, f0, f1, su57]
   exact W56.iret hx hlk hret (by simp) rfl (hb hby d5_60) ⟨by rw [hv], rfl⟩ (by decide) (by decide)
  ·refine Fi.by' (st' := T54.setTop (mkF m 4 #[.val (.ref x), .val (.int (2 : Int32)), .val (.int c0)] [(.ref x), (.int (2 : Int32))])) (fun t k => ?_) ?_
   ·refine XS.ifNo W54.here hx rfl (hb hby d5_43) rfl ((if0 _ _).trans (feq hc43_55).1) ?_
    refine XS.iinc W54.here hx rfl (hb hby d5_46) rfl (l' := #[.val (.ref x), .val (.int (1 : Int32)), .val (.int c0)]) rfl ?_
    refine XS.goto W54.here hx rfl (pc0 := 49) (pc' := 61) rfl (hb hby d5_49) (by decide) (by decide) ?_
    refine XS.iinc W54.here hx rfl (hb hby d5_61) rfl (l' := #[.val (.ref x), .val (.int (2 : Int32)), .val (.int c0)]) rfl ?_
    refine XS.goto W54.here hx rfl (pc0 := 64) (pc' := 2) rfl (hb hby d5_64) (by decide) (by decide) ?_
    refine XS.iloadN W54.here hx rfl (hb hby d5_2) rfl ?_
    refine XS.aloadN W54.here hx rfl (hb hby d5_3) rfl rfl ?_
    exact k
   refine W54.callV hx (y := y_0) (C := "java/lang/String") (ww hw 32 rfl) (ww hw 33 rfl) (ww hw 35 rfl) (ww hw 34 rfl) (by decide) (payLen (Wd := 1) hw A0 S0 hz (by decide) (by decide)) (A0).exa (g := (mkF m 4 #[.val (.ref x), .val (.int (2 : Int32)), .val (.int c0)] [(.ref x), (.int (2 : Int32))])) rfl (by rw [hml]; rfl) (argsL := []) (rest := [(.int (2 : Int32))]) (lenOf pd_14 rfl) rfl rfl (ble_ rfl) (hb hby d5_4) (by decide) (by decide) (fun v58 T58 h58 W58 sz58 q58 => ?_)
   obtain ⟨rfl, rfl⟩ := q58
   change Fi _ _ _ _ _ _ _ _ _ _ (T58.setTop (mkF m 7 #[.val (.ref x), .val (.int (2 : Int32)), .val (.int c0)] [(.int (4 : Int32)), (.int (2 : Int32))]))
   refine Fi.by' (st' := T58.setTop (mkF m 12 #[.val (.ref x), .val (.int (2 : Int32)), .val (.int c0)] [(.int (2 : Int32)), (.ref x)])) (fun t k => ?_) ?_
   ·refine XS.icmpNo W58.here hx rfl (hb hby d5_7) rfl (tlt (by decide : ((2 : Int32) < (4 : Int32)))).2.1 ?_
    refine XS.aloadN W58.here hx rfl (hb hby d5_10) rfl rfl ?_
    refine XS.iloadN W58.here hx rfl (hb hby d5_11) rfl ?_
    exact k
   refine W58.callV hx (y := y_1) (C := "java/lang/String") (ww hw 64 rfl) (ww hw 65 rfl) (ww hw 67 rfl) (ww hw 66 rfl) (by decide) (payCh (Wd := 0) (i := 2) hw A0 (ble_ rfl) S0 hz G0 rf D0 HB0 LB0 Z0 (ble_ rfl) rfl (by decide) (by decide)) (A0).exa (g := (mkF m 12 #[.val (.ref x), .val (.int (2 : Int32)), .val (.int c0)] [(.int (2 : Int32)), (.ref x)])) rfl (by rw [hml]; rfl) (argsL := [(.int (2 : Int32))]) (rest := []) (lenOf pd_15 rfl) rfl rfl (ble_ rfl) (hb hby d5_12) (by decide) (by decide) (fun v59 T59 h59 W59 sz59 q59 => ?_)
   obtain ⟨rfl, rfl⟩ := q59
   change Fi _ _ _ _ _ _ _ _ _ _ (T59.setTop (mkF m 15 #[.val (.ref x), .val (.int (2 : Int32)), .val (.int c0)] [(.int c2)]))
   refine Fi.by' (st' := T59.setTop (mkF m 17 #[.val (.ref x), .val (.int (2 : Int32)), .val (.int c2)] [(.int c2)])) (fun t k => ?_) ?_
   ·refine XS.istoreN W59.here hx rfl (hb hby d5_15) rfl (l' := #[.val (.ref x), .val (.int (2 : Int32)), .val (.int c2)]) rfl ?_
    refine XS.iloadN W59.here hx rfl (hb hby d5_16) rfl ?_
    exact k
   refine W59.callS hx (y := y_6) (ww hw 86 rfl) (ww hw 87 rfl) (ww hw 88 rfl) (ww hw 89 rfl) (by decide) (Pay.of_con (Wd := 0) (rm_chHi l Z a0 hw c2 h0 n0 (by omega)) (ww hw 89 rfl) (ww hw 88 rfl) (hEL hw) (by decide) (by decide)) (g := (mkF m 17 #[.val (.ref x), .val (.int (2 : Int32)), .val (.int c2)] [(.int c2)])) rfl (by rw [hml]; rfl) (argsL := [(.int c2)]) (rest := []) (lenOf pd_0 rfl) rfl rfl (ble_ rfl) (hb hby d5_17) (by decide) (by decide) (fun v60 T60 h60 W60 sz60 q60 => ?_)
   obtain ⟨rfl, rfl⟩ := q60
   change Fi _ _ _ _ _ _ _ _ _ _ (T60.setTop (mkF m 20 #[.val (.ref x), .val (.int (2 : Int32)), .val (.int c2)] [(.int (b2i (hiB c2)))]))
   by_cases hc20_61 : (b2i (hiB c2)) = (0 : Int32)
   ·refine Fi.by' (st' := T60.setTop (mkF m 53 #[.val (.ref x), .val (.int (2 : Int32)), .val (.int c2)] [(.int c2)])) (fun t k => ?_) ?_
    ·refine XS.ifYes W60.here hx rfl (pc0 := 20) (pc' := 52) rfl (hb hby d5_20) rfl ((if0 _ _).trans (teq hc20_61).1) (by decide) (by decide) ?_
     refine XS.iloadN W60.here hx rfl (hb hby d5_52) rfl ?_
     exact k
    refine W60.callS hx (y := y_8) (ww hw 91 rfl) (ww hw 92 rfl) (ww hw 88 rfl) (ww hw 93 rfl) (by decide) (Pay.of_con (Wd := 0) (rm_chSu l Z a0 hw c2 h0 n0 (by omega)) (ww hw 93 rfl) (ww hw 88 rfl) (hEL hw) (by decide) (by decide)) (g := (mkF m 53 #[.val (.ref x), .val (.int (2 : Int32)), .val (.int c2)] [(.int c2)])) rfl (by rw [hml]; rfl) (argsL := [(.int c2)]) (rest := []) (lenOf pd_0 rfl) rfl rfl (ble_ rfl) (hb hby d5_53) (by decide) (by decide) (fun v62 T62 h62 W62 sz62 q62 => ?_)
    obtain ⟨rfl, rfl⟩ := q62
    change Fi _ _ _ _ _ _ _ _ _ _ (T62.setTop (mkF m 56 #[.val (.ref x), .val (.int (2 : Int32)), .val (.int c2)] [(.int (b2i (suB c2)))]))
    by_cases hc56_63 : (b2i (suB c2)) = (0 : Int32)
    ·refine Fi.by' (st' := T62.setTop (mkF m 4 #[.val (.ref x), .val (.int (3 : Int32)), .val (.int c2)] [(.ref x), (.int (3 : Int32))])) (fun t k => ?_) ?_
     ·refine XS.ifYes W62.here hx rfl (pc0 := 56) (pc' := 61) rfl (hb hby d5_56) rfl ((if0 _ _).trans (teq hc56_63).1) (by decide) (by decide) ?_
      refine XS.iinc W62.here hx rfl (hb hby d5_61) rfl (l' := #[.val (.ref x), .val (.int (3 : Int32)), .val (.int c2)]) rfl ?_
      refine XS.goto W62.here hx rfl (pc0 := 64) (pc' := 2) rfl (hb hby d5_64) (by decide) (by decide) ?_
      refine XS.iloadN W62.here hx rfl (hb hby d5_2) rfl ?_
      refine XS.aloadN W62.here hx rfl (hb hby d5_3) rfl rfl ?_
      exact k
     refine W62.callV hx (y := y_0) (C := "java/lang/String") (ww hw 32 rfl) (ww hw 33 rfl) (ww hw 35 rfl) (ww hw 34 rfl) (by decide) (payLen (Wd := 1) hw A0 S0 hz (by decide) (by decide)) (A0).exa (g := (mkF m 4 #[.val (.ref x), .val (.int (3 : Int32)), .val (.int c2)] [(.ref x), (.int (3 : Int32))])) rfl (by rw [hml]; rfl) (argsL := []) (rest := [(.int (3 : Int32))]) (lenOf pd_14 rfl) rfl rfl (ble_ rfl) (hb hby d5_4) (by decide) (by decide) (fun v64 T64 h64 W64 sz64 q64 => ?_)
     obtain ⟨rfl, rfl⟩ := q64
     change Fi _ _ _ _ _ _ _ _ _ _ (T64.setTop (mkF m 7 #[.val (.ref x), .val (.int (3 : Int32)), .val (.int c2)] [(.int (4 : Int32)), (.int (3 : Int32))]))
     refine Fi.by' (st' := T64.setTop (mkF m 12 #[.val (.ref x), .val (.int (3 : Int32)), .val (.int c2)] [(.int (3 : Int32)), (.ref x)])) (fun t k => ?_) ?_
     ·refine XS.icmpNo W64.here hx rfl (hb hby d5_7) rfl (tlt (by decide : ((3 : Int32) < (4 : Int32)))).2.1 ?_
      refine XS.aloadN W64.here hx rfl (hb hby d5_10) rfl rfl ?_
      refine XS.iloadN W64.here hx rfl (hb hby d5_11) rfl ?_
      exact k
     refine W64.callV hx (y := y_1) (C := "java/lang/String") (ww hw 64 rfl) (ww hw 65 rfl) (ww hw 67 rfl) (ww hw 66 rfl) (by decide) (payCh (Wd := 0) (i := 3) hw A0 (ble_ rfl) S0 hz G0 rf D0 HB0 LB0 Z0 (ble_ rfl) rfl (by decide) (by decide)) (A0).exa (g := (mkF m 12 #[.val (.ref x), .val (.int (3 : Int32)), .val (.int c2)] [(.int (3 : Int32)), (.ref x)])) rfl (by rw [hml]; rfl) (argsL := [(.int (3 : Int32))]) (rest := []) (lenOf pd_15 rfl) rfl rfl (ble_ rfl) (hb hby d5_12) (by decide) (by decide) (fun v65 T65 h65 W65 sz65 q65 => ?_)
     obtain ⟨rfl, rfl⟩ := q65
     change Fi _ _ _ _ _ _ _ _ _ _ (T65.setTop (mkF m 15 #[.val (.ref x), .val (.int (3 : Int32)), .val (.int c2)] [(.int c3)]))
     refine Fi.by' (st' := T65.setTop (mkF m 17 #[.val (.ref x), .val (.int (3 : Int32)), .val (.int c3)] [(.int c3)])) (fun t k => ?_) ?_
     ·refine XS.istoreN W65.here hx rfl (hb hby d5_15) rfl (l' := #[.val (.ref x), .val (.int (3 : Int32)), .val (.int c3)]) rfl ?_
      refine XS.iloadN W65.here hx rfl (hb hby d5_16) rfl ?_
      exact k
     refine W65.callS hx (y := y_6) (ww hw 86 rfl) (ww hw 87 rfl) (ww hw 88 rfl) (ww hw 89 rfl) (by decide) (Pay.of_con (Wd := 0) (rm_chHi l Z a0 hw c3 h0 n0 (by omega)) (ww hw 89 rfl) (ww hw 88 rfl) (hEL hw) (by decide) (by decide)) (g := (mkF m 17 #[.val (.ref x), .val (.int (3 : Int32)), .val (.int c3)] [(.int c3)])) rfl (by rw [hml]; rfl) (argsL := [(.int c3)]) (rest := []) (lenOf pd_0 rfl) rfl rfl (ble_ rfl) (hb hby d5_17) (by decide) (by decide) (fun v66 T66 h66 W66 sz66 q66 => ?_)
     obtain ⟨rfl, rfl⟩ := q66
     change Fi _ _ _ _ _ _ _ _ _ _ (T66.setTop (mkF m 20 #[.val (.ref x), .val (.int (3 : Int32)), .val (.int c3)] [(.int (b2i (hiB c3)))]))
     by_cases hc20_67 : (b2i (hiB c3)) = (0 : Int32)
     ·refine Fi.by' (st' := T66.setTop (mkF m 53 #[.val (.ref x), .val (.int (3 : Int32)), .val (.int c3)] [(.int c3)])) (fun t k => ?_) ?_
      ·refine XS.ifYes W66.here hx rfl (pc0 := 20) (pc' := 52) rfl (hb hby d5_20) rfl ((if0 _ _).trans (teq hc20_67).1) (by decide) (by decide) ?_
       refine XS.iloadN W66.here hx rfl (hb hby d5_52) rfl ?_
       exact k
      refine W66.callS hx (y := y_8) (ww hw 91 rfl) (ww hw 92 rfl) (ww hw 88 rfl) (ww hw 93 rfl) (by decide) (Pay.of_con (Wd := 0) (rm_chSu l Z a0 hw c3 h0 n0 (by omega)) (ww hw 93 rfl) (ww hw 88 rfl) (hEL hw) (by decide) (by decide)) (g := (mkF m 53 #[.val (.ref x), .val (.int (3 : Int32)), .val (.int c3)] [(.int c3)])) rfl (by rw [hml]; rfl) (argsL := [(.int c3)]) (rest := []) (lenOf pd_0 rfl) rfl rfl (ble_ rfl) (hb hby d5_53) (by decide) (by decide) (fun v68 T68 h68 W68 sz68 q68 => ?_)
      obtain ⟨rfl, rfl⟩ := q68
      change Fi _ _ _ _ _ _ _ _ _ _ (T68.setTop (mkF m 56 #[.val (.ref x), .val (.int (3 : Int32)), .val (.int c3)] [(.int (b2i (suB c3)))]))
      by_cases hc56_69 : (b2i (suB c3)) = (0 : Int32)
      ·refine Fi.by' (st' := T68.setTop (mkF m 4 #[.val (.ref x), .val (.int (4 : Int32)), .val (.int c3)] [(.ref x), (.int (4 : Int32))])) (fun t k => ?_) ?_
       ·refine XS.ifYes W68.here hx rfl (pc0 := 56) (pc' := 61) rfl (hb hby d5_56) rfl ((if0 _ _).trans (teq hc56_69).1) (by decide) (by decide) ?_
        refine XS.iinc W68.here hx rfl (hb hby d5_61) rfl (l' := #[.val (.ref x), .val (.int (4 : Int32)), .val (.int c3)]) rfl ?_
        refine XS.goto W68.here hx rfl (pc0 := 64) (pc' := 2) rfl (hb hby d5_64) (by decide) (by decide) ?_
        refine XS.iloadN W68.here hx rfl (hb hby d5_2) rfl ?_
        refine XS.aloadN W68.here hx rfl (hb hby d5_3) rfl rfl ?_
        exact k
       refine W68.callV hx (y := y_0) (C := "java/lang/String") (ww hw 32 rfl) (ww hw 33 rfl) (ww hw 35 rfl) (ww hw 34 rfl) (by decide) (payLen (Wd := 1) hw A0 S0 hz (by decide) (by decide)) (A0).exa (g := (mkF m 4 #[.val (.ref x), .val (.int (4 : Int32)), .val (.int c3)] [(.ref x), (.int (4 : Int32))])) rfl (by rw [hml]; rfl) (argsL := []) (rest := [(.int (4 : Int32))]) (lenOf pd_14 rfl) rfl rfl (ble_ rfl) (hb hby d5_4) (by decide) (by decide) (fun v70 T70 h70 W70 sz70 q70 => ?_)
       obtain ⟨rfl, rfl⟩ := q70
       change Fi _ _ _ _ _ _ _ _ _ _ (T70.setTop (mkF m 7 #[.val (.ref x), .val (.int (4 : Int32)), .val (.int c3)] [(.int (4 : Int32)), (.int (4 : Int32))]))
       refine Fi.by' (st' := T70.setTop (mkF m 68 #[.val (.ref x), .val (.int (4 : Int32)), .val (.int c3)] [(.int (1 : Int32))])) (fun t k => ?_) ?_
       ·refine XS.icmpYes W70.here hx rfl (pc0 := 7) (pc' := 67) rfl (hb hby d5_7) rfl (flt (by decide : ¬ ((4 : Int32) < (4 : Int32)))).2.1 (by decide) (by decide) ?_
        refine iconstZ W70.here hx rfl (hb hby d5_67) (z := (1 : Int32)) rfl ?_
        exact k
       have f0 := b2i_t hc20_4
       have f1 := b2i_t hc43_55
       have f2 := b2i_f hc20_61
       have f3 := b2i_f hc56_63
       have f4 := b2i_f hc20_67
       have f5 := b2i_f hc56_69
       have hv : b2i (encB [c0, c1, c2, c3]) = (1 : Int32) := by simp [b2i, encB, f0, f1, f2, f3, f4, f5]
       exact W70.iret hx hlk hret (by simp) rfl (hb hby d5_68) ⟨by rw [hv], rfl⟩ (by decide) (by decide)
      ·refine Fi.by' (st' := T68.setTop (mkF m 60 #[.val (.ref x), .val (.int (3 : Int32)), .val (.int c3)] [(.int (0 : Int32))])) (fun t k => ?_) ?_
       ·refine XS.ifNo W68.here hx rfl (hb hby d5_56) rfl ((if0 _ _).trans (feq hc56_69).1) ?_
        refine iconstZ W68.here hx rfl (hb hby d5_59) (z := (0 : Int32)) rfl ?_
        exact k
       have f0 := b2i_t hc20_4
       have f1 := b2i_t hc43_55
       have f2 := b2i_f hc20_61
       have f3 := b2i_f hc56_63
       have f4 := b2i_f hc20_67
       have f5 := b2i_t hc56_69
       have hv : b2i (encB [c0, c1, c2, c3]) = (0 : Int32) := by simp [b2i, encB, f0, f1, f2, f3, f4, f5]
       exact W68.iret hx hlk hret (by simp) rfl (hb hby d5_60) ⟨by rw [hv], rfl⟩ (by decide) (by decide)
     ·refine Fi.by' (st' := T66.setTop (mkF m 27 #[.val (.ref x), .val (.int (3 : Int32)), .val (.int c3)] [(.ref x), (.int (4 : Int32))])) (fun t k => ?_) ?_
      ·refine XS.ifNo W66.here hx rfl (hb hby d5_20) rfl ((if0 _ _).trans (feq hc20_67).1) ?_
       refine XS.iloadN W66.here hx rfl (hb hby d5_23) rfl ?_
       refine iconstZ W66.here hx rfl (hb hby d5_24) (z := (1 : Int32)) rfl ?_
       refine XS.iadd W66.here hx rfl (hb hby d5_25) rfl ?_
       refine XS.aloadN W66.here hx rfl (hb hby d5_26) rfl rfl ?_
       exact k
      refine W66.callV hx (y := y_0) (C := "java/lang/String") (ww hw 32 rfl) (ww hw 33 rfl) (ww hw 35 rfl) (ww hw 34 rfl) (by decide) (payLen (Wd := 1) hw A0 S0 hz (by decide) (by decide)) (A0).exa (g := (mkF m 27 #[.val (.ref x), .val (.int (3 : Int32)), .val (.int c3)] [(.ref x), (.int (4 : Int32))])) rfl (by rw [hml]; rfl) (argsL := []) (rest := [(.int (4 : Int32))]) (lenOf pd_14 rfl) rfl rfl (ble_ rfl) (hb hby d5_27) (by decide) (by decide) (fun v71 T71 h71 W71 sz71 q71 => ?_)
      obtain ⟨rfl, rfl⟩ := q71
      change Fi _ _ _ _ _ _ _ _ _ _ (T71.setTop (mkF m 30 #[.val (.ref x), .val (.int (3 : Int32)), .val (.int c3)] [(.int (4 : Int32)), (.int (4 : Int32))]))
      refine Fi.by' (st' := T71.setTop (mkF m 53 #[.val (.ref x), .val (.int (3 : Int32)), .val (.int c3)] [(.int c3)])) (fun t k => ?_) ?_
      ·refine XS.icmpYes W71.here hx rfl (pc0 := 30) (pc' := 52) rfl (hb hby d5_30) rfl (flt (by decide : ¬ ((4 : Int32) < (4 : Int32)))).2.1 (by decide) (by decide) ?_
       refine XS.iloadN W71.here hx rfl (hb hby d5_52) rfl ?_
       exact k
      refine W71.callS hx (y := y_8) (ww hw 91 rfl) (ww hw 92 rfl) (ww hw 88 rfl) (ww hw 93 rfl) (by decide) (Pay.of_con (Wd := 0) (rm_chSu l Z a0 hw c3 h0 n0 (by omega)) (ww hw 93 rfl) (ww hw 88 rfl) (hEL hw) (by decide) (by decide)) (g := (mkF m 53 #[.val (.ref x), .val (.int (3 : Int32)), .val (.int c3)] [(.int c3)])) rfl (by rw [hml]; rfl) (argsL := [(.int c3)]) (rest := []) (lenOf pd_0 rfl) rfl rfl (ble_ rfl) (hb hby d5_53) (by decide) (by decide) (fun v72 T72 h72 W72 sz72 q72 => ?_)
      obtain ⟨rfl, rfl⟩ := q72
      change Fi _ _ _ _ _ _ _ _ _ _ (T72.setTop (mkF m 56 #[.val (.ref x), .val (.int (3 : Int32)), .val (.int c3)] [(.int (b2i (suB c3)))]))
      have su73 : suB c3 = true := by rw [su_is, b2i_t hc20_67]; rfl
      refine Fi.by' (st' := T72.setTop (mkF m 60 #[.val (.ref x), .val (.int (3 : Int32)), .val (.int c3)] [(.int (0 : Int32))])) (fun t k => ?_) ?_
      ·refine XS.ifNo W72.here hx rfl (hb hby d5_56) rfl ((if0 _ _).trans (feq (by rw [su73]; decide)).1) ?_
       refine iconstZ W72.here hx rfl (hb hby d5_59) (z := (0 : Int32)) rfl ?_
       exact k
      have f0 := b2i_t hc20_4
      have f1 := b2i_t hc43_55
      have f2 := b2i_f hc20_61
      have f3 := b2i_f hc56_63
      have f4 := b2i_t hc20_67
      have hv : b2i (encB [c0, c1, c2, c3]) = (0 : Int32) := by simp [b2i, encB, f0, f1, f2, f3, f4, su73]
      exact W72.iret hx hlk hret (by simp) rfl (hb hby d5_60) ⟨by rw [hv], rfl⟩ (by decide) (by decide)
    ·refine Fi.by' (st' := T62.setTop (mkF m 60 #[.val (.ref x), .val (.int (2 : Int32)), .val (.int c2)] [(.int (0 : Int32))])) (fun t k => ?_) ?_
     ·refine XS.ifNo W62.here hx rfl (hb hby d5_56) rfl ((if0 _ _).trans (feq hc56_63).1) ?_
      refine iconstZ W62.here hx rfl (hb hby d5_59) (z := (0 : Int32)) rfl ?_
      exact k
     have f0 := b2i_t hc20_4
     have f1 := b2i_t hc43_55
     have f2 := b2i_f hc20_61
     have f3 := b2i_t hc56_63
     have hv : b2i (encB [c0, c1, c2, c3]) = (0 : Int32) := by simp [b2i, encB, f0, f1, f2, f3]
     exact W62.iret hx hlk hret (by simp) rfl (hb hby d5_60) ⟨by rw [hv], rfl⟩ (by decide) (by decide)
   ·refine Fi.by' (st' := T60.setTop (mkF m 27 #[.val (.ref x), .val (.int (2 : Int32)), .val (.int c2)] [(.ref x), (.int (3 : Int32))])) (fun t k => ?_) ?_
    ·refine XS.ifNo W60.here hx rfl (hb hby d5_20) rfl ((if0 _ _).trans (feq hc20_61).1) ?_
     refine XS.iloadN W60.here hx rfl (hb hby d5_23) rfl ?_
     refine iconstZ W60.here hx rfl (hb hby d5_24) (z := (1 : Int32)) rfl ?_
     refine XS.iadd W60.here hx rfl (hb hby d5_25) rfl ?_
     refine XS.aloadN W60.here hx rfl (hb hby d5_26) rfl rfl ?_
     exact k
    refine W60.callV hx (y := y_0) (C := "java/lang/String") (ww hw 32 rfl) (ww hw 33 rfl) (ww hw 35 rfl) (ww hw 34 rfl) (by decide) (payLen (Wd := 1) hw A0 S0 hz (by decide) (by decide)) (A0).exa (g := (mkF m 27 #[.val (.ref x), .val (.int (2 : Int32)), .val (.int c2)] [(.ref x), (.int (3 : Int32))])) rfl (by rw [hml]; rfl) (argsL := []) (rest := [(.int (3 : Int32))]) (lenOf pd_14 rfl) rfl rfl (ble_ rfl) (hb hby d5_27) (by decide) (by decide) (fun v74 T74 h74 W74 sz74 q74 => ?_)
    obtain ⟨rfl, rfl⟩ := q74
    change Fi _ _ _ _ _ _ _ _ _ _ (T74.setTop (mkF m 30 #[.val (.ref x), .val (.int (2 : Int32)), .val (.int c2)] [(.int (4 : Int32)), (.int (3 : Int32))]))
    refine Fi.by' (st' := T74.setTop (mkF m 37 #[.val (.ref x), .val (.int (2 : Int32)), .val (.int c2)] [(.int (3 : Int32)), (.ref x)])) (fun t k => ?_) ?_
    ·refine XS.icmpNo W74.here hx rfl (hb hby d5_30) rfl (tlt (by decide : ((3 : Int32) < (4 : Int32)))).2.1 ?_
     refine XS.aloadN W74.here hx rfl (hb hby d5_33) rfl rfl ?_
     refine XS.iloadN W74.here hx rfl (hb hby d5_34) rfl ?_
     refine iconstZ W74.here hx rfl (hb hby d5_35) (z := (1 : Int32)) rfl ?_
     refine XS.iadd W74.here hx rfl (hb hby d5_36) rfl ?_
     exact k
    refine W74.callV hx (y := y_1) (C := "java/lang/String") (ww hw 64 rfl) (ww hw 65 rfl) (ww hw 67 rfl) (ww hw 66 rfl) (by decide) (payCh (Wd := 0) (i := 3) hw A0 (ble_ rfl) S0 hz G0 rf D0 HB0 LB0 Z0 (ble_ rfl) rfl (by decide) (by decide)) (A0).exa (g := (mkF m 37 #[.val (.ref x), .val (.int (2 : Int32)), .val (.int c2)] [(.int (3 : Int32)), (.ref x)])) rfl (by rw [hml]; rfl) (argsL := [(.int (3 : Int32))]) (rest := []) (lenOf pd_15 rfl) rfl rfl (ble_ rfl) (hb hby d5_37) (by decide) (by decide) (fun v75 T75 h75 W75 sz75 q75 => ?_)
    obtain ⟨rfl, rfl⟩ := q75
    change Fi _ _ _ _ _ _ _ _ _ _ (T75.setTop (mkF m 40 #[.val (.ref x), .val (.int (2 : Int32)), .val (.int c2)] [(.int c3)]))
    refine W75.callS hx (y := y_7) (ww hw 129 rfl) (ww hw 130 rfl) (ww hw 88 rfl) (ww hw 131 rfl) (by decide) (Pay.of_con (Wd := 0) (rm_chLo l Z a0 hw c3 h0 n0 (by omega)) (ww hw 131 rfl) (ww hw 88 rfl) (hEL hw) (by decide) (by decide)) (g := (mkF m 40 #[.val (.ref x), .val (.int (2 : Int32)), .val (.int c2)] [(.int c3)])) rfl (by rw [hml]; rfl) (argsL := [(.int c3)]) (rest := []) (lenOf pd_0 rfl) rfl rfl (ble_ rfl) (hb hby d5_40) (by decide) (by decide) (fun v76 T76 h76 W76 sz76 q76 => ?_)
    obtain ⟨rfl, rfl⟩ := q76
    change Fi _ _ _ _ _ _ _ _ _ _ (T76.setTop (mkF m 43 #[.val (.ref x), .val (.int (2 : Int32)), .val (.int c2)] [(.int (b2i (loB c3)))]))
    by_cases hc43_77 : (b2i (loB c3)) = (0 : Int32)
    ·refine Fi.by' (st' := T76.setTop (mkF m 53 #[.val (.ref x), .val (.int (2 : Int32)), .val (.int c2)] [(.int c2)])) (fun t k => ?_) ?_
     ·refine XS.ifYes W76.here hx rfl (pc0 := 43) (pc' := 52) rfl (hb hby d5_43) rfl ((if0 _ _).trans (teq hc43_77).1) (by decide) (by decide) ?_
      refine XS.iloadN W76.here hx rfl (hb hby d5_52) rfl ?_
      exact k
     refine W76.callS hx (y := y_8) (ww hw 91 rfl) (ww hw 92 rfl) (ww hw 88 rfl) (ww hw 93 rfl) (by decide) (Pay.of_con (Wd := 0) (rm_chSu l Z a0 hw c2 h0 n0 (by omega)) (ww hw 93 rfl) (ww hw 88 rfl) (hEL hw) (by decide) (by decide)) (g := (mkF m 53 #[.val (.ref x), .val (.int (2 : Int32)), .val (.int c2)] [(.int c2)])) rfl (by rw [hml]; rfl) (argsL := [(.int c2)]) (rest := []) (lenOf pd_0 rfl) rfl rfl (ble_ rfl) (hb hby d5_53) (by decide) (by decide) (fun v78 T78 h78 W78 sz78 q78 => ?_)
     obtain ⟨rfl, rfl⟩ := q78
     change Fi _ _ _ _ _ _ _ _ _ _ (T78.setTop (mkF m 56 #[.val (.ref x), .val (.int (2 : Int32)), .val (.int c2)] [(.int (b2i (suB c2)))]))
     have su79 : suB c2 = true := by rw [su_is, b2i_t hc20_61]; rfl
     refine Fi.by' (st' := T78.setTop (mkF m 60 #[.val (.ref x), .val (.int (2 : Int32)), .val (.int c2)] [(.int (0 : Int32))])) (fun t k => ?_) ?_
     ·refine XS.ifNo W78.here hx rfl (hb hby d5_56) rfl ((if0 _ _).trans (feq (by rw [su79]; decide)).1) ?_
      refine iconstZ W78.here hx rfl (hb hby d5_59) (z := (0 : Int32)) rfl ?_
      exact k
     have f0 := b2i_t hc20_4
     have f1 := b2i_t hc43_55
     have f2 := b2i_t hc20_61
     have f3 := b2i_f hc43_77
     have hv : b2i (encB [c0, c1, c2, c3]) = (0 : Int32) := by simp [b2i, encB, f0, f1, f2, f3, su79]
     exact W78.iret hx hlk hret (by simp) rfl (hb hby d5_60) ⟨by rw [hv], rfl⟩ (by decide) (by decide)
    ·refine Fi.by' (st' := T76.setTop (mkF m 4 #[.val (.ref x), .val (.int (4 : Int32)), .val (.int c2)] [(.ref x), (.int (4 : Int32))])) (fun t k => ?_) ?_
     ·refine XS.ifNo W76.here hx rfl (hb hby d5_43) rfl ((if0 _ _).trans (feq hc43_77).1) ?_
      refine XS.iinc W76.here hx rfl (hb hby d5_46) rfl (l' := #[.val (.ref x), .val (.int (3 : Int32)), .val (.int c2)]) rfl ?_
      refine XS.goto W76.here hx rfl (pc0 := 49) (pc' := 61) rfl (hb hby d5_49) (by decide) (by decide) ?_
      refine XS.iinc W76.here hx rfl (hb hby d5_61) rfl (l' := #[.val (.ref x), .val (.int (4 : Int32)), .val (.int c2)]) rfl ?_
      refine XS.goto W76.here hx rfl (pc0 := 64) (pc' := 2) rfl (hb hby d5_64) (by decide) (by decide) ?_
      refine XS.iloadN W76.here hx rfl (hb hby d5_2) rfl ?_
      refine XS.aloadN W76.here hx rfl (hb hby d5_3) rfl rfl ?_
      exact k
     refine W76.callV hx (y := y_0) (C := "java/lang/String") (ww hw 32 rfl) (ww hw 33 rfl) (ww hw 35 rfl) (ww hw 34 rfl) (by decide) (payLen (Wd := 1) hw A0 S0 hz (by decide) (by decide)) (A0).exa (g := (mkF m 4 #[.val (.ref x), .val (.int (4 : Int32)), .val (.int c2)] [(.ref x), (.int (4 : Int32))])) rfl (by rw [hml]; rfl) (argsL := []) (rest := [(.int (4 : Int32))]) (lenOf pd_14 rfl) rfl rfl (ble_ rfl) (hb hby d5_4) (by decide) (by decide) (fun v80 T80 h80 W80 sz80 q80 => ?_)
     obtain ⟨rfl, rfl⟩ := q80
     change Fi _ _ _ _ _ _ _ _ _ _ (T80.setTop (mkF m 7 #[.val (.ref x), .val (.int (4 : Int32)), .val (.int c2)] [(.int (4 : Int32)), (.int (4 : Int32))]))
     refine Fi.by' (st' := T80.setTop (mkF m 68 #[.val (.ref x), .val (.int (4 : Int32)), .val (.int c2)] [(.int (1 : Int32))])) (fun t k => ?_) ?_
     ·refine XS.icmpYes W80.here hx rfl (pc0 := 7) (pc' := 67) rfl (hb hby d5_7) rfl (flt (by decide : ¬ ((4 : Int32) < (4 : Int32)))).2.1 (by decide) (by decide) ?_
      refine iconstZ W80.here hx rfl (hb hby d5_67) (z := (1 : Int32)) rfl ?_
      exact k
     have f0 := b2i_t hc20_4
     have f1 := b2i_t hc43_55
     have f2 := b2i_t hc20_61
     have f3 := b2i_t hc43_77
     have hv : b2i (encB [c0, c1, c2, c3]) = (1 : Int32) := by simp [b2i, encB, f0, f1, f2, f3]
     exact W80.iret hx hlk hret (by simp) rfl (hb hby d5_68) ⟨by rw [hv], rfl⟩ (by decide) (by decide)
def Q_law (Z : State) (p0 p1 p2 p3 p4 zc : Int32) (fm : Value) (h0 : Heap) (v : Option Value) (h : Heap) : Prop := v = some (.int 1)
set_option maxRecDepth 65536 in
set_option maxHeartbeats 40000000 in
theorem rm_law (l : Launch) (Z : State) (a0 : Array Value) (hw : ∀ d ∈ tables_1, d.before a0 Z = true) (p0 p1 p2 p3 p4 zc : Int32) (fm : Value) (h0 : Heap) (n0 : Nat) (Z0 : n0 ≤ h0.size) (S0 : Sta Z h0 "java/lang/String" "COMPACT_STRINGS" "Z" (.int zc)) (hz : ¬ zc = 0) (G0 : Sta Z h0 "jdk/internal/util/Preconditions" "SIOOBE_FORMATTER" "Ljava/util/function/BiFunction;" fm) (rf : fm.isRef = true) (D0 : Sta Z h0 "java/lang/StringUTF16" "$assertionsDisabled" "Z" (.int 1)) (HB0 : Sta Z h0 "java/lang/StringUTF16" "HI_BYTE_SHIFT" "I" (.int 0)) (LB0 : Sta Z h0 "java/lang/StringUTF16" "LO_BYTE_SHIFT" "I" (.int 8)) (hn0 : ¬ ((p4 &&& (2147483647 : Int32)) - ((p4 &&& (2147483647 : Int32)) / (5 : Int32)) * (5 : Int32)) = 0) :
  Con l Z EL x code maxLocals ret tables_1 room_1 #[(.int p0), (.int p1), (.int p2), (.int p3), (.int p4)] h0 n0 (Q_law Z p0 p1 p2 p3 p4 zc fm h0) := by
 refine Con.intro (own := "com/example/record_hold/recordhold/text/Utf8CanEncodePinLaw") rfl (plainFor_of_name plain_com_example_record_hold_recordhold_text_Utf8CanEncodePinLaw) (hEL hw) ?_
 intro p e s m below meth c s₁ hx hby hml hret hlk hnm W0
 refine Fi.cast (show entryFrame m #[(.int p0), (.int p1), (.int p2), (.int p3), (.int p4)] maxLocals = (mkF m 0 #[.val (.int p0), .val (.int p1), .val (.int p2), .val (.int p3), .val (.int p4), .unset, .unset, .unset, .unset, .unset, .unset, .unset, .unset] []) from by first | (simp [entryFrame, mkF, argsToLocals, Value.category, maxLocals]; done) | rfl) ?_
 refine Fi.by' (st' := s₁.setTop (mkF m 2 #[.val (.int p0), .val (.int p1), .val (.int p2), .val (.int p3), .val (.int p4), .unset, .unset, .unset, .unset, .unset, .unset, .unset, .unset] [(.int p4)])) (fun t k => ?_) ?_
 ·refine XS.iload W0.here hx rfl (hb hby at_0) rfl ?_
  exact k
 refine W0.ldcI hx (ww hw 0 rfl) (g := (mkF m 2 #[.val (.int p0), .val (.int p1), .val (.int p2), .val (.int p3), .val (.int p4), .unset, .unset, .unset, .unset, .unset, .unset, .unset, .unset] [(.int p4)])) rfl (hb hby at_2) ?_
 change Fi _ _ _ _ _ _ _ _ _ _ (s₁.setTop (mkF m 4 #[.val (.int p0), .val (.int p1), .val (.int p2), .val (.int p3), .val (.int p4), .unset, .unset, .unset, .unset, .unset, .unset, .unset, .unset] [(.int (2147483647 : Int32)), (.int p4)]))
 refine Fi.by' (st' := s₁.setTop (mkF m 7 #[.val (.int p0), .val (.int p1), .val (.int p2), .val (.int p3), .val (.int p4), .unset, .unset, .unset, .unset, .unset, .unset, .unset, .unset] [(.int ((p4 &&& (2147483647 : Int32)) - ((p4 &&& (2147483647 : Int32)) / (5 : Int32)) * (5 : Int32)))])) (fun t k => ?_) ?_
 ·refine XS.iand W0.here hx rfl (hb hby at_4) rfl ?_
  refine iconstZ W0.here hx rfl (hb hby at_5) (z := (5 : Int32)) rfl ?_
  refine XS.irem W0.here hx rfl (hb hby at_6) rfl (by decide) ?_
  exact k
 obtain ⟨nn, hnn⟩ : ∃ z : Int32, z = ((p4 &&& (2147483647 : Int32)) - ((p4 &&& (2147483647 : Int32)) / (5 : Int32)) * (5 : Int32)) := ⟨_, rfl⟩
 rw [← hnn]
 refine Fi.by' (st' := s₁.setTop (mkF m 10 #[.val (.int p0), .val (.int p1), .val (.int p2), .val (.int p3), .val (.int p4), .val (.int nn), .unset, .unset, .unset, .unset, .unset, .unset, .unset] [(.int p0)])) (fun t k => ?_) ?_
 ·refine XS.istore W0.here hx rfl (hb hby at_7) rfl (l' := #[.val (.int p0), .val (.int p1), .val (.int p2), .val (.int p3), .val (.int p4), .val (.int nn), .unset, .unset, .unset, .unset, .unset, .unset, .unset]) rfl ?_
  refine XS.iloadN W0.here hx rfl (hb hby at_9) rfl ?_
  exact k
 refine W0.callS hx (y := y_2) (ww hw 1 rfl) (ww hw 2 rfl) (ww hw 3 rfl) (ww hw 4 rfl) (by decide) (Pay.of_con (Wd := 0) (rm_draw l Z a0 hw p0 h0 n0 (by omega)) (ww hw 4 rfl) (ww hw 3 rfl) (hEL hw) (by decide) (by decide)) (g := (mkF m 10 #[.val (.int p0), .val (.int p1), .val (.int p2), .val (.int p3), .val (.int p4), .val (.int nn), .unset, .unset, .unset, .unset, .unset, .unset, .unset] [(.int p0)])) rfl (by rw [hml]; rfl) (argsL := [(.int p0)]) (rest := []) (lenOf pd_15 rfl) rfl rfl (ble_ rfl) (hb hby at_10) (by decide) (by decide) (fun v1 T1 h1 W1 sz1 q1 => ?_)
 obtain ⟨c0, rfl, P_c0, rfl⟩ := q1
 change Fi _ _ _ _ _ _ _ _ _ _ (T1.setTop (mkF m 13 #[.val (.int p0), .val (.int p1), .val (.int p2), .val (.int p3), .val (.int p4), .val (.int nn), .unset, .unset, .unset, .unset, .unset, .unset, .unset] [(.int c0)]))
 refine Fi.by' (st' := T1.setTop (mkF m 16 #[.val (.int p0), .val (.int p1), .val (.int p2), .val (.int p3), .val (.int p4), .val (.int nn), .val (.int c0), .unset, .unset, .unset, .unset, .unset, .unset] [(.int p1)])) (fun t k => ?_) ?_
 ·refine XS.istore W1.here hx rfl (hb hby at_13) rfl (l' := #[.val (.int p0), .val (.int p1), .val (.int p2), .val (.int p3), .val (.int p4), .val (.int nn), .val (.int c0), .unset, .unset, .unset, .unset, .unset, .unset]) rfl ?_
  refine XS.iloadN W1.here hx rfl (hb hby at_15) rfl ?_
  exact k
 refine W1.callS hx (y := y_2) (ww hw 1 rfl) (ww hw 2 rfl) (ww hw 3 rfl) (ww hw 4 rfl) (by decide) (Pay.of_con (Wd := 0) (rm_draw l Z a0 hw p1 h0 n0 (by omega)) (ww hw 4 rfl) (ww hw 3 rfl) (hEL hw) (by decide) (by decide)) (g := (mkF m 16 #[.val (.int p0), .val (.int p1), .val (.int p2), .val (.int p3), .val (.int p4), .val (.int nn), .val (.int c0), .unset, .unset, .unset, .unset, .unset, .unset] [(.int p1)])) rfl (by rw [hml]; rfl) (argsL := [(.int p1)]) (rest := []) (lenOf pd_15 rfl) rfl rfl (ble_ rfl) (hb hby at_16) (by decide) (by decide) (fun v2 T2 h2 W2 sz2 q2 => ?_)
 obtain ⟨c1, rfl, P_c1, rfl⟩ := q2
 change Fi _ _ _ _ _ _ _ _ _ _ (T2.setTop (mkF m 19 #[.val (.int p0), .val (.int p1), .val (.int p2), .val (.int p3), .val (.int p4), .val (.int nn), .val (.int c0), .unset, .unset, .unset, .unset, .unset, .unset] [(.int c1)]))
 refine Fi.by' (st' := T2.setTop (mkF m 22 #[.val (.int p0), .val (.int p1), .val (.int p2), .val (.int p3), .val (.int p4), .val (.int nn), .val (.int c0), .val (.int c1), .unset, .unset, .unset, .unset, .unset] [(.int p2)])) (fun t k => ?_) ?_
 ·refine XS.istore W2.here hx rfl (hb hby at_19) rfl (l' := #[.val (.int p0), .val (.int p1), .val (.int p2), .val (.int p3), .val (.int p4), .val (.int nn), .val (.int c0), .val (.int c1), .unset, .unset, .unset, .unset, .unset]) rfl ?_
  refine XS.iloadN W2.here hx rfl (hb hby at_21) rfl ?_
  exact k
 refine W2.callS hx (y := y_2) (ww hw 1 rfl) (ww hw 2 rfl) (ww hw 3 rfl) (ww hw 4 rfl) (by decide) (Pay.of_con (Wd := 0) (rm_draw l Z a0 hw p2 h0 n0 (by omega)) (ww hw 4 rfl) (ww hw 3 rfl) (hEL hw) (by decide) (by decide)) (g := (mkF m 22 #[.val (.int p0), .val (.int p1), .val (.int p2), .val (.int p3), .val (.int p4), .val (.int nn), .val (.int c0), .val (.int c1), .unset, .unset, .unset, .unset, .unset] [(.int p2)])) rfl (by rw [hml]; rfl) (argsL := [(.int p2)]) (rest := []) (lenOf pd_15 rfl) rfl rfl (ble_ rfl) (hb hby at_22) (by decide) (by decide) (fun v3 T3 h3 W3 sz3 q3 => ?_)
 obtain ⟨c2, rfl, P_c2, rfl⟩ := q3
 change Fi _ _ _ _ _ _ _ _ _ _ (T3.setTop (mkF m 25 #[.val (.int p0), .val (.int p1), .val (.int p2), .val (.int p3), .val (.int p4), .val (.int nn), .val (.int c0), .val (.int c1), .unset, .unset, .unset, .unset, .unset] [(.int c2)]))
 refine Fi.by' (st' := T3.setTop (mkF m 28 #[.val (.int p0), .val (.int p1), .val (.int p2), .val (.int p3), .val (.int p4), .val (.int nn), .val (.int c0), .val (.int c1), .val (.int c2), .unset, .unset, .unset, .unset] [(.int p3)])) (fun t k => ?_) ?_
 ·refine XS.istore W3.here hx rfl (hb hby at_25) rfl (l' := #[.val (.int p0), .val (.int p1), .val (.int p2), .val (.int p3), .val (.int p4), .val (.int nn), .val (.int c0), .val (.int c1), .val (.int c2), .unset, .unset, .unset, .unset]) rfl ?_
  refine XS.iloadN W3.here hx rfl (hb hby at_27) rfl ?_
  exact k
 refine W3.callS hx (y := y_2) (ww hw 1 rfl) (ww hw 2 rfl) (ww hw 3 rfl) (ww hw 4 rfl) (by decide) (Pay.of_con (Wd := 0) (rm_draw l Z a0 hw p3 h0 n0 (by omega)) (ww hw 4 rfl) (ww hw 3 rfl) (hEL hw) (by decide) (by decide)) (g := (mkF m 28 #[.val (.int p0), .val (.int p1), .val (.int p2), .val (.int p3), .val (.int p4), .val (.int nn), .val (.int c0), .val (.int c1), .val (.int c2), .unset, .unset, .unset, .unset] [(.int p3)])) rfl (by rw [hml]; rfl) (argsL := [(.int p3)]) (rest := []) (lenOf pd_15 rfl) rfl rfl (ble_ rfl) (hb hby at_28) (by decide) (by decide) (fun v4 T4 h4 W4 sz4 q4 => ?_)
 obtain ⟨c3, rfl, P_c3, rfl⟩ := q4
 change Fi _ _ _ _ _ _ _ _ _ _ (T4.setTop (mkF m 31 #[.val (.int p0), .val (.int p1), .val (.int p2), .val (.int p3), .val (.int p4), .val (.int nn), .val (.int c0), .val (.int c1), .val (.int c2), .unset, .unset, .unset, .unset] [(.int c3)]))
 refine Fi.by' (st' := T4.setTop (mkF m 33 #[.val (.int p0), .val (.int p1), .val (.int p2), .val (.int p3), .val (.int p4), .val (.int nn), .val (.int c0), .val (.int c1), .val (.int c2), .val (.int c3), .unset, .unset, .unset] [])) (fun t k => ?_) ?_
 ·refine XS.istore W4.here hx rfl (hb hby at_31) rfl (l' := #[.val (.int p0), .val (.int p1), .val (.int p2), .val (.int p3), .val (.int p4), .val (.int nn), .val (.int c0), .val (.int c1), .val (.int c2), .val (.int c3), .unset, .unset, .unset]) rfl ?_
  exact k
 have h14 : nn = 1 ∨ nn = 2 ∨ nn = 3 ∨ nn = 4 := (rem5 hnn).elim (fun q => absurd (hnn.symm.trans q) hn0) id
 rcases h14 with rfl | rfl | rfl | rfl
 ·refine Fi.by' (st' := T4.setTop (mkF m 35 #[.val (.int p0), .val (.int p1), .val (.int p2), .val (.int p3), .val (.int p4), .val (.int (1 : Int32)), .val (.int c0), .val (.int c1), .val (.int c2), .val (.int c3), .unset, .unset, .unset] [(.int (1 : Int32))])) (fun t k => ?_) ?_
  ·refine XS.iload W4.here hx rfl (hb hby at_33) rfl ?_
   exact k
  refine W4.newP hx (aty := .char) (ww hw 6 rfl) (g := (mkF m 35 #[.val (.int p0), .val (.int p1), .val (.int p2), .val (.int p3), .val (.int p4), .val (.int (1 : Int32)), .val (.int c0), .val (.int c1), .val (.int c2), .val (.int c3), .unset, .unset, .unset] [(.int (1 : Int32))])) rfl (hb hby at_35) rfl (by decide) (cap := 1) (by decide) (by decide) (by decide) (by decide) (fun T5 h5 a5 k5 ha5 W5 E5 A5 => ?_)
  change Fi _ _ _ _ _ _ _ _ _ _ (T5.setTop (mkF m 37 #[.val (.int p0), .val (.int p1), .val (.int p2), .val (.int p3), .val (.int p4), .val (.int (1 : Int32)), .val (.int c0), .val (.int c1), .val (.int c2), .val (.int c3), .unset, .unset, .unset] [(.ref a5)]))
  have sz5 := E5.1
  have V5 : Arv Z h5 a5 k5 .char (1 : Int32) (([0] : List Int32).map Value.int) (.int (0 : Int32)) := A5.pad (pad_rep [] (.int (0 : Int32)) 1)
  refine Fi.by' (st' := T5.setTop (mkF m 49 #[.val (.int p0), .val (.int p1), .val (.int p2), .val (.int p3), .val (.int p4), .val (.int (1 : Int32)), .val (.int c0), .val (.int c1), .val (.int c2), .val (.int c3), .val (.ref a5), .unset, .unset] [(.int c0), (.int (0 : Int32)), (.ref a5)])) (fun t k => ?_) ?_
  ·refine XS.astore W5.here hx rfl (hb hby at_37) rfl rfl (l' := #[.val (.int p0), .val (.int p1), .val (.int p2), .val (.int p3), .val (.int p4), .val (.int (1 : Int32)), .val (.int c0), .val (.int c1), .val (.int c2), .val (.int c3), .val (.ref a5), .unset, .unset]) rfl ?_
   refine XS.iload W5.here hx rfl (hb hby at_39) rfl ?_
   refine XS.ifNo W5.here hx rfl (hb hby at_41) rfl ((if0 _ _).trans (tlt (by decide : ((0 : Int32) < (1 : Int32)))).2.2.2) ?_
   refine XS.aload W5.here hx rfl (hb hby at_44) rfl rfl ?_
   refine iconstZ W5.here hx rfl (hb hby at_46) (z := (0 : Int32)) rfl ?_
   refine XS.iload W5.here hx rfl (hb hby at_47) rfl ?_
   exact k
  refine W5.castore hx V5 (i := 0) (ble_ rfl) (j := (0 : Int32)) rfl (by decide) rfl (ch_ok16 P_c0) (g := (mkF m 49 #[.val (.int p0), .val (.int p1), .val (.int p2), .val (.int p3), .val (.int p4), .val (.int (1 : Int32)), .val (.int c0), .val (.int c1), .val (.int c2), .val (.int c3), .val (.ref a5), .unset, .unset] [(.int c0), (.int (0 : Int32)), (.ref a5)])) rfl rfl (hb hby at_49) (by omega) (fun T6 h6 W6 R6 V6 => ?_)
  change Fi _ _ _ _ _ _ _ _ _ _ (T6.setTop (mkF m 50 #[.val (.int p0), .val (.int p1), .val (.int p2), .val (.int p3), .val (.int p4), .val (.int (1 : Int32)), .val (.int c0), .val (.int c1), .val (.int c2), .val (.int c3), .val (.ref a5), .unset, .unset] []))
  have x6w : Ext h0 h6 := ext_wr E5 R6 (by omega)
  have sz6 := R6.size
  have V6' : Arv Z h6 a5 k5 .char (1 : Int32) (([c0] : List Int32).map Value.int) (.int (0 : Int32)) := V6
  refine Fi.by' (st' := T6.setTop (mkF m 86 #[.val (.int p0), .val (.int p1), .val (.int p2), .val (.int p3), .val (.int p4), .val (.int (1 : Int32)), .val (.int c0), .val (.int c1), .val (.int c2), .val (.int c3), .val (.ref a5), .unset, .unset] [])) (fun t k => ?_) ?_
  ·refine XS.iload W6.here hx rfl (hb hby at_50) rfl ?_
   refine iconstZ W6.here hx rfl (hb hby at_52) (z := (1 : Int32)) rfl ?_
   refine XS.icmpYes W6.here hx rfl (pc0 := 53) (pc' := 62) rfl (hb hby at_53) rfl (flt (by decide : ¬ ((1 : Int32) < (1 : Int32)))).2.2.2 (by decide) (by decide) ?_
   refine XS.iload W6.here hx rfl (hb hby at_62) rfl ?_
   refine iconstZ W6.here hx rfl (hb hby at_64) (z := (2 : Int32)) rfl ?_
   refine XS.icmpYes W6.here hx rfl (pc0 := 65) (pc' := 74) rfl (hb hby at_65) rfl (flt (by decide : ¬ ((2 : Int32) < (1 : Int32)))).2.2.2 (by decide) (by decide) ?_
   refine XS.iload W6.here hx rfl (hb hby at_74) rfl ?_
   refine iconstZ W6.here hx rfl (hb hby at_76) (z := (3 : Int32)) rfl ?_
   refine XS.icmpYes W6.here hx rfl (pc0 := 77) (pc' := 86) rfl (hb hby at_77) rfl (flt (by decide : ¬ ((3 : Int32) < (1 : Int32)))).2.2.2 (by decide) (by decide) ?_
   exact k
  refine W6.new hx (ww hw 7 rfl) (ww hw 8 rfl) (ww hw 9 rfl) (g := (mkF m 86 #[.val (.int p0), .val (.int p1), .val (.int p2), .val (.int p3), .val (.int p4), .val (.int (1 : Int32)), .val (.int c0), .val (.int c1), .val (.int c2), .val (.int c3), .val (.ref a5), .unset, .unset] [])) rfl (hb hby at_86) (by decide) (by decide) (fun T7 h7 a7 ha7 W7 E7 A7 D7 => ?_)
  change Fi _ _ _ _ _ _ _ _ _ _ (T7.setTop (mkF m 89 #[.val (.int p0), .val (.int p1), .val (.int p2), .val (.int p3), .val (.int p4), .val (.int (1 : Int32)), .val (.int c0), .val (.int c1), .val (.int c2), .val (.int c3), .val (.ref a5), .unset, .unset] [(.ref a7)]))
  have sz7 := E7.1
  refine Fi.by' (st' := T7.setTop (mkF m 92 #[.val (.int p0), .val (.int p1), .val (.int p2), .val (.int p3), .val (.int p4), .val (.int (1 : Int32)), .val (.int c0), .val (.int c1), .val (.int c2), .val (.int c3), .val (.ref a5), .unset, .unset] [(.ref a5), (.ref a7), (.ref a7)])) (fun t k => ?_) ?_
  ·refine XS.dup W7.here hx rfl (hb hby at_89) rfl rfl ?_
   refine XS.aload W7.here hx rfl (hb hby at_90) rfl rfl ?_
   exact k
  have x8 : Ext h0 h7 := ext_trans x6w E7
  refine W7.callI hx (y := y_18) rfl (ww hw 10 rfl) (ww hw 11 rfl) (ww hw 12 rfl) (by decide) (payIn1 (Wd := 1) (kc := k5) (c0 := c0) hw (by omega) (by omega) A7 (D7 (Or.inr (ww hw 22 rfl)) (ty := (.array .byte)) (by decide)) (D7 (Or.inr (ww hw 23 rfl)) (ty := .byte) (by decide)) (Sta.ext x8 S0) hz (Sta.ext x8 D0) (Sta.ext x8 HB0) (Sta.ext x8 LB0) (V6'.ext E7) (all_cons P_c0 all_nil) (by decide) (by decide)) (a := a7) (g := (mkF m 92 #[.val (.int p0), .val (.int p1), .val (.int p2), .val (.int p3), .val (.int p4), .val (.int (1 : Int32)), .val (.int c0), .val (.int c1), .val (.int c2), .val (.int c3), .val (.ref a5), .unset, .unset] [(.ref a5), (.ref a7), (.ref a7)])) rfl (by rw [hml]; rfl) (argsL := [(.ref a5)]) (rest := [(.ref a7)]) (lenOf pd_16 rfl) rfl rfl (ble_ rfl) (hb hby at_92) (by decide) (by decide) (fun v9 T9 h9 W9 sz9 q9 => ?_)
  obtain ⟨rfl, K9, F9⟩ := q9
  change Fi _ _ _ _ _ _ _ _ _ _ (T9.setTop (mkF m 95 #[.val (.int p0), .val (.int p1), .val (.int p2), .val (.int p3), .val (.int p4), .val (.int (1 : Int32)), .val (.int c0), .val (.int c1), .val (.int c2), .val (.int c3), .val (.ref a5), .unset, .unset] [(.ref a7)]))
  have x9k : Ext h6 h9 := ext_keep1 E7 K9 (by omega)
  refine Fi.by' (st' := T9.setTop (mkF m 121 #[.val (.int p0), .val (.int p1), .val (.int p2), .val (.int p3), .val (.int p4), .val (.int (1 : Int32)), .val (.int c0), .val (.int c1), .val (.int c2), .val (.int c3), .val (.ref a5), .val (.ref a7), .unset] [(.int c1), (.int (0 : Int32)), (.int c0), (.int c0), (.int (0 : Int32))])) (fun t k => ?_) ?_
  ·refine XS.astore W9.here hx rfl (hb hby at_95) rfl rfl (l' := #[.val (.int p0), .val (.int p1), .val (.int p2), .val (.int p3), .val (.int p4), .val (.int (1 : Int32)), .val (.int c0), .val (.int c1), .val (.int c2), .val (.int c3), .val (.ref a5), .val (.ref a7), .unset]) rfl ?_
   refine XS.iload W9.here hx rfl (hb hby at_97) rfl ?_
   refine iconstZ W9.here hx rfl (hb hby at_99) (z := (1 : Int32)) rfl ?_
   refine XS.icmpNo W9.here hx rfl (hb hby at_100) rfl (flt (by decide : ¬ ((1 : Int32) < (1 : Int32)))).1 ?_
   refine iconstZ W9.here hx rfl (hb hby at_103) (z := (0 : Int32)) rfl ?_
   refine XS.iload W9.here hx rfl (hb hby at_104) rfl ?_
   refine XS.iload W9.here hx rfl (hb hby at_106) rfl ?_
   refine XS.iload W9.here hx rfl (hb hby at_108) rfl ?_
   refine iconstZ W9.here hx rfl (hb hby at_110) (z := (1 : Int32)) rfl ?_
   refine XS.icmpYes W9.here hx rfl (pc0 := 111) (pc' := 118) rfl (hb hby at_111) rfl (flt (by decide : ¬ ((1 : Int32) < (1 : Int32)))).2.2.2 (by decide) (by decide) ?_
   refine iconstZ W9.here hx rfl (hb hby at_118) (z := (0 : Int32)) rfl ?_
   refine XS.iload W9.here hx rfl (hb hby at_119) rfl ?_
   exact k
  refine W9.callS hx (y := y_5) (ww hw 53 rfl) (ww hw 54 rfl) (ww hw 3 rfl) (ww hw 55 rfl) (by decide) (Pay.of_con (Wd := 0) (rm_fine l Z a0 hw false false c0 c0 c1 h9 n0 (by omega)) (ww hw 55 rfl) (ww hw 3 rfl) (hEL hw) (by decide) (by decide)) (g := (mkF m 121 #[.val (.int p0), .val (.int p1), .val (.int p2), .val (.int p3), .val (.int p4), .val (.int (1 : Int32)), .val (.int c0), .val (.int c1), .val (.int c2), .val (.int c3), .val (.ref a5), .val (.ref a7), .unset] [(.int c1), (.int (0 : Int32)), (.int c0), (.int c0), (.int (0 : Int32))])) rfl (by rw [hml]; rfl) (argsL := [(.int (0 : Int32)), (.int c0), (.int c0), (.int (0 : Int32)), (.int c1)]) (rest := []) (lenOf pd_17 rfl) rfl rfl (ble_ rfl) (hb hby at_121) (by decide) (by decide) (fun v10 T10 h10 W10 sz10 q10 => ?_)
  obtain ⟨rfl, rfl⟩ := q10
  change Fi _ _ _ _ _ _ _ _ _ _ (T10.setTop (mkF m 124 #[.val (.int p0), .val (.int p1), .val (.int p2), .val (.int p3), .val (.int p4), .val (.int (1 : Int32)), .val (.int c0), .val (.int c1), .val (.int c2), .val (.int c3), .val (.ref a5), .val (.ref a7), .unset] [(.int (b2i (fineB false c0 c0 false c1)))]))
  by_cases hc124_11 : (b2i (fineB false c0 c0 false c1)) = (0 : Int32)
  ·refine Fi.by' (st' := T10.setTop (mkF m 216 #[.val (.int p0), .val (.int p1), .val (.int p2), .val (.int p3), .val (.int p4), .val (.int (1 : Int32)), .val (.int c0), .val (.int c1), .val (.int c2), .val (.int c3), .val (.ref a5), .val (.ref a7), .val (.int (0 : Int32))] [(.ref a7)])) (fun t k => ?_) ?_
   ·refine XS.ifYes W10.here hx rfl (pc0 := 124) (pc' := 211) rfl (hb hby at_124) rfl ((if0 _ _).trans (teq hc124_11).1) (by decide) (by decide) ?_
    refine iconstZ W10.here hx rfl (hb hby at_211) (z := (0 : Int32)) rfl ?_
    refine XS.istore W10.here hx rfl (hb hby at_212) rfl (l' := #[.val (.int p0), .val (.int p1), .val (.int p2), .val (.int p3), .val (.int p4), .val (.int (1 : Int32)), .val (.int c0), .val (.int c1), .val (.int c2), .val (.int c3), .val (.ref a5), .val (.ref a7), .val (.int (0 : Int32))]) rfl ?_
    refine XS.aload W10.here hx rfl (hb hby at_214) rfl rfl ?_
    exact k
   have x12 : Ext h0 h9 := ext_trans x6w x9k
   refine W10.callS hx (y := y_25) (ww hw 28 rfl) (ww hw 29 rfl) (ww hw 30 rfl) (ww hw 31 rfl) (by decide) (Pay.of_con (Wd := 0) (rm_enc1 l Z a0 hw a7 zc c0 fm h9 n0 (by omega) (Sta.ext x12 S0) hz (Sta.ext x12 G0) rf (Sta.ext x12 D0) (Sta.ext x12 HB0) (Sta.ext x12 LB0) F9) (ww hw 31 rfl) (ww hw 30 rfl) (hEL hw) (by decide) (by decide)) (g := (mkF m 216 #[.val (.int p0), .val (.int p1), .val (.int p2), .val (.int p3), .val (.int p4), .val (.int (1 : Int32)), .val (.int c0), .val (.int c1), .val (.int c2), .val (.int c3), .val (.ref a5), .val (.ref a7), .val (.int (0 : Int32))] [(.ref a7)])) rfl (by rw [hml]; rfl) (argsL := [(.ref a7)]) (rest := []) (lenOf pd_18 rfl) rfl rfl (ble_ rfl) (hb hby at_216) (by decide) (by decide) (fun v13 T13 h13 W13 sz13 q13 => ?_)
   obtain ⟨rfl, rfl⟩ := q13
   change Fi _ _ _ _ _ _ _ _ _ _ (T13.setTop (mkF m 219 #[.val (.int p0), .val (.int p1), .val (.int p2), .val (.int p3), .val (.int p4), .val (.int (1 : Int32)), .val (.int c0), .val (.int c1), .val (.int c2), .val (.int c3), .val (.ref a5), .val (.ref a7), .val (.int (0 : Int32))] [(.int (b2i (encB [c0])))]))
   refine Fi.by' (st' := T13.setTop (mkF m 221 #[.val (.int p0), .val (.int p1), .val (.int p2), .val (.int p3), .val (.int p4), .val (.int (1 : Int32)), .val (.int c0), .val (.int c1), .val (.int c2), .val (.int c3), .val (.ref a5), .val (.ref a7), .val (.int (0 : Int32))] [(.int (0 : Int32)), (.int (b2i (encB [c0])))])) (fun t k => ?_) ?_
   ·refine XS.iload W13.here hx rfl (hb hby at_219) rfl ?_
    exact k
   have f0 := b2i_f hc124_11
   have hv : b2i (encB [c0]) = (0 : Int32) := by rw [plain1 c0 c1]; simp [b2i, f0]
   refine Fi.by' (st' := T13.setTop (mkF m 229 #[.val (.int p0), .val (.int p1), .val (.int p2), .val (.int p3), .val (.int p4), .val (.int (1 : Int32)), .val (.int c0), .val (.int c1), .val (.int c2), .val (.int c3), .val (.ref a5), .val (.ref a7), .val (.int (0 : Int32))] [(.int (1 : Int32))])) (fun t k => ?_) ?_
   ·refine XS.icmpNo W13.here hx rfl (hb hby at_221) rfl (teq hv).2 ?_
    refine iconstZ W13.here hx rfl (hb hby at_224) (z := (1 : Int32)) rfl ?_
    refine XS.goto W13.here hx rfl (pc0 := 225) (pc' := 229) rfl (hb hby at_225) (by decide) (by decide) ?_
    exact k
   exact W13.iret hx hlk hret (by simp) rfl (hb hby at_229) rfl (by decide) (by decide)
  ·refine Fi.by' (st' := T10.setTop (mkF m 216 #[.val (.int p0), .val (.int p1), .val (.int p2), .val (.int p3), .val (.int p4), .val (.int (1 : Int32)), .val (.int c0), .val (.int c1), .val (.int c2), .val (.int c3), .val (.ref a5), .val (.ref a7), .val (.int (1 : Int32))] [(.ref a7)])) (fun t k => ?_) ?_
   ·refine XS.ifNo W10.here hx rfl (hb hby at_124) rfl ((if0 _ _).trans (feq hc124_11).1) ?_
    refine XS.iload W10.here hx rfl (hb hby at_127) rfl ?_
    refine iconstZ W10.here hx rfl (hb hby at_129) (z := (2 : Int32)) rfl ?_
    refine XS.icmpYes W10.here hx rfl (pc0 := 130) (pc' := 157) rfl (hb hby at_130) rfl (tlt (by decide : ((1 : Int32) < (2 : Int32)))).1 (by decide) (by decide) ?_
    refine XS.iload W10.here hx rfl (hb hby at_157) rfl ?_
    refine iconstZ W10.here hx rfl (hb hby at_159) (z := (3 : Int32)) rfl ?_
    refine XS.icmpYes W10.here hx rfl (pc0 := 160) (pc' := 187) rfl (hb hby at_160) rfl (tlt (by decide : ((1 : Int32) < (3 : Int32)))).1 (by decide) (by decide) ?_
    refine XS.iload W10.here hx rfl (hb hby at_187) rfl ?_
    refine iconstZ W10.here hx rfl (hb hby at_189) (z := (4 : Int32)) rfl ?_
    refine XS.icmpYes W10.here hx rfl (pc0 := 190) (pc' := 207) rfl (hb hby at_190) rfl (tlt (by decide : ((1 : Int32) < (4 : Int32)))).1 (by decide) (by decide) ?_
    refine iconstZ W10.here hx rfl (hb hby at_207) (z := (1 : Int32)) rfl ?_
    refine XS.goto W10.here hx rfl (pc0 := 208) (pc' := 212) rfl (hb hby at_208) (by decide) (by decide) ?_
    refine XS.istore W10.here hx rfl (hb hby at_212) rfl (l' := #[.val (.int p0), .val (.int p1), .val (.int p2), .val (.int p3), .val (.int p4), .val (.int (1 : Int32)), .val (.int c0), .val (.int c1), .val (.int c2), .val (.int c3), .val (.ref a5), .val (.ref a7), .val (.int (1 : Int32))]) rfl ?_
    refine XS.aload W10.here hx rfl (hb hby at_214) rfl rfl ?_
    exact k
   have x14 : Ext h0 h9 := ext_trans x6w x9k
   refine W10.callS hx (y := y_25) (ww hw 28 rfl) (ww hw 29 rfl) (ww hw 30 rfl) (ww hw 31 rfl) (by decide) (Pay.of_con (Wd := 0) (rm_enc1 l Z a0 hw a7 zc c0 fm h9 n0 (by omega) (Sta.ext x14 S0) hz (Sta.ext x14 G0) rf (Sta.ext x14 D0) (Sta.ext x14 HB0) (Sta.ext x14 LB0) F9) (ww hw 31 rfl) (ww hw 30 rfl) (hEL hw) (by decide) (by decide)) (g := (mkF m 216 #[.val (.int p0), .val (.int p1), .val (.int p2), .val (.int p3), .val (.int p4), .val (.int (1 : Int32)), .val (.int c0), .val (.int c1), .val (.int c2), .val (.int c3), .val (.ref a5), .val (.ref a7), .val (.int (1 : Int32))] [(.ref a7)])) rfl (by rw [hml]; rfl) (argsL := [(.ref a7)]) (rest := []) (lenOf pd_18 rfl) rfl rfl (ble_ rfl) (hb hby at_216) (by decide) (by decide) (fun v15 T15 h15 W15 sz15 q15 => ?_)
   obtain ⟨rfl, rfl⟩ := q15
   change Fi _ _ _ _ _ _ _ _ _ _ (T15.setTop (mkF m 219 #[.val (.int p0), .val (.int p1), .val (.int p2), .val (.int p3), .val (.int p4), .val (.int (1 : Int32)), .val (.int c0), .val (.int c1), .val (.int c2), .val (.int c3), .val (.ref a5), .val (.ref a7), .val (.int (1 : Int32))] [(.int (b2i (encB [c0])))]))
   refine Fi.by' (st' := T15.setTop (mkF m 221 #[.val (.int p0), .val (.int p1), .val (.int p2), .val (.int p3), .val (.int p4), .val (.int (1 : Int32)), .val (.int c0), .val (.int c1), .val (.int c2), .val (.int c3), .val (.ref a5), .val (.ref a7), .val (.int (1 : Int32))] [(.int (1 : Int32)), (.int (b2i (encB [c0])))])) (fun t k => ?_) ?_
   ·refine XS.iload W15.here hx rfl (hb hby at_219) rfl ?_
    exact k
   have f0 := b2i_t hc124_11
   have hv : b2i (encB [c0]) = (1 : Int32) := by rw [plain1 c0 c1]; simp [b2i, f0]
   refine Fi.by' (st' := T15.setTop (mkF m 229 #[.val (.int p0), .val (.int p1), .val (.int p2), .val (.int p3), .val (.int p4), .val (.int (1 : Int32)), .val (.int c0), .val (.int c1), .val (.int c2), .val (.int c3), .val (.ref a5), .val (.ref a7), .val (.int (1 : Int32))] [(.int (1 : Int32))])) (fun t k => ?_) ?_
   ·refine XS.icmpNo W15.here hx rfl (hb hby at_221) rfl (teq hv).2 ?_
    refine iconstZ W15.here hx rfl (hb hby at_224) (z := (1 : Int32)) rfl ?_
    refine XS.goto W15.here hx rfl (pc0 := 225) (pc' := 229) rfl (hb hby at_225) (by decide) (by decide) ?_
    exact k
   exact W15.iret hx hlk hret (by simp) rfl (hb hby at_229) rfl (by decide) (by decide)
 ·refine Fi.by' (st' := T4.setTop (mkF m 35 #[.val (.int p0), .val (.int p1), .val (.int p2), .val (.int p3), .val (.int p4), .val (.int (2 : Int32)), .val (.int c0), .val (.int c1), .val (.int c2), .val (.int c3), .unset, .unset, .unset] [(.int (2 : Int32))])) (fun t k => ?_) ?_
  ·refine XS.iload W4.here hx rfl (hb hby at_33) rfl ?_
   exact k
  refine W4.newP hx (aty := .char) (ww hw 6 rfl) (g := (mkF m 35 #[.val (.int p0), .val (.int p1), .val (.int p2), .val (.int p3), .val (.int p4), .val (.int (2 : Int32)), .val (.int c0), .val (.int c1), .val (.int c2), .val (.int c3), .unset, .unset, .unset] [(.int (2 : Int32))])) rfl (hb hby at_35) rfl (by decide) (cap := 2) (by decide) (by decide) (by decide) (by decide) (fun T16 h16 a16 k16 ha16 W16 E16 A16 => ?_)
  change Fi _ _ _ _ _ _ _ _ _ _ (T16.setTop (mkF m 37 #[.val (.int p0), .val (.int p1), .val (.int p2), .val (.int p3), .val (.int p4), .val (.int (2 : Int32)), .val (.int c0), .val (.int c1), .val (.int c2), .val (.int c3), .unset, .unset, .unset] [(.ref a16)]))
  have sz16 := E16.1
  have V16 : Arv Z h16 a16 k16 .char (2 : Int32) (([0, 0] : List Int32).map Value.int) (.int (0 : Int32)) := A16.pad (pad_rep [] (.int (0 : Int32)) 2)
  refine Fi.by' (st' := T16.setTop (mkF m 49 #[.val (.int p0), .val (.int p1), .val (.int p2), .val (.int p3), .val (.int p4), .val (.int (2 : Int32)), .val (.int c0), .val (.int c1), .val (.int c2), .val (.int c3), .val (.ref a16), .unset, .unset] [(.int c0), (.int (0 : Int32)), (.ref a16)])) (fun t k => ?_) ?_
  ·refine XS.astore W16.here hx rfl (hb hby at_37) rfl rfl (l' := #[.val (.int p0), .val (.int p1), .val (.int p2), .val (.int p3), .val (.int p4), .val (.int (2 : Int32)), .val (.int c0), .val (.int c1), .val (.int c2), .val (.int c3), .val (.ref a16), .unset, .unset]) rfl ?_
   refine XS.iload W16.here hx rfl (hb hby at_39) rfl ?_
   refine XS.ifNo W16.here hx rfl (hb hby at_41) rfl ((if0 _ _).trans (tlt (by decide : ((0 : Int32) < (2 : Int32)))).2.2.2) ?_
   refine XS.aload W16.here hx rfl (hb hby at_44) rfl rfl ?_
   refine iconstZ W16.here hx rfl (hb hby at_46) (z := (0 : Int32)) rfl ?_
   refine XS.iload W16.here hx rfl (hb hby at_47) rfl ?_
   exact k
  refine W16.castore hx V16 (i := 0) (ble_ rfl) (j := (0 : Int32)) rfl (by decide) rfl (ch_ok16 P_c0) (g := (mkF m 49 #[.val (.int p0), .val (.int p1), .val (.int p2), .val (.int p3), .val (.int p4), .val (.int (2 : Int32)), .val (.int c0), .val (.int c1), .val (.int c2), .val (.int c3), .val (.ref a16), .unset, .unset] [(.int c0), (.int (0 : Int32)), (.ref a16)])) rfl rfl (hb hby at_49) (by omega) (fun T17 h17 W17 R17 V17 => ?_)
  change Fi _ _ _ _ _ _ _ _ _ _ (T17.setTop (mkF m 50 #[.val (.int p0), .val (.int p1), .val (.int p2), .val (.int p3), .val (.int p4), .val (.int (2 : Int32)), .val (.int c0), .val (.int c1), .val (.int c2), .val (.int c3), .val (.ref a16), .unset, .unset] []))
  have x17w : Ext h0 h17 := ext_wr E16 R17 (by omega)
  have sz17 := R17.size
  have V17' : Arv Z h17 a16 k16 .char (2 : Int32) (([c0, 0] : List Int32).map Value.int) (.int (0 : Int32)) := V17
  refine Fi.by' (st' := T17.setTop (mkF m 61 #[.val (.int p0), .val (.int p1), .val (.int p2), .val (.int p3), .val (.int p4), .val (.int (2 : Int32)), .val (.int c0), .val (.int c1), .val (.int c2), .val (.int c3), .val (.ref a16), .unset, .unset] [(.int c1), (.int (1 : Int32)), (.ref a16)])) (fun t k => ?_) ?_
  ·refine XS.iload W17.here hx rfl (hb hby at_50) rfl ?_
   refine iconstZ W17.here hx rfl (hb hby at_52) (z := (1 : Int32)) rfl ?_
   refine XS.icmpNo W17.here hx rfl (hb hby at_53) rfl (tlt (by decide : ((1 : Int32) < (2 : Int32)))).2.2.2 ?_
   refine XS.aload W17.here hx rfl (hb hby at_56) rfl rfl ?_
   refine iconstZ W17.here hx rfl (hb hby at_58) (z := (1 : Int32)) rfl ?_
   refine XS.iload W17.here hx rfl (hb hby at_59) rfl ?_
   exact k
  refine W17.castore hx V17' (i := 1) (ble_ rfl) (j := (1 : Int32)) rfl (by decide) rfl (ch_ok16 P_c1) (g := (mkF m 61 #[.val (.int p0), .val (.int p1), .val (.int p2), .val (.int p3), .val (.int p4), .val (.int (2 : Int32)), .val (.int c0), .val (.int c1), .val (.int c2), .val (.int c3), .val (.ref a16), .unset, .unset] [(.int c1), (.int (1 : Int32)), (.ref a16)])) rfl rfl (hb hby at_61) (by omega) (fun T18 h18 W18 R18 V18 => ?_)
  change Fi _ _ _ _ _ _ _ _ _ _ (T18.setTop (mkF m 62 #[.val (.int p0), .val (.int p1), .val (.int p2), .val (.int p3), .val (.int p4), .val (.int (2 : Int32)), .val (.int c0), .val (.int c1), .val (.int c2), .val (.int c3), .val (.ref a16), .unset, .unset] []))
  have x18w : Ext h0 h18 := ext_wr x17w R18 (by omega)
  have sz18 := R18.size
  have V18' : Arv Z h18 a16 k16 .char (2 : Int32) (([c0, c1] : List Int32).map Value.int) (.int (0 : Int32)) := V18
  refine Fi.by' (st' := T18.setTop (mkF m 86 #[.val (.int p0), .val (.int p1), .val (.int p2), .val (.int p3), .val (.int p4), .val (.int (2 : Int32)), .val (.int c0), .val (.int c1), .val (.int c2), .val (.int c3), .val (.ref a16), .unset, .unset] [])) (fun t k => ?_) ?_
  ·refine XS.iload W18.here hx rfl (hb hby at_62) rfl ?_
   refine iconstZ W18.here hx rfl (hb hby at_64) (z := (2 : Int32)) rfl ?_
   refine XS.icmpYes W18.here hx rfl (pc0 := 65) (pc' := 74) rfl (hb hby at_65) rfl (flt (by decide : ¬ ((2 : Int32) < (2 : Int32)))).2.2.2 (by decide) (by decide) ?_
   refine XS.iload W18.here hx rfl (hb hby at_74) rfl ?_
   refine iconstZ W18.here hx rfl (hb hby at_76) (z := (3 : Int32)) rfl ?_
   refine XS.icmpYes W18.here hx rfl (pc0 := 77) (pc' := 86) rfl (hb hby at_77) rfl (flt (by decide : ¬ ((3 : Int32) < (2 : Int32)))).2.2.2 (by decide) (by decide) ?_
   exact k
  refine W18.new hx (ww hw 7 rfl) (ww hw 8 rfl) (ww hw 9 rfl) (g := (mkF m 86 #[.val (.int p0), .val (.int p1), .val (.int p2), .val (.int p3), .val (.int p4), .val (.int (2 : Int32)), .val (.int c0), .val (.int c1), .val (.int c2), .val (.int c3), .val (.ref a16), .unset, .unset] [])) rfl (hb hby at_86) (by decide) (by decide) (fun T19 h19 a19 ha19 W19 E19 A19 D19 => ?_)
  change Fi _ _ _ _ _ _ _ _ _ _ (T19.setTop (mkF m 89 #[.val (.int p0), .val (.int p1), .val (.int p2), .val (.int p3), .val (.int p4), .val (.int (2 : Int32)), .val (.int c0), .val (.int c1), .val (.int c2), .val (.int c3), .val (.ref a16), .unset, .unset] [(.ref a19)]))
  have sz19 := E19.1
  refine Fi.by' (st' := T19.setTop (mkF m 92 #[.val (.int p0), .val (.int p1), .val (.int p2), .val (.int p3), .val (.int p4), .val (.int (2 : Int32)), .val (.int c0), .val (.int c1), .val (.int c2), .val (.int c3), .val (.ref a16), .unset, .unset] [(.ref a16), (.ref a19), (.ref a19)])) (fun t k => ?_) ?_
  ·refine XS.dup W19.here hx rfl (hb hby at_89) rfl rfl ?_
   refine XS.aload W19.here hx rfl (hb hby at_90) rfl rfl ?_
   exact k
  have x20 : Ext h0 h19 := ext_trans x18w E19
  refine W19.callI hx (y := y_18) rfl (ww hw 10 rfl) (ww hw 11 rfl) (ww hw 12 rfl) (by decide) (payIn2 (Wd := 1) (kc := k16) (c0 := c0) (c1 := c1) hw (by omega) (by omega) A19 (D19 (Or.inr (ww hw 22 rfl)) (ty := (.array .byte)) (by decide)) (D19 (Or.inr (ww hw 23 rfl)) (ty := .byte) (by decide)) (Sta.ext x20 S0) hz (Sta.ext x20 D0) (Sta.ext x20 HB0) (Sta.ext x20 LB0) (V18'.ext E19) (all_cons P_c0 (all_cons P_c1 all_nil)) (by decide) (by decide)) (a := a19) (g := (mkF m 92 #[.val (.int p0), .val (.int p1), .val (.int p2), .val (.int p3), .val (.int p4), .val (.int (2 : Int32)), .val (.int c0), .val (.int c1), .val (.int c2), .val (.int c3), .val (.ref a16), .unset, .unset] [(.ref a16), (.ref a19), (.ref a19)])) rfl (by rw [hml]; rfl) (argsL := [(.ref a16)]) (rest := [(.ref a19)]) (lenOf pd_16 rfl) rfl rfl (ble_ rfl) (hb hby at_92) (by decide) (by decide) (fun v21 T21 h21 W21 sz21 q21 => ?_)
  obtain ⟨rfl, K21, F21⟩ := q21
  change Fi _ _ _ _ _ _ _ _ _ _ (T21.setTop (mkF m 95 #[.val (.int p0), .val (.int p1), .val (.int p2), .val (.int p3), .val (.int p4), .val (.int (2 : Int32)), .val (.int c0), .val (.int c1), .val (.int c2), .val (.int c3), .val (.ref a16), .unset, .unset] [(.ref a19)]))
  have x21k : Ext h18 h21 := ext_keep1 E19 K21 (by omega)
  refine Fi.by' (st' := T21.setTop (mkF m 121 #[.val (.int p0), .val (.int p1), .val (.int p2), .val (.int p3), .val (.int p4), .val (.int (2 : Int32)), .val (.int c0), .val (.int c1), .val (.int c2), .val (.int c3), .val (.ref a16), .val (.ref a19), .unset] [(.int c1), (.int (1 : Int32)), (.int c0), (.int c0), (.int (0 : Int32))])) (fun t k => ?_) ?_
  ·refine XS.astore W21.here hx rfl (hb hby at_95) rfl rfl (l' := #[.val (.int p0), .val (.int p1), .val (.int p2), .val (.int p3), .val (.int p4), .val (.int (2 : Int32)), .val (.int c0), .val (.int c1), .val (.int c2), .val (.int c3), .val (.ref a16), .val (.ref a19), .unset]) rfl ?_
   refine XS.iload W21.here hx rfl (hb hby at_97) rfl ?_
   refine iconstZ W21.here hx rfl (hb hby at_99) (z := (1 : Int32)) rfl ?_
   refine XS.icmpNo W21.here hx rfl (hb hby at_100) rfl (flt (by decide : ¬ ((2 : Int32) < (1 : Int32)))).1 ?_
   refine iconstZ W21.here hx rfl (hb hby at_103) (z := (0 : Int32)) rfl ?_
   refine XS.iload W21.here hx rfl (hb hby at_104) rfl ?_
   refine XS.iload W21.here hx rfl (hb hby at_106) rfl ?_
   refine XS.iload W21.here hx rfl (hb hby at_108) rfl ?_
   refine iconstZ W21.here hx rfl (hb hby at_110) (z := (1 : Int32)) rfl ?_
   refine XS.icmpNo W21.here hx rfl (hb hby at_111) rfl (tlt (by decide : ((1 : Int32) < (2 : Int32)))).2.2.2 ?_
   refine iconstZ W21.here hx rfl (hb hby at_114) (z := (1 : Int32)) rfl ?_
   refine XS.goto W21.here hx rfl (pc0 := 115) (pc' := 119) rfl (hb hby at_115) (by decide) (by decide) ?_
   refine XS.iload W21.here hx rfl (hb hby at_119) rfl ?_
   exact k
  refine W21.callS hx (y := y_5) (ww hw 53 rfl) (ww hw 54 rfl) (ww hw 3 rfl) (ww hw 55 rfl) (by decide) (Pay.of_con (Wd := 0) (rm_fine l Z a0 hw false true c0 c0 c1 h21 n0 (by omega)) (ww hw 55 rfl) (ww hw 3 rfl) (hEL hw) (by decide) (by decide)) (g := (mkF m 121 #[.val (.int p0), .val (.int p1), .val (.int p2), .val (.int p3), .val (.int p4), .val (.int (2 : Int32)), .val (.int c0), .val (.int c1), .val (.int c2), .val (.int c3), .val (.ref a16), .val (.ref a19), .unset] [(.int c1), (.int (1 : Int32)), (.int c0), (.int c0), (.int (0 : Int32))])) rfl (by rw [hml]; rfl) (argsL := [(.int (0 : Int32)), (.int c0), (.int c0), (.int (1 : Int32)), (.int c1)]) (rest := []) (lenOf pd_17 rfl) rfl rfl (ble_ rfl) (hb hby at_121) (by decide) (by decide) (fun v22 T22 h22 W22 sz22 q22 => ?_)
  obtain ⟨rfl, rfl⟩ := q22
  change Fi _ _ _ _ _ _ _ _ _ _ (T22.setTop (mkF m 124 #[.val (.int p0), .val (.int p1), .val (.int p2), .val (.int p3), .val (.int p4), .val (.int (2 : Int32)), .val (.int c0), .val (.int c1), .val (.int c2), .val (.int c3), .val (.ref a16), .val (.ref a19), .unset] [(.int (b2i (fineB false c0 c0 true c1)))]))
  by_cases hc124_23 : (b2i (fineB false c0 c0 true c1)) = (0 : Int32)
  ·refine Fi.by' (st' := T22.setTop (mkF m 216 #[.val (.int p0), .val (.int p1), .val (.int p2), .val (.int p3), .val (.int p4), .val (.int (2 : Int32)), .val (.int c0), .val (.int c1), .val (.int c2), .val (.int c3), .val (.ref a16), .val (.ref a19), .val (.int (0 : Int32))] [(.ref a19)])) (fun t k => ?_) ?_
   ·refine XS.ifYes W22.here hx rfl (pc0 := 124) (pc' := 211) rfl (hb hby at_124) rfl ((if0 _ _).trans (teq hc124_23).1) (by decide) (by decide) ?_
    refine iconstZ W22.here hx rfl (hb hby at_211) (z := (0 : Int32)) rfl ?_
    refine XS.istore W22.here hx rfl (hb hby at_212) rfl (l' := #[.val (.int p0), .val (.int p1), .val (.int p2), .val (.int p3), .val (.int p4), .val (.int (2 : Int32)), .val (.int c0), .val (.int c1), .val (.int c2), .val (.int c3), .val (.ref a16), .val (.ref a19), .val (.int (0 : Int32))]) rfl ?_
    refine XS.aload W22.here hx rfl (hb hby at_214) rfl rfl ?_
    exact k
   have x24 : Ext h0 h21 := ext_trans x18w x21k
   refine W22.callS hx (y := y_25) (ww hw 28 rfl) (ww hw 29 rfl) (ww hw 30 rfl) (ww hw 31 rfl) (by decide) (Pay.of_con (Wd := 0) (rm_enc2 l Z a0 hw a19 zc c0 c1 fm h21 n0 (by omega) (Sta.ext x24 S0) hz (Sta.ext x24 G0) rf (Sta.ext x24 D0) (Sta.ext x24 HB0) (Sta.ext x24 LB0) F21) (ww hw 31 rfl) (ww hw 30 rfl) (hEL hw) (by decide) (by decide)) (g := (mkF m 216 #[.val (.int p0), .val (.int p1), .val (.int p2), .val (.int p3), .val (.int p4), .val (.int (2 : Int32)), .val (.int c0), .val (.int c1), .val (.int c2), .val (.int c3), .val (.ref a16), .val (.ref a19), .val (.int (0 : Int32))] [(.ref a19)])) rfl (by rw [hml]; rfl) (argsL := [(.ref a19)]) (rest := []) (lenOf pd_18 rfl) rfl rfl (ble_ rfl) (hb hby at_216) (by decide) (by decide) (fun v25 T25 h25 W25 sz25 q25 => ?_)
   obtain ⟨rfl, rfl⟩ := q25
   change Fi _ _ _ _ _ _ _ _ _ _ (T25.setTop (mkF m 219 #[.val (.int p0), .val (.int p1), .val (.int p2), .val (.int p3), .val (.int p4), .val (.int (2 : Int32)), .val (.int c0), .val (.int c1), .val (.int c2), .val (.int c3), .val (.ref a16), .val (.ref a19), .val (.int (0 : Int32))] [(.int (b2i (encB [c0, c1])))]))
   refine Fi.by' (st' := T25.setTop (mkF m 221 #[.val (.int p0), .val (.int p1), .val (.int p2), .val (.int p3), .val (.int p4), .val (.int (2 : Int32)), .val (.int c0), .val (.int c1), .val (.int c2), .val (.int c3), .val (.ref a16), .val (.ref a19), .val (.int (0 : Int32))] [(.int (0 : Int32)), (.int (b2i (encB [c0, c1])))])) (fun t k => ?_) ?_
   ·refine XS.iload W25.here hx rfl (hb hby at_219) rfl ?_
    exact k
   have f0 := b2i_f hc124_23
   have hv : b2i (encB [c0, c1]) = (0 : Int32) := by rw [plain2 c0 c1 c2]; simp [b2i, f0]
   refine Fi.by' (st' := T25.setTop (mkF m 229 #[.val (.int p0), .val (.int p1), .val (.int p2), .val (.int p3), .val (.int p4), .val (.int (2 : Int32)), .val (.int c0), .val (.int c1), .val (.int c2), .val (.int c3), .val (.ref a16), .val (.ref a19), .val (.int (0 : Int32))] [(.int (1 : Int32))])) (fun t k => ?_) ?_
   ·refine XS.icmpNo W25.here hx rfl (hb hby at_221) rfl (teq hv).2 ?_
    refine iconstZ W25.here hx rfl (hb hby at_224) (z := (1 : Int32)) rfl ?_
    refine XS.goto W25.here hx rfl (pc0 := 225) (pc' := 229) rfl (hb hby at_225) (by decide) (by decide) ?_
    exact k
   exact W25.iret hx hlk hret (by simp) rfl (hb hby at_229) rfl (by decide) (by decide)
  ·refine Fi.by' (st' := T22.setTop (mkF m 151 #[.val (.int p0), .val (.int p1), .val (.int p2), .val (.int p3), .val (.int p4), .val (.int (2 : Int32)), .val (.int c0), .val (.int c1), .val (.int c2), .val (.int c3), .val (.ref a16), .val (.ref a19), .unset] [(.int c2), (.int (0 : Int32)), (.int c1), (.int c0), (.int (1 : Int32))])) (fun t k => ?_) ?_
   ·refine XS.ifNo W22.here hx rfl (hb hby at_124) rfl ((if0 _ _).trans (feq hc124_23).1) ?_
    refine XS.iload W22.here hx rfl (hb hby at_127) rfl ?_
    refine iconstZ W22.here hx rfl (hb hby at_129) (z := (2 : Int32)) rfl ?_
    refine XS.icmpNo W22.here hx rfl (hb hby at_130) rfl (flt (by decide : ¬ ((2 : Int32) < (2 : Int32)))).1 ?_
    refine iconstZ W22.here hx rfl (hb hby at_133) (z := (1 : Int32)) rfl ?_
    refine XS.iload W22.here hx rfl (hb hby at_134) rfl ?_
    refine XS.iload W22.here hx rfl (hb hby at_136) rfl ?_
    refine XS.iload W22.here hx rfl (hb hby at_138) rfl ?_
    refine iconstZ W22.here hx rfl (hb hby at_140) (z := (2 : Int32)) rfl ?_
    refine XS.icmpYes W22.here hx rfl (pc0 := 141) (pc' := 148) rfl (hb hby at_141) rfl (flt (by decide : ¬ ((2 : Int32) < (2 : Int32)))).2.2.2 (by decide) (by decide) ?_
    refine iconstZ W22.here hx rfl (hb hby at_148) (z := (0 : Int32)) rfl ?_
    refine XS.iload W22.here hx rfl (hb hby at_149) rfl ?_
    exact k
   refine W22.callS hx (y := y_5) (ww hw 53 rfl) (ww hw 54 rfl) (ww hw 3 rfl) (ww hw 55 rfl) (by decide) (Pay.of_con (Wd := 0) (rm_fine l Z a0 hw true false c0 c1 c2 h21 n0 (by omega)) (ww hw 55 rfl) (ww hw 3 rfl) (hEL hw) (by decide) (by decide)) (g := (mkF m 151 #[.val (.int p0), .val (.int p1), .val (.int p2), .val (.int p3), .val (.int p4), .val (.int (2 : Int32)), .val (.int c0), .val (.int c1), .val (.int c2), .val (.int c3), .val (.ref a16), .val (.ref a19), .unset] [(.int c2), (.int (0 : Int32)), (.int c1), (.int c0), (.int (1 : Int32))])) rfl (by rw [hml]; rfl) (argsL := [(.int (1 : Int32)), (.int c0), (.int c1), (.int (0 : Int32)), (.int c2)]) (rest := []) (lenOf pd_17 rfl) rfl rfl (ble_ rfl) (hb hby at_151) (by decide) (by decide) (fun v26 T26 h26 W26 sz26 q26 => ?_)
   obtain ⟨rfl, rfl⟩ := q26
   change Fi _ _ _ _ _ _ _ _ _ _ (T26.setTop (mkF m 154 #[.val (.int p0), .val (.int p1), .val (.int p2), .val (.int p3), .val (.int p4), .val (.int (2 : Int32)), .val (.int c0), .val (.int c1), .val (.int c2), .val (.int c3), .val (.ref a16), .val (.ref a19), .unset] [(.int (b2i (fineB true c0 c1 false c2)))]))
   by_cases hc154_27 : (b2i (fineB true c0 c1 false c2)) = (0 : Int32)
   ·refine Fi.by' (st' := T26.setTop (mkF m 216 #[.val (.int p0), .val (.int p1), .val (.int p2), .val (.int p3), .val (.int p4), .val (.int (2 : Int32)), .val (.int c0), .val (.int c1), .val (.int c2), .val (.int c3), .val (.ref a16), .val (.ref a19), .val (.int (0 : Int32))] [(.ref a19)])) (fun t k => ?_) ?_
    ·refine XS.ifYes W26.here hx rfl (pc0 := 154) (pc' := 211) rfl (hb hby at_154) rfl ((if0 _ _).trans (teq hc154_27).1) (by decide) (by decide) ?_
     refine iconstZ W26.here hx rfl (hb hby at_211) (z := (0 : Int32)) rfl ?_
     refine XS.istore W26.here hx rfl (hb hby at_212) rfl (l' := #[.val (.int p0), .val (.int p1), .val (.int p2), .val (.int p3), .val (.int p4), .val (.int (2 : Int32)), .val (.int c0), .val (.int c1), .val (.int c2), .val (.int c3), .val (.ref a16), .val (.ref a19), .val (.int (0 : Int32))]) rfl ?_
     refine XS.aload W26.here hx rfl (hb hby at_214) rfl rfl ?_
     exact k
    have x28 : Ext h0 h21 := ext_trans x18w x21k
    refine W26.callS hx (y := y_25) (ww hw 28 rfl) (ww hw 29 rfl) (ww hw 30 rfl) (ww hw 31 rfl) (by decide) (Pay.of_con (Wd := 0) (rm_enc2 l Z a0 hw a19 zc c0 c1 fm h21 n0 (by omega) (Sta.ext x28 S0) hz (Sta.ext x28 G0) rf (Sta.ext x28 D0) (Sta.ext x28 HB0) (Sta.ext x28 LB0) F21) (ww hw 31 rfl) (ww hw 30 rfl) (hEL hw) (by decide) (by decide)) (g := (mkF m 216 #[.val (.int p0), .val (.int p1), .val (.int p2), .val (.int p3), .val (.int p4), .val (.int (2 : Int32)), .val (.int c0), .val (.int c1), .val (.int c2), .val (.int c3), .val (.ref a16), .val (.ref a19), .val (.int (0 : Int32))] [(.ref a19)])) rfl (by rw [hml]; rfl) (argsL := [(.ref a19)]) (rest := []) (lenOf pd_18 rfl) rfl rfl (ble_ rfl) (hb hby at_216) (by decide) (by decide) (fun v29 T29 h29 W29 sz29 q29 => ?_)
    obtain ⟨rfl, rfl⟩ := q29
    change Fi _ _ _ _ _ _ _ _ _ _ (T29.setTop (mkF m 219 #[.val (.int p0), .val (.int p1), .val (.int p2), .val (.int p3), .val (.int p4), .val (.int (2 : Int32)), .val (.int c0), .val (.int c1), .val (.int c2), .val (.int c3), .val (.ref a16), .val (.ref a19), .val (.int (0 : Int32))] [(.int (b2i (encB [c0, c1])))]))
    refine Fi.by' (st' := T29.setTop (mkF m 221 #[.val (.int p0), .val (.int p1), .val (.int p2), .val (.int p3), .val (.int p4), .val (.int (2 : Int32)), .val (.int c0), .val (.int c1), .val (.int c2), .val (.int c3), .val (.ref a16), .val (.ref a19), .val (.int (0 : Int32))] [(.int (0 : Int32)), (.int (b2i (encB [c0, c1])))])) (fun t k => ?_) ?_
    ·refine XS.iload W29.here hx rfl (hb hby at_219) rfl ?_
     exact k
    have f0 := b2i_t hc124_23
    have f1 := b2i_f hc154_27
    have hv : b2i (encB [c0, c1]) = (0 : Int32) := by rw [plain2 c0 c1 c2]; simp [b2i, f0, f1]
    refine Fi.by' (st' := T29.setTop (mkF m 229 #[.val (.int p0), .val (.int p1), .val (.int p2), .val (.int p3), .val (.int p4), .val (.int (2 : Int32)), .val (.int c0), .val (.int c1), .val (.int c2), .val (.int c3), .val (.ref a16), .val (.ref a19), .val (.int (0 : Int32))] [(.int (1 : Int32))])) (fun t k => ?_) ?_
    ·refine XS.icmpNo W29.here hx rfl (hb hby at_221) rfl (teq hv).2 ?_
     refine iconstZ W29.here hx rfl (hb hby at_224) (z := (1 : Int32)) rfl ?_
     refine XS.goto W29.here hx rfl (pc0 := 225) (pc' := 229) rfl (hb hby at_225) (by decide) (by decide) ?_
     exact k
    exact W29.iret hx hlk hret (by simp) rfl (hb hby at_229) rfl (by decide) (by decide)
   ·refine Fi.by' (st' := T26.setTop (mkF m 216 #[.val (.int p0), .val (.int p1), .val (.int p2), .val (.int p3), .val (.int p4), .val (.int (2 : Int32)), .val (.int c0), .val (.int c1), .val (.int c2), .val (.int c3), .val (.ref a16), .val (.ref a19), .val (.int (1 : Int32))] [(.ref a19)])) (fun t k => ?_) ?_
    ·refine XS.ifNo W26.here hx rfl (hb hby at_154) rfl ((if0 _ _).trans (feq hc154_27).1) ?_
     refine XS.iload W26.here hx rfl (hb hby at_157) rfl ?_
     refine iconstZ W26.here hx rfl (hb hby at_159) (z := (3 : Int32)) rfl ?_
     refine XS.icmpYes W26.here hx rfl (pc0 := 160) (pc' := 187) rfl (hb hby at_160) rfl (tlt (by decide : ((2 : Int32) < (3 : Int32)))).1 (by decide) (by decide) ?_
     refine XS.iload W26.here hx rfl (hb hby at_187) rfl ?_
     refine iconstZ W26.here hx rfl (hb hby at_189) (z := (4 : Int32)) rfl ?_
     refine XS.icmpYes W26.here hx rfl (pc0 := 190) (pc' := 207) rfl (hb hby at_190) rfl (tlt (by decide : ((2 : Int32) < (4 : Int32)))).1 (by decide) (by decide) ?_
     refine iconstZ W26.here hx rfl (hb hby at_207) (z := (1 : Int32)) rfl ?_
     refine XS.goto W26.here hx rfl (pc0 := 208) (pc' := 212) rfl (hb hby at_208) (by decide) (by decide) ?_
     refine XS.istore W26.here hx rfl (hb hby at_212) rfl (l' := #[.val (.int p0), .val (.int p1), .val (.int p2), .val (.int p3), .val (.int p4), .val (.int (2 : Int32)), .val (.int c0), .val (.int c1), .val (.int c2), .val (.int c3), .val (.ref a16), .val (.ref a19), .val (.int (1 : Int32))]) rfl ?_
     refine XS.aload W26.here hx rfl (hb hby at_214) rfl rfl ?_
     exact k
    have x30 : Ext h0 h21 := ext_trans x18w x21k
    refine W26.callS hx (y := y_25) (ww hw 28 rfl) (ww hw 29 rfl) (ww hw 30 rfl) (ww hw 31 rfl) (by decide) (Pay.of_con (Wd := 0) (rm_enc2 l Z a0 hw a19 zc c0 c1 fm h21 n0 (by omega) (Sta.ext x30 S0) hz (Sta.ext x30 G0) rf (Sta.ext x30 D0) (Sta.ext x30 HB0) (Sta.ext x30 LB0) F21) (ww hw 31 rfl) (ww hw 30 rfl) (hEL hw) (by decide) (by decide)) (g := (mkF m 216 #[.val (.int p0), .val (.int p1), .val (.int p2), .val (.int p3), .val (.int p4), .val (.int (2 : Int32)), .val (.int c0), .val (.int c1), .val (.int c2), .val (.int c3), .val (.ref a16), .val (.ref a19), .val (.int (1 : Int32))] [(.ref a19)])) rfl (by rw [hml]; rfl) (argsL := [(.ref a19)]) (rest := []) (lenOf pd_18 rfl) rfl rfl (ble_ rfl) (hb hby at_216) (by decide) (by decide) (fun v31 T31 h31 W31 sz31 q31 => ?_)
    obtain ⟨rfl, rfl⟩ := q31
    change Fi _ _ _ _ _ _ _ _ _ _ (T31.setTop (mkF m 219 #[.val (.int p0), .val (.int p1), .val (.int p2), .val (.int p3), .val (.int p4), .val (.int (2 : Int32)), .val (.int c0), .val (.int c1), .val (.int c2), .val (.int c3), .val (.ref a16), .val (.ref a19), .val (.int (1 : Int32))] [(.int (b2i (encB [c0, c1])))]))
    refine Fi.by' (st' := T31.setTop (mkF m 221 #[.val (.int p0), .val (.int p1), .val (.int p2), .val (.int p3), .val (.int p4), .val (.int (2 : Int32)), .val (.int c0), .val (.int c1), .val (.int c2), .val (.int c3), .val (.ref a16), .val (.ref a19), .val (.int (1 : Int32))] [(.int (1 : Int32)), (.int (b2i (encB [c0, c1])))])) (fun t k => ?_) ?_
    ·refine XS.iload W31.here hx rfl (hb hby at_219) rfl ?_
     exact k
    have f0 := b2i_t hc124_23
    have f1 := b2i_t hc154_27
    have hv : b2i (encB [c0, c1]) = (1 : Int32) := by rw [plain2 c0 c1 c2]; simp [b2i, f0, f1]
    refine Fi.by' (st' := T31.setTop (mkF m 229 #[.val (.int p0), .val (.int p1), .val (.int p2), .val (.int p3), .val (.int p4), .val (.int (2 : Int32)), .val (.int c0), .val (.int c1), .val (.int c2), .val (.int c3), .val (.ref a16), .val (.ref a19), .val (.int (1 : Int32))] [(.int (1 : Int32))])) (fun t k => ?_) ?_
    ·refine XS.icmpNo W31.here hx rfl (hb hby at_221) rfl (teq hv).2 ?_
     refine iconstZ W31.here hx rfl (hb hby at_224) (z := (1 : Int32)) rfl ?_
     refine XS.goto W31.here hx rfl (pc0 := 225) (pc' := 229) rfl (hb hby at_225) (by decide) (by decide) ?_
     exact k
    exact W31.iret hx hlk hret (by simp) rfl (hb hby at_229) rfl (by decide) (by decide)
 ·refine Fi.by' (st' := T4.setTop (mkF m 35 #[.val (.int p0), .val (.int p1), .val (.int p2), .val (.int p3), .val (.int p4), .val (.int (3 : Int32)), .val (.int c0), .val (.int c1), .val (.int c2), .val (.int c3), .unset, .unset, .unset] [(.int (3 : Int32))])) (fun t k => ?_) ?_
  ·refine XS.iload W4.here hx rfl (hb hby at_33) rfl ?_
   exact k
  refine W4.newP hx (aty := .char) (ww hw 6 rfl) (g := (mkF m 35 #[.val (.int p0), .val (.int p1), .val (.int p2), .val (.int p3), .val (.int p4), .val (.int (3 : Int32)), .val (.int c0), .val (.int c1), .val (.int c2), .val (.int c3), .unset, .unset, .unset] [(.int (3 : Int32))])) rfl (hb hby at_35) rfl (by decide) (cap := 3) (by decide) (by decide) (by decide) (by decide) (fun T32 h32 a32 k32 ha32 W32 E32 A32 => ?_)
  change Fi _ _ _ _ _ _ _ _ _ _ (T32.setTop (mkF m 37 #[.val (.int p0), .val (.int p1), .val (.int p2), .val (.int p3), .val (.int p4), .val (.int (3 : Int32)), .val (.int c0), .val (.int c1), .val (.int c2), .val (.int c3), .unset, .unset, .unset] [(.ref a32)]))
  have sz32 := E32.1
  have V32 : Arv Z h32 a32 k32 .char (3 : Int32) (([0, 0, 0] : List Int32).map Value.int) (.int (0 : Int32)) := A32.pad (pad_rep [] (.int (0 : Int32)) 3)
  refine Fi.by' (st' := T32.setTop (mkF m 49 #[.val (.int p0), .val (.int p1), .val (.int p2), .val (.int p3), .val (.int p4), .val (.int (3 : Int32)), .val (.int c0), .val (.int c1), .val (.int c2), .val (.int c3), .val (.ref a32), .unset, .unset] [(.int c0), (.int (0 : Int32)), (.ref a32)])) (fun t k => ?_) ?_
  ·refine XS.astore W32.here hx rfl (hb hby at_37) rfl rfl (l' := #[.val (.int p0), .val (.int p1), .val (.int p2), .val (.int p3), .val (.int p4), .val (.int (3 : Int32)), .val (.int c0), .val (.int c1), .val (.int c2), .val (.int c3), .val (.ref a32), .unset, .unset]) rfl ?_
   refine XS.iload W32.here hx rfl (hb hby at_39) rfl ?_
   refine XS.ifNo W32.here hx rfl (hb hby at_41) rfl ((if0 _ _).trans (tlt (by decide : ((0 : Int32) < (3 : Int32)))).2.2.2) ?_
   refine XS.aload W32.here hx rfl (hb hby at_44) rfl rfl ?_
   refine iconstZ W32.here hx rfl (hb hby at_46) (z := (0 : Int32)) rfl ?_
   refine XS.iload W32.here hx rfl (hb hby at_47) rfl ?_
   exact k
  refine W32.castore hx V32 (i := 0) (ble_ rfl) (j := (0 : Int32)) rfl (by decide) rfl (ch_ok16 P_c0) (g := (mkF m 49 #[.val (.int p0), .val (.int p1), .val (.int p2), .val (.int p3), .val (.int p4), .val (.int (3 : Int32)), .val (.int c0), .val (.int c1), .val (.int c2), .val (.int c3), .val (.ref a32), .unset, .unset] [(.int c0), (.int (0 : Int32)), (.ref a32)])) rfl rfl (hb hby at_49) (by omega) (fun T33 h33 W33 R33 V33 => ?_)
  change Fi _ _ _ _ _ _ _ _ _ _ (T33.setTop (mkF m 50 #[.val (.int p0), .val (.int p1), .val (.int p2), .val (.int p3), .val (.int p4), .val (.int (3 : Int32)), .val (.int c0), .val (.int c1), .val (.int c2), .val (.int c3), .val (.ref a32), .unset, .unset] []))
  have x33w : Ext h0 h33 := ext_wr E32 R33 (by omega)
  have sz33 := R33.size
  have V33' : Arv Z h33 a32 k32 .char (3 : Int32) (([c0, 0, 0] : List Int32).map Value.int) (.int (0 : Int32)) := V33
  refine Fi.by' (st' := T33.setTop (mkF m 61 #[.val (.int p0), .val (.int p1), .val (.int p2), .val (.int p3), .val (.int p4), .val (.int (3 : Int32)), .val (.int c0), .val (.int c1), .val (.int c2), .val (.int c3), .val (.ref a32), .unset, .unset] [(.int c1), (.int (1 : Int32)), (.ref a32)])) (fun t k => ?_) ?_
  ·refine XS.iload W33.here hx rfl (hb hby at_50) rfl ?_
   refine iconstZ W33.here hx rfl (hb hby at_52) (z := (1 : Int32)) rfl ?_
   refine XS.icmpNo W33.here hx rfl (hb hby at_53) rfl (tlt (by decide : ((1 : Int32) < (3 : Int32)))).2.2.2 ?_
   refine XS.aload W33.here hx rfl (hb hby at_56) rfl rfl ?_
   refine iconstZ W33.here hx rfl (hb hby at_58) (z := (1 : Int32)) rfl ?_
   refine XS.iload W33.here hx rfl (hb hby at_59) rfl ?_
   exact k
  refine W33.castore hx V33' (i := 1) (ble_ rfl) (j := (1 : Int32)) rfl (by decide) rfl (ch_ok16 P_c1) (g := (mkF m 61 #[.val (.int p0), .val (.int p1), .val (.int p2), .val (.int p3), .val (.int p4), .val (.int (3 : Int32)), .val (.int c0), .val (.int c1), .val (.int c2), .val (.int c3), .val (.ref a32), .unset, .unset] [(.int c1), (.int (1 : Int32)), (.ref a32)])) rfl rfl (hb hby at_61) (by omega) (fun T34 h34 W34 R34 V34 => ?_)
  change Fi _ _ _ _ _ _ _ _ _ _ (T34.setTop (mkF m 62 #[.val (.int p0), .val (.int p1), .val (.int p2), .val (.int p3), .val (.int p4), .val (.int (3 : Int32)), .val (.int c0), .val (.int c1), .val (.int c2), .val (.int c3), .val (.ref a32), .unset, .unset] []))
  have x34w : Ext h0 h34 := ext_wr x33w R34 (by omega)
  have sz34 := R34.size
  have V34' : Arv Z h34 a32 k32 .char (3 : Int32) (([c0, c1, 0] : List Int32).map Value.int) (.int (0 : Int32)) := V34
  refine Fi.by' (st' := T34.setTop (mkF m 73 #[.val (.int p0), .val (.int p1), .val (.int p2), .val (.int p3), .val (.int p4), .val (.int (3 : Int32)), .val (.int c0), .val (.int c1), .val (.int c2), .val (.int c3), .val (.ref a32), .unset, .unset] [(.int c2), (.int (2 : Int32)), (.ref a32)])) (fun t k => ?_) ?_
  ·refine XS.iload W34.here hx rfl (hb hby at_62) rfl ?_
   refine iconstZ W34.here hx rfl (hb hby at_64) (z := (2 : Int32)) rfl ?_
   refine XS.icmpNo W34.here hx rfl (hb hby at_65) rfl (tlt (by decide : ((2 : Int32) < (3 : Int32)))).2.2.2 ?_
   refine XS.aload W34.here hx rfl (hb hby at_68) rfl rfl ?_
   refine iconstZ W34.here hx rfl (hb hby at_70) (z := (2 : Int32)) rfl ?_
   refine XS.iload W34.here hx rfl (hb hby at_71) rfl ?_
   exact k
  refine W34.castore hx V34' (i := 2) (ble_ rfl) (j := (2 : Int32)) rfl (by decide) rfl (ch_ok16 P_c2) (g := (mkF m 73 #[.val (.int p0), .val (.int p1), .val (.int p2), .val (.int p3), .val (.int p4), .val (.int (3 : Int32)), .val (.int c0), .val (.int c1), .val (.int c2), .val (.int c3), .val (.ref a32), .unset, .unset] [(.int c2), (.int (2 : Int32)), (.ref a32)])) rfl rfl (hb hby at_73) (by omega) (fun T35 h35 W35 R35 V35 => ?_)
  change Fi _ _ _ _ _ _ _ _ _ _ (T35.setTop (mkF m 74 #[.val (.int p0), .val (.int p1), .val (.int p2), .val (.int p3), .val (.int p4), .val (.int (3 : Int32)), .val (.int c0), .val (.int c1), .val (.int c2), .val (.int c3), .val (.ref a32), .unset, .unset] []))
  have x35w : Ext h0 h35 := ext_wr x34w R35 (by omega)
  have sz35 := R35.size
  have V35' : Arv Z h35 a32 k32 .char (3 : Int32) (([c0, c1, c2] : List Int32).map Value.int) (.int (0 : Int32)) := V35
  refine Fi.by' (st' := T35.setTop (mkF m 86 #[.val (.int p0), .val (.int p1), .val (.int p2), .val (.int p3), .val (.int p4), .val (.int (3 : Int32)), .val (.int c0), .val (.int c1), .val (.int c2), .val (.int c3), .val (.ref a32), .unset, .unset] [])) (fun t k => ?_) ?_
  ·refine XS.iload W35.here hx rfl (hb hby at_74) rfl ?_
   refine iconstZ W35.here hx rfl (hb hby at_76) (z := (3 : Int32)) rfl ?_
   refine XS.icmpYes W35.here hx rfl (pc0 := 77) (pc' := 86) rfl (hb hby at_77) rfl (flt (by decide : ¬ ((3 : Int32) < (3 : Int32)))).2.2.2 (by decide) (by decide) ?_
   exact k
  refine W35.new hx (ww hw 7 rfl) (ww hw 8 rfl) (ww hw 9 rfl) (g := (mkF m 86 #[.val (.int p0), .val (.int p1), .val (.int p2), .val (.int p3), .val (.int p4), .val (.int (3 : Int32)), .val (.int c0), .val (.int c1), .val (.int c2), .val (.int c3), .val (.ref a32), .unset, .unset] [])) rfl (hb hby at_86) (by decide) (by decide) (fun T36 h36 a36 ha36 W36 E36 A36 D36 => ?_)
  change Fi _ _ _ _ _ _ _ _ _ _ (T36.setTop (mkF m 89 #[.val (.int p0), .val (.int p1), .val (.int p2), .val (.int p3), .val (.int p4), .val (.int (3 : Int32)), .val (.int c0), .val (.int c1), .val (.int c2), .val (.int c3), .val (.ref a32), .unset, .unset] [(.ref a36)]))
  have sz36 := E36.1
  refine Fi.by' (st' := T36.setTop (mkF m 92 #[.val (.int p0), .val (.int p1), .val (.int p2), .val (.int p3), .val (.int p4), .val (.int (3 : Int32)), .val (.int c0), .val (.int c1), .val (.int c2), .val (.int c3), .val (.ref a32), .unset, .unset] [(.ref a32), (.ref a36), (.ref a36)])) (fun t k => ?_) ?_
  ·refine XS.dup W36.here hx rfl (hb hby at_89) rfl rfl ?_
   refine XS.aload W36.here hx rfl (hb hby at_90) rfl rfl ?_
   exact k
  have x37 : Ext h0 h36 := ext_trans x35w E36
  refine W36.callI hx (y := y_18) rfl (ww hw 10 rfl) (ww hw 11 rfl) (ww hw 12 rfl) (by decide) (payIn3 (Wd := 1) (kc := k32) (c0 := c0) (c1 := c1) (c2 := c2) hw (by omega) (by omega) A36 (D36 (Or.inr (ww hw 22 rfl)) (ty := (.array .byte)) (by decide)) (D36 (Or.inr (ww hw 23 rfl)) (ty := .byte) (by decide)) (Sta.ext x37 S0) hz (Sta.ext x37 D0) (Sta.ext x37 HB0) (Sta.ext x37 LB0) (V35'.ext E36) (all_cons P_c0 (all_cons P_c1 (all_cons P_c2 all_nil))) (by decide) (by decide)) (a := a36) (g := (mkF m 92 #[.val (.int p0), .val (.int p1), .val (.int p2), .val (.int p3), .val (.int p4), .val (.int (3 : Int32)), .val (.int c0), .val (.int c1), .val (.int c2), .val (.int c3), .val (.ref a32), .unset, .unset] [(.ref a32), (.ref a36), (.ref a36)])) rfl (by rw [hml]; rfl) (argsL := [(.ref a32)]) (rest := [(.ref a36)]) (lenOf pd_16 rfl) rfl rfl (ble_ rfl) (hb hby at_92) (by decide) (by decide) (fun v38 T38 h38 W38 sz38 q38 => ?_)
  obtain ⟨rfl, K38, F38⟩ := q38
  change Fi _ _ _ _ _ _ _ _ _ _ (T38.setTop (mkF m 95 #[.val (.int p0), .val (.int p1), .val (.int p2), .val (.int p3), .val (.int p4), .val (.int (3 : Int32)), .val (.int c0), .val (.int c1), .val (.int c2), .val (.int c3), .val (.ref a32), .unset, .unset] [(.ref a36)]))
  have x38k : Ext h35 h38 := ext_keep1 E36 K38 (by omega)
  refine Fi.by' (st' := T38.setTop (mkF m 121 #[.val (.int p0), .val (.int p1), .val (.int p2), .val (.int p3), .val (.int p4), .val (.int (3 : Int32)), .val (.int c0), .val (.int c1), .val (.int c2), .val (.int c3), .val (.ref a32), .val (.ref a36), .unset] [(.int c1), (.int (1 : Int32)), (.int c0), (.int c0), (.int (0 : Int32))])) (fun t k => ?_) ?_
  ·refine XS.astore W38.here hx rfl (hb hby at_95) rfl rfl (l' := #[.val (.int p0), .val (.int p1), .val (.int p2), .val (.int p3), .val (.int p4), .val (.int (3 : Int32)), .val (.int c0), .val (.int c1), .val (.int c2), .val (.int c3), .val (.ref a32), .val (.ref a36), .unset]) rfl ?_
   refine XS.iload W38.here hx rfl (hb hby at_97) rfl ?_
   refine iconstZ W38.here hx rfl (hb hby at_99) (z := (1 : Int32)) rfl ?_
   refine XS.icmpNo W38.here hx rfl (hb hby at_100) rfl (flt (by decide : ¬ ((3 : Int32) < (1 : Int32)))).1 ?_
   refine iconstZ W38.here hx rfl (hb hby at_103) (z := (0 : Int32)) rfl ?_
   refine XS.iload W38.here hx rfl (hb hby at_104) rfl ?_
   refine XS.iload W38.here hx rfl (hb hby at_106) rfl ?_
   refine XS.iload W38.here hx rfl (hb hby at_108) rfl ?_
   refine iconstZ W38.here hx rfl (hb hby at_110) (z := (1 : Int32)) rfl ?_
   refine XS.icmpNo W38.here hx rfl (hb hby at_111) rfl (tlt (by decide : ((1 : Int32) < (3 : Int32)))).2.2.2 ?_
   refine iconstZ W38.here hx rfl (hb hby at_114) (z := (1 : Int32)) rfl ?_
   refine XS.goto W38.here hx rfl (pc0 := 115) (pc' := 119) rfl (hb hby at_115) (by decide) (by decide) ?_
   refine XS.iload W38.here hx rfl (hb hby at_119) rfl ?_
   exact k
  refine W38.callS hx (y := y_5) (ww hw 53 rfl) (ww hw 54 rfl) (ww hw 3 rfl) (ww hw 55 rfl) (by decide) (Pay.of_con (Wd := 0) (rm_fine l Z a0 hw false true c0 c0 c1 h38 n0 (by omega)) (ww hw 55 rfl) (ww hw 3 rfl) (hEL hw) (by decide) (by decide)) (g := (mkF m 121 #[.val (.int p0), .val (.int p1), .val (.int p2), .val (.int p3), .val (.int p4), .val (.int (3 : Int32)), .val (.int c0), .val (.int c1), .val (.int c2), .val (.int c3), .val (.ref a32), .val (.ref a36), .unset] [(.int c1), (.int (1 : Int32)), (.int c0), (.int c0), (.int (0 : Int32))])) rfl (by rw [hml]; rfl) (argsL := [(.int (0 : Int32)), (.int c0), (.int c0), (.int (1 : Int32)), (.int c1)]) (rest := []) (lenOf pd_17 rfl) rfl rfl (ble_ rfl) (hb hby at_121) (by decide) (by decide) (fun v39 T39 h39 W39 sz39 q39 => ?_)
  obtain ⟨rfl, rfl⟩ := q39
  change Fi _ _ _ _ _ _ _ _ _ _ (T39.setTop (mkF m 124 #[.val (.int p0), .val (.int p1), .val (.int p2), .val (.int p3), .val (.int p4), .val (.int (3 : Int32)), .val (.int c0), .val (.int c1), .val (.int c2), .val (.int c3), .val (.ref a32), .val (.ref a36), .unset] [(.int (b2i (fineB false c0 c0 true c1)))]))
  by_cases hc124_40 : (b2i (fineB false c0 c0 true c1)) = (0 : Int32)
  ·refine Fi.by' (st' := T39.setTop (mkF m 216 #[.val (.int p0), .val (.int p1), .val (.int p2), .val (.int p3), .val (.int p4), .val (.int (3 : Int32)), .val (.int c0), .val (.int c1), .val (.int c2), .val (.int c3), .val (.ref a32), .val (.ref a36), .val (.int (0 : Int32))] [(.ref a36)])) (fun t k => ?_) ?_
   ·refine XS.ifYes W39.here hx rfl (pc0 := 124) (pc' := 211) rfl (hb hby at_124) rfl ((if0 _ _).trans (teq hc124_40).1) (by decide) (by decide) ?_
    refine iconstZ W39.here hx rfl (hb hby at_211) (z := (0 : Int32)) rfl ?_
    refine XS.istore W39.here hx rfl (hb hby at_212) rfl (l' := #[.val (.int p0), .val (.int p1), .val (.int p2), .val (.int p3), .val (.int p4), .val (.int (3 : Int32)), .val (.int c0), .val (.int c1), .val (.int c2), .val (.int c3), .val (.ref a32), .val (.ref a36), .val (.int (0 : Int32))]) rfl ?_
    refine XS.aload W39.here hx rfl (hb hby at_214) rfl rfl ?_
    exact k
   have x41 : Ext h0 h38 := ext_trans x35w x38k
   refine W39.callS hx (y := y_25) (ww hw 28 rfl) (ww hw 29 rfl) (ww hw 30 rfl) (ww hw 31 rfl) (by decide) (Pay.of_con (Wd := 0) (rm_enc3 l Z a0 hw a36 zc c0 c1 c2 fm h38 n0 (by omega) (Sta.ext x41 S0) hz (Sta.ext x41 G0) rf (Sta.ext x41 D0) (Sta.ext x41 HB0) (Sta.ext x41 LB0) F38) (ww hw 31 rfl) (ww hw 30 rfl) (hEL hw) (by decide) (by decide)) (g := (mkF m 216 #[.val (.int p0), .val (.int p1), .val (.int p2), .val (.int p3), .val (.int p4), .val (.int (3 : Int32)), .val (.int c0), .val (.int c1), .val (.int c2), .val (.int c3), .val (.ref a32), .val (.ref a36), .val (.int (0 : Int32))] [(.ref a36)])) rfl (by rw [hml]; rfl) (argsL := [(.ref a36)]) (rest := []) (lenOf pd_18 rfl) rfl rfl (ble_ rfl) (hb hby at_216) (by decide) (by decide) (fun v42 T42 h42 W42 sz42 q42 => ?_)
   obtain ⟨rfl, rfl⟩ := q42
   change Fi _ _ _ _ _ _ _ _ _ _ (T42.setTop (mkF m 219 #[.val (.int p0), .val (.int p1), .val (.int p2), .val (.int p3), .val (.int p4), .val (.int (3 : Int32)), .val (.int c0), .val (.int c1), .val (.int c2), .val (.int c3), .val (.ref a32), .val (.ref a36), .val (.int (0 : Int32))] [(.int (b2i (encB [c0, c1, c2])))]))
   refine Fi.by' (st' := T42.setTop (mkF m 221 #[.val (.int p0), .val (.int p1), .val (.int p2), .val (.int p3), .val (.int p4), .val (.int (3 : Int32)), .val (.int c0), .val (.int c1), .val (.int c2), .val (.int c3), .val (.ref a32), .val (.ref a36), .val (.int (0 : Int32))] [(.int (0 : Int32)), (.int (b2i (encB [c0, c1, c2])))])) (fun t k => ?_) ?_
   ·refine XS.iload W42.here hx rfl (hb hby at_219) rfl ?_
    exact k
   have f0 := b2i_f hc124_40
   have hv : b2i (encB [c0, c1, c2]) = (0 : Int32) := by rw [plain3 c0 c1 c2 c3]; simp [b2i, f0]
   refine Fi.by' (st' := T42.setTop (mkF m 229 #[.val (.int p0), .val (.int p1), .val (.int p2), .val (.int p3), .val (.int p4), .val (.int (3 : Int32)), .val (.int c0), .val (.int c1), .val (.int c2), .val (.int c3), .val (.ref a32), .val (.ref a36), .val (.int (0 : Int32))] [(.int (1 : Int32))])) (fun t k => ?_) ?_
   ·refine XS.icmpNo W42.here hx rfl (hb hby at_221) rfl (teq hv).2 ?_
    refine iconstZ W42.here hx rfl (hb hby at_224) (z := (1 : Int32)) rfl ?_
    refine XS.goto W42.here hx rfl (pc0 := 225) (pc' := 229) rfl (hb hby at_225) (by decide) (by decide) ?_
    exact k
   exact W42.iret hx hlk hret (by simp) rfl (hb hby at_229) rfl (by decide) (by decide)
  ·refine Fi.by' (st' := T39.setTop (mkF m 151 #[.val (.int p0), .val (.int p1), .val (.int p2), .val (.int p3), .val (.int p4), .val (.int (3 : Int32)), .val (.int c0), .val (.int c1), .val (.int c2), .val (.int c3), .val (.ref a32), .val (.ref a36), .unset] [(.int c2), (.int (1 : Int32)), (.int c1), (.int c0), (.int (1 : Int32))])) (fun t k => ?_) ?_
   ·refine XS.ifNo W39.here hx rfl (hb hby at_124) rfl ((if0 _ _).trans (feq hc124_40).1) ?_
    refine XS.iload W39.here hx rfl (hb hby at_127) rfl ?_
    refine iconstZ W39.here hx rfl (hb hby at_129) (z := (2 : Int32)) rfl ?_
    refine XS.icmpNo W39.here hx rfl (hb hby at_130) rfl (flt (by decide : ¬ ((3 : Int32) < (2 : Int32)))).1 ?_
    refine iconstZ W39.here hx rfl (hb hby at_133) (z := (1 : Int32)) rfl ?_
    refine XS.iload W39.here hx rfl (hb hby at_134) rfl ?_
    refine XS.iload W39.here hx rfl (hb hby at_136) rfl ?_
    refine XS.iload W39.here hx rfl (hb hby at_138) rfl ?_
    refine iconstZ W39.here hx rfl (hb hby at_140) (z := (2 : Int32)) rfl ?_
    refine XS.icmpNo W39.here hx rfl (hb hby at_141) rfl (tlt (by decide : ((2 : Int32) < (3 : Int32)))).2.2.2 ?_
    refine iconstZ W39.here hx rfl (hb hby at_144) (z := (1 : Int32)) rfl ?_
    refine XS.goto W39.here hx rfl (pc0 := 145) (pc' := 149) rfl (hb hby at_145) (by decide) (by decide) ?_
    refine XS.iload W39.here hx rfl (hb hby at_149) rfl ?_
    exact k
   refine W39.callS hx (y := y_5) (ww hw 53 rfl) (ww hw 54 rfl) (ww hw 3 rfl) (ww hw 55 rfl) (by decide) (Pay.of_con (Wd := 0) (rm_fine l Z a0 hw true true c0 c1 c2 h38 n0 (by omega)) (ww hw 55 rfl) (ww hw 3 rfl) (hEL hw) (by decide) (by decide)) (g := (mkF m 151 #[.val (.int p0), .val (.int p1), .val (.int p2), .val (.int p3), .val (.int p4), .val (.int (3 : Int32)), .val (.int c0), .val (.int c1), .val (.int c2), .val (.int c3), .val (.ref a32), .val (.ref a36), .unset] [(.int c2), (.int (1 : Int32)), (.int c1), (.int c0), (.int (1 : Int32))])) rfl (by rw [hml]; rfl) (argsL := [(.int (1 : Int32)), (.int c0), (.int c1), (.int (1 : Int32)), (.int c2)]) (rest := []) (lenOf pd_17 rfl) rfl rfl (ble_ rfl) (hb hby at_151) (by decide) (by decide) (fun v43 T43 h43 W43 sz43 q43 => ?_)
   obtain ⟨rfl, rfl⟩ := q43
   change Fi _ _ _ _ _ _ _ _ _ _ (T43.setTop (mkF m 154 #[.val (.int p0), .val (.int p1), .val (.int p2), .val (.int p3), .val (.int p4), .val (.int (3 : Int32)), .val (.int c0), .val (.int c1), .val (.int c2), .val (.int c3), .val (.ref a32), .val (.ref a36), .unset] [(.int (b2i (fineB true c0 c1 true c2)))]))
   by_cases hc154_44 : (b2i (fineB true c0 c1 true c2)) = (0 : Int32)
   ·refine Fi.by' (st' := T43.setTop (mkF m 216 #[.val (.int p0), .val (.int p1), .val (.int p2), .val (.int p3), .val (.int p4), .val (.int (3 : Int32)), .val (.int c0), .val (.int c1), .val (.int c2), .val (.int c3), .val (.ref a32), .val (.ref a36), .val (.int (0 : Int32))] [(.ref a36)])) (fun t k => ?_) ?_
    ·refine XS.ifYes W43.here hx rfl (pc0 := 154) (pc' := 211) rfl (hb hby at_154) rfl ((if0 _ _).trans (teq hc154_44).1) (by decide) (by decide) ?_
     refine iconstZ W43.here hx rfl (hb hby at_211) (z := (0 : Int32)) rfl ?_
     refine XS.istore W43.here hx rfl (hb hby at_212) rfl (l' := #[.val (.int p0), .val (.int p1), .val (.int p2), .val (.int p3), .val (.int p4), .val (.int (3 : Int32)), .val (.int c0), .val (.int c1), .val (.int c2), .val (.int c3), .val (.ref a32), .val (.ref a36), .val (.int (0 : Int32))]) rfl ?_
     refine XS.aload W43.here hx rfl (hb hby at_214) rfl rfl ?_
     exact k
    have x45 : Ext h0 h38 := ext_trans x35w x38k
    refine W43.callS hx (y := y_25) (ww hw 28 rfl) (ww hw 29 rfl) (ww hw 30 rfl) (ww hw 31 rfl) (by decide) (Pay.of_con (Wd := 0) (rm_enc3 l Z a0 hw a36 zc c0 c1 c2 fm h38 n0 (by omega) (Sta.ext x45 S0) hz (Sta.ext x45 G0) rf (Sta.ext x45 D0) (Sta.ext x45 HB0) (Sta.ext x45 LB0) F38) (ww hw 31 rfl) (ww hw 30 rfl) (hEL hw) (by decide) (by decide)) (g := (mkF m 216 #[.val (.int p0), .val (.int p1), .val (.int p2), .val (.int p3), .val (.int p4), .val (.int (3 : Int32)), .val (.int c0), .val (.int c1), .val (.int c2), .val (.int c3), .val (.ref a32), .val (.ref a36), .val (.int (0 : Int32))] [(.ref a36)])) rfl (by rw [hml]; rfl) (argsL := [(.ref a36)]) (rest := []) (lenOf pd_18 rfl) rfl rfl (ble_ rfl) (hb hby at_216) (by decide) (by decide) (fun v46 T46 h46 W46 sz46 q46 => ?_)
    obtain ⟨rfl, rfl⟩ := q46
    change Fi _ _ _ _ _ _ _ _ _ _ (T46.setTop (mkF m 219 #[.val (.int p0), .val (.int p1), .val (.int p2), .val (.int p3), .val (.int p4), .val (.int (3 : Int32)), .val (.int c0), .val (.int c1), .val (.int c2), .val (.int c3), .val (.ref a32), .val (.ref a36), .val (.int (0 : Int32))] [(.int (b2i (encB [c0, c1, c2])))]))
    refine Fi.by' (st' := T46.setTop (mkF m 221 #[.val (.int p0), .val (.int p1), .val (.int p2), .val (.int p3), .val (.int p4), .val (.int (3 : Int32)), .val (.int c0), .val (.int c1), .val (.int c2), .val (.int c3), .val (.ref a32), .val (.ref a36), .val (.int (0 : Int32))] [(.int (0 : Int32)), (.int (b2i (encB [c0, c1, c2])))])) (fun t k => ?_) ?_
    ·refine XS.iload W46.here hx rfl (hb hby at_219) rfl ?_
     exact k
    have f0 := b2i_t hc124_40
    have f1 := b2i_f hc154_44
    have hv : b2i (encB [c0, c1, c2]) = (0 : Int32) := by rw [plain3 c0 c1 c2 c3]; simp [b2i, f0, f1]
    refine Fi.by' (st' := T46.setTop (mkF m 229 #[.val (.int p0), .val (.int p1), .val (.int p2), .val (.int p3), .val (.int p4), .val (.int (3 : Int32)), .val (.int c0), .val (.int c1), .val (.int c2), .val (.int c3), .val (.ref a32), .val (.ref a36), .val (.int (0 : Int32))] [(.int (1 : Int32))])) (fun t k => ?_) ?_
    ·refine XS.icmpNo W46.here hx rfl (hb hby at_221) rfl (teq hv).2 ?_
     refine iconstZ W46.here hx rfl (hb hby at_224) (z := (1 : Int32)) rfl ?_
     refine XS.goto W46.here hx rfl (pc0 := 225) (pc' := 229) rfl (hb hby at_225) (by decide) (by decide) ?_
     exact k
    exact W46.iret hx hlk hret (by simp) rfl (hb hby at_229) rfl (by decide) (by decide)
   ·refine Fi.by' (st' := T43.setTop (mkF m 181 #[.val (.int p0), .val (.int p1), .val (.int p2), .val (.int p3), .val (.int p4), .val (.int (3 : Int32)), .val (.int c0), .val (.int c1), .val (.int c2), .val (.int c3), .val (.ref a32), .val (.ref a36), .unset] [(.int c3), (.int (0 : Int32)), (.int c2), (.int c1), (.int (1 : Int32))])) (fun t k => ?_) ?_
    ·refine XS.ifNo W43.here hx rfl (hb hby at_154) rfl ((if0 _ _).trans (feq hc154_44).1) ?_
     refine XS.iload W43.here hx rfl (hb hby at_157) rfl ?_
     refine iconstZ W43.here hx rfl (hb hby at_159) (z := (3 : Int32)) rfl ?_
     refine XS.icmpNo W43.here hx rfl (hb hby at_160) rfl (flt (by decide : ¬ ((3 : Int32) < (3 : Int32)))).1 ?_
     refine iconstZ W43.here hx rfl (hb hby at_163) (z := (1 : Int32)) rfl ?_
     refine XS.iload W43.here hx rfl (hb hby at_164) rfl ?_
     refine XS.iload W43.here hx rfl (hb hby at_166) rfl ?_
     refine XS.iload W43.here hx rfl (hb hby at_168) rfl ?_
     refine iconstZ W43.here hx rfl (hb hby at_170) (z := (3 : Int32)) rfl ?_
     refine XS.icmpYes W43.here hx rfl (pc0 := 171) (pc' := 178) rfl (hb hby at_171) rfl (flt (by decide : ¬ ((3 : Int32) < (3 : Int32)))).2.2.2 (by decide) (by decide) ?_
     refine iconstZ W43.here hx rfl (hb hby at_178) (z := (0 : Int32)) rfl ?_
     refine XS.iload W43.here hx rfl (hb hby at_179) rfl ?_
     exact k
    refine W43.callS hx (y := y_5) (ww hw 53 rfl) (ww hw 54 rfl) (ww hw 3 rfl) (ww hw 55 rfl) (by decide) (Pay.of_con (Wd := 0) (rm_fine l Z a0 hw true false c1 c2 c3 h38 n0 (by omega)) (ww hw 55 rfl) (ww hw 3 rfl) (hEL hw) (by decide) (by decide)) (g := (mkF m 181 #[.val (.int p0), .val (.int p1), .val (.int p2), .val (.int p3), .val (.int p4), .val (.int (3 : Int32)), .val (.int c0), .val (.int c1), .val (.int c2), .val (.int c3), .val (.ref a32), .val (.ref a36), .unset] [(.int c3), (.int (0 : Int32)), (.int c2), (.int c1), (.int (1 : Int32))])) rfl (by rw [hml]; rfl) (argsL := [(.int (1 : Int32)), (.int c1), (.int c2), (.int (0 : Int32)), (.int c3)]) (rest := []) (lenOf pd_17 rfl) rfl rfl (ble_ rfl) (hb hby at_181) (by decide) (by decide) (fun v47 T47 h47 W47 sz47 q47 => ?_)
    obtain ⟨rfl, rfl⟩ := q47
    change Fi _ _ _ _ _ _ _ _ _ _ (T47.setTop (mkF m 184 #[.val (.int p0), .val (.int p1), .val (.int p2), .val (.int p3), .val (.int p4), .val (.int (3 : Int32)), .val (.int c0), .val (.int c1), .val (.int c2), .val (.int c3), .val (.ref a32), .val (.ref a36), .unset] [(.int (b2i (fineB true c1 c2 false c3)))]))
    by_cases hc184_48 : (b2i (fineB true c1 c2 false c3)) = (0 : Int32)
    ·refine Fi.by' (st' := T47.setTop (mkF m 216 #[.val (.int p0), .val (.int p1), .val (.int p2), .val (.int p3), .val (.int p4), .val (.int (3 : Int32)), .val (.int c0), .val (.int c1), .val (.int c2), .val (.int c3), .val (.ref a32), .val (.ref a36), .val (.int (0 : Int32))] [(.ref a36)])) (fun t k => ?_) ?_
     ·refine XS.ifYes W47.here hx rfl (pc0 := 184) (pc' := 211) rfl (hb hby at_184) rfl ((if0 _ _).trans (teq hc184_48).1) (by decide) (by decide) ?_
      refine iconstZ W47.here hx rfl (hb hby at_211) (z := (0 : Int32)) rfl ?_
      refine XS.istore W47.here hx rfl (hb hby at_212) rfl (l' := #[.val (.int p0), .val (.int p1), .val (.int p2), .val (.int p3), .val (.int p4), .val (.int (3 : Int32)), .val (.int c0), .val (.int c1), .val (.int c2), .val (.int c3), .val (.ref a32), .val (.ref a36), .val (.int (0 : Int32))]) rfl ?_
      refine XS.aload W47.here hx rfl (hb hby at_214) rfl rfl ?_
      exact k
     have x49 : Ext h0 h38 := ext_trans x35w x38k
     refine W47.callS hx (y := y_25) (ww hw 28 rfl) (ww hw 29 rfl) (ww hw 30 rfl) (ww hw 31 rfl) (by decide) (Pay.of_con (Wd := 0) (rm_enc3 l Z a0 hw a36 zc c0 c1 c2 fm h38 n0 (by omega) (Sta.ext x49 S0) hz (Sta.ext x49 G0) rf (Sta.ext x49 D0) (Sta.ext x49 HB0) (Sta.ext x49 LB0) F38) (ww hw 31 rfl) (ww hw 30 rfl) (hEL hw) (by decide) (by decide)) (g := (mkF m 216 #[.val (.int p0), .val (.int p1), .val (.int p2), .val (.int p3), .val (.int p4), .val (.int (3 : Int32)), .val (.int c0), .val (.int c1), .val (.int c2), .val (.int c3), .val (.ref a32), .val (.ref a36), .val (.int (0 : Int32))] [(.ref a36)])) rfl (by rw [hml]; rfl) (argsL := [(.ref a36)]) (rest := []) (lenOf pd_18 rfl) rfl rfl (ble_ rfl) (hb hby at_216) (by decide) (by decide) (fun v50 T50 h50 W50 sz50 q50 => ?_)
     obtain ⟨rfl, rfl⟩ := q50
     change Fi _ _ _ _ _ _ _ _ _ _ (T50.setTop (mkF m 219 #[.val (.int p0), .val (.int p1), .val (.int p2), .val (.int p3), .val (.int p4), .val (.int (3 : Int32)), .val (.int c0), .val (.int c1), .val (.int c2), .val (.int c3), .val (.ref a32), .val (.ref a36), .val (.int (0 : Int32))] [(.int (b2i (encB [c0, c1, c2])))]))
     refine Fi.by' (st' := T50.setTop (mkF m 221 #[.val (.int p0), .val (.int p1), .val (.int p2), .val (.int p3), .val (.int p4), .val (.int (3 : Int32)), .val (.int c0), .val (.int c1), .val (.int c2), .val (.int c3), .val (.ref a32), .val (.ref a36), .val (.int (0 : Int32))] [(.int (0 : Int32)), (.int (b2i (encB [c0, c1, c2])))])) (fun t k => ?_) ?_
     ·refine XS.iload W50.here hx rfl (hb hby at_219) rfl ?_
      exact k
     have f0 := b2i_t hc124_40
     have f1 := b2i_t hc154_44
     have f2 := b2i_f hc184_48
     have hv : b2i (encB [c0, c1, c2]) = (0 : Int32) := by rw [plain3 c0 c1 c2 c3]; simp [b2i, f0, f1, f2]
     refine Fi.by' (st' := T50.setTop (mkF m 229 #[.val (.int p0), .val (.int p1), .val (.int p2), .val (.int p3), .val (.int p4), .val (.int (3 : Int32)), .val (.int c0), .val (.int c1), .val (.int c2), .val (.int c3), .val (.ref a32), .val (.ref a36), .val (.int (0 : Int32))] [(.int (1 : Int32))])) (fun t k => ?_) ?_
     ·refine XS.icmpNo W50.here hx rfl (hb hby at_221) rfl (teq hv).2 ?_
      refine iconstZ W50.here hx rfl (hb hby at_224) (z := (1 : Int32)) rfl ?_
      refine XS.goto W50.here hx rfl (pc0 := 225) (pc' := 229) rfl (hb hby at_225) (by decide) (by decide) ?_
      exact k
     exact W50.iret hx hlk hret (by simp) rfl (hb hby at_229) rfl (by decide) (by decide)
    ·refine Fi.by' (st' := T47.setTop (mkF m 216 #[.val (.int p0), .val (.int p1), .val (.int p2), .val (.int p3), .val (.int p4), .val (.int (3 : Int32)), .val (.int c0), .val (.int c1), .val (.int c2), .val (.int c3), .val (.ref a32), .val (.ref a36), .val (.int (1 : Int32))] [(.ref a36)])) (fun t k => ?_) ?_
     ·refine XS.ifNo W47.here hx rfl (hb hby at_184) rfl ((if0 _ _).trans (feq hc184_48).1) ?_
      refine XS.iload W47.here hx rfl (hb hby at_187) rfl ?_
      refine iconstZ W47.here hx rfl (hb hby at_189) (z := (4 : Int32)) rfl ?_
      refine XS.icmpYes W47.here hx rfl (pc0 := 190) (pc' := 207) rfl (hb hby at_190) rfl (tlt (by decide : ((3 : Int32) < (4 : Int32)))).1 (by decide) (by decide) ?_
      refine iconstZ W47.here hx rfl (hb hby at_207) (z := (1 : Int32)) rfl ?_
      refine XS.goto W47.here hx rfl (pc0 := 208) (pc' := 212) rfl (hb hby at_208) (by decide) (by decide) ?_
      refine XS.istore W47.here hx rfl (hb hby at_212) rfl (l' := #[.val (.int p0), .val (.int p1), .val (.int p2), .val (.int p3), .val (.int p4), .val (.int (3 : Int32)), .val (.int c0), .val (.int c1), .val (.int c2), .val (.int c3), .val (.ref a32), .val (.ref a36), .val (.int (1 : Int32))]) rfl ?_
      refine XS.aload W47.here hx rfl (hb hby at_214) rfl rfl ?_
      exact k
     have x51 : Ext h0 h38 := ext_trans x35w x38k
     refine W47.callS hx (y := y_25) (ww hw 28 rfl) (ww hw 29 rfl) (ww hw 30 rfl) (ww hw 31 rfl) (by decide) (Pay.of_con (Wd := 0) (rm_enc3 l Z a0 hw a36 zc c0 c1 c2 fm h38 n0 (by omega) (Sta.ext x51 S0) hz (Sta.ext x51 G0) rf (Sta.ext x51 D0) (Sta.ext x51 HB0) (Sta.ext x51 LB0) F38) (ww hw 31 rfl) (ww hw 30 rfl) (hEL hw) (by decide) (by decide)) (g := (mkF m 216 #[.val (.int p0), .val (.int p1), .val (.int p2), .val (.int p3), .val (.int p4), .val (.int (3 : Int32)), .val (.int c0), .val (.int c1), .val (.int c2), .val (.int c3), .val (.ref a32), .val (.ref a36), .val (.int (1 : Int32))] [(.ref a36)])) rfl (by rw [hml]; rfl) (argsL := [(.ref a36)]) (rest := []) (lenOf pd_18 rfl) rfl rfl (ble_ rfl) (hb hby at_216) (by decide) (by decide) (fun v52 T52 h52 W52 sz52 q52 => ?_)
     obtain ⟨rfl, rfl⟩ := q52
     change Fi _ _ _ _ _ _ _ _ _ _ (T52.setTop (mkF m 219 #[.val (.int p0), .val (.int p1), .val (.int p2), .val (.int p3), .val (.int p4), .val (.int (3 : Int32)), .val (.int c0), .val (.int c1), .val (.int c2), .val (.int c3), .val (.ref a32), .val (.ref a36), .val (.int (1 : Int32))] [(.int (b2i (encB [c0, c1, c2])))]))
     refine Fi.by' (st' := T52.setTop (mkF m 221 #[.val (.int p0), .val (.int p1), .val (.int p2), .val (.int p3), .val (.int p4), .val (.int (3 : Int32)), .val (.int c0), .val (.int c1), .val (.int c2), .val (.int c3), .val (.ref a32), .val (.ref a36), .val (.int (1 : Int32))] [(.int (1 : Int32)), (.int (b2i (encB [c0, c1, c2])))])) (fun t k => ?_) ?_
     ·refine XS.iload W52.here hx rfl (hb hby at_219) rfl ?_
      exact k
     have f0 := b2i_t hc124_40
     have f1 := b2i_t hc154_44
     have f2 := b2i_t hc184_48
     have hv : b2i (encB [c0, c1, c2]) = (1 : Int32) := by rw [plain3 c0 c1 c2 c3]; simp [b2i, f0, f1, f2]
     refine Fi.by' (st' := T52.setTop (mkF m 229 #[.val (.int p0), .val (.int p1), .val (.int p2), .val (.int p3), .val (.int p4), .val (.int (3 : Int32)), .val (.int c0), .val (.int c1), .val (.int c2), .val (.int c3), .val (.ref a32), .val (.ref a36), .val (.int (1 : Int32))] [(.int (1 : Int32))])) (fun t k => ?_) ?_
     ·refine XS.icmpNo W52.here hx rfl (hb hby at_221) rfl (teq hv).2 ?_
      refine iconstZ W52.here hx rfl (hb hby at_224) (z := (1 : Int32)) rfl ?_
      refine XS.goto W52.here hx rfl (pc0 := 225) (pc' := 229) rfl (hb hby at_225) (by decide) (by decide) ?_
      exact k
     exact W52.iret hx hlk hret (by simp) rfl (hb hby at_229) rfl (by decide) (by decide)
 ·refine Fi.by' (st' := T4.setTop (mkF m 35 #[.val (.int p0), .val (.int p1), .val (.int p2), .val (.int p3), .val (.int p4), .val (.int (4 : Int32)), .val (.int c0), .val (.int c1), .val (.int c2), .val (.int c3), .unset, .unset, .unset] [(.int (4 : Int32))])) (fun t k => ?_) ?_
  ·refine XS.iload W4.here hx rfl (hb hby at_33) rfl ?_
   exact k
  refine W4.newP hx (aty := .char) (ww hw 6 rfl) (g := (mkF m 35 #[.val (.int p0), .val (.int p1), .val (.int p2), .val (.int p3), .val (.int p4), .val (.int (4 : Int32)), .val (.int c0), .val (.int c1), .val (.int c2), .val (.int c3), .unset, .unset, .unset] [(.int (4 : Int32))])) rfl (hb hby at_35) rfl (by decide) (cap := 4) (by decide) (by decide) (by decide) (by decide) (fun T53 h53 a53 k53 ha53 W53 E53 A53 => ?_)
  change Fi _ _ _ _ _ _ _ _ _ _ (T53.setTop (mkF m 37 #[.val (.int p0), .val (.int p1), .val (.int p2), .val (.int p3), .val (.int p4), .val (.int (4 : Int32)), .val (.int c0), .val (.int c1), .val (.int c2), .val (.int c3), .unset, .unset, .unset] [(.ref a53)]))
  have sz53 := E53.1
  have V53 : Arv Z h53 a53 k53 .char (4 : Int32) (([0, 0, 0, 0] : List Int32).map Value.int) (.int (0 : Int32)) := A53.pad (pad_rep [] (.int (0 : Int32)) 4)
  refine Fi.by' (st' := T53.setTop (mkF m 49 #[.val (.int p0), .val (.int p1), .val (.int p2), .val (.int p3), .val (.int p4), .val (.int (4 : Int32)), .val (.int c0), .val (.int c1), .val (.int c2), .val (.int c3), .val (.ref a53), .unset, .unset] [(.int c0), (.int (0 : Int32)), (.ref a53)])) (fun t k => ?_) ?_
  ·refine XS.astore W53.here hx rfl (hb hby at_37) rfl rfl (l' := #[.val (.int p0), .val (.int p1), .val (.int p2), .val (.int p3), .val (.int p4), .val (.int (4 : Int32)), .val (.int c0), .val (.int c1), .val (.int c2), .val (.int c3), .val (.ref a53), .unset, .unset]) rfl ?_
   refine XS.iload W53.here hx rfl (hb hby at_39) rfl ?_
   refine XS.ifNo W53.here hx rfl (hb hby at_41) rfl ((if0 _ _).trans (tlt (by decide : ((0 : Int32) < (4 : Int32)))).2.2.2) ?_
   refine XS.aload W53.here hx rfl (hb hby at_44) rfl rfl ?_
   refine iconstZ W53.here hx rfl (hb hby at_46) (z := (0 : Int32)) rfl ?_
   refine XS.iload W53.here hx rfl (hb hby at_47) rfl ?_
   exact k
  refine W53.castore hx V53 (i := 0) (ble_ rfl) (j := (0 : Int32)) rfl (by decide) rfl (ch_ok16 P_c0) (g := (mkF m 49 #[.val (.int p0), .val (.int p1), .val (.int p2), .val (.int p3), .val (.int p4), .val (.int (4 : Int32)), .val (.int c0), .val (.int c1), .val (.int c2), .val (.int c3), .val (.ref a53), .unset, .unset] [(.int c0), (.int (0 : Int32)), (.ref a53)])) rfl rfl (hb hby at_49) (by omega) (fun T54 h54 W54 R54 V54 => ?_)
  change Fi _ _ _ _ _ _ _ _ _ _ (T54.setTop (mkF m 50 #[.val (.int p0), .val (.int p1), .val (.int p2), .val (.int p3), .val (.int p4), .val (.int (4 : Int32)), .val (.int c0), .val (.int c1), .val (.int c2), .val (.int c3), .val (.ref a53), .unset, .unset] []))
  have x54w : Ext h0 h54 := ext_wr E53 R54 (by omega)
  have sz54 := R54.size
  have V54' : Arv Z h54 a53 k53 .char (4 : Int32) (([c0, 0, 0, 0] : List Int32).map Value.int) (.int (0 : Int32)) := V54
  refine Fi.by' (st' := T54.setTop (mkF m 61 #[.val (.int p0), .val (.int p1), .val (.int p2), .val (.int p3), .val (.int p4), .val (.int (4 : Int32)), .val (.int c0), .val (.int c1), .val (.int c2), .val (.int c3), .val (.ref a53), .unset, .unset] [(.int c1), (.int (1 : Int32)), (.ref a53)])) (fun t k => ?_) ?_
  ·refine XS.iload W54.here hx rfl (hb hby at_50) rfl ?_
   refine iconstZ W54.here hx rfl (hb hby at_52) (z := (1 : Int32)) rfl ?_
   refine XS.icmpNo W54.here hx rfl (hb hby at_53) rfl (tlt (by decide : ((1 : Int32) < (4 : Int32)))).2.2.2 ?_
   refine XS.aload W54.here hx rfl (hb hby at_56) rfl rfl ?_
   refine iconstZ W54.here hx rfl (hb hby at_58) (z := (1 : Int32)) rfl ?_
   refine XS.iload W54.here hx rfl (hb hby at_59) rfl ?_
   exact k
  refine W54.castore hx V54' (i := 1) (ble_ rfl) (j := (1 : Int32)) rfl (by decide) rfl (ch_ok16 P_c1) (g := (mkF m 61 #[.val (.int p0), .val (.int p1), .val (.int p2), .val (.int p3), .val (.int p4), .val (.int (4 : Int32)), .val (.int c0), .val (.int c1), .val (.int c2), .val (.int c3), .val (.ref a53), .unset, .unset] [(.int c1), (.int (1 : Int32)), (.ref a53)])) rfl rfl (hb hby at_61) (by omega) (fun T55 h55 W55 R55 V55 => ?_)
  change Fi _ _ _ _ _ _ _ _ _ _ (T55.setTop (mkF m 62 #[.val (.int p0), .val (.int p1), .val (.int p2), .val (.int p3), .val (.int p4), .val (.int (4 : Int32)), .val (.int c0), .val (.int c1), .val (.int c2), .val (.int c3), .val (.ref a53), .unset, .unset] []))
  have x55w : Ext h0 h55 := ext_wr x54w R55 (by omega)
  have sz55 := R55.size
  have V55' : Arv Z h55 a53 k53 .char (4 : Int32) (([c0, c1, 0, 0] : List Int32).map Value.int) (.int (0 : Int32)) := V55
  refine Fi.by' (st' := T55.setTop (mkF m 73 #[.val (.int p0), .val (.int p1), .val (.int p2), .val (.int p3), .val (.int p4), .val (.int (4 : Int32)), .val (.int c0), .val (.int c1), .val (.int c2), .val (.int c3), .val (.ref a53), .unset, .unset] [(.int c2), (.int (2 : Int32)), (.ref a53)])) (fun t k => ?_) ?_
  ·refine XS.iload W55.here hx rfl (hb hby at_62) rfl ?_
   refine iconstZ W55.here hx rfl (hb hby at_64) (z := (2 : Int32)) rfl ?_
   refine XS.icmpNo W55.here hx rfl (hb hby at_65) rfl (tlt (by decide : ((2 : Int32) < (4 : Int32)))).2.2.2 ?_
   refine XS.aload W55.here hx rfl (hb hby at_68) rfl rfl ?_
   refine iconstZ W55.here hx rfl (hb hby at_70) (z := (2 : Int32)) rfl ?_
   refine XS.iload W55.here hx rfl (hb hby at_71) rfl ?_
   exact k
  refine W55.castore hx V55' (i := 2) (ble_ rfl) (j := (2 : Int32)) rfl (by decide) rfl (ch_ok16 P_c2) (g := (mkF m 73 #[.val (.int p0), .val (.int p1), .val (.int p2), .val (.int p3), .val (.int p4), .val (.int (4 : Int32)), .val (.int c0), .val (.int c1), .val (.int c2), .val (.int c3), .val (.ref a53), .unset, .unset] [(.int c2), (.int (2 : Int32)), (.ref a53)])) rfl rfl (hb hby at_73) (by omega) (fun T56 h56 W56 R56 V56 => ?_)
  change Fi _ _ _ _ _ _ _ _ _ _ (T56.setTop (mkF m 74 #[.val (.int p0), .val (.int p1), .val (.int p2), .val (.int p3), .val (.int p4), .val (.int (4 : Int32)), .val (.int c0), .val (.int c1), .val (.int c2), .val (.int c3), .val (.ref a53), .unset, .unset] []))
  have x56w : Ext h0 h56 := ext_wr x55w R56 (by omega)
  have sz56 := R56.size
  have V56' : Arv Z h56 a53 k53 .char (4 : Int32) (([c0, c1, c2, 0] : List Int32).map Value.int) (.int (0 : Int32)) := V56
  refine Fi.by' (st' := T56.setTop (mkF m 85 #[.val (.int p0), .val (.int p1), .val (.int p2), .val (.int p3), .val (.int p4), .val (.int (4 : Int32)), .val (.int c0), .val (.int c1), .val (.int c2), .val (.int c3), .val (.ref a53), .unset, .unset] [(.int c3), (.int (3 : Int32)), (.ref a53)])) (fun t k => ?_) ?_
  ·refine XS.iload W56.here hx rfl (hb hby at_74) rfl ?_
   refine iconstZ W56.here hx rfl (hb hby at_76) (z := (3 : Int32)) rfl ?_
   refine XS.icmpNo W56.here hx rfl (hb hby at_77) rfl (tlt (by decide : ((3 : Int32) < (4 : Int32)))).2.2.2 ?_
   refine XS.aload W56.here hx rfl (hb hby at_80) rfl rfl ?_
   refine iconstZ W56.here hx rfl (hb hby at_82) (z := (3 : Int32)) rfl ?_
   refine XS.iload W56.here hx rfl (hb hby at_83) rfl ?_
   exact k
  refine W56.castore hx V56' (i := 3) (ble_ rfl) (j := (3 : Int32)) rfl (by decide) rfl (ch_ok16 P_c3) (g := (mkF m 85 #[.val (.int p0), .val (.int p1), .val (.int p2), .val (.int p3), .val (.int p4), .val (.int (4 : Int32)), .val (.int c0), .val (.int c1), .val (.int c2), .val (.int c3), .val (.ref a53), .unset, .unset] [(.int c3), (.int (3 : Int32)), (.ref a53)])) rfl rfl (hb hby at_85) (by omega) (fun T57 h57 W57 R57 V57 => ?_)
  change Fi _ _ _ _ _ _ _ _ _ _ (T57.setTop (mkF m 86 #[.val (.int p0), .val (.int p1), .val (.int p2), .val (.int p3), .val (.int p4), .val (.int (4 : Int32)), .val (.int c0), .val (.int c1), .val (.int c2), .val (.int c3), .val (.ref a53), .unset, .unset] []))
  have x57w : Ext h0 h57 := ext_wr x56w R57 (by omega)
  have sz57 := R57.size
  have V57' : Arv Z h57 a53 k53 .char (4 : Int32) (([c0, c1, c2, c3] : List Int32).map Value.int) (.int (0 : Int32)) := V57
  refine W57.new hx (ww hw 7 rfl) (ww hw 8 rfl) (ww hw 9 rfl) (g := (mkF m 86 #[.val (.int p0), .val (.int p1), .val (.int p2), .val (.int p3), .val (.int p4), .val (.int (4 : Int32)), .val (.int c0), .val (.int c1), .val (.int c2), .val (.int c3), .val (.ref a53), .unset, .unset] [])) rfl (hb hby at_86) (by decide) (by decide) (fun T58 h58 a58 ha58 W58 E58 A58 D58 => ?_)
  change Fi _ _ _ _ _ _ _ _ _ _ (T58.setTop (mkF m 89 #[.val (.int p0), .val (.int p1), .val (.int p2), .val (.int p3), .val (.int p4), .val (.int (4 : Int32)), .val (.int c0), .val (.int c1), .val (.int c2), .val (.int c3), .val (.ref a53), .unset, .unset] [(.ref a58)]))
  have sz58 := E58.1
  refine Fi.by' (st' := T58.setTop (mkF m 92 #[.val (.int p0), .val (.int p1), .val (.int p2), .val (.int p3), .val (.int p4), .val (.int (4 : Int32)), .val (.int c0), .val (.int c1), .val (.int c2), .val (.int c3), .val (.ref a53), .unset, .unset] [(.ref a53), (.ref a58), (.ref a58)])) (fun t k => ?_) ?_
  ·refine XS.dup W58.here hx rfl (hb hby at_89) rfl rfl ?_
   refine XS.aload W58.here hx rfl (hb hby at_90) rfl rfl ?_
   exact k
  have x59 : Ext h0 h58 := ext_trans x57w E58
  refine W58.callI hx (y := y_18) rfl (ww hw 10 rfl) (ww hw 11 rfl) (ww hw 12 rfl) (by decide) (payIn4 (Wd := 1) (kc := k53) (c0 := c0) (c1 := c1) (c2 := c2) (c3 := c3) hw (by omega) (by omega) A58 (D58 (Or.inr (ww hw 22 rfl)) (ty := (.array .byte)) (by decide)) (D58 (Or.inr (ww hw 23 rfl)) (ty := .byte) (by decide)) (Sta.ext x59 S0) hz (Sta.ext x59 D0) (Sta.ext x59 HB0) (Sta.ext x59 LB0) (V57'.ext E58) (all_cons P_c0 (all_cons P_c1 (all_cons P_c2 (all_cons P_c3 all_nil)))) (by decide) (by decide)) (a := a58) (g := (mkF m 92 #[.val (.int p0), .val (.int p1), .val (.int p2), .val (.int p3), .val (.int p4), .val (.int (4 : Int32)), .val (.int c0), .val (.int c1), .val (.int c2), .val (.int c3), .val (.ref a53), .unset, .unset] [(.ref a53), (.ref a58), (.ref a58)])) rfl (by rw [hml]; rfl) (argsL := [(.ref a53)]) (rest := [(.ref a58)]) (lenOf pd_16 rfl) rfl rfl (ble_ rfl) (hb hby at_92) (by decide) (by decide) (fun v60 T60 h60 W60 sz60 q60 => ?_)
  obtain ⟨rfl, K60, F60⟩ := q60
  change Fi _ _ _ _ _ _ _ _ _ _ (T60.setTop (mkF m 95 #[.val (.int p0), .val (.int p1), .val (.int p2), .val (.int p3), .val (.int p4), .val (.int (4 : Int32)), .val (.int c0), .val (.int c1), .val (.int c2), .val (.int c3), .val (.ref a53), .unset, .unset] [(.ref a58)]))
  have x60k : Ext h57 h60 := ext_keep1 E58 K60 (by omega)
  refine Fi.by' (st' := T60.setTop (mkF m 121 #[.val (.int p0), .val (.int p1), .val (.int p2), .val (.int p3), .val (.int p4), .val (.int (4 : Int32)), .val (.int c0), .val (.int c1), .val (.int c2), .val (.int c3), .val (.ref a53), .val (.ref a58), .unset] [(.int c1), (.int (1 : Int32)), (.int c0), (.int c0), (.int (0 : Int32))])) (fun t k => ?_) ?_
  ·refine XS.astore W60.here hx rfl (hb hby at_95) rfl rfl (l' := #[.val (.int p0), .val (.int p1), .val (.int p2), .val (.int p3), .val (.int p4), .val (.int (4 : Int32)), .val (.int c0), .val (.int c1), .val (.int c2), .val (.int c3), .val (.ref a53), .val (.ref a58), .unset]) rfl ?_
   refine XS.iload W60.here hx rfl (hb hby at_97) rfl ?_
   refine iconstZ W60.here hx rfl (hb hby at_99) (z := (1 : Int32)) rfl ?_
   refine XS.icmpNo W60.here hx rfl (hb hby at_100) rfl (flt (by decide : ¬ ((4 : Int32) < (1 : Int32)))).1 ?_
   refine iconstZ W60.here hx rfl (hb hby at_103) (z := (0 : Int32)) rfl ?_
   refine XS.iload W60.here hx rfl (hb hby at_104) rfl ?_
   refine XS.iload W60.here hx rfl (hb hby at_106) rfl ?_
   refine XS.iload W60.here hx rfl (hb hby at_108) rfl ?_
   refine iconstZ W60.here hx rfl (hb hby at_110) (z := (1 : Int32)) rfl ?_
   refine XS.icmpNo W60.here hx rfl (hb hby at_111) rfl (tlt (by decide : ((1 : Int32) < (4 : Int32)))).2.2.2 ?_
   refine iconstZ W60.here hx rfl (hb hby at_114) (z := (1 : Int32)) rfl ?_
   refine XS.goto W60.here hx rfl (pc0 := 115) (pc' := 119) rfl (hb hby at_115) (by decide) (by decide) ?_
   refine XS.iload W60.here hx rfl (hb hby at_119) rfl ?_
   exact k
  refine W60.callS hx (y := y_5) (ww hw 53 rfl) (ww hw 54 rfl) (ww hw 3 rfl) (ww hw 55 rfl) (by decide) (Pay.of_con (Wd := 0) (rm_fine l Z a0 hw false true c0 c0 c1 h60 n0 (by omega)) (ww hw 55 rfl) (ww hw 3 rfl) (hEL hw) (by decide) (by decide)) (g := (mkF m 121 #[.val (.int p0), .val (.int p1), .val (.int p2), .val (.int p3), .val (.int p4), .val (.int (4 : Int32)), .val (.int c0), .val (.int c1), .val (.int c2), .val (.int c3), .val (.ref a53), .val (.ref a58), .unset] [(.int c1), (.int (1 : Int32)), (.int c0), (.int c0), (.int (0 : Int32))])) rfl (by rw [hml]; rfl) (argsL := [(.int (0 : Int32)), (.int c0), (.int c0), (.int (1 : Int32)), (.int c1)]) (rest := []) (lenOf pd_17 rfl) rfl rfl (ble_ rfl) (hb hby at_121) (by decide) (by decide) (fun v61 T61 h61 W61 sz61 q61 => ?_)
  obtain ⟨rfl, rfl⟩ := q61
  change Fi _ _ _ _ _ _ _ _ _ _ (T61.setTop (mkF m 124 #[.val (.int p0), .val (.int p1), .val (.int p2), .val (.int p3), .val (.int p4), .val (.int (4 : Int32)), .val (.int c0), .val (.int c1), .val (.int c2), .val (.int c3), .val (.ref a53), .val (.ref a58), .unset] [(.int (b2i (fineB false c0 c0 true c1)))]))
  by_cases hc124_62 : (b2i (fineB false c0 c0 true c1)) = (0 : Int32)
  ·refine Fi.by' (st' := T61.setTop (mkF m 216 #[.val (.int p0), .val (.int p1), .val (.int p2), .val (.int p3), .val (.int p4), .val (.int (4 : Int32)), .val (.int c0), .val (.int c1), .val (.int c2), .val (.int c3), .val (.ref a53), .val (.ref a58), .val (.int (0 : Int32))] [(.ref a58)])) (fun t k => ?_) ?_
   ·refine XS.ifYes W61.here hx rfl (pc0 := 124) (pc' := 211) rfl (hb hby at_124) rfl ((if0 _ _).trans (teq hc124_62).1) (by decide) (by decide) ?_
    refine iconstZ W61.here hx rfl (hb hby at_211) (z := (0 : Int32)) rfl ?_
    refine XS.istore W61.here hx rfl (hb hby at_212) rfl (l' := #[.val (.int p0), .val (.int p1), .val (.int p2), .val (.int p3), .val (.int p4), .val (.int (4 : Int32)), .val (.int c0), .val (.int c1), .val (.int c2), .val (.int c3), .val (.ref a53), .val (.ref a58), .val (.int (0 : Int32))]) rfl ?_
    refine XS.aload W61.here hx rfl (hb hby at_214) rfl rfl ?_
    exact k
   have x63 : Ext h0 h60 := ext_trans x57w x60k
   refine W61.callS hx (y := y_25) (ww hw 28 rfl) (ww hw 29 rfl) (ww hw 30 rfl) (ww hw 31 rfl) (by decide) (Pay.of_con (Wd := 0) (rm_enc4 l Z a0 hw a58 zc c0 c1 c2 c3 fm h60 n0 (by omega) (Sta.ext x63 S0) hz (Sta.ext x63 G0) rf (Sta.ext x63 D0) (Sta.ext x63 HB0) (Sta.ext x63 LB0) F60) (ww hw 31 rfl) (ww hw 30 rfl) (hEL hw) (by decide) (by decide)) (g := (mkF m 216 #[.val (.int p0), .val (.int p1), .val (.int p2), .val (.int p3), .val (.int p4), .val (.int (4 : Int32)), .val (.int c0), .val (.int c1), .val (.int c2), .val (.int c3), .val (.ref a53), .val (.ref a58), .val (.int (0 : Int32))] [(.ref a58)])) rfl (by rw [hml]; rfl) (argsL := [(.ref a58)]) (rest := []) (lenOf pd_18 rfl) rfl rfl (ble_ rfl) (hb hby at_216) (by decide) (by decide) (fun v64 T64 h64 W64 sz64 q64 => ?_)
   obtain ⟨rfl, rfl⟩ := q64
   change Fi _ _ _ _ _ _ _ _ _ _ (T64.setTop (mkF m 219 #[.val (.int p0), .val (.int p1), .val (.int p2), .val (.int p3), .val (.int p4), .val (.int (4 : Int32)), .val (.int c0), .val (.int c1), .val (.int c2), .val (.int c3), .val (.ref a53), .val (.ref a58), .val (.int (0 : Int32))] [(.int (b2i (encB [c0, c1, c2, c3])))]))
   refine Fi.by' (st' := T64.setTop (mkF m 221 #[.val (.int p0), .val (.int p1), .val (.int p2), .val (.int p3), .val (.int p4), .val (.int (4 : Int32)), .val (.int c0), .val (.int c1), .val (.int c2), .val (.int c3), .val (.ref a53), .val (.ref a58), .val (.int (0 : Int32))] [(.int (0 : Int32)), (.int (b2i (encB [c0, c1, c2, c3])))])) (fun t k => ?_) ?_
   ·refine XS.iload W64.here hx rfl (hb hby at_219) rfl ?_
    exact k
   have f0 := b2i_f hc124_62
   have hv : b2i (encB [c0, c1, c2, c3]) = (0 : Int32) := by rw [plain4 c0 c1 c2 c3 c3]; simp [b2i, f0]
   refine Fi.by' (st' := T64.setTop (mkF m 229 #[.val (.int p0), .val (.int p1), .val (.int p2), .val (.int p3), .val (.int p4), .val (.int (4 : Int32)), .val (.int c0), .val (.int c1), .val (.int c2), .val (.int c3), .val (.ref a53), .val (.ref a58), .val (.int (0 : Int32))] [(.int (1 : Int32))])) (fun t k => ?_) ?_
   ·refine XS.icmpNo W64.here hx rfl (hb hby at_221) rfl (teq hv).2 ?_
    refine iconstZ W64.here hx rfl (hb hby at_224) (z := (1 : Int32)) rfl ?_
    refine XS.goto W64.here hx rfl (pc0 := 225) (pc' := 229) rfl (hb hby at_225) (by decide) (by decide) ?_
    exact k
   exact W64.iret hx hlk hret (by simp) rfl (hb hby at_229) rfl (by decide) (by decide)
  ·refine Fi.by' (st' := T61.setTop (mkF m 151 #[.val (.int p0), .val (.int p1), .val (.int p2), .val (.int p3), .val (.int p4), .val (.int (4 : Int32)), .val (.int c0), .val (.int c1), .val (.int c2), .val (.int c3), .val (.ref a53), .val (.ref a58), .unset] [(.int c2), (.int (1 : Int32)), (.int c1), (.int c0), (.int (1 : Int32))])) (fun t k => ?_) ?_
   ·refine XS.ifNo W61.here hx rfl (hb hby at_124) rfl ((if0 _ _).trans (feq hc124_62).1) ?_
    refine XS.iload W61.here hx rfl (hb hby at_127) rfl ?_
    refine iconstZ W61.here hx rfl (hb hby at_129) (z := (2 : Int32)) rfl ?_
    refine XS.icmpNo W61.here hx rfl (hb hby at_130) rfl (flt (by decide : ¬ ((4 : Int32) < (2 : Int32)))).1 ?_
    refine iconstZ W61.here hx rfl (hb hby at_133) (z := (1 : Int32)) rfl ?_
    refine XS.iload W61.here hx rfl (hb hby at_134) rfl ?_
    refine XS.iload W61.here hx rfl (hb hby at_136) rfl ?_
    refine XS.iload W61.here hx rfl (hb hby at_138) rfl ?_
    refine iconstZ W61.here hx rfl (hb hby at_140) (z := (2 : Int32)) rfl ?_
    refine XS.icmpNo W61.here hx rfl (hb hby at_141) rfl (tlt (by decide : ((2 : Int32) < (4 : Int32)))).2.2.2 ?_
    refine iconstZ W61.here hx rfl (hb hby at_144) (z := (1 : Int32)) rfl ?_
    refine XS.goto W61.here hx rfl (pc0 := 145) (pc' := 149) rfl (hb hby at_145) (by decide) (by decide) ?_
    refine XS.iload W61.here hx rfl (hb hby at_149) rfl ?_
    exact k
   refine W61.callS hx (y := y_5) (ww hw 53 rfl) (ww hw 54 rfl) (ww hw 3 rfl) (ww hw 55 rfl) (by decide) (Pay.of_con (Wd := 0) (rm_fine l Z a0 hw true true c0 c1 c2 h60 n0 (by omega)) (ww hw 55 rfl) (ww hw 3 rfl) (hEL hw) (by decide) (by decide)) (g := (mkF m 151 #[.val (.int p0), .val (.int p1), .val (.int p2), .val (.int p3), .val (.int p4), .val (.int (4 : Int32)), .val (.int c0), .val (.int c1), .val (.int c2), .val (.int c3), .val (.ref a53), .val (.ref a58), .unset] [(.int c2), (.int (1 : Int32)), (.int c1), (.int c0), (.int (1 : Int32))])) rfl (by rw [hml]; rfl) (argsL := [(.int (1 : Int32)), (.int c0), (.int c1), (.int (1 : Int32)), (.int c2)]) (rest := []) (lenOf pd_17 rfl) rfl rfl (ble_ rfl) (hb hby at_151) (by decide) (by decide) (fun v65 T65 h65 W65 sz65 q65 => ?_)
   obtain ⟨rfl, rfl⟩ := q65
   change Fi _ _ _ _ _ _ _ _ _ _ (T65.setTop (mkF m 154 #[.val (.int p0), .val (.int p1), .val (.int p2), .val (.int p3), .val (.int p4), .val (.int (4 : Int32)), .val (.int c0), .val (.int c1), .val (.int c2), .val (.int c3), .val (.ref a53), .val (.ref a58), .unset] [(.int (b2i (fineB true c0 c1 true c2)))]))
   by_cases hc154_66 : (b2i (fineB true c0 c1 true c2)) = (0 : Int32)
   ·refine Fi.by' (st' := T65.setTop (mkF m 216 #[.val (.int p0), .val (.int p1), .val (.int p2), .val (.int p3), .val (.int p4), .val (.int (4 : Int32)), .val (.int c0), .val (.int c1), .val (.int c2), .val (.int c3), .val (.ref a53), .val (.ref a58), .val (.int (0 : Int32))] [(.ref a58)])) (fun t k => ?_) ?_
    ·refine XS.ifYes W65.here hx rfl (pc0 := 154) (pc' := 211) rfl (hb hby at_154) rfl ((if0 _ _).trans (teq hc154_66).1) (by decide) (by decide) ?_
     refine iconstZ W65.here hx rfl (hb hby at_211) (z := (0 : Int32)) rfl ?_
     refine XS.istore W65.here hx rfl (hb hby at_212) rfl (l' := #[.val (.int p0), .val (.int p1), .val (.int p2), .val (.int p3), .val (.int p4), .val (.int (4 : Int32)), .val (.int c0), .val (.int c1), .val (.int c2), .val (.int c3), .val (.ref a53), .val (.ref a58), .val (.int (0 : Int32))]) rfl ?_
     refine XS.aload W65.here hx rfl (hb hby at_214) rfl rfl ?_
     exact k
    have x67 : Ext h0 h60 := ext_trans x57w x60k
    refine W65.callS hx (y := y_25) (ww hw 28 rfl) (ww hw 29 rfl) (ww hw 30 rfl) (ww hw 31 rfl) (by decide) (Pay.of_con (Wd := 0) (rm_enc4 l Z a0 hw a58 zc c0 c1 c2 c3 fm h60 n0 (by omega) (Sta.ext x67 S0) hz (Sta.ext x67 G0) rf (Sta.ext x67 D0) (Sta.ext x67 HB0) (Sta.ext x67 LB0) F60) (ww hw 31 rfl) (ww hw 30 rfl) (hEL hw) (by decide) (by decide)) (g := (mkF m 216 #[.val (.int p0), .val (.int p1), .val (.int p2), .val (.int p3), .val (.int p4), .val (.int (4 : Int32)), .val (.int c0), .val (.int c1), .val (.int c2), .val (.int c3), .val (.ref a53), .val (.ref a58), .val (.int (0 : Int32))] [(.ref a58)])) rfl (by rw [hml]; rfl) (argsL := [(.ref a58)]) (rest := []) (lenOf pd_18 rfl) rfl rfl (ble_ rfl) (hb hby at_216) (by decide) (by decide) (fun v68 T68 h68 W68 sz68 q68 => ?_)
    obtain ⟨rfl, rfl⟩ := q68
    change Fi _ _ _ _ _ _ _ _ _ _ (T68.setTop (mkF m 219 #[.val (.int p0), .val (.int p1), .val (.int p2), .val (.int p3), .val (.int p4), .val (.int (4 : Int32)), .val (.int c0), .val (.int c1), .val (.int c2), .val (.int c3), .val (.ref a53), .val (.ref a58), .val (.int (0 : Int32))] [(.int (b2i (encB [c0, c1, c2, c3])))]))
    refine Fi.by' (st' := T68.setTop (mkF m 221 #[.val (.int p0), .val (.int p1), .val (.int p2), .val (.int p3), .val (.int p4), .val (.int (4 : Int32)), .val (.int c0), .val (.int c1), .val (.int c2), .val (.int c3), .val (.ref a53), .val (.ref a58), .val (.int (0 : Int32))] [(.int (0 : Int32)), (.int (b2i (encB [c0, c1, c2, c3])))])) (fun t k => ?_) ?_
    ·refine XS.iload W68.here hx rfl (hb hby at_219) rfl ?_
     exact k
    have f0 := b2i_t hc124_62
    have f1 := b2i_f hc154_66
    have hv : b2i (encB [c0, c1, c2, c3]) = (0 : Int32) := by rw [plain4 c0 c1 c2 c3 c3]; simp [b2i, f0, f1]
    refine Fi.by' (st' := T68.setTop (mkF m 229 #[.val (.int p0), .val (.int p1), .val (.int p2), .val (.int p3), .val (.int p4), .val (.int (4 : Int32)), .val (.int c0), .val (.int c1), .val (.int c2), .val (.int c3), .val (.ref a53), .val (.ref a58), .val (.int (0 : Int32))] [(.int (1 : Int32))])) (fun t k => ?_) ?_
    ·refine XS.icmpNo W68.here hx rfl (hb hby at_221) rfl (teq hv).2 ?_
     refine iconstZ W68.here hx rfl (hb hby at_224) (z := (1 : Int32)) rfl ?_
     refine XS.goto W68.here hx rfl (pc0 := 225) (pc' := 229) rfl (hb hby at_225) (by decide) (by decide) ?_
     exact k
    exact W68.iret hx hlk hret (by simp) rfl (hb hby at_229) rfl (by decide) (by decide)
   ·refine Fi.by' (st' := T65.setTop (mkF m 181 #[.val (.int p0), .val (.int p1), .val (.int p2), .val (.int p3), .val (.int p4), .val (.int (4 : Int32)), .val (.int c0), .val (.int c1), .val (.int c2), .val (.int c3), .val (.ref a53), .val (.ref a58), .unset] [(.int c3), (.int (1 : Int32)), (.int c2), (.int c1), (.int (1 : Int32))])) (fun t k => ?_) ?_
    ·refine XS.ifNo W65.here hx rfl (hb hby at_154) rfl ((if0 _ _).trans (feq hc154_66).1) ?_
     refine XS.iload W65.here hx rfl (hb hby at_157) rfl ?_
     refine iconstZ W65.here hx rfl (hb hby at_159) (z := (3 : Int32)) rfl ?_
     refine XS.icmpNo W65.here hx rfl (hb hby at_160) rfl (flt (by decide : ¬ ((4 : Int32) < (3 : Int32)))).1 ?_
     refine iconstZ W65.here hx rfl (hb hby at_163) (z := (1 : Int32)) rfl ?_
     refine XS.iload W65.here hx rfl (hb hby at_164) rfl ?_
     refine XS.iload W65.here hx rfl (hb hby at_166) rfl ?_
     refine XS.iload W65.here hx rfl (hb hby at_168) rfl ?_
     refine iconstZ W65.here hx rfl (hb hby at_170) (z := (3 : Int32)) rfl ?_
     refine XS.icmpNo W65.here hx rfl (hb hby at_171) rfl (tlt (by decide : ((3 : Int32) < (4 : Int32)))).2.2.2 ?_
     refine iconstZ W65.here hx rfl (hb hby at_174) (z := (1 : Int32)) rfl ?_
     refine XS.goto W65.here hx rfl (pc0 := 175) (pc' := 179) rfl (hb hby at_175) (by decide) (by decide) ?_
     refine XS.iload W65.here hx rfl (hb hby at_179) rfl ?_
     exact k
    refine W65.callS hx (y := y_5) (ww hw 53 rfl) (ww hw 54 rfl) (ww hw 3 rfl) (ww hw 55 rfl) (by decide) (Pay.of_con (Wd := 0) (rm_fine l Z a0 hw true true c1 c2 c3 h60 n0 (by omega)) (ww hw 55 rfl) (ww hw 3 rfl) (hEL hw) (by decide) (by decide)) (g := (mkF m 181 #[.val (.int p0), .val (.int p1), .val (.int p2), .val (.int p3), .val (.int p4), .val (.int (4 : Int32)), .val (.int c0), .val (.int c1), .val (.int c2), .val (.int c3), .val (.ref a53), .val (.ref a58), .unset] [(.int c3), (.int (1 : Int32)), (.int c2), (.int c1), (.int (1 : Int32))])) rfl (by rw [hml]; rfl) (argsL := [(.int (1 : Int32)), (.int c1), (.int c2), (.int (1 : Int32)), (.int c3)]) (rest := []) (lenOf pd_17 rfl) rfl rfl (ble_ rfl) (hb hby at_181) (by decide) (by decide) (fun v69 T69 h69 W69 sz69 q69 => ?_)
    obtain ⟨rfl, rfl⟩ := q69
    change Fi _ _ _ _ _ _ _ _ _ _ (T69.setTop (mkF m 184 #[.val (.int p0), .val (.int p1), .val (.int p2), .val (.int p3), .val (.int p4), .val (.int (4 : Int32)), .val (.int c0), .val (.int c1), .val (.int c2), .val (.int c3), .val (.ref a53), .val (.ref a58), .unset] [(.int (b2i (fineB true c1 c2 true c3)))]))
    by_cases hc184_70 : (b2i (fineB true c1 c2 true c3)) = (0 : Int32)
    ·refine Fi.by' (st' := T69.setTop (mkF m 216 #[.val (.int p0), .val (.int p1), .val (.int p2), .val (.int p3), .val (.int p4), .val (.int (4 : Int32)), .val (.int c0), .val (.int c1), .val (.int c2), .val (.int c3), .val (.ref a53), .val (.ref a58), .val (.int (0 : Int32))] [(.ref a58)])) (fun t k => ?_) ?_
     ·refine XS.ifYes W69.here hx rfl (pc0 := 184) (pc' := 211) rfl (hb hby at_184) rfl ((if0 _ _).trans (teq hc184_70).1) (by decide) (by decide) ?_
      refine iconstZ W69.here hx rfl (hb hby at_211) (z := (0 : Int32)) rfl ?_
      refine XS.istore W69.here hx rfl (hb hby at_212) rfl (l' := #[.val (.int p0), .val (.int p1), .val (.int p2), .val (.int p3), .val (.int p4), .val (.int (4 : Int32)), .val (.int c0), .val (.int c1), .val (.int c2), .val (.int c3), .val (.ref a53), .val (.ref a58), .val (.int (0 : Int32))]) rfl ?_
      refine XS.aload W69.here hx rfl (hb hby at_214) rfl rfl ?_
      exact k
     have x71 : Ext h0 h60 := ext_trans x57w x60k
     refine W69.callS hx (y := y_25) (ww hw 28 rfl) (ww hw 29 rfl) (ww hw 30 rfl) (ww hw 31 rfl) (by decide) (Pay.of_con (Wd := 0) (rm_enc4 l Z a0 hw a58 zc c0 c1 c2 c3 fm h60 n0 (by omega) (Sta.ext x71 S0) hz (Sta.ext x71 G0) rf (Sta.ext x71 D0) (Sta.ext x71 HB0) (Sta.ext x71 LB0) F60) (ww hw 31 rfl) (ww hw 30 rfl) (hEL hw) (by decide) (by decide)) (g := (mkF m 216 #[.val (.int p0), .val (.int p1), .val (.int p2), .val (.int p3), .val (.int p4), .val (.int (4 : Int32)), .val (.int c0), .val (.int c1), .val (.int c2), .val (.int c3), .val (.ref a53), .val (.ref a58), .val (.int (0 : Int32))] [(.ref a58)])) rfl (by rw [hml]; rfl) (argsL := [(.ref a58)]) (rest := []) (lenOf pd_18 rfl) rfl rfl (ble_ rfl) (hb hby at_216) (by decide) (by decide) (fun v72 T72 h72 W72 sz72 q72 => ?_)
     obtain ⟨rfl, rfl⟩ := q72
     change Fi _ _ _ _ _ _ _ _ _ _ (T72.setTop (mkF m 219 #[.val (.int p0), .val (.int p1), .val (.int p2), .val (.int p3), .val (.int p4), .val (.int (4 : Int32)), .val (.int c0), .val (.int c1), .val (.int c2), .val (.int c3), .val (.ref a53), .val (.ref a58), .val (.int (0 : Int32))] [(.int (b2i (encB [c0, c1, c2, c3])))]))
     refine Fi.by' (st' := T72.setTop (mkF m 221 #[.val (.int p0), .val (.int p1), .val (.int p2), .val (.int p3), .val (.int p4), .val (.int (4 : Int32)), .val (.int c0), .val (.int c1), .val (.int c2), .val (.int c3), .val (.ref a53), .val (.ref a58), .val (.int (0 : Int32))] [(.int (0 : Int32)), (.int (b2i (encB [c0, c1, c2, c3])))])) (fun t k => ?_) ?_
     ·refine XS.iload W72.here hx rfl (hb hby at_219) rfl ?_
      exact k
     have f0 := b2i_t hc124_62
     have f1 := b2i_t hc154_66
     have f2 := b2i_f hc184_70
     have hv : b2i (encB [c0, c1, c2, c3]) = (0 : Int32) := by rw [plain4 c0 c1 c2 c3 c3]; simp [b2i, f0, f1, f2]
     refine Fi.by' (st' := T72.setTop (mkF m 229 #[.val (.int p0), .val (.int p1), .val (.int p2), .val (.int p3), .val (.int p4), .val (.int (4 : Int32)), .val (.int c0), .val (.int c1), .val (.int c2), .val (.int c3), .val (.ref a53), .val (.ref a58), .val (.int (0 : Int32))] [(.int (1 : Int32))])) (fun t k => ?_) ?_
     ·refine XS.icmpNo W72.here hx rfl (hb hby at_221) rfl (teq hv).2 ?_
      refine iconstZ W72.here hx rfl (hb hby at_224) (z := (1 : Int32)) rfl ?_
      refine XS.goto W72.here hx rfl (pc0 := 225) (pc' := 229) rfl (hb hby at_225) (by decide) (by decide) ?_
      exact k
     exact W72.iret hx hlk hret (by simp) rfl (hb hby at_229) rfl (by decide) (by decide)
    ·refine Fi.by' (st' := T69.setTop (mkF m 201 #[.val (.int p0), .val (.int p1), .val (.int p2), .val (.int p3), .val (.int p4), .val (.int (4 : Int32)), .val (.int c0), .val (.int c1), .val (.int c2), .val (.int c3), .val (.ref a53), .val (.ref a58), .unset] [(.int c3), (.int (0 : Int32)), (.int c3), (.int c2), (.int (1 : Int32))])) (fun t k => ?_) ?_
     ·refine XS.ifNo W69.here hx rfl (hb hby at_184) rfl ((if0 _ _).trans (feq hc184_70).1) ?_
      refine XS.iload W69.here hx rfl (hb hby at_187) rfl ?_
      refine iconstZ W69.here hx rfl (hb hby at_189) (z := (4 : Int32)) rfl ?_
      refine XS.icmpNo W69.here hx rfl (hb hby at_190) rfl (flt (by decide : ¬ ((4 : Int32) < (4 : Int32)))).1 ?_
      refine iconstZ W69.here hx rfl (hb hby at_193) (z := (1 : Int32)) rfl ?_
      refine XS.iload W69.here hx rfl (hb hby at_194) rfl ?_
      refine XS.iload W69.here hx rfl (hb hby at_196) rfl ?_
      refine iconstZ W69.here hx rfl (hb hby at_198) (z := (0 : Int32)) rfl ?_
      refine XS.iload W69.here hx rfl (hb hby at_199) rfl ?_
      exact k
     refine W69.callS hx (y := y_5) (ww hw 53 rfl) (ww hw 54 rfl) (ww hw 3 rfl) (ww hw 55 rfl) (by decide) (Pay.of_con (Wd := 0) (rm_fine l Z a0 hw true false c2 c3 c3 h60 n0 (by omega)) (ww hw 55 rfl) (ww hw 3 rfl) (hEL hw) (by decide) (by decide)) (g := (mkF m 201 #[.val (.int p0), .val (.int p1), .val (.int p2), .val (.int p3), .val (.int p4), .val (.int (4 : Int32)), .val (.int c0), .val (.int c1), .val (.int c2), .val (.int c3), .val (.ref a53), .val (.ref a58), .unset] [(.int c3), (.int (0 : Int32)), (.int c3), (.int c2), (.int (1 : Int32))])) rfl (by rw [hml]; rfl) (argsL := [(.int (1 : Int32)), (.int c2), (.int c3), (.int (0 : Int32)), (.int c3)]) (rest := []) (lenOf pd_17 rfl) rfl rfl (ble_ rfl) (hb hby at_201) (by decide) (by decide) (fun v73 T73 h73 W73 sz73 q73 => ?_)
     obtain ⟨rfl, rfl⟩ := q73
     change Fi _ _ _ _ _ _ _ _ _ _ (T73.setTop (mkF m 204 #[.val (.int p0), .val (.int p1), .val (.int p2), .val (.int p3), .val (.int p4), .val (.int (4 : Int32)), .val (.int c0), .val (.int c1), .val (.int c2), .val (.int c3), .val (.ref a53), .val (.ref a58), .unset] [(.int (b2i (fineB true c2 c3 false c3)))]))
     by_cases hc204_74 : (b2i (fineB true c2 c3 false c3)) = (0 : Int32)
     ·refine Fi.by' (st' := T73.setTop (mkF m 216 #[.val (.int p0), .val (.int p1), .val (.int p2), .val (.int p3), .val (.int p4), .val (.int (4 : Int32)), .val (.int c0), .val (.int c1), .val (.int c2), .val (.int c3), .val (.ref a53), .val (.ref a58), .val (.int (0 : Int32))] [(.ref a58)])) (fun t k => ?_) ?_
      ·refine XS.ifYes W73.here hx rfl (pc0 := 204) (pc' := 211) rfl (hb hby at_204) rfl ((if0 _ _).trans (teq hc204_74).1) (by decide) (by decide) ?_
       refine iconstZ W73.here hx rfl (hb hby at_211) (z := (0 : Int32)) rfl ?_
       refine XS.istore W73.here hx rfl (hb hby at_212) rfl (l' := #[.val (.int p0), .val (.int p1), .val (.int p2), .val (.int p3), .val (.int p4), .val (.int (4 : Int32)), .val (.int c0), .val (.int c1), .val (.int c2), .val (.int c3), .val (.ref a53), .val (.ref a58), .val (.int (0 : Int32))]) rfl ?_
       refine XS.aload W73.here hx rfl (hb hby at_214) rfl rfl ?_
       exact k
      have x75 : Ext h0 h60 := ext_trans x57w x60k
      refine W73.callS hx (y := y_25) (ww hw 28 rfl) (ww hw 29 rfl) (ww hw 30 rfl) (ww hw 31 rfl) (by decide) (Pay.of_con (Wd := 0) (rm_enc4 l Z a0 hw a58 zc c0 c1 c2 c3 fm h60 n0 (by omega) (Sta.ext x75 S0) hz (Sta.ext x75 G0) rf (Sta.ext x75 D0) (Sta.ext x75 HB0) (Sta.ext x75 LB0) F60) (ww hw 31 rfl) (ww hw 30 rfl) (hEL hw) (by decide) (by decide)) (g := (mkF m 216 #[.val (.int p0), .val (.int p1), .val (.int p2), .val (.int p3), .val (.int p4), .val (.int (4 : Int32)), .val (.int c0), .val (.int c1), .val (.int c2), .val (.int c3), .val (.ref a53), .val (.ref a58), .val (.int (0 : Int32))] [(.ref a58)])) rfl (by rw [hml]; rfl) (argsL := [(.ref a58)]) (rest := []) (lenOf pd_18 rfl) rfl rfl (ble_ rfl) (hb hby at_216) (by decide) (by decide) (fun v76 T76 h76 W76 sz76 q76 => ?_)
      obtain ⟨rfl, rfl⟩ := q76
      change Fi _ _ _ _ _ _ _ _ _ _ (T76.setTop (mkF m 219 #[.val (.int p0), .val (.int p1), .val (.int p2), .val (.int p3), .val (.int p4), .val (.int (4 : Int32)), .val (.int c0), .val (.int c1), .val (.int c2), .val (.int c3), .val (.ref a53), .val (.ref a58), .val (.int (0 : Int32))] [(.int (b2i (encB [c0, c1, c2, c3])))]))
      refine Fi.by' (st' := T76.setTop (mkF m 221 #[.val (.int p0), .val (.int p1), .val (.int p2), .val (.int p3), .val (.int p4), .val (.int (4 : Int32)), .val (.int c0), .val (.int c1), .val (.int c2), .val (.int c3), .val (.ref a53), .val (.ref a58), .val (.int (0 : Int32))] [(.int (0 : Int32)), (.int (b2i (encB [c0, c1, c2, c3])))])) (fun t k => ?_) ?_
      ·refine XS.iload W76.here hx rfl (hb hby at_219) rfl ?_
       exact k
      have f0 := b2i_t hc124_62
      have f1 := b2i_t hc154_66
      have f2 := b2i_t hc184_70
      have f3 := b2i_f hc204_74
      have hv : b2i (encB [c0, c1, c2, c3]) = (0 : Int32) := by rw [plain4 c0 c1 c2 c3 c3]; simp [b2i, f0, f1, f2, f3]
      refine Fi.by' (st' := T76.setTop (mkF m 229 #[.val (.int p0), .val (.int p1), .val (.int p2), .val (.int p3), .val (.int p4), .val (.int (4 : Int32)), .val (.int c0), .val (.int c1), .val (.int c2), .val (.int c3), .val (.ref a53), .val (.ref a58), .val (.int (0 : Int32))] [(.int (1 : Int32))])) (fun t k => ?_) ?_
      ·refine XS.icmpNo W76.here hx rfl (hb hby at_221) rfl (teq hv).2 ?_
       refine iconstZ W76.here hx rfl (hb hby at_224) (z := (1 : Int32)) rfl ?_
       refine XS.goto W76.here hx rfl (pc0 := 225) (pc' := 229) rfl (hb hby at_225) (by decide) (by decide) ?_
       exact k
      exact W76.iret hx hlk hret (by simp) rfl (hb hby at_229) rfl (by decide) (by decide)
     ·refine Fi.by' (st' := T73.setTop (mkF m 216 #[.val (.int p0), .val (.int p1), .val (.int p2), .val (.int p3), .val (.int p4), .val (.int (4 : Int32)), .val (.int c0), .val (.int c1), .val (.int c2), .val (.int c3), .val (.ref a53), .val (.ref a58), .val (.int (1 : Int32))] [(.ref a58)])) (fun t k => ?_) ?_
      ·refine XS.ifNo W73.here hx rfl (hb hby at_204) rfl ((if0 _ _).trans (feq hc204_74).1) ?_
       refine iconstZ W73.here hx rfl (hb hby at_207) (z := (1 : Int32)) rfl ?_
       refine XS.goto W73.here hx rfl (pc0 := 208) (pc' := 212) rfl (hb hby at_208) (by decide) (by decide) ?_
       refine XS.istore W73.here hx rfl (hb hby at_212) rfl (l' := #[.val (.int p0), .val (.int p1), .val (.int p2), .val (.int p3), .val (.int p4), .val (.int (4 : Int32)), .val (.int c0), .val (.int c1), .val (.int c2), .val (.int c3), .val (.ref a53), .val (.ref a58), .val (.int (1 : Int32))]) rfl ?_
       refine XS.aload W73.here hx rfl (hb hby at_214) rfl rfl ?_
       exact k
      have x77 : Ext h0 h60 := ext_trans x57w x60k
      refine W73.callS hx (y := y_25) (ww hw 28 rfl) (ww hw 29 rfl) (ww hw 30 rfl) (ww hw 31 rfl) (by decide) (Pay.of_con (Wd := 0) (rm_enc4 l Z a0 hw a58 zc c0 c1 c2 c3 fm h60 n0 (by omega) (Sta.ext x77 S0) hz (Sta.ext x77 G0) rf (Sta.ext x77 D0) (Sta.ext x77 HB0) (Sta.ext x77 LB0) F60) (ww hw 31 rfl) (ww hw 30 rfl) (hEL hw) (by decide) (by decide)) (g := (mkF m 216 #[.val (.int p0), .val (.int p1), .val (.int p2), .val (.int p3), .val (.int p4), .val (.int (4 : Int32)), .val (.int c0), .val (.int c1), .val (.int c2), .val (.int c3), .val (.ref a53), .val (.ref a58), .val (.int (1 : Int32))] [(.ref a58)])) rfl (by rw [hml]; rfl) (argsL := [(.ref a58)]) (rest := []) (lenOf pd_18 rfl) rfl rfl (ble_ rfl) (hb hby at_216) (by decide) (by decide) (fun v78 T78 h78 W78 sz78 q78 => ?_)
      obtain ⟨rfl, rfl⟩ := q78
      change Fi _ _ _ _ _ _ _ _ _ _ (T78.setTop (mkF m 219 #[.val (.int p0), .val (.int p1), .val (.int p2), .val (.int p3), .val (.int p4), .val (.int (4 : Int32)), .val (.int c0), .val (.int c1), .val (.int c2), .val (.int c3), .val (.ref a53), .val (.ref a58), .val (.int (1 : Int32))] [(.int (b2i (encB [c0, c1, c2, c3])))]))
      refine Fi.by' (st' := T78.setTop (mkF m 221 #[.val (.int p0), .val (.int p1), .val (.int p2), .val (.int p3), .val (.int p4), .val (.int (4 : Int32)), .val (.int c0), .val (.int c1), .val (.int c2), .val (.int c3), .val (.ref a53), .val (.ref a58), .val (.int (1 : Int32))] [(.int (1 : Int32)), (.int (b2i (encB [c0, c1, c2, c3])))])) (fun t k => ?_) ?_
      ·refine XS.iload W78.here hx rfl (hb hby at_219) rfl ?_
       exact k
      have f0 := b2i_t hc124_62
      have f1 := b2i_t hc154_66
      have f2 := b2i_t hc184_70
      have f3 := b2i_t hc204_74
      have hv : b2i (encB [c0, c1, c2, c3]) = (1 : Int32) := by rw [plain4 c0 c1 c2 c3 c3]; simp [b2i, f0, f1, f2, f3]
      refine Fi.by' (st' := T78.setTop (mkF m 229 #[.val (.int p0), .val (.int p1), .val (.int p2), .val (.int p3), .val (.int p4), .val (.int (4 : Int32)), .val (.int c0), .val (.int c1), .val (.int c2), .val (.int c3), .val (.ref a53), .val (.ref a58), .val (.int (1 : Int32))] [(.int (1 : Int32))])) (fun t k => ?_) ?_
      ·refine XS.icmpNo W78.here hx rfl (hb hby at_221) rfl (teq hv).2 ?_
       refine iconstZ W78.here hx rfl (hb hby at_224) (z := (1 : Int32)) rfl ?_
       refine XS.goto W78.here hx rfl (pc0 := 225) (pc' := 229) rfl (hb hby at_225) (by decide) (by decide) ?_
       exact k
      exact W78.iret hx hlk hret (by simp) rfl (hb hby at_229) rfl (by decide) (by decide)
end NB
namespace NA
section PaidL
variable {p : Program} {l : Launch} {e : Env} {R : Room} {s : State} {args : Array Value} {below : List Frame} {Z : State} {a0 : Array Value} {n0 : Nat} {h : Heap}
theorem wsLen {a0 : Array Value} {Z : State} (hw : ∀ d ∈ tables_1, d.before a0 Z = true) : ∀ d ∈ StrChars.Road.wordsLen, d.before a0 Z = true := fun d hd => hw d ((by decide +kernel : ∀ d ∈ StrChars.Road.wordsLen, d ∈ tables_1) d hd)
theorem payLen (hw : ∀ d ∈ tables_1, d.before a0 Z = true) {Wd : Nat} {x : Addr} {cs : List Int32} {z : Int32} (F : StrA Z h x cs) (S : Sta Z h "java/lang/String" "COMPACT_STRINGS" "Z" (.int z)) (hz : ¬ z = 0) (hf : 2 ≤ R.frames) (hl : Wd + 25 ≤ R.locals) :
  Pay l R p e below s args Z EL n0 y_0 Wd #[.ref x] h (fun v h' => v = some (.int (Int32.ofNat cs.length)) ∧ h = h') 0 0 := by
 obtain ⟨t1, k1, cd, N2, vs, a1, a2, a3, a4, a5, a6, a7⟩ := F
 refine Pay.of_back (ws := []) (hEL hw) (fun vm0 hZ => Back.mono (StrChars.Road.lenW (s := s.setVm vm0) hZ (wsLen hw) (ww hw 8 rfl) a1 a2 a3 a4 a5 a6 S hz a7 hf hl) (fun _ _ q => q) (fun _ _ v B _ q => ?_)) (fun _ _ _ _ q => (nomatch q))
 obtain ⟨L, ⟨q1, rfl, q3⟩, r1, r2, r3⟩ := q
 exact ⟨[], ⟨Fr.nil _, by rw [q3]; exact Keep.refl _ _, q1, q3.symm⟩, r1, r2, r3⟩
end PaidL
def Q_draw (Z : State) (xx : Int32) (h0 : Heap) (v : Option Value) (h : Heap) : Prop := ∃ r : Int32, v = some (.int r) ∧ (¬ r < 0 ∧ ¬ (65535 : Int32) < r) ∧ h0 = h
set_option maxRecDepth 65536 in
set_option maxHeartbeats 40000000 in
theorem rm_draw (l : Launch) (Z : State) (a0 : Array Value) (hw : ∀ d ∈ tables_1, d.before a0 Z = true) (xx : Int32) (h0 : Heap) (n0 : Nat) (Z0 : n0 ≤ h0.size)  :
  Con l Z EL y_2 method_6_code 4 (some .char) [] ({ frames := 0, cells := 0, slots := 0, locals := 0 } : Room) #[(.int xx)] h0 n0 (Q_draw Z xx h0) := by
 refine Con.intro (own := "com/example/record_hold/recordhold/text/Utf8CanEncodePinLaw") rfl (plainFor_of_name plain_com_example_record_hold_recordhold_text_Utf8CanEncodePinLaw) (hEL hw) ?_
 intro p e s m below meth c s₁ hx hby hml hret hlk hnm W0
 refine Fi.cast (show entryFrame m #[(.int xx)] 4 = (mkF m 0 #[.val (.int xx), .unset, .unset, .unset] []) from by first | (simp [entryFrame, mkF, argsToLocals, Value.category]; done) | rfl) ?_
 refine Fi.by' (st' := s₁.setTop (mkF m 1 #[.val (.int xx), .unset, .unset, .unset] [(.int xx)])) (fun t k => ?_) ?_
 ·refine XS.iloadN W0.here hx rfl (hb hby d1_0) rfl ?_
  exact k
 refine W0.ldcI hx (ww hw 5 rfl) (g := (mkF m 1 #[.val (.int xx), .unset, .unset, .unset] [(.int xx)])) rfl (hb hby d1_1) ?_
 change Fi _ _ _ _ _ _ _ _ _ _ (s₁.setTop (mkF m 3 #[.val (.int xx), .unset, .unset, .unset] [(.int (65535 : Int32)), (.int xx)]))
 refine Fi.by' (st' := s₁.setTop (mkF m 13 #[.val (.int xx), .val (.int (xx &&& (65535 : Int32))), .val (.int (((xx.toUInt32 >>> ((16 : Int32) &&& 31).toUInt32).toInt32) &&& (3 : Int32))), .unset] [(.int (((xx.toUInt32 >>> ((16 : Int32) &&& 31).toUInt32).toInt32) &&& (3 : Int32)))])) (fun t k => ?_) ?_
 ·refine XS.iand W0.here hx rfl (hb hby d1_3) rfl ?_
  refine XS.istoreN W0.here hx rfl (hb hby d1_4) rfl (l' := #[.val (.int xx), .val (.int (xx &&& (65535 : Int32))), .unset, .unset]) rfl ?_
  refine XS.iloadN W0.here hx rfl (hb hby d1_5) rfl ?_
  refine bipushZ W0.here hx rfl (hb hby d1_6) (z := (16 : Int32)) rfl ?_
  refine XS.iushr W0.here hx rfl (hb hby d1_8) rfl ?_
  refine iconstZ W0.here hx rfl (hb hby d1_9) (z := (3 : Int32)) rfl ?_
  refine XS.iand W0.here hx rfl (hb hby d1_10) rfl ?_
  refine XS.istoreN W0.here hx rfl (hb hby d1_11) rfl (l' := #[.val (.int xx), .val (.int (xx &&& (65535 : Int32))), .val (.int (((xx.toUInt32 >>> ((16 : Int32) &&& 31).toUInt32).toInt32) &&& (3 : Int32))), .unset]) rfl ?_
  refine XS.iloadN W0.here hx rfl (hb hby d1_12) rfl ?_
  exact k
 by_cases hc13_1 : (((xx.toUInt32 >>> ((16 : Int32) &&& 31).toUInt32).toInt32) &&& (3 : Int32)) = (0 : Int32)
 ·refine Fi.by' (st' := s₁.setTop (mkF m 18 #[.val (.int xx), .val (.int (xx &&& (65535 : Int32))), .val (.int (((xx.toUInt32 >>> ((16 : Int32) &&& 31).toUInt32).toInt32) &&& (3 : Int32))), .unset] [(.int ((xx &&& (65535 : Int32)).toUInt32.toUInt16.toUInt32.toInt32))])) (fun t k => ?_) ?_
  ·refine XS.ifNo W0.here hx rfl (hb hby d1_13) rfl ((if0 _ _).trans (teq hc13_1).2) ?_
   refine XS.iloadN W0.here hx rfl (hb hby d1_16) rfl ?_
   refine XS.i2c W0.here hx rfl (hb hby d1_17) rfl ?_
   exact k
  have hq : (¬ ((xx &&& (65535 : Int32)).toUInt32.toUInt16.toUInt32.toInt32) < 0 ∧ ¬ (65535 : Int32) < ((xx &&& (65535 : Int32)).toUInt32.toUInt16.toUInt32.toInt32)) := (i2c_rng _)
  exact W0.iret hx hlk hret (by simp) (ch_nar16 hq) (hb hby d1_18) ⟨_, rfl, hq, rfl⟩ (by decide) (by decide)
 ·refine Fi.by' (st' := s₁.setTop (mkF m 21 #[.val (.int xx), .val (.int (xx &&& (65535 : Int32))), .val (.int (((xx.toUInt32 >>> ((16 : Int32) &&& 31).toUInt32).toInt32) &&& (3 : Int32))), .unset] [(.int (1 : Int32)), (.int (((xx.toUInt32 >>> ((16 : Int32) &&& 31).toUInt32).toInt32) &&& (3 : Int32)))])) (fun t k => ?_) ?_
  ·refine XS.ifYes W0.here hx rfl (pc0 := 13) (pc' := 19) rfl (hb hby d1_13) rfl ((if0 _ _).trans (feq hc13_1).2) (by decide) (by decide) ?_
   refine XS.iloadN W0.here hx rfl (hb hby d1_19) rfl ?_
   refine iconstZ W0.here hx rfl (hb hby d1_20) (z := (1 : Int32)) rfl ?_
   exact k
  by_cases hc21_2 : (((xx.toUInt32 >>> ((16 : Int32) &&& 31).toUInt32).toInt32) &&& (3 : Int32)) = (1 : Int32)
  ·refine Fi.by' (st' := s₁.setTop (mkF m 24 #[.val (.int xx), .val (.int (xx &&& (65535 : Int32))), .val (.int (((xx.toUInt32 >>> ((16 : Int32) &&& 31).toUInt32).toInt32) &&& (3 : Int32))), .unset] [])) (fun t k => ?_) ?_
   ·refine XS.icmpNo W0.here hx rfl (hb hby d1_21) rfl (teq hc21_2).2 ?_
    exact k
   refine W0.ldcI hx (ww hw 59 rfl) (g := (mkF m 24 #[.val (.int xx), .val (.int (xx &&& (65535 : Int32))), .val (.int (((xx.toUInt32 >>> ((16 : Int32) &&& 31).toUInt32).toInt32) &&& (3 : Int32))), .unset] [])) rfl (hb hby d1_24) ?_
   change Fi _ _ _ _ _ _ _ _ _ _ (s₁.setTop (mkF m 26 #[.val (.int xx), .val (.int (xx &&& (65535 : Int32))), .val (.int (((xx.toUInt32 >>> ((16 : Int32) &&& 31).toUInt32).toInt32) &&& (3 : Int32))), .unset] [(.int (55296 : Int32))]))
   refine Fi.by' (st' := s₁.setTop (mkF m 33 #[.val (.int xx), .val (.int (xx &&& (65535 : Int32))), .val (.int (((xx.toUInt32 >>> ((16 : Int32) &&& 31).toUInt32).toInt32) &&& (3 : Int32))), .unset] [(.int (((55296 : Int32) ||| ((xx &&& (65535 : Int32)) &&& (1023 : Int32))).toUInt32.toUInt16.toUInt32.toInt32))])) (fun t k => ?_) ?_
   ·refine XS.iloadN W0.here hx rfl (hb hby d1_26) rfl ?_
    refine sipushZ W0.here hx rfl (hb hby d1_27) (z := (1023 : Int32)) rfl ?_
    refine XS.iand W0.here hx rfl (hb hby d1_30) rfl ?_
    refine XS.ior W0.here hx rfl (hb hby d1_31) rfl ?_
    refine XS.i2c W0.here hx rfl (hb hby d1_32) rfl ?_
    exact k
   have hq : (¬ (((55296 : Int32) ||| ((xx &&& (65535 : Int32)) &&& (1023 : Int32))).toUInt32.toUInt16.toUInt32.toInt32) < 0 ∧ ¬ (65535 : Int32) < (((55296 : Int32) ||| ((xx &&& (65535 : Int32)) &&& (1023 : Int32))).toUInt32.toUInt16.toUInt32.toInt32)) := (i2c_rng _)
   exact W0.iret hx hlk hret (by simp) (ch_nar16 hq) (hb hby d1_33) ⟨_, rfl, hq, rfl⟩ (by decide) (by decide)
  ·refine Fi.by' (st' := s₁.setTop (mkF m 36 #[.val (.int xx), .val (.int (xx &&& (65535 : Int32))), .val (.int (((xx.toUInt32 >>> ((16 : Int32) &&& 31).toUInt32).toInt32) &&& (3 : Int32))), .unset] [(.int (2 : Int32)), (.int (((xx.toUInt32 >>> ((16 : Int32) &&& 31).toUInt32).toInt32) &&& (3 : Int32)))])) (fun t k => ?_) ?_
   ·refine XS.icmpYes W0.here hx rfl (pc0 := 21) (pc' := 34) rfl (hb hby d1_21) rfl (feq hc21_2).2 (by decide) (by decide) ?_
    refine XS.iloadN W0.here hx rfl (hb hby d1_34) rfl ?_
    refine iconstZ W0.here hx rfl (hb hby d1_35) (z := (2 : Int32)) rfl ?_
    exact k
   by_cases hc36_3 : (((xx.toUInt32 >>> ((16 : Int32) &&& 31).toUInt32).toInt32) &&& (3 : Int32)) = (2 : Int32)
   ·refine Fi.by' (st' := s₁.setTop (mkF m 39 #[.val (.int xx), .val (.int (xx &&& (65535 : Int32))), .val (.int (((xx.toUInt32 >>> ((16 : Int32) &&& 31).toUInt32).toInt32) &&& (3 : Int32))), .unset] [])) (fun t k => ?_) ?_
    ·refine XS.icmpNo W0.here hx rfl (hb hby d1_36) rfl (teq hc36_3).2 ?_
     exact k
    refine W0.ldcI hx (ww hw 63 rfl) (g := (mkF m 39 #[.val (.int xx), .val (.int (xx &&& (65535 : Int32))), .val (.int (((xx.toUInt32 >>> ((16 : Int32) &&& 31).toUInt32).toInt32) &&& (3 : Int32))), .unset] [])) rfl (hb hby d1_39) ?_
    change Fi _ _ _ _ _ _ _ _ _ _ (s₁.setTop (mkF m 41 #[.val (.int xx), .val (.int (xx &&& (65535 : Int32))), .val (.int (((xx.toUInt32 >>> ((16 : Int32) &&& 31).toUInt32).toInt32) &&& (3 : Int32))), .unset] [(.int (56320 : Int32))]))
    refine Fi.by' (st' := s₁.setTop (mkF m 48 #[.val (.int xx), .val (.int (xx &&& (65535 : Int32))), .val (.int (((xx.toUInt32 >>> ((16 : Int32) &&& 31).toUInt32).toInt32) &&& (3 : Int32))), .unset] [(.int (((56320 : Int32) ||| ((xx &&& (65535 : Int32)) &&& (1023 : Int32))).toUInt32.toUInt16.toUInt32.toInt32))])) (fun t k => ?_) ?_
    ·refine XS.iloadN W0.here hx rfl (hb hby d1_41) rfl ?_
     refine sipushZ W0.here hx rfl (hb hby d1_42) (z := (1023 : Int32)) rfl ?_
     refine XS.iand W0.here hx rfl (hb hby d1_45) rfl ?_
     refine XS.ior W0.here hx rfl (hb hby d1_46) rfl ?_
     refine XS.i2c W0.here hx rfl (hb hby d1_47) rfl ?_
     exact k
    have hq : (¬ (((56320 : Int32) ||| ((xx &&& (65535 : Int32)) &&& (1023 : Int32))).toUInt32.toUInt16.toUInt32.toInt32) < 0 ∧ ¬ (65535 : Int32) < (((56320 : Int32) ||| ((xx &&& (65535 : Int32)) &&& (1023 : Int32))).toUInt32.toUInt16.toUInt32.toInt32)) := (i2c_rng _)
    exact W0.iret hx hlk hret (by simp) (ch_nar16 hq) (hb hby d1_48) ⟨_, rfl, hq, rfl⟩ (by decide) (by decide)
   ·refine Fi.by' (st' := s₁.setTop (mkF m 55 #[.val (.int xx), .val (.int (xx &&& (65535 : Int32))), .val (.int (((xx.toUInt32 >>> ((16 : Int32) &&& 31).toUInt32).toInt32) &&& (3 : Int32))), .val (.int ((xx &&& (65535 : Int32)) &&& (7 : Int32)))] [(.int ((xx &&& (65535 : Int32)) &&& (7 : Int32)))])) (fun t k => ?_) ?_
    ·refine XS.icmpYes W0.here hx rfl (pc0 := 36) (pc' := 49) rfl (hb hby d1_36) rfl (feq hc36_3).2 (by decide) (by decide) ?_
     refine XS.iloadN W0.here hx rfl (hb hby d1_49) rfl ?_
     refine bipushZ W0.here hx rfl (hb hby d1_50) (z := (7 : Int32)) rfl ?_
     refine XS.iand W0.here hx rfl (hb hby d1_52) rfl ?_
     refine XS.istoreN W0.here hx rfl (hb hby d1_53) rfl (l' := #[.val (.int xx), .val (.int (xx &&& (65535 : Int32))), .val (.int (((xx.toUInt32 >>> ((16 : Int32) &&& 31).toUInt32).toInt32) &&& (3 : Int32))), .val (.int ((xx &&& (65535 : Int32)) &&& (7 : Int32)))]) rfl ?_
     refine XS.iloadN W0.here hx rfl (hb hby d1_54) rfl ?_
     exact k
    by_cases hc55_4 : ((xx &&& (65535 : Int32)) &&& (7 : Int32)) = (0 : Int32)
    ·refine Fi.by' (st' := s₁.setTop (mkF m 58 #[.val (.int xx), .val (.int (xx &&& (65535 : Int32))), .val (.int (((xx.toUInt32 >>> ((16 : Int32) &&& 31).toUInt32).toInt32) &&& (3 : Int32))), .val (.int ((xx &&& (65535 : Int32)) &&& (7 : Int32)))] [])) (fun t k => ?_) ?_
     ·refine XS.ifNo W0.here hx rfl (hb hby d1_55) rfl ((if0 _ _).trans (teq hc55_4).2) ?_
      exact k
     refine W0.ldcI hx (ww hw 94 rfl) (g := (mkF m 58 #[.val (.int xx), .val (.int (xx &&& (65535 : Int32))), .val (.int (((xx.toUInt32 >>> ((16 : Int32) &&& 31).toUInt32).toInt32) &&& (3 : Int32))), .val (.int ((xx &&& (65535 : Int32)) &&& (7 : Int32)))] [])) rfl (hb hby d1_58) ?_
     change Fi _ _ _ _ _ _ _ _ _ _ (s₁.setTop (mkF m 60 #[.val (.int xx), .val (.int (xx &&& (65535 : Int32))), .val (.int (((xx.toUInt32 >>> ((16 : Int32) &&& 31).toUInt32).toInt32) &&& (3 : Int32))), .val (.int ((xx &&& (65535 : Int32)) &&& (7 : Int32)))] [(.int (55295 : Int32))]))
     have hq : (¬ (55295 : Int32) < 0 ∧ ¬ (65535 : Int32) < (55295 : Int32)) := (by decide)
     exact W0.iret hx hlk hret (by simp) (ch_nar16 hq) (hb hby d1_60) ⟨_, rfl, hq, rfl⟩ (by decide) (by decide)
    ·refine Fi.by' (st' := s₁.setTop (mkF m 63 #[.val (.int xx), .val (.int (xx &&& (65535 : Int32))), .val (.int (((xx.toUInt32 >>> ((16 : Int32) &&& 31).toUInt32).toInt32) &&& (3 : Int32))), .val (.int ((xx &&& (65535 : Int32)) &&& (7 : Int32)))] [(.int (1 : Int32)), (.int ((xx &&& (65535 : Int32)) &&& (7 : Int32)))])) (fun t k => ?_) ?_
     ·refine XS.ifYes W0.here hx rfl (pc0 := 55) (pc' := 61) rfl (hb hby d1_55) rfl ((if0 _ _).trans (feq hc55_4).2) (by decide) (by decide) ?_
      refine XS.iloadN W0.here hx rfl (hb hby d1_61) rfl ?_
      refine iconstZ W0.here hx rfl (hb hby d1_62) (z := (1 : Int32)) rfl ?_
      exact k
     by_cases hc63_5 : ((xx &&& (65535 : Int32)) &&& (7 : Int32)) = (1 : Int32)
     ·refine Fi.by' (st' := s₁.setTop (mkF m 66 #[.val (.int xx), .val (.int (xx &&& (65535 : Int32))), .val (.int (((xx.toUInt32 >>> ((16 : Int32) &&& 31).toUInt32).toInt32) &&& (3 : Int32))), .val (.int ((xx &&& (65535 : Int32)) &&& (7 : Int32)))] [])) (fun t k => ?_) ?_
      ·refine XS.icmpNo W0.here hx rfl (hb hby d1_63) rfl (teq hc63_5).2 ?_
       exact k
      refine W0.ldcI hx (ww hw 59 rfl) (g := (mkF m 66 #[.val (.int xx), .val (.int (xx &&& (65535 : Int32))), .val (.int (((xx.toUInt32 >>> ((16 : Int32) &&& 31).toUInt32).toInt32) &&& (3 : Int32))), .val (.int ((xx &&& (65535 : Int32)) &&& (7 : Int32)))] [])) rfl (hb hby d1_66) ?_
      change Fi _ _ _ _ _ _ _ _ _ _ (s₁.setTop (mkF m 68 #[.val (.int xx), .val (.int (xx &&& (65535 : Int32))), .val (.int (((xx.toUInt32 >>> ((16 : Int32) &&& 31).toUInt32).toInt32) &&& (3 : Int32))), .val (.int ((xx &&& (65535 : Int32)) &&& (7 : Int32)))] [(.int (55296 : Int32))]))
      have hq : (¬ (55296 : Int32) < 0 ∧ ¬ (65535 : Int32) < (55296 : Int32)) := (by decide)
      exact W0.iret hx hlk hret (by simp) (ch_nar16 hq) (hb hby d1_68) ⟨_, rfl, hq, rfl⟩ (by decide) (by decide)
     ·refine Fi.by' (st' := s₁.setTop (mkF m 71 #[.val (.int xx), .val (.int (xx &&& (65535 : Int32))), .val (.int (((xx.toUInt32 >>> ((16 : Int32) &&& 31).toUInt32).toInt32) &&& (3 : Int32))), .val (.int ((xx &&& (65535 : Int32)) &&& (7 : Int32)))] [(.int (2 : Int32)), (.int ((xx &&& (65535 : Int32)) &&& (7 : Int32)))])) (fun t k => ?_) ?_
      ·refine XS.icmpYes W0.here hx rfl (pc0 := 63) (pc' := 69) rfl (hb hby d1_63) rfl (feq hc63_5).2 (by decide) (by decide) ?_
       refine XS.iloadN W0.here hx rfl (hb hby d1_69) rfl ?_
       refine iconstZ W0.here hx rfl (hb hby d1_70) (z := (2 : Int32)) rfl ?_
       exact k
      by_cases hc71_6 : ((xx &&& (65535 : Int32)) &&& (7 : Int32)) = (2 : Int32)
      ·refine Fi.by' (st' := s₁.setTop (mkF m 74 #[.val (.int xx), .val (.int (xx &&& (65535 : Int32))), .val (.int (((xx.toUInt32 >>> ((16 : Int32) &&& 31).toUInt32).toInt32) &&& (3 : Int32))), .val (.int ((xx &&& (65535 : Int32)) &&& (7 : Int32)))] [])) (fun t k => ?_) ?_
       ·refine XS.icmpNo W0.here hx rfl (hb hby d1_71) rfl (teq hc71_6).2 ?_
        exact k
       refine W0.ldcI hx (ww hw 114 rfl) (g := (mkF m 74 #[.val (.int xx), .val (.int (xx &&& (65535 : Int32))), .val (.int (((xx.toUInt32 >>> ((16 : Int32) &&& 31).toUInt32).toInt32) &&& (3 : Int32))), .val (.int ((xx &&& (65535 : Int32)) &&& (7 : Int32)))] [])) rfl (hb hby d1_74) ?_
       change Fi _ _ _ _ _ _ _ _ _ _ (s₁.setTop (mkF m 76 #[.val (.int xx), .val (.int (xx &&& (65535 : Int32))), .val (.int (((xx.toUInt32 >>> ((16 : Int32) &&& 31).toUInt32).toInt32) &&& (3 : Int32))), .val (.int ((xx &&& (65535 : Int32)) &&& (7 : Int32)))] [(.int (56319 : Int32))]))
       have hq : (¬ (56319 : Int32) < 0 ∧ ¬ (65535 : Int32) < (56319 : Int32)) := (by decide)
       exact W0.iret hx hlk hret (by simp) (ch_nar16 hq) (hb hby d1_76) ⟨_, rfl, hq, rfl⟩ (by decide) (by decide)
      ·refine Fi.by' (st' := s₁.setTop (mkF m 79 #[.val (.int xx), .val (.int (xx &&& (65535 : Int32))), .val (.int (((xx.toUInt32 >>> ((16 : Int32) &&& 31).toUInt32).toInt32) &&& (3 : Int32))), .val (.int ((xx &&& (65535 : Int32)) &&& (7 : Int32)))] [(.int (3 : Int32)), (.int ((xx &&& (65535 : Int32)) &&& (7 : Int32)))])) (fun t k => ?_) ?_
       ·refine XS.icmpYes W0.here hx rfl (pc0 := 71) (pc' := 77) rfl (hb hby d1_71) rfl (feq hc71_6).2 (by decide) (by decide) ?_
        refine XS.iloadN W0.here hx rfl (hb hby d1_77) rfl ?_
        refine iconstZ W0.here hx rfl (hb hby d1_78) (z := (3 : Int32)) rfl ?_
        exact k
       by_cases hc79_7 : ((xx &&& (65535 : Int32)) &&& (7 : Int32)) = (3 : Int32)
       ·refine Fi.by' (st' := s₁.setTop (mkF m 82 #[.val (.int xx), .val (.int (xx &&& (65535 : Int32))), .val (.int (((xx.toUInt32 >>> ((16 : Int32) &&& 31).toUInt32).toInt32) &&& (3 : Int32))), .val (.int ((xx &&& (65535 : Int32)) &&& (7 : Int32)))] [])) (fun t k => ?_) ?_
        ·refine XS.icmpNo W0.here hx rfl (hb hby d1_79) rfl (teq hc79_7).2 ?_
         exact k
        refine W0.ldcI hx (ww hw 63 rfl) (g := (mkF m 82 #[.val (.int xx), .val (.int (xx &&& (65535 : Int32))), .val (.int (((xx.toUInt32 >>> ((16 : Int32) &&& 31).toUInt32).toInt32) &&& (3 : Int32))), .val (.int ((xx &&& (65535 : Int32)) &&& (7 : Int32)))] [])) rfl (hb hby d1_82) ?_
        change Fi _ _ _ _ _ _ _ _ _ _ (s₁.setTop (mkF m 84 #[.val (.int xx), .val (.int (xx &&& (65535 : Int32))), .val (.int (((xx.toUInt32 >>> ((16 : Int32) &&& 31).toUInt32).toInt32) &&& (3 : Int32))), .val (.int ((xx &&& (65535 : Int32)) &&& (7 : Int32)))] [(.int (56320 : Int32))]))
        have hq : (¬ (56320 : Int32) < 0 ∧ ¬ (65535 : Int32) < (56320 : Int32)) := (by decide)
        exact W0.iret hx hlk hret (by simp) (ch_nar16 hq) (hb hby d1_84) ⟨_, rfl, hq, rfl⟩ (by decide) (by decide)
       ·refine Fi.by' (st' := s₁.setTop (mkF m 87 #[.val (.int xx), .val (.int (xx &&& (65535 : Int32))), .val (.int (((xx.toUInt32 >>> ((16 : Int32) &&& 31).toUInt32).toInt32) &&& (3 : Int32))), .val (.int ((xx &&& (65535 : Int32)) &&& (7 : Int32)))] [(.int (4 : Int32)), (.int ((xx &&& (65535 : Int32)) &&& (7 : Int32)))])) (fun t k => ?_) ?_
        ·refine XS.icmpYes W0.here hx rfl (pc0 := 79) (pc' := 85) rfl (hb hby d1_79) rfl (feq hc79_7).2 (by decide) (by decide) ?_
         refine XS.iloadN W0.here hx rfl (hb hby d1_85) rfl ?_
         refine iconstZ W0.here hx rfl (hb hby d1_86) (z := (4 : Int32)) rfl ?_
         exact k
        by_cases hc87_8 : ((xx &&& (65535 : Int32)) &&& (7 : Int32)) = (4 : Int32)
        ·refine Fi.by' (st' := s₁.setTop (mkF m 90 #[.val (.int xx), .val (.int (xx &&& (65535 : Int32))), .val (.int (((xx.toUInt32 >>> ((16 : Int32) &&& 31).toUInt32).toInt32) &&& (3 : Int32))), .val (.int ((xx &&& (65535 : Int32)) &&& (7 : Int32)))] [])) (fun t k => ?_) ?_
         ·refine XS.icmpNo W0.here hx rfl (hb hby d1_87) rfl (teq hc87_8).2 ?_
          exact k
         refine W0.ldcI hx (ww hw 115 rfl) (g := (mkF m 90 #[.val (.int xx), .val (.int (xx &&& (65535 : Int32))), .val (.int (((xx.toUInt32 >>> ((16 : Int32) &&& 31).toUInt32).toInt32) &&& (3 : Int32))), .val (.int ((xx &&& (65535 : Int32)) &&& (7 : Int32)))] [])) rfl (hb hby d1_90) ?_
         change Fi _ _ _ _ _ _ _ _ _ _ (s₁.setTop (mkF m 92 #[.val (.int xx), .val (.int (xx &&& (65535 : Int32))), .val (.int (((xx.toUInt32 >>> ((16 : Int32) &&& 31).toUInt32).toInt32) &&& (3 : Int32))), .val (.int ((xx &&& (65535 : Int32)) &&& (7 : Int32)))] [(.int (57343 : Int32))]))
         have hq : (¬ (57343 : Int32) < 0 ∧ ¬ (65535 : Int32) < (57343 : Int32)) := (by decide)
         exact W0.iret hx hlk hret (by simp) (ch_nar16 hq) (hb hby d1_92) ⟨_, rfl, hq, rfl⟩ (by decide) (by decide)
        ·refine Fi.by' (st' := s₁.setTop (mkF m 95 #[.val (.int xx), .val (.int (xx &&& (65535 : Int32))), .val (.int (((xx.toUInt32 >>> ((16 : Int32) &&& 31).toUInt32).toInt32) &&& (3 : Int32))), .val (.int ((xx &&& (65535 : Int32)) &&& (7 : Int32)))] [(.int (5 : Int32)), (.int ((xx &&& (65535 : Int32)) &&& (7 : Int32)))])) (fun t k => ?_) ?_
         ·refine XS.icmpYes W0.here hx rfl (pc0 := 87) (pc' := 93) rfl (hb hby d1_87) rfl (feq hc87_8).2 (by decide) (by decide) ?_
          refine XS.iloadN W0.here hx rfl (hb hby d1_93) rfl ?_
          refine iconstZ W0.here hx rfl (hb hby d1_94) (z := (5 : Int32)) rfl ?_
          exact k
         by_cases hc95_9 : ((xx &&& (65535 : Int32)) &&& (7 : Int32)) = (5 : Int32)
         ·refine Fi.by' (st' := s₁.setTop (mkF m 98 #[.val (.int xx), .val (.int (xx &&& (65535 : Int32))), .val (.int (((xx.toUInt32 >>> ((16 : Int32) &&& 31).toUInt32).toInt32) &&& (3 : Int32))), .val (.int ((xx &&& (65535 : Int32)) &&& (7 : Int32)))] [])) (fun t k => ?_) ?_
          ·refine XS.icmpNo W0.here hx rfl (hb hby d1_95) rfl (teq hc95_9).2 ?_
           exact k
          refine W0.ldcI hx (ww hw 128 rfl) (g := (mkF m 98 #[.val (.int xx), .val (.int (xx &&& (65535 : Int32))), .val (.int (((xx.toUInt32 >>> ((16 : Int32) &&& 31).toUInt32).toInt32) &&& (3 : Int32))), .val (.int ((xx &&& (65535 : Int32)) &&& (7 : Int32)))] [])) rfl (hb hby d1_98) ?_
          change Fi _ _ _ _ _ _ _ _ _ _ (s₁.setTop (mkF m 100 #[.val (.int xx), .val (.int (xx &&& (65535 : Int32))), .val (.int (((xx.toUInt32 >>> ((16 : Int32) &&& 31).toUInt32).toInt32) &&& (3 : Int32))), .val (.int ((xx &&& (65535 : Int32)) &&& (7 : Int32)))] [(.int (57344 : Int32))]))
          have hq : (¬ (57344 : Int32) < 0 ∧ ¬ (65535 : Int32) < (57344 : Int32)) := (by decide)
          exact W0.iret hx hlk hret (by simp) (ch_nar16 hq) (hb hby d1_100) ⟨_, rfl, hq, rfl⟩ (by decide) (by decide)
         ·refine Fi.by' (st' := s₁.setTop (mkF m 104 #[.val (.int xx), .val (.int (xx &&& (65535 : Int32))), .val (.int (((xx.toUInt32 >>> ((16 : Int32) &&& 31).toUInt32).toInt32) &&& (3 : Int32))), .val (.int ((xx &&& (65535 : Int32)) &&& (7 : Int32)))] [(.int (6 : Int32)), (.int ((xx &&& (65535 : Int32)) &&& (7 : Int32)))])) (fun t k => ?_) ?_
          ·refine XS.icmpYes W0.here hx rfl (pc0 := 95) (pc' := 101) rfl (hb hby d1_95) rfl (feq hc95_9).2 (by decide) (by decide) ?_
           refine XS.iloadN W0.here hx rfl (hb hby d1_101) rfl ?_
           refine bipushZ W0.here hx rfl (hb hby d1_102) (z := (6 : Int32)) rfl ?_
           exact k
          by_cases hc104_10 : ((xx &&& (65535 : Int32)) &&& (7 : Int32)) = (6 : Int32)
          ·refine Fi.by' (st' := s₁.setTop (mkF m 108 #[.val (.int xx), .val (.int (xx &&& (65535 : Int32))), .val (.int (((xx.toUInt32 >>> ((16 : Int32) &&& 31).toUInt32).toInt32) &&& (3 : Int32))), .val (.int ((xx &&& (65535 : Int32)) &&& (7 : Int32)))] [(.int (0 : Int32))])) (fun t k => ?_) ?_
           ·refine XS.icmpNo W0.here hx rfl (hb hby d1_104) rfl (teq hc104_10).2 ?_
            refine iconstZ W0.here hx rfl (hb hby d1_107) (z := (0 : Int32)) rfl ?_
            exact k
           have hq : (¬ (0 : Int32) < 0 ∧ ¬ (65535 : Int32) < (0 : Int32)) := (by decide)
           exact W0.iret hx hlk hret (by simp) (ch_nar16 hq) (hb hby d1_108) ⟨_, rfl, hq, rfl⟩ (by decide) (by decide)
          ·refine Fi.by' (st' := s₁.setTop (mkF m 109 #[.val (.int xx), .val (.int (xx &&& (65535 : Int32))), .val (.int (((xx.toUInt32 >>> ((16 : Int32) &&& 31).toUInt32).toInt32) &&& (3 : Int32))), .val (.int ((xx &&& (65535 : Int32)) &&& (7 : Int32)))] [])) (fun t k => ?_) ?_
           ·refine XS.icmpYes W0.here hx rfl (pc0 := 104) (pc' := 109) rfl (hb hby d1_104) rfl (feq hc104_10).2 (by decide) (by decide) ?_
            exact k
           refine W0.ldcI hx (ww hw 5 rfl) (g := (mkF m 109 #[.val (.int xx), .val (.int (xx &&& (65535 : Int32))), .val (.int (((xx.toUInt32 >>> ((16 : Int32) &&& 31).toUInt32).toInt32) &&& (3 : Int32))), .val (.int ((xx &&& (65535 : Int32)) &&& (7 : Int32)))] [])) rfl (hb hby d1_109) ?_
           change Fi _ _ _ _ _ _ _ _ _ _ (s₁.setTop (mkF m 111 #[.val (.int xx), .val (.int (xx &&& (65535 : Int32))), .val (.int (((xx.toUInt32 >>> ((16 : Int32) &&& 31).toUInt32).toInt32) &&& (3 : Int32))), .val (.int ((xx &&& (65535 : Int32)) &&& (7 : Int32)))] [(.int (65535 : Int32))]))
           have hq : (¬ (65535 : Int32) < 0 ∧ ¬ (65535 : Int32) < (65535 : Int32)) := (by decide)
           exact W0.iret hx hlk hret (by simp) (ch_nar16 hq) (hb hby d1_111) ⟨_, rfl, hq, rfl⟩ (by decide) (by decide)
def Q_enc0 (Z : State) (x : Addr) (zc  : Int32) (fm : Value) (h0 : Heap) (v : Option Value) (h : Heap) : Prop := v = some (.int (b2i (encB []))) ∧ h0 = h
set_option maxRecDepth 65536 in
set_option maxHeartbeats 40000000 in
theorem rm_enc0 (l : Launch) (Z : State) (a0 : Array Value) (hw : ∀ d ∈ tables_1, d.before a0 Z = true) (x : Addr) (zc  : Int32) (fm : Value) (h0 : Heap) (n0 : Nat) (Z0 : n0 ≤ h0.size) (S0 : Sta Z h0 "java/lang/String" "COMPACT_STRINGS" "Z" (.int zc)) (hz : ¬ zc = 0) (G0 : Sta Z h0 "jdk/internal/util/Preconditions" "SIOOBE_FORMATTER" "Ljava/util/function/BiFunction;" fm) (rf : fm.isRef = true) (D0 : Sta Z h0 "java/lang/StringUTF16" "$assertionsDisabled" "Z" (.int 1)) (HB0 : Sta Z h0 "java/lang/StringUTF16" "HI_BYTE_SHIFT" "I" (.int 0)) (LB0 : Sta Z h0 "java/lang/StringUTF16" "LO_BYTE_SHIFT" "I" (.int 8)) (A0 : StrA Z h0 x []) :
  Con l Z EL y_25 prog_46_method_4_code 3 (some .boolean) [] ({ frames := 2, cells := 0, slots := 0, locals := 26 } : Room) #[(.ref x)] h0 n0 (Q_enc0 Z x zc fm h0) := by
 refine Con.intro (own := "com/example/record_hold/recordhold/text/Utf8") rfl (plainFor_of_name plain_com_example_record_hold_recordhold_text_Utf8) (hEL hw) ?_
 intro p e s m below meth c s₁ hx hby hml hret hlk hnm W0
 refine Fi.cast (show entryFrame m #[(.ref x)] 3 = (mkF m 0 #[.val (.ref x), .unset, .unset] []) from by first | (simp [entryFrame, mkF, argsToLocals, Value.category]; done) | rfl) ?_
 refine Fi.by' (st' := s₁.setTop (mkF m 4 #[.val (.ref x), .val (.int (0 : Int32)), .unset] [(.ref x), (.int (0 : Int32))])) (fun t k => ?_) ?_
 ·refine iconstZ W0.here hx rfl (hb hby d5_0) (z := (0 : Int32)) rfl ?_
  refine XS.istoreN W0.here hx rfl (hb hby d5_1) rfl (l' := #[.val (.ref x), .val (.int (0 : Int32)), .unset]) rfl ?_
  refine XS.iloadN W0.here hx rfl (hb hby d5_2) rfl ?_
  refine XS.aloadN W0.here hx rfl (hb hby d5_3) rfl rfl ?_
  exact k
 refine W0.callV hx (y := y_0) (C := "java/lang/String") (ww hw 32 rfl) (ww hw 33 rfl) (ww hw 35 rfl) (ww hw 34 rfl) (by decide) (payLen (Wd := 1) hw A0 S0 hz (by decide) (by decide)) (A0).exa (g := (mkF m 4 #[.val (.ref x), .val (.int (0 : Int32)), .unset] [(.ref x), (.int (0 : Int32))])) rfl (by rw [hml]; rfl) (argsL := []) (rest := [(.int (0 : Int32))]) (lenOf pd_14 rfl) rfl rfl (ble_ rfl) (hb hby d5_4) (by decide) (by decide) (fun v1 T1 h1 W1 sz1 q1 => ?_)
 obtain ⟨rfl, rfl⟩ := q1
 change Fi _ _ _ _ _ _ _ _ _ _ (T1.setTop (mkF m 7 #[.val (.ref x), .val (.int (0 : Int32)), .unset] [(.int (0 : Int32)), (.int (0 : Int32))]))
 refine Fi.by' (st' := T1.setTop (mkF m 68 #[.val (.ref x), .val (.int (0 : Int32)), .unset] [(.int (1 : Int32))])) (fun t k => ?_) ?_
 ·refine XS.icmpYes W1.here hx rfl (pc0 := 7) (pc' := 67) rfl (hb hby d5_7) rfl (flt (by decide : ¬ ((0 : Int32) < (0 : Int32)))).2.1 (by decide) (by decide) ?_
  refine iconstZ W1.here hx rfl (hb hby d5_67) (z := (1 : Int32)) rfl ?_
  exact k
 have hv : b2i (encB []) = (1 : Int32) := by simp [b2i, encB]
 exact W1.iret hx hlk hret (by simp) rfl (hb hby d5_68) ⟨by rw [hv], rfl⟩ (by decide) (by decide)
def Q_law (Z : State) (p0 p1 p2 p3 p4 zc : Int32) (fm : Value) (h0 : Heap) (v : Option Value) (h : Heap) : Prop := v = some (.int 1)
set_option maxRecDepth 65536 in
set_option maxHeartbeats 40000000 in
theorem rm_law (l : Launch) (Z : State) (a0 : Array Value) (hw : ∀ d ∈ tables_1, d.before a0 Z = true) (p0 p1 p2 p3 p4 zc : Int32) (fm : Value) (h0 : Heap) (n0 : Nat) (Z0 : n0 ≤ h0.size) (S0 : Sta Z h0 "java/lang/String" "COMPACT_STRINGS" "Z" (.int zc)) (hz : ¬ zc = 0) (G0 : Sta Z h0 "jdk/internal/util/Preconditions" "SIOOBE_FORMATTER" "Ljava/util/function/BiFunction;" fm) (rf : fm.isRef = true) (D0 : Sta Z h0 "java/lang/StringUTF16" "$assertionsDisabled" "Z" (.int 1)) (HB0 : Sta Z h0 "java/lang/StringUTF16" "HI_BYTE_SHIFT" "I" (.int 0)) (LB0 : Sta Z h0 "java/lang/StringUTF16" "LO_BYTE_SHIFT" "I" (.int 8)) (hn0 : ((p4 &&& (2147483647 : Int32)) - ((p4 &&& (2147483647 : Int32)) / (5 : Int32)) * (5 : Int32)) = 0) :
  Con l Z EL x code maxLocals ret tables_1 room_1 #[(.int p0), (.int p1), (.int p2), (.int p3), (.int p4)] h0 n0 (Q_law Z p0 p1 p2 p3 p4 zc fm h0) := by
 refine Con.intro (own := "com/example/record_hold/recordhold/text/Utf8CanEncodePinLaw") rfl (plainFor_of_name plain_com_example_record_hold_recordhold_text_Utf8CanEncodePinLaw) (hEL hw) ?_
 intro p e s m below meth c s₁ hx hby hml hret hlk hnm W0
 refine Fi.cast (show entryFrame m #[(.int p0), (.int p1), (.int p2), (.int p3), (.int p4)] maxLocals = (mkF m 0 #[.val (.int p0), .val (.int p1), .val (.int p2), .val (.int p3), .val (.int p4), .unset, .unset, .unset, .unset, .unset, .unset, .unset, .unset] []) from by first | (simp [entryFrame, mkF, argsToLocals, Value.category, maxLocals]; done) | rfl) ?_
 refine Fi.by' (st' := s₁.setTop (mkF m 2 #[.val (.int p0), .val (.int p1), .val (.int p2), .val (.int p3), .val (.int p4), .unset, .unset, .unset, .unset, .unset, .unset, .unset, .unset] [(.int p4)])) (fun t k => ?_) ?_
 ·refine XS.iload W0.here hx rfl (hb hby at_0) rfl ?_
  exact k
 refine W0.ldcI hx (ww hw 0 rfl) (g := (mkF m 2 #[.val (.int p0), .val (.int p1), .val (.int p2), .val (.int p3), .val (.int p4), .unset, .unset, .unset, .unset, .unset, .unset, .unset, .unset] [(.int p4)])) rfl (hb hby at_2) ?_
 change Fi _ _ _ _ _ _ _ _ _ _ (s₁.setTop (mkF m 4 #[.val (.int p0), .val (.int p1), .val (.int p2), .val (.int p3), .val (.int p4), .unset, .unset, .unset, .unset, .unset, .unset, .unset, .unset] [(.int (2147483647 : Int32)), (.int p4)]))
 refine Fi.by' (st' := s₁.setTop (mkF m 7 #[.val (.int p0), .val (.int p1), .val (.int p2), .val (.int p3), .val (.int p4), .unset, .unset, .unset, .unset, .unset, .unset, .unset, .unset] [(.int ((p4 &&& (2147483647 : Int32)) - ((p4 &&& (2147483647 : Int32)) / (5 : Int32)) * (5 : Int32)))])) (fun t k => ?_) ?_
 ·refine XS.iand W0.here hx rfl (hb hby at_4) rfl ?_
  refine iconstZ W0.here hx rfl (hb hby at_5) (z := (5 : Int32)) rfl ?_
  refine XS.irem W0.here hx rfl (hb hby at_6) rfl (by decide) ?_
  exact k
 rw [show ((p4 &&& (2147483647 : Int32)) - ((p4 &&& (2147483647 : Int32)) / (5 : Int32)) * (5 : Int32)) = (0 : Int32) from hn0]
 refine Fi.by' (st' := s₁.setTop (mkF m 10 #[.val (.int p0), .val (.int p1), .val (.int p2), .val (.int p3), .val (.int p4), .val (.int (0 : Int32)), .unset, .unset, .unset, .unset, .unset, .unset, .unset] [(.int p0)])) (fun t k => ?_) ?_
 ·refine XS.istore W0.here hx rfl (hb hby at_7) rfl (l' := #[.val (.int p0), .val (.int p1), .val (.int p2), .val (.int p3), .val (.int p4), .val (.int (0 : Int32)), .unset, .unset, .unset, .unset, .unset, .unset, .unset]) rfl ?_
  refine XS.iloadN W0.here hx rfl (hb hby at_9) rfl ?_
  exact k
 refine W0.callS hx (y := y_2) (ww hw 1 rfl) (ww hw 2 rfl) (ww hw 3 rfl) (ww hw 4 rfl) (by decide) (Pay.of_con (Wd := 0) (rm_draw l Z a0 hw p0 h0 n0 (by omega)) (ww hw 4 rfl) (ww hw 3 rfl) (hEL hw) (by decide) (by decide)) (g := (mkF m 10 #[.val (.int p0), .val (.int p1), .val (.int p2), .val (.int p3), .val (.int p4), .val (.int (0 : Int32)), .unset, .unset, .unset, .unset, .unset, .unset, .unset] [(.int p0)])) rfl (by rw [hml]; rfl) (argsL := [(.int p0)]) (rest := []) (lenOf pd_15 rfl) rfl rfl (ble_ rfl) (hb hby at_10) (by decide) (by decide) (fun v1 T1 h1 W1 sz1 q1 => ?_)
 obtain ⟨c0, rfl, P_c0, rfl⟩ := q1
 change Fi _ _ _ _ _ _ _ _ _ _ (T1.setTop (mkF m 13 #[.val (.int p0), .val (.int p1), .val (.int p2), .val (.int p3), .val (.int p4), .val (.int (0 : Int32)), .unset, .unset, .unset, .unset, .unset, .unset, .unset] [(.int c0)]))
 refine Fi.by' (st' := T1.setTop (mkF m 16 #[.val (.int p0), .val (.int p1), .val (.int p2), .val (.int p3), .val (.int p4), .val (.int (0 : Int32)), .val (.int c0), .unset, .unset, .unset, .unset, .unset, .unset] [(.int p1)])) (fun t k => ?_) ?_
 ·refine XS.istore W1.here hx rfl (hb hby at_13) rfl (l' := #[.val (.int p0), .val (.int p1), .val (.int p2), .val (.int p3), .val (.int p4), .val (.int (0 : Int32)), .val (.int c0), .unset, .unset, .unset, .unset, .unset, .unset]) rfl ?_
  refine XS.iloadN W1.here hx rfl (hb hby at_15) rfl ?_
  exact k
 refine W1.callS hx (y := y_2) (ww hw 1 rfl) (ww hw 2 rfl) (ww hw 3 rfl) (ww hw 4 rfl) (by decide) (Pay.of_con (Wd := 0) (rm_draw l Z a0 hw p1 h0 n0 (by omega)) (ww hw 4 rfl) (ww hw 3 rfl) (hEL hw) (by decide) (by decide)) (g := (mkF m 16 #[.val (.int p0), .val (.int p1), .val (.int p2), .val (.int p3), .val (.int p4), .val (.int (0 : Int32)), .val (.int c0), .unset, .unset, .unset, .unset, .unset, .unset] [(.int p1)])) rfl (by rw [hml]; rfl) (argsL := [(.int p1)]) (rest := []) (lenOf pd_15 rfl) rfl rfl (ble_ rfl) (hb hby at_16) (by decide) (by decide) (fun v2 T2 h2 W2 sz2 q2 => ?_)
 obtain ⟨c1, rfl, P_c1, rfl⟩ := q2
 change Fi _ _ _ _ _ _ _ _ _ _ (T2.setTop (mkF m 19 #[.val (.int p0), .val (.int p1), .val (.int p2), .val (.int p3), .val (.int p4), .val (.int (0 : Int32)), .val (.int c0), .unset, .unset, .unset, .unset, .unset, .unset] [(.int c1)]))
 refine Fi.by' (st' := T2.setTop (mkF m 22 #[.val (.int p0), .val (.int p1), .val (.int p2), .val (.int p3), .val (.int p4), .val (.int (0 : Int32)), .val (.int c0), .val (.int c1), .unset, .unset, .unset, .unset, .unset] [(.int p2)])) (fun t k => ?_) ?_
 ·refine XS.istore W2.here hx rfl (hb hby at_19) rfl (l' := #[.val (.int p0), .val (.int p1), .val (.int p2), .val (.int p3), .val (.int p4), .val (.int (0 : Int32)), .val (.int c0), .val (.int c1), .unset, .unset, .unset, .unset, .unset]) rfl ?_
  refine XS.iloadN W2.here hx rfl (hb hby at_21) rfl ?_
  exact k
 refine W2.callS hx (y := y_2) (ww hw 1 rfl) (ww hw 2 rfl) (ww hw 3 rfl) (ww hw 4 rfl) (by decide) (Pay.of_con (Wd := 0) (rm_draw l Z a0 hw p2 h0 n0 (by omega)) (ww hw 4 rfl) (ww hw 3 rfl) (hEL hw) (by decide) (by decide)) (g := (mkF m 22 #[.val (.int p0), .val (.int p1), .val (.int p2), .val (.int p3), .val (.int p4), .val (.int (0 : Int32)), .val (.int c0), .val (.int c1), .unset, .unset, .unset, .unset, .unset] [(.int p2)])) rfl (by rw [hml]; rfl) (argsL := [(.int p2)]) (rest := []) (lenOf pd_15 rfl) rfl rfl (ble_ rfl) (hb hby at_22) (by decide) (by decide) (fun v3 T3 h3 W3 sz3 q3 => ?_)
 obtain ⟨c2, rfl, P_c2, rfl⟩ := q3
 change Fi _ _ _ _ _ _ _ _ _ _ (T3.setTop (mkF m 25 #[.val (.int p0), .val (.int p1), .val (.int p2), .val (.int p3), .val (.int p4), .val (.int (0 : Int32)), .val (.int c0), .val (.int c1), .unset, .unset, .unset, .unset, .unset] [(.int c2)]))
 refine Fi.by' (st' := T3.setTop (mkF m 28 #[.val (.int p0), .val (.int p1), .val (.int p2), .val (.int p3), .val (.int p4), .val (.int (0 : Int32)), .val (.int c0), .val (.int c1), .val (.int c2), .unset, .unset, .unset, .unset] [(.int p3)])) (fun t k => ?_) ?_
 ·refine XS.istore W3.here hx rfl (hb hby at_25) rfl (l' := #[.val (.int p0), .val (.int p1), .val (.int p2), .val (.int p3), .val (.int p4), .val (.int (0 : Int32)), .val (.int c0), .val (.int c1), .val (.int c2), .unset, .unset, .unset, .unset]) rfl ?_
  refine XS.iloadN W3.here hx rfl (hb hby at_27) rfl ?_
  exact k
 refine W3.callS hx (y := y_2) (ww hw 1 rfl) (ww hw 2 rfl) (ww hw 3 rfl) (ww hw 4 rfl) (by decide) (Pay.of_con (Wd := 0) (rm_draw l Z a0 hw p3 h0 n0 (by omega)) (ww hw 4 rfl) (ww hw 3 rfl) (hEL hw) (by decide) (by decide)) (g := (mkF m 28 #[.val (.int p0), .val (.int p1), .val (.int p2), .val (.int p3), .val (.int p4), .val (.int (0 : Int32)), .val (.int c0), .val (.int c1), .val (.int c2), .unset, .unset, .unset, .unset] [(.int p3)])) rfl (by rw [hml]; rfl) (argsL := [(.int p3)]) (rest := []) (lenOf pd_15 rfl) rfl rfl (ble_ rfl) (hb hby at_28) (by decide) (by decide) (fun v4 T4 h4 W4 sz4 q4 => ?_)
 obtain ⟨c3, rfl, P_c3, rfl⟩ := q4
 change Fi _ _ _ _ _ _ _ _ _ _ (T4.setTop (mkF m 31 #[.val (.int p0), .val (.int p1), .val (.int p2), .val (.int p3), .val (.int p4), .val (.int (0 : Int32)), .val (.int c0), .val (.int c1), .val (.int c2), .unset, .unset, .unset, .unset] [(.int c3)]))
 refine Fi.by' (st' := T4.setTop (mkF m 35 #[.val (.int p0), .val (.int p1), .val (.int p2), .val (.int p3), .val (.int p4), .val (.int (0 : Int32)), .val (.int c0), .val (.int c1), .val (.int c2), .val (.int c3), .unset, .unset, .unset] [(.int (0 : Int32))])) (fun t k => ?_) ?_
 ·refine XS.istore W4.here hx rfl (hb hby at_31) rfl (l' := #[.val (.int p0), .val (.int p1), .val (.int p2), .val (.int p3), .val (.int p4), .val (.int (0 : Int32)), .val (.int c0), .val (.int c1), .val (.int c2), .val (.int c3), .unset, .unset, .unset]) rfl ?_
  refine XS.iload W4.here hx rfl (hb hby at_33) rfl ?_
  exact k
 refine W4.newP hx (aty := .char) (ww hw 6 rfl) (g := (mkF m 35 #[.val (.int p0), .val (.int p1), .val (.int p2), .val (.int p3), .val (.int p4), .val (.int (0 : Int32)), .val (.int c0), .val (.int c1), .val (.int c2), .val (.int c3), .unset, .unset, .unset] [(.int (0 : Int32))])) rfl (hb hby at_35) rfl (by decide) (cap := 0) (by decide) (by decide) (by decide) (by decide) (fun T5 h5 a5 k5 ha5 W5 E5 A5 => ?_)
 change Fi _ _ _ _ _ _ _ _ _ _ (T5.setTop (mkF m 37 #[.val (.int p0), .val (.int p1), .val (.int p2), .val (.int p3), .val (.int p4), .val (.int (0 : Int32)), .val (.int c0), .val (.int c1), .val (.int c2), .val (.int c3), .unset, .unset, .unset] [(.ref a5)]))
 have sz5 := E5.1
 have V5 : Arv Z h5 a5 k5 .char (0 : Int32) (([] : List Int32).map Value.int) (.int (0 : Int32)) := A5.pad (pad_rep [] (.int (0 : Int32)) 0)
 refine Fi.by' (st' := T5.setTop (mkF m 86 #[.val (.int p0), .val (.int p1), .val (.int p2), .val (.int p3), .val (.int p4), .val (.int (0 : Int32)), .val (.int c0), .val (.int c1), .val (.int c2), .val (.int c3), .val (.ref a5), .unset, .unset] [])) (fun t k => ?_) ?_
 ·refine XS.astore W5.here hx rfl (hb hby at_37) rfl rfl (l' := #[.val (.int p0), .val (.int p1), .val (.int p2), .val (.int p3), .val (.int p4), .val (.int (0 : Int32)), .val (.int c0), .val (.int c1), .val (.int c2), .val (.int c3), .val (.ref a5), .unset, .unset]) rfl ?_
  refine XS.iload W5.here hx rfl (hb hby at_39) rfl ?_
  refine XS.ifYes W5.here hx rfl (pc0 := 41) (pc' := 50) rfl (hb hby at_41) rfl ((if0 _ _).trans (flt (by decide : ¬ ((0 : Int32) < (0 : Int32)))).2.2.2) (by decide) (by decide) ?_
  refine XS.iload W5.here hx rfl (hb hby at_50) rfl ?_
  refine iconstZ W5.here hx rfl (hb hby at_52) (z := (1 : Int32)) rfl ?_
  refine XS.icmpYes W5.here hx rfl (pc0 := 53) (pc' := 62) rfl (hb hby at_53) rfl (flt (by decide : ¬ ((1 : Int32) < (0 : Int32)))).2.2.2 (by decide) (by decide) ?_
  refine XS.iload W5.here hx rfl (hb hby at_62) rfl ?_
  refine iconstZ W5.here hx rfl (hb hby at_64) (z := (2 : Int32)) rfl ?_
  refine XS.icmpYes W5.here hx rfl (pc0 := 65) (pc' := 74) rfl (hb hby at_65) rfl (flt (by decide : ¬ ((2 : Int32) < (0 : Int32)))).2.2.2 (by decide) (by decide) ?_
  refine XS.iload W5.here hx rfl (hb hby at_74) rfl ?_
  refine iconstZ W5.here hx rfl (hb hby at_76) (z := (3 : Int32)) rfl ?_
  refine XS.icmpYes W5.here hx rfl (pc0 := 77) (pc' := 86) rfl (hb hby at_77) rfl (flt (by decide : ¬ ((3 : Int32) < (0 : Int32)))).2.2.2 (by decide) (by decide) ?_
  exact k
 refine W5.new hx (ww hw 7 rfl) (ww hw 8 rfl) (ww hw 9 rfl) (g := (mkF m 86 #[.val (.int p0), .val (.int p1), .val (.int p2), .val (.int p3), .val (.int p4), .val (.int (0 : Int32)), .val (.int c0), .val (.int c1), .val (.int c2), .val (.int c3), .val (.ref a5), .unset, .unset] [])) rfl (hb hby at_86) (by decide) (by decide) (fun T6 h6 a6 ha6 W6 E6 A6 D6 => ?_)
 change Fi _ _ _ _ _ _ _ _ _ _ (T6.setTop (mkF m 89 #[.val (.int p0), .val (.int p1), .val (.int p2), .val (.int p3), .val (.int p4), .val (.int (0 : Int32)), .val (.int c0), .val (.int c1), .val (.int c2), .val (.int c3), .val (.ref a5), .unset, .unset] [(.ref a6)]))
 have sz6 := E6.1
 refine Fi.by' (st' := T6.setTop (mkF m 92 #[.val (.int p0), .val (.int p1), .val (.int p2), .val (.int p3), .val (.int p4), .val (.int (0 : Int32)), .val (.int c0), .val (.int c1), .val (.int c2), .val (.int c3), .val (.ref a5), .unset, .unset] [(.ref a5), (.ref a6), (.ref a6)])) (fun t k => ?_) ?_
 ·refine XS.dup W6.here hx rfl (hb hby at_89) rfl rfl ?_
  refine XS.aload W6.here hx rfl (hb hby at_90) rfl rfl ?_
  exact k
 refine W6.callI hx (y := y_18) rfl (ww hw 10 rfl) (ww hw 11 rfl) (ww hw 12 rfl) (by decide) (payE (Wd := 1) hw (by omega) (by omega) A6 (D6 (Or.inr (ww hw 22 rfl)) (ty := (.array .byte)) (by decide)) (D6 (Or.inr (ww hw 23 rfl)) (ty := .byte) (by decide)) (V5.ext E6) (by decide) (by decide)) (a := a6) (g := (mkF m 92 #[.val (.int p0), .val (.int p1), .val (.int p2), .val (.int p3), .val (.int p4), .val (.int (0 : Int32)), .val (.int c0), .val (.int c1), .val (.int c2), .val (.int c3), .val (.ref a5), .unset, .unset] [(.ref a5), (.ref a6), (.ref a6)])) rfl (by rw [hml]; rfl) (argsL := [(.ref a5)]) (rest := [(.ref a6)]) (lenOf pd_16 rfl) rfl rfl (ble_ rfl) (hb hby at_92) (by decide) (by decide) (fun v7 T7 h7 W7 sz7 q7 => ?_)
 obtain ⟨rfl, K7, F7⟩ := q7
 change Fi _ _ _ _ _ _ _ _ _ _ (T7.setTop (mkF m 95 #[.val (.int p0), .val (.int p1), .val (.int p2), .val (.int p3), .val (.int p4), .val (.int (0 : Int32)), .val (.int c0), .val (.int c1), .val (.int c2), .val (.int c3), .val (.ref a5), .unset, .unset] [(.ref a6)]))
 have x7k : Ext h5 h7 := ext_keep1 E6 K7 (by omega)
 refine Fi.by' (st' := T7.setTop (mkF m 216 #[.val (.int p0), .val (.int p1), .val (.int p2), .val (.int p3), .val (.int p4), .val (.int (0 : Int32)), .val (.int c0), .val (.int c1), .val (.int c2), .val (.int c3), .val (.ref a5), .val (.ref a6), .val (.int (1 : Int32))] [(.ref a6)])) (fun t k => ?_) ?_
 ·refine XS.astore W7.here hx rfl (hb hby at_95) rfl rfl (l' := #[.val (.int p0), .val (.int p1), .val (.int p2), .val (.int p3), .val (.int p4), .val (.int (0 : Int32)), .val (.int c0), .val (.int c1), .val (.int c2), .val (.int c3), .val (.ref a5), .val (.ref a6), .unset]) rfl ?_
  refine XS.iload W7.here hx rfl (hb hby at_97) rfl ?_
  refine iconstZ W7.here hx rfl (hb hby at_99) (z := (1 : Int32)) rfl ?_
  refine XS.icmpYes W7.here hx rfl (pc0 := 100) (pc' := 127) rfl (hb hby at_100) rfl (tlt (by decide : ((0 : Int32) < (1 : Int32)))).1 (by decide) (by decide) ?_
  refine XS.iload W7.here hx rfl (hb hby at_127) rfl ?_
  refine iconstZ W7.here hx rfl (hb hby at_129) (z := (2 : Int32)) rfl ?_
  refine XS.icmpYes W7.here hx rfl (pc0 := 130) (pc' := 157) rfl (hb hby at_130) rfl (tlt (by decide : ((0 : Int32) < (2 : Int32)))).1 (by decide) (by decide) ?_
  refine XS.iload W7.here hx rfl (hb hby at_157) rfl ?_
  refine iconstZ W7.here hx rfl (hb hby at_159) (z := (3 : Int32)) rfl ?_
  refine XS.icmpYes W7.here hx rfl (pc0 := 160) (pc' := 187) rfl (hb hby at_160) rfl (tlt (by decide : ((0 : Int32) < (3 : Int32)))).1 (by decide) (by decide) ?_
  refine XS.iload W7.here hx rfl (hb hby at_187) rfl ?_
  refine iconstZ W7.here hx rfl (hb hby at_189) (z := (4 : Int32)) rfl ?_
  refine XS.icmpYes W7.here hx rfl (pc0 := 190) (pc' := 207) rfl (hb hby at_190) rfl (tlt (by decide : ((0 : Int32) < (4 : Int32)))).1 (by decide) (by decide) ?_
  refine iconstZ W7.here hx rfl (hb hby at_207) (z := (1 : Int32)) rfl ?_
  refine XS.goto W7.here hx rfl (pc0 := 208) (pc' := 212) rfl (hb hby at_208) (by decide) (by decide) ?_
  refine XS.istore W7.here hx rfl (hb hby at_212) rfl (l' := #[.val (.int p0), .val (.int p1), .val (.int p2), .val (.int p3), .val (.int p4), .val (.int (0 : Int32)), .val (.int c0), .val (.int c1), .val (.int c2), .val (.int c3), .val (.ref a5), .val (.ref a6), .val (.int (1 : Int32))]) rfl ?_
  refine XS.aload W7.here hx rfl (hb hby at_214) rfl rfl ?_
  exact k
 have x8 : Ext h0 h7 := ext_trans E5 x7k
 refine W7.callS hx (y := y_25) (ww hw 28 rfl) (ww hw 29 rfl) (ww hw 30 rfl) (ww hw 31 rfl) (by decide) (Pay.of_con (Wd := 0) (rm_enc0 l Z a0 hw a6 zc fm h7 n0 (by omega) (Sta.ext x8 S0) hz (Sta.ext x8 G0) rf (Sta.ext x8 D0) (Sta.ext x8 HB0) (Sta.ext x8 LB0) (StrA.of_l F7)) (ww hw 31 rfl) (ww hw 30 rfl) (hEL hw) (by decide) (by decide)) (g := (mkF m 216 #[.val (.int p0), .val (.int p1), .val (.int p2), .val (.int p3), .val (.int p4), .val (.int (0 : Int32)), .val (.int c0), .val (.int c1), .val (.int c2), .val (.int c3), .val (.ref a5), .val (.ref a6), .val (.int (1 : Int32))] [(.ref a6)])) rfl (by rw [hml]; rfl) (argsL := [(.ref a6)]) (rest := []) (lenOf pd_18 rfl) rfl rfl (ble_ rfl) (hb hby at_216) (by decide) (by decide) (fun v9 T9 h9 W9 sz9 q9 => ?_)
 obtain ⟨rfl, rfl⟩ := q9
 change Fi _ _ _ _ _ _ _ _ _ _ (T9.setTop (mkF m 219 #[.val (.int p0), .val (.int p1), .val (.int p2), .val (.int p3), .val (.int p4), .val (.int (0 : Int32)), .val (.int c0), .val (.int c1), .val (.int c2), .val (.int c3), .val (.ref a5), .val (.ref a6), .val (.int (1 : Int32))] [(.int (1 : Int32))]))
 refine Fi.by' (st' := T9.setTop (mkF m 229 #[.val (.int p0), .val (.int p1), .val (.int p2), .val (.int p3), .val (.int p4), .val (.int (0 : Int32)), .val (.int c0), .val (.int c1), .val (.int c2), .val (.int c3), .val (.ref a5), .val (.ref a6), .val (.int (1 : Int32))] [(.int (1 : Int32))])) (fun t k => ?_) ?_
 ·refine XS.iload W9.here hx rfl (hb hby at_219) rfl ?_
  refine XS.icmpNo W9.here hx rfl (hb hby at_221) rfl (teq (by decide : ((1 : Int32) = (1 : Int32)))).2 ?_
  refine iconstZ W9.here hx rfl (hb hby at_224) (z := (1 : Int32)) rfl ?_
  refine XS.goto W9.here hx rfl (pc0 := 225) (pc' := 229) rfl (hb hby at_225) (by decide) (by decide) ?_
  exact k
 exact W9.iret hx hlk hret (by simp) rfl (hb hby at_229) rfl (by decide) (by decide)
end NA
set_option maxRecDepth 65536 in
set_option maxHeartbeats 40000000 in
theorem comes_1 {Post : Tables → Env → Array Value → State → Outcome → State → Prop} (hpost : ∀ tb e args s v u, (limb_1_1.after args s (.returned v) u = true ∧ limb_1_2.after args s (.returned v) u = true ∧ True) → ReturnedEndW s (.returned v) u (Jvm.fieldLocs frame_1_writes args s ++ Jvm.arrayLocs frame_1_arrays args s ++ Jvm.staticLocs frame_1_statics s) 24 1152 → Post tb e args s (.returned v) u) :
  ArmFor flags0 classFile x code maxLocals ret World_1 tables_1 room_1 Calls_1 rest_1 Pre_1 Post := by
 intro l hfl _ _ p e ha hc hk s m args below hf hA hF happ hP
 obtain ⟨hcalls, hrest, hpre⟩ := hP
 obtain ⟨-, -, -, hnamed, -, -, -, hat⟩ := (Spec.applies_iff hf).mp happ
 obtain ⟨hg, hn⟩ := and_e (Cond.before_iff.mp (show (Jvm.Cond.and given_1 narrow_1).before args s = true from hpre))
 obtain ⟨g0a, g0b⟩ := and_e hg
 obtain ⟨g1a, g1b⟩ := and_e g0b
 obtain ⟨g2a, g2b⟩ := and_e g1b
 obtain ⟨g3a, g3b⟩ := and_e g2b
 obtain ⟨g4a, g4b⟩ := and_e g3b
 obtain ⟨w0, w1, w2, w3, w4, rfl⟩ : ∃ w0 w1 w2 w3 w4 : Value, args = #[w0, w1, w2, w3, w4] := by
  have hs : args.size = 5 := by simpa [Cond.value, given_1] using g0a
  obtain ⟨L⟩ := args
  match L, hs with
  | [w0, w1, w2, w3, w4], _ => exact ⟨w0, w1, w2, w3, w4, rfl⟩
 have hw := fun d (hd : d ∈ tables_1) => atoms_spec (ws := Jvm.Cond.code x code maxLocals ret :: tables_1) hat d (List.mem_cons_of_mem _ hd)
 have hfit : Fit s := fun {y c} hc i hi => by
  obtain ⟨ha, rfl⟩ := Array.getElem?_eq_some_iff.mp hc
  have q := List.all_eq_true.mp ((Array.all_eq_true_iff_forall_mem.mp hF) _ (Array.getElem_mem ha)) i (List.mem_range.mpr hi)
  simpa [Array.getElem?_eq_getElem hi] using q
 obtain ⟨hsets, hown0⟩ := atoms_of _ (rest_1_c_eq ▸ (show rest_1_c.before _ s = true from hrest))
 obtain ⟨i0, ei0⟩ := is_v g1a
 obtain rfl : w0 = (.int i0) := Option.some.inj ei0
 obtain ⟨i1, ei1⟩ := is_v g2a
 obtain rfl : w1 = (.int i1) := Option.some.inj ei1
 obtain ⟨i2, ei2⟩ := is_v g3a
 obtain rfl : w2 = (.int i2) := Option.some.inj ei2
 obtain ⟨i3, ei3⟩ := is_v g4a
 obtain rfl : w3 = (.int i3) := Option.some.inj ei3
 obtain ⟨i4, ei4⟩ := is_v g4b
 obtain rfl : w4 = (.int i4) := Option.some.inj ei4
 obtain ⟨zc, ezc⟩ := is_v (Cond.before_iff.mp (hsets _ (List.mem_of_getElem? (i := 1) rfl)))
 have S0 : Sta s s.heap "java/lang/String" "COMPACT_STRINGS" "Z" (.int zc) := Sta.start ezc (Or.inl (hsets _ (List.mem_of_getElem? (i := 0) rfl)))
 have hz : ¬ zc = 0 := fun q => by
  have q1 := not_v (Cond.before_iff.mp (hsets _ (List.mem_of_getElem? (i := 2) rfl)))
  have q2 := eq_i ezc (Term.int_eval (0)) (by rw [q] : (Value.int zc) = .int 0)
  rw [q2] at q1; cases q1
 have hcw : Jvm.Lit.compactW.before _ s = true := hsets _ (List.mem_of_getElem? (i := 2) rfl)
 have H0 : CHv s EL s.vm s.heap := CHv.start (hEL hw) (fun q hq => hcalls.1 q hq) hcw (ww hw 21 rfl) (ww hw 8 rfl)
 obtain ⟨fm, efm, rf⟩ := isR_v (Cond.before_iff.mp (hsets _ (List.mem_of_getElem? (i := 8) rfl)))
 have G0 : Sta s s.heap "jdk/internal/util/Preconditions" "SIOOBE_FORMATTER" "Ljava/util/function/BiFunction;" fm := Sta.start efm (Or.inl (hsets _ (List.mem_of_getElem? (i := 7) rfl)))
 have D0 : Sta s s.heap "java/lang/StringUTF16" "$assertionsDisabled" "Z" (.int 1) := Sta.start (eq_val (Cond.before_iff.mp (hsets _ (List.mem_of_getElem? (i := 12) rfl))) (Term.int_eval _)) (Or.inl (hsets _ (List.mem_of_getElem? (i := 11) rfl)))
 have HB0 : Sta s s.heap "java/lang/StringUTF16" "HI_BYTE_SHIFT" "I" (.int 0) := Sta.start (eq_val (Cond.before_iff.mp (hsets _ (List.mem_of_getElem? (i := 15) rfl))) (Term.int_eval _)) (Or.inl (hsets _ (List.mem_of_getElem? (i := 14) rfl)))
 have LB0 : Sta s s.heap "java/lang/StringUTF16" "LO_BYTE_SHIFT" "I" (.int 8) := Sta.start (eq_val (Cond.before_iff.mp (hsets _ (List.mem_of_getElem? (i := 18) rfl))) (Term.int_eval _)) (Or.inl (hsets _ (List.mem_of_getElem? (i := 17) rfl)))
 by_cases hn0 : (((i4 &&& (2147483647 : Int32)) - ((i4 &&& (2147483647 : Int32)) / (5 : Int32)) * (5 : Int32)) = 0)
 ·obtain ⟨n, o, h1, h2, h3, _, L, rfl, ⟨N, hv⟩, -, hq⟩ := NA.rm_law l s _ hw  i0 i1 i2 i3 i4 zc fm s.heap s.heap.size (Nat.le_refl _) S0 hz G0 rf D0 HB0 LB0 hn0 p e ha hc hk s m _ below hf ((Spec.applies_iff_loose hf).mp happ).1 ⟨rfl, State.Warmed39.refl s, rfl, H0⟩ trivial
  obtain rfl := hv
  exact ⟨n, _, h1, h2, h3, hpost _ _ _ _ _ _ ⟨Cond.after_iff.mpr rfl, Cond.after_iff.mpr (eq_i res_at (Term.int_eval (1)) rfl), trivial⟩ ⟨hq.1, hq.2.1, hq.2.2.1, (hq.2.2.2.sift fun y hy => Or.inr (N y hy)).mono (by decide) (by decide)⟩⟩
 ·obtain ⟨n, o, h1, h2, h3, _, L, rfl, ⟨N, hv⟩, -, hq⟩ := NB.rm_law l s _ hw  i0 i1 i2 i3 i4 zc fm s.heap s.heap.size (Nat.le_refl _) S0 hz G0 rf D0 HB0 LB0 hn0 p e ha hc hk s m _ below hf ((Spec.applies_iff_loose hf).mp happ).1 ⟨rfl, State.Warmed39.refl s, rfl, (fun p hp => by cases hp)⟩ trivial
  obtain rfl := hv
  exact ⟨n, _, h1, h2, h3, hpost _ _ _ _ _ _ ⟨Cond.after_iff.mpr rfl, Cond.after_iff.mpr (eq_i res_at (Term.int_eval (1)) rfl), trivial⟩ ⟨hq.1, hq.2.1, hq.2.2.1, (hq.2.2.2.sift fun y hy => Or.inr (N y hy)).mono (by decide) (by decide)⟩⟩
theorem main_1_1 : Claimed_1_1 := comes_1 fun _ _ _ _ _ _ h hF => ⟨h.1, hF⟩
theorem main_1_2 : Claimed_1_2 := comes_1 fun _ _ _ _ _ _ h hF => ⟨h.2.1, hF⟩
end Jvm.Pilot.@@N@@
namespace Jvm.Pilot.@@N@@
open Jvm Jvm.ClassFile Sem Op Lib Jvm.Free Jvm.Stand Jvm.Pilot.@@N@@.Jvm.D
/-! MADE BY PROGRAM (witnessworld.py) out of the Statement's table words and the real class files: 21 classes; the members and pool entries that the words name. The judged class is class 1, her method 1. -/
namespace start1
open Jvm.ClassFile
def u (s : String) : CpInfo := .utf8 (stringToUtf16 s)
/-- a pool by its gaps: so many unusable entries, then the entry; so many at the end -/
def gap : Nat → List CpInfo → List CpInfo
  | 0, r => r
  | n + 1, r => .unusable :: gap n r
def poolList (es : List (Nat × CpInfo)) (last : Nat) : List CpInfo := es.foldr (fun e r => gap e.1 (e.2 :: r)) (gap last [])
def pool (es : List (Nat × CpInfo)) (last : Nat) : Array CpInfo := ⟨poolList es last⟩
def fileOf (pool : Array CpInfo) (this : Nat) (attrs : Array Attribute := #[]) (ms : Array MethodInfo := #[]) (fl : Nat := 33) (sup : Nat := 0) (ifs : Array Nat := #[]) (fds : Array FieldInfo := #[]) : ClassFile where
  minorVersion := 0
  majorVersion := 65
  constantPool := pool
  accessFlags := fl
  thisClass := this
  superClass := sup
  interfaces := ifs
  fields := fds
  methods := ms
  attributes := attrs
def plain (name : String) (sup : Option ClassId) : Class where
  name := name
  kind := .ordinary
  loader := none
  accessFlags := 33
  super := sup
  interfaces := #[]
  cf := none
  fields := #[]
  methods := #[]
  instanceTypes := #[]
  staticTypes := #[]
  resolved := #[]
  callSites := []
  init := .initialized
  statics := none
  mirror := none

def pool0 : Array CpInfo := pool [(5, u "<init>"), (0, u "()V"), (1, .class_ 10), (1, u "java/lang/Object")] 113

def k0c0 : Code := { maxStack := 0, maxLocals := 1, code := object_method_1_code, exceptionTable := #[], attributes := #[] }
def k0m0 : Method := { name := "<init>", desc := "()V", sig := { parameters := [], returnType := none }, accessFlags := 1, code := some k0c0 }
/-- java/lang/Object -/
def k0 : Class := { plain "java/lang/Object" none with
  accessFlags := 33
  interfaces := #[]
  cf := some (fileOf pool0 8 #[] #[{ accessFlags := 1, nameIndex := 5, descriptorIndex := 6, attributes := #[] }] 33 0 #[] #[])
  fields := #[]
  methods := #[k0m0]
  instanceTypes := #[]
  staticTypes := #[]
  resolved := Array.replicate 124 none
  statics := none }

def pool1 : Array CpInfo := pool [(2, .class_ 4), (1, u "java/lang/Object"), (0, u "<init>"), (0, u "()V"), (0, .integer 2147483647), (0, .methodref 9 10), (0, .class_ 11), (0, .nameAndType 12 13), (0, u "com/example/record_hold/recordhold/text/Utf8CanEncodePinLaw"), (0, u "draw"), (0, u "(I)C"), (0, .class_ 15), (0, u "java/lang/String"), (0, .methodref 14 17), (0, .nameAndType 5 18), (0, u "([C)V"), (0, .methodref 9 20), (0, .nameAndType 21 22), (0, u "fine"), (0, u "(ZCCZC)Z"), (0, .methodref 24 25), (0, .class_ 26), (0, .nameAndType 27 28), (0, u "com/example/record_hold/recordhold/text/Utf8"), (0, u "canEncode"), (0, u "(Ljava/lang/String;)Z"), (0, .integer 55296), (0, .integer 56319), (0, .integer 56320), (0, .integer 57343), (0, .methodref 9 34), (0, .nameAndType 35 36), (0, u "isHigh"), (0, u "(C)Z"), (0, .methodref 9 38), (0, .nameAndType 39 36), (0, u "isLow"), (0, .integer 65535), (0, .integer 55295), (0, .integer 57344), (2, u "law"), (0, u "(IIIII)Z")] 5

def k1m0 : Method := { name := "<init>", desc := "()V", sig := { parameters := [], returnType := none }, accessFlags := 2, code := none }
def k1c1 : Code := { maxStack := 5, maxLocals := 13, code := code, exceptionTable := #[], attributes := #[] }
def k1m1 : Method := { name := "law", desc := "(IIIII)Z", sig := { parameters := [.int, .int, .int, .int, .int], returnType := some .boolean }, accessFlags := 9, code := some k1c1 }
def k1c2 : Code := { maxStack := 2, maxLocals := 1, code := method_3_code, exceptionTable := #[], attributes := #[] }
def k1m2 : Method := { name := "isHigh", desc := "(C)Z", sig := { parameters := [.char], returnType := some .boolean }, accessFlags := 10, code := some k1c2 }
def k1c3 : Code := { maxStack := 2, maxLocals := 1, code := method_4_code, exceptionTable := #[], attributes := #[] }
def k1m3 : Method := { name := "isLow", desc := "(C)Z", sig := { parameters := [.char], returnType := some .boolean }, accessFlags := 10, code := some k1c3 }
def k1c4 : Code := { maxStack := 1, maxLocals := 5, code := method_5_code, exceptionTable := #[], attributes := #[] }
def k1m4 : Method := { name := "fine", desc := "(ZCCZC)Z", sig := { parameters := [.boolean, .char, .char, .boolean, .char], returnType := some .boolean }, accessFlags := 10, code := some k1c4 }
def k1c5 : Code := { maxStack := 3, maxLocals := 4, code := method_6_code, exceptionTable := #[], attributes := #[] }
def k1m5 : Method := { name := "draw", desc := "(I)C", sig := { parameters := [.int], returnType := some .char }, accessFlags := 10, code := some k1c5 }
/-- com/example/record_hold/recordhold/text/Utf8CanEncodePinLaw -/
def k1 : Class := { plain "com/example/record_hold/recordhold/text/Utf8CanEncodePinLaw" (some 0) with
  accessFlags := 49
  interfaces := #[]
  cf := some (fileOf pool1 9 #[] #[{ accessFlags := 2, nameIndex := 5, descriptorIndex := 6, attributes := #[] }, { accessFlags := 9, nameIndex := 45, descriptorIndex := 46, attributes := #[] }, { accessFlags := 10, nameIndex := 35, descriptorIndex := 36, attributes := #[] }, { accessFlags := 10, nameIndex := 39, descriptorIndex := 36, attributes := #[] }, { accessFlags := 10, nameIndex := 21, descriptorIndex := 22, attributes := #[] }, { accessFlags := 10, nameIndex := 12, descriptorIndex := 13, attributes := #[] }] 49 2 #[] #[])
  fields := #[]
  methods := #[k1m0, k1m1, k1m2, k1m3, k1m4, k1m5]
  instanceTypes := #[]
  staticTypes := #[]
  resolved := Array.replicate 52 none
  statics := none }

def pool2 : Array CpInfo := pool [(1, .class_ 2), (0, u "java/io/Serializable"), (0, .class_ 4), (0, u "java/lang/Object")] 2

/-- java/io/Serializable -/
def k2 : Class := { plain "java/io/Serializable" (some 0) with
  accessFlags := 1537
  interfaces := #[]
  cf := some (fileOf pool2 1 #[] #[] 1537 3 #[] #[])
  fields := #[]
  methods := #[]
  instanceTypes := #[]
  staticTypes := #[]
  resolved := Array.replicate 7 none
  statics := none }

def pool3 : Array CpInfo := pool [(1, .class_ 2), (0, u "java/lang/Comparable"), (0, .class_ 4), (0, u "java/lang/Object")] 7

/-- java/lang/Comparable -/
def k3 : Class := { plain "java/lang/Comparable" (some 0) with
  accessFlags := 1537
  interfaces := #[]
  cf := some (fileOf pool3 1 #[] #[] 1537 3 #[] #[])
  fields := #[]
  methods := #[]
  instanceTypes := #[]
  staticTypes := #[]
  resolved := Array.replicate 12 none
  statics := none }

def pool4 : Array CpInfo := pool [(2, .class_ 4), (1, u "java/lang/CharSequence"), (42, .class_ 48), (0, u "java/lang/CharSequence$1CodePointIterator"), (10, .class_ 60), (0, u "java/lang/CharSequence$1CharIterator"), (5, .class_ 67), (0, u "java/lang/Object")] 63

/-- java/lang/CharSequence -/
def k4 : Class := { plain "java/lang/CharSequence" (some 0) with
  accessFlags := 1537
  interfaces := #[]
  cf := some (fileOf pool4 2 #[.nestMembers #[47, 59]] #[] 1537 66 #[] #[])
  fields := #[]
  methods := #[]
  instanceTypes := #[]
  staticTypes := #[]
  resolved := Array.replicate 131 none
  statics := none }

def pool5 : Array CpInfo := pool [(1, .class_ 2), (0, u "java/lang/constant/Constable"), (0, .class_ 4), (0, u "java/lang/Object")] 6

/-- java/lang/constant/Constable -/
def k5 : Class := { plain "java/lang/constant/Constable" (some 0) with
  accessFlags := 1537
  interfaces := #[]
  cf := some (fileOf pool5 1 #[] #[] 1537 3 #[] #[])
  fields := #[]
  methods := #[]
  instanceTypes := #[]
  staticTypes := #[]
  resolved := Array.replicate 11 none
  statics := none }

def pool6 : Array CpInfo := pool [(1, .class_ 2), (0, u "java/lang/constant/ConstantDesc"), (0, .class_ 4), (0, u "java/lang/Object")] 32

/-- java/lang/constant/ConstantDesc -/
def k6 : Class := { plain "java/lang/constant/ConstantDesc" (some 0) with
  accessFlags := 1537
  interfaces := #[]
  cf := some (fileOf pool6 1 #[] #[] 1537 3 #[] #[])
  fields := #[]
  methods := #[]
  instanceTypes := #[]
  staticTypes := #[]
  resolved := Array.replicate 37 none
  statics := none }

def pool7 : Array CpInfo := pool [(1, .methodref 2 3), (0, .class_ 4), (0, .nameAndType 5 6), (0, u "java/lang/Object"), (0, u "<init>"), (0, u "()V"), (0, .string 8), (0, u ""), (0, .fieldref 10 11), (0, .class_ 12), (0, .nameAndType 13 14), (0, u "java/lang/String"), (0, u "value"), (0, u "[B"), (0, .fieldref 10 16), (0, .nameAndType 17 18), (0, u "coder"), (0, u "B"), (2, u "hash"), (0, u "I"), (2, u "hashIsZero"), (0, u "Z"), (0, .methodref 10 28), (0, .nameAndType 5 29), (0, u "([CIILjava/lang/Void;)V"), (8, .fieldref 10 39), (0, .nameAndType 40 26), (0, u "COMPACT_STRINGS"), (1, .class_ 44), (1, u "java/lang/StringUTF16"), (0, u "compress"), (1, .methodref 42 48), (0, .nameAndType 49 50), (0, u "coderFromArrayLen"), (0, u "([BI)B"), (56, .class_ 109), (1, u "java/lang/StringLatin1"), (32, u "()Z"), (34, .methodref 42 178), (0, .nameAndType 45 179), (0, u "([CII)[B"), (154, u "()I"), (0, .methodref 10 336), (0, .nameAndType 17 337), (0, u "()B"), (25, u "([BI)C"), (27, u "(II)V"), (35, u "(I)C"), (64, .methodref 10 493), (0, .nameAndType 494 142), (0, u "isLatin1"), (0, .methodref 107 496), (0, .nameAndType 497 363), (0, u "charAt"), (0, .methodref 42 496), (2, u "checkIndex"), (5, u "length"), (67, .class_ 576), (0, u "java/lang/CharSequence"), (22, u "CASE_INSENSITIVE_ORDER"), (0, u "Ljava/util/Comparator;"), (409, u "([C)V"), (42, .fieldref 1054 1055), (0, .class_ 1056), (0, .nameAndType 1057 1058), (0, u "jdk/internal/util/Preconditions"), (0, u "SIOOBE_FORMATTER"), (0, u "Ljava/util/function/BiFunction;"), (0, .methodref 1054 1060), (0, .nameAndType 501 1061), (0, u "(IILjava/util/function/BiFunction;)I"), (39, u "serialPersistentFields"), (0, u "[Ljava/io/ObjectStreamField;"), (0, .class_ 1104), (0, u "java/lang/String$CaseInsensitiveComparator"), (1, .class_ 1107), (0, u "java/io/Serializable"), (0, .class_ 1109), (0, u "java/lang/Comparable"), (0, .class_ 1111), (0, u "java/lang/constant/Constable"), (0, .class_ 1113), (0, u "java/lang/constant/ConstantDesc"), (2, u "serialVersionUID"), (0, u "J"), (3, u "REPL"), (0, u "C"), (2, u "LATIN1"), (1, u "UTF16")] 323

def k7m0 : Method := { name := "<init>", desc := "()V", sig := { parameters := [], returnType := none }, accessFlags := 1, code := none }
def k7c1 : Code := { maxStack := 5, maxLocals := 2, code := jdk_42_method_3_code, exceptionTable := #[], attributes := #[] }
def k7m1 : Method := { name := "<init>", desc := "([C)V", sig := { parameters := [(.array .char)], returnType := none }, accessFlags := 1, code := some k7c1 }
def k7c2 : Code := { maxStack := 2, maxLocals := 1, code := jdk_42_method_54_code, exceptionTable := #[], attributes := #[] }
def k7m2 : Method := { name := "length", desc := "()I", sig := { parameters := [], returnType := some .int }, accessFlags := 1, code := some k7c2 }
def k7c3 : Code := { maxStack := 2, maxLocals := 2, code := jdk_42_method_56_code, exceptionTable := #[], attributes := #[] }
def k7m3 : Method := { name := "charAt", desc := "(I)C", sig := { parameters := [.int], returnType := some .char }, accessFlags := 1, code := some k7c3 }
def k7c4 : Code := { maxStack := 4, maxLocals := 6, code := jdk_42_method_149_code, exceptionTable := #[], attributes := #[] }
def k7m4 : Method := { name := "<init>", desc := "([CIILjava/lang/Void;)V", sig := { parameters := [(.array .char), .int, .int, (.object "java/lang/Void")], returnType := none }, accessFlags := 2, code := some k7c4 }
def k7c5 : Code := { maxStack := 1, maxLocals := 1, code := jdk_42_method_152_code, exceptionTable := #[], attributes := #[] }
def k7m5 : Method := { name := "coder", desc := "()B", sig := { parameters := [], returnType := some .byte }, accessFlags := 0, code := some k7c5 }
def k7c6 : Code := { maxStack := 1, maxLocals := 1, code := jdk_42_method_154_code, exceptionTable := #[], attributes := #[] }
def k7m6 : Method := { name := "isLatin1", desc := "()Z", sig := { parameters := [], returnType := some .boolean }, accessFlags := 0, code := some k7c6 }
def k7c7 : Code := { maxStack := 3, maxLocals := 2, code := jdk_42_method_155_code, exceptionTable := #[], attributes := #[] }
def k7m7 : Method := { name := "checkIndex", desc := "(II)V", sig := { parameters := [.int, .int], returnType := none }, accessFlags := 8, code := some k7c7 }
/-- java/lang/String -/
def k7 : Class := { plain "java/lang/String" (some 0) with
  accessFlags := 49
  interfaces := #[2, 3, 4, 5, 6]
  cf := some (fileOf pool7 10 #[.nestMembers #[1103]] #[{ accessFlags := 1, nameIndex := 5, descriptorIndex := 6, attributes := #[] }, { accessFlags := 1, nameIndex := 5, descriptorIndex := 1010, attributes := #[] }, { accessFlags := 1, nameIndex := 507, descriptorIndex := 334, attributes := #[] }, { accessFlags := 1, nameIndex := 497, descriptorIndex := 427, attributes := #[] }, { accessFlags := 2, nameIndex := 5, descriptorIndex := 29, attributes := #[] }, { accessFlags := 0, nameIndex := 17, descriptorIndex := 337, attributes := #[] }, { accessFlags := 0, nameIndex := 494, descriptorIndex := 142, attributes := #[] }, { accessFlags := 8, nameIndex := 501, descriptorIndex := 391, attributes := #[] }] 49 2 #[1106, 1108, 575, 1110, 1112] #[{ accessFlags := 18, nameIndex := 13, descriptorIndex := 14, attributes := #[] }, { accessFlags := 18, nameIndex := 17, descriptorIndex := 18, attributes := #[] }, { accessFlags := 2, nameIndex := 21, descriptorIndex := 22, attributes := #[] }, { accessFlags := 2, nameIndex := 25, descriptorIndex := 26, attributes := #[] }, { accessFlags := 26, nameIndex := 1116, descriptorIndex := 1117, attributes := #[] }, { accessFlags := 24, nameIndex := 40, descriptorIndex := 26, attributes := #[] }, { accessFlags := 26, nameIndex := 1101, descriptorIndex := 1102, attributes := #[] }, { accessFlags := 26, nameIndex := 1121, descriptorIndex := 1122, attributes := #[] }, { accessFlags := 25, nameIndex := 599, descriptorIndex := 600, attributes := #[] }, { accessFlags := 24, nameIndex := 1125, descriptorIndex := 18, attributes := #[] }, { accessFlags := 24, nameIndex := 1127, descriptorIndex := 18, attributes := #[] }])
  fields := #[{ name := "value", type := (.array .byte), accessFlags := 18, slot := 0, constantValue := 0 }, { name := "coder", type := .byte, accessFlags := 18, slot := 1, constantValue := 0 }, { name := "hash", type := .int, accessFlags := 2, slot := 2, constantValue := 0 }, { name := "hashIsZero", type := .boolean, accessFlags := 2, slot := 3, constantValue := 0 }, { name := "serialVersionUID", type := .long, accessFlags := 26, slot := 0, constantValue := 0 }, { name := "COMPACT_STRINGS", type := .boolean, accessFlags := 24, slot := 1, constantValue := 0 }, { name := "serialPersistentFields", type := (.array (.object "java/io/ObjectStreamField")), accessFlags := 26, slot := 2, constantValue := 0 }, { name := "REPL", type := .char, accessFlags := 26, slot := 3, constantValue := 0 }, { name := "CASE_INSENSITIVE_ORDER", type := (.object "java/util/Comparator"), accessFlags := 25, slot := 4, constantValue := 0 }, { name := "LATIN1", type := .byte, accessFlags := 24, slot := 5, constantValue := 0 }, { name := "UTF16", type := .byte, accessFlags := 24, slot := 6, constantValue := 0 }]
  methods := #[k7m0, k7m1, k7m2, k7m3, k7m4, k7m5, k7m6, k7m7]
  instanceTypes := #[(.array .byte), .byte, .int, .boolean]
  staticTypes := #[.long, .boolean, (.array (.object "java/io/ObjectStreamField")), .char, (.object "java/util/Comparator"), .byte, .byte]
  resolved := Array.replicate 1451 none
  statics := some 0 }

def pool8 : Array CpInfo := pool [(2, .class_ 4), (1, u "java/lang/Object"), (0, u "<init>"), (0, u "()V"), (1, .class_ 10), (1, u "com/example/record_hold/recordhold/text/Utf8"), (2, .class_ 14), (0, u "java/lang/String"), (68, .methodref 13 84), (0, .nameAndType 85 86), (0, u "length"), (0, u "()I"), (0, .methodref 13 88), (0, .nameAndType 89 90), (0, u "charAt"), (0, u "(I)C"), (0, .methodref 92 93), (0, .class_ 94), (0, .nameAndType 95 96), (0, u "java/lang/Character"), (0, u "isHighSurrogate"), (0, u "(C)Z"), (0, .methodref 92 98), (0, .nameAndType 99 96), (0, u "isLowSurrogate"), (0, .methodref 92 101), (0, .nameAndType 102 96), (0, u "isSurrogate"), (12, u "CODE_POINT_ORDER"), (0, u "Ljava/util/Comparator;"), (2, u "CHECKED_CHARS"), (0, u "I"), (7, u "canEncode"), (0, u "(Ljava/lang/String;)Z")] 27

def k8m0 : Method := { name := "<init>", desc := "()V", sig := { parameters := [], returnType := none }, accessFlags := 2, code := none }
def k8c1 : Code := { maxStack := 3, maxLocals := 3, code := prog_46_method_4_code, exceptionTable := #[], attributes := #[] }
def k8m1 : Method := { name := "canEncode", desc := "(Ljava/lang/String;)Z", sig := { parameters := [(.object "java/lang/String")], returnType := some .boolean }, accessFlags := 9, code := some k8c1 }
/-- com/example/record_hold/recordhold/text/Utf8 -/
def k8 : Class := { plain "com/example/record_hold/recordhold/text/Utf8" (some 0) with
  accessFlags := 33
  interfaces := #[]
  cf := some (fileOf pool8 8 #[] #[{ accessFlags := 2, nameIndex := 5, descriptorIndex := 6, attributes := #[] }, { accessFlags := 9, nameIndex := 128, descriptorIndex := 129, attributes := #[] }] 33 2 #[] #[{ accessFlags := 25, nameIndex := 115, descriptorIndex := 116, attributes := #[] }, { accessFlags := 26, nameIndex := 119, descriptorIndex := 120, attributes := #[] }])
  fields := #[{ name := "CODE_POINT_ORDER", type := (.object "java/util/Comparator"), accessFlags := 25, slot := 0, constantValue := 0 }, { name := "CHECKED_CHARS", type := .int, accessFlags := 26, slot := 1, constantValue := 0 }]
  methods := #[k8m0, k8m1]
  instanceTypes := #[]
  staticTypes := #[(.object "java/util/Comparator"), .int]
  resolved := Array.replicate 157 none
  statics := none }

def pool9 : Array CpInfo := pool [(3, .class_ 4), (0, u "java/lang/String"), (1, .class_ 8), (1, u "java/lang/Object"), (0, u "<init>"), (0, u "()V"), (0, .methodref 12 13), (0, .class_ 14), (0, .nameAndType 15 16), (0, u "java/lang/StringUTF16"), (0, u "newBytesLength"), (0, u "(I)I"), (3, .integer 1073741823), (23, .fieldref 12 45), (0, .nameAndType 46 47), (0, u "$assertionsDisabled"), (0, u "Z"), (0, .methodref 12 49), (0, .nameAndType 50 51), (0, u "length"), (0, u "([B)I"), (7, .fieldref 12 60), (0, .nameAndType 61 62), (0, u "HI_BYTE_SHIFT"), (0, u "I"), (0, .fieldref 12 64), (0, .nameAndType 65 62), (0, u "LO_BYTE_SHIFT"), (1, .methodref 12 68), (0, .nameAndType 69 70), (0, u "checkIndex"), (0, u "(I[B)V"), (0, .methodref 12 72), (0, .nameAndType 73 74), (0, u "getChar"), (0, u "([BI)C"), (32, .methodref 12 108), (0, .nameAndType 109 110), (0, u "newBytesFor"), (0, u "(I)[B"), (0, .methodref 12 112), (0, .nameAndType 113 114), (0, u "putChar"), (0, u "([BII)V"), (0, .methodref 12 116), (0, .nameAndType 117 118), (0, u "compress"), (0, u "([CI[BII)I"), (0, .methodref 12 120), (0, .nameAndType 121 122), (0, u "toBytes"), (0, u "([CII)[B"), (138, u "coderFromArrayLen"), (0, u "([BI)B"), (106, .class_ 371), (1, u "java/lang/StringUTF16$LinesSpliterator"), (20, u "charAt"), (21, .methodref 3 415), (0, .nameAndType 69 416), (0, u "(II)V"), (13, u "MAX_LENGTH"), (196, .class_ 628), (0, u "java/lang/StringUTF16$CodePointsSpliterator"), (0, .class_ 630), (0, u "java/lang/StringUTF16$CharsSpliterator")] 4

def k9m0 : Method := { name := "<init>", desc := "()V", sig := { parameters := [], returnType := none }, accessFlags := 0, code := none }
def k9c1 : Code := { maxStack := 1, maxLocals := 1, code := jdk_52_method_2_code, exceptionTable := #[], attributes := #[] }
def k9m1 : Method := { name := "newBytesFor", desc := "(I)[B", sig := { parameters := [.int], returnType := some (.array .byte) }, accessFlags := 9, code := some k9c1 }
def k9c2 : Code := { maxStack := 4, maxLocals := 1, code := jdk_52_method_3_code, exceptionTable := #[], attributes := #[] }
def k9m2 : Method := { name := "newBytesLength", desc := "(I)I", sig := { parameters := [.int], returnType := some .int }, accessFlags := 9, code := some k9c2 }
def k9c3 : Code := { maxStack := 4, maxLocals := 3, code := jdk_52_method_4_code, exceptionTable := #[], attributes := #[] }
def k9m3 : Method := { name := "putChar", desc := "([BII)V", sig := { parameters := [(.array .byte), .int, .int], returnType := none }, accessFlags := 8, code := some k9c3 }
def k9c4 : Code := { maxStack := 3, maxLocals := 2, code := jdk_52_method_5_code, exceptionTable := #[], attributes := #[] }
def k9m4 : Method := { name := "getChar", desc := "([BI)C", sig := { parameters := [(.array .byte), .int], returnType := some .char }, accessFlags := 8, code := some k9c4 }
def k9c5 : Code := { maxStack := 2, maxLocals := 1, code := jdk_52_method_6_code, exceptionTable := #[], attributes := #[] }
def k9m5 : Method := { name := "length", desc := "([B)I", sig := { parameters := [(.array .byte)], returnType := some .int }, accessFlags := 9, code := some k9c5 }
def k9c6 : Code := { maxStack := 4, maxLocals := 5, code := jdk_52_method_14_code, exceptionTable := #[], attributes := #[] }
def k9m6 : Method := { name := "toBytes", desc := "([CII)[B", sig := { parameters := [(.array .char), .int, .int], returnType := some (.array .byte) }, accessFlags := 9, code := some k9c6 }
def k9c7 : Code := { maxStack := 2, maxLocals := 2, code := jdk_52_method_15_code, exceptionTable := #[], attributes := #[] }
def k9m7 : Method := { name := "coderFromArrayLen", desc := "([BI)B", sig := { parameters := [(.array .byte), .int], returnType := some .byte }, accessFlags := 8, code := some k9c7 }
def k9c8 : Code := { maxStack := 5, maxLocals := 6, code := jdk_52_method_16_code, exceptionTable := #[], attributes := #[] }
def k9m8 : Method := { name := "compress", desc := "([CII)[B", sig := { parameters := [(.array .char), .int, .int], returnType := some (.array .byte) }, accessFlags := 9, code := some k9c8 }
def k9c9 : Code := { maxStack := 3, maxLocals := 7, code := jdk_52_method_21_code, exceptionTable := #[], attributes := #[] }
def k9m9 : Method := { name := "compress", desc := "([CI[BII)I", sig := { parameters := [(.array .char), .int, (.array .byte), .int, .int], returnType := some .int }, accessFlags := 9, code := some k9c9 }
def k9c10 : Code := { maxStack := 2, maxLocals := 2, code := jdk_52_method_83_code, exceptionTable := #[], attributes := #[] }
def k9m10 : Method := { name := "charAt", desc := "([BI)C", sig := { parameters := [(.array .byte), .int], returnType := some .char }, accessFlags := 9, code := some k9c10 }
def k9c11 : Code := { maxStack := 2, maxLocals := 2, code := jdk_52_method_91_code, exceptionTable := #[], attributes := #[] }
def k9m11 : Method := { name := "checkIndex", desc := "(I[B)V", sig := { parameters := [.int, (.array .byte)], returnType := none }, accessFlags := 9, code := some k9c11 }
/-- java/lang/StringUTF16 -/
def k9 : Class := { plain "java/lang/StringUTF16" (some 0) with
  accessFlags := 48
  interfaces := #[]
  cf := some (fileOf pool9 12 #[.nestMembers #[627, 629, 369]] #[{ accessFlags := 0, nameIndex := 9, descriptorIndex := 10, attributes := #[] }, { accessFlags := 9, nameIndex := 109, descriptorIndex := 110, attributes := #[] }, { accessFlags := 9, nameIndex := 15, descriptorIndex := 16, attributes := #[] }, { accessFlags := 8, nameIndex := 113, descriptorIndex := 114, attributes := #[] }, { accessFlags := 8, nameIndex := 73, descriptorIndex := 74, attributes := #[] }, { accessFlags := 9, nameIndex := 50, descriptorIndex := 51, attributes := #[] }, { accessFlags := 9, nameIndex := 121, descriptorIndex := 122, attributes := #[] }, { accessFlags := 8, nameIndex := 261, descriptorIndex := 262, attributes := #[] }, { accessFlags := 9, nameIndex := 117, descriptorIndex := 122, attributes := #[] }, { accessFlags := 9, nameIndex := 117, descriptorIndex := 118, attributes := #[] }, { accessFlags := 9, nameIndex := 392, descriptorIndex := 74, attributes := #[] }, { accessFlags := 9, nameIndex := 69, descriptorIndex := 70, attributes := #[] }] 48 6 #[] #[{ accessFlags := 26, nameIndex := 61, descriptorIndex := 62, attributes := #[] }, { accessFlags := 26, nameIndex := 65, descriptorIndex := 62, attributes := #[] }, { accessFlags := 24, nameIndex := 430, descriptorIndex := 62, attributes := #[] }, { accessFlags := 4120, nameIndex := 46, descriptorIndex := 47, attributes := #[] }])
  fields := #[{ name := "HI_BYTE_SHIFT", type := .int, accessFlags := 26, slot := 0, constantValue := 0 }, { name := "LO_BYTE_SHIFT", type := .int, accessFlags := 26, slot := 1, constantValue := 0 }, { name := "MAX_LENGTH", type := .int, accessFlags := 24, slot := 2, constantValue := 0 }, { name := "$assertionsDisabled", type := .boolean, accessFlags := 4120, slot := 3, constantValue := 0 }]
  methods := #[k9m0, k9m1, k9m2, k9m3, k9m4, k9m5, k9m6, k9m7, k9m8, k9m9, k9m10, k9m11]
  instanceTypes := #[]
  staticTypes := #[.int, .int, .int, .boolean]
  resolved := Array.replicate 635 none
  statics := some 1 }

def pool10 : Array CpInfo := pool [(1, .class_ 2), (0, u "java/lang/String"), (1, .class_ 6), (1, u "java/lang/Object"), (0, u "<init>"), (0, u "()V"), (0, .methodref 1 10), (0, .nameAndType 11 12), (0, u "checkIndex"), (0, u "(II)V"), (1, .class_ 16), (1, u "java/lang/StringLatin1"), (36, u "([BI)C"), (67, u "$assertionsDisabled"), (0, u "Z"), (98, .class_ 223), (1, u "java/lang/StringLatin1$LinesSpliterator"), (28, u "charAt"), (137, .class_ 391), (0, u "java/lang/StringLatin1$CharsSpliterator")] 3

def k10m0 : Method := { name := "<init>", desc := "()V", sig := { parameters := [], returnType := none }, accessFlags := 0, code := none }
def k10c1 : Code := { maxStack := 2, maxLocals := 2, code := jdk_43_method_2_code, exceptionTable := #[], attributes := #[] }
def k10m1 : Method := { name := "charAt", desc := "([BI)C", sig := { parameters := [(.array .byte), .int], returnType := some .char }, accessFlags := 9, code := some k10c1 }
/-- java/lang/StringLatin1 -/
def k10 : Class := { plain "java/lang/StringLatin1" (some 0) with
  accessFlags := 48
  interfaces := #[]
  cf := some (fileOf pool10 14 #[.nestMembers #[390, 221]] #[{ accessFlags := 0, nameIndex := 7, descriptorIndex := 8, attributes := #[] }, { accessFlags := 9, nameIndex := 252, descriptorIndex := 53, attributes := #[] }] 48 4 #[] #[{ accessFlags := 4120, nameIndex := 121, descriptorIndex := 122, attributes := #[] }])
  fields := #[{ name := "$assertionsDisabled", type := .boolean, accessFlags := 4120, slot := 0, constantValue := 0 }]
  methods := #[k10m0, k10m1]
  instanceTypes := #[]
  staticTypes := #[.boolean]
  resolved := Array.replicate 395 none
  statics := none }

def pool11 : Array CpInfo := pool [(2, .class_ 4), (1, u "java/lang/Object"), (0, u "<init>"), (0, u "()V"), (17, .class_ 26), (1, u "jdk/internal/util/Preconditions"), (6, u "checkIndex"), (21, .class_ 56), (0, u "jdk/internal/util/Preconditions$4"), (57, .class_ 115), (0, u "jdk/internal/util/Preconditions$1"), (7, u "SIOOBE_FORMATTER"), (0, u "Ljava/util/function/BiFunction;"), (0, .class_ 126), (0, u "jdk/internal/util/Preconditions$2"), (3, u "AIOOBE_FORMATTER"), (0, .class_ 132), (0, u "jdk/internal/util/Preconditions$3"), (3, u "IOOBE_FORMATTER"), (41, u "(IILjava/util/function/BiFunction;)I")] 15

def k11m0 : Method := { name := "<init>", desc := "()V", sig := { parameters := [], returnType := none }, accessFlags := 1, code := none }
def k11c1 : Code := { maxStack := 3, maxLocals := 3, code := jdk_41_method_11_code, exceptionTable := #[], attributes := #[] }
def k11m1 : Method := { name := "checkIndex", desc := "(IILjava/util/function/BiFunction;)I", sig := { parameters := [.int, .int, (.object "java/util/function/BiFunction")], returnType := some .int }, accessFlags := 9, code := some k11c1 }
/-- jdk/internal/util/Preconditions -/
def k11 : Class := { plain "jdk/internal/util/Preconditions" (some 0) with
  accessFlags := 33
  interfaces := #[]
  cf := some (fileOf pool11 24 #[.nestMembers #[55, 131, 125, 114]] #[{ accessFlags := 1, nameIndex := 5, descriptorIndex := 6, attributes := #[] }, { accessFlags := 9, nameIndex := 33, descriptorIndex := 178, attributes := #[] }] 33 2 #[] #[{ accessFlags := 25, nameIndex := 123, descriptorIndex := 124, attributes := #[] }, { accessFlags := 25, nameIndex := 130, descriptorIndex := 124, attributes := #[] }, { accessFlags := 25, nameIndex := 136, descriptorIndex := 124, attributes := #[] }])
  fields := #[{ name := "SIOOBE_FORMATTER", type := (.object "java/util/function/BiFunction"), accessFlags := 25, slot := 0, constantValue := 0 }, { name := "AIOOBE_FORMATTER", type := (.object "java/util/function/BiFunction"), accessFlags := 25, slot := 1, constantValue := 0 }, { name := "IOOBE_FORMATTER", type := (.object "java/util/function/BiFunction"), accessFlags := 25, slot := 2, constantValue := 0 }]
  methods := #[k11m0, k11m1]
  instanceTypes := #[]
  staticTypes := #[(.object "java/util/function/BiFunction"), (.object "java/util/function/BiFunction"), (.object "java/util/function/BiFunction")]
  resolved := Array.replicate 194 none
  statics := some 2 }

def pool12 : Array CpInfo := pool [(1, .class_ 2), (0, u "java/lang/Character"), (18, u "value"), (0, u "C"), (19, .class_ 44), (1, u "java/lang/Object"), (3, .class_ 50), (1, u "java/lang/Character$CharacterCache"), (24, .integer 55296), (0, .integer 56320), (0, .integer 57344), (2, u "isHighSurrogate"), (0, u "(C)Z"), (2, u "isLowSurrogate"), (199, u "$assertionsDisabled"), (0, u "Z"), (21, .class_ 309), (1, u "java/lang/Character$UnicodeBlock"), (73, u "TYPE"), (0, u "Ljava/lang/Class;"), (0, .class_ 386), (0, u "java/io/Serializable"), (0, .class_ 388), (0, u "java/lang/Comparable"), (0, .class_ 390), (0, u "java/lang/constant/Constable"), (0, u "MIN_RADIX"), (0, u "I"), (2, u "MAX_RADIX"), (1, u "MIN_VALUE"), (1, u "MAX_VALUE"), (3, u "UNASSIGNED"), (0, u "B"), (0, u "UPPERCASE_LETTER"), (1, u "LOWERCASE_LETTER"), (0, u "TITLECASE_LETTER"), (1, u "MODIFIER_LETTER"), (1, u "OTHER_LETTER"), (1, u "NON_SPACING_MARK"), (1, u "ENCLOSING_MARK"), (1, u "COMBINING_SPACING_MARK"), (1, u "DECIMAL_DIGIT_NUMBER"), (1, u "LETTER_NUMBER"), (1, u "OTHER_NUMBER"), (1, u "SPACE_SEPARATOR"), (1, u "LINE_SEPARATOR"), (1, u "PARAGRAPH_SEPARATOR"), (1, u "CONTROL"), (1, u "FORMAT"), (1, u "PRIVATE_USE"), (1, u "SURROGATE"), (1, u "DASH_PUNCTUATION"), (1, u "START_PUNCTUATION"), (1, u "END_PUNCTUATION"), (1, u "CONNECTOR_PUNCTUATION"), (1, u "OTHER_PUNCTUATION"), (1, u "MATH_SYMBOL"), (1, u "CURRENCY_SYMBOL"), (1, u "MODIFIER_SYMBOL"), (1, u "OTHER_SYMBOL"), (1, u "INITIAL_QUOTE_PUNCTUATION"), (1, u "FINAL_QUOTE_PUNCTUATION"), (1, u "ERROR"), (1, u "DIRECTIONALITY_UNDEFINED"), (0, u "DIRECTIONALITY_LEFT_TO_RIGHT"), (0, u "DIRECTIONALITY_RIGHT_TO_LEFT"), (0, u "DIRECTIONALITY_RIGHT_TO_LEFT_ARABIC"), (0, u "DIRECTIONALITY_EUROPEAN_NUMBER"), (0, u "DIRECTIONALITY_EUROPEAN_NUMBER_SEPARATOR"), (0, u "DIRECTIONALITY_EUROPEAN_NUMBER_TERMINATOR"), (0, u "DIRECTIONALITY_ARABIC_NUMBER"), (0, u "DIRECTIONALITY_COMMON_NUMBER_SEPARATOR"), (0, u "DIRECTIONALITY_NONSPACING_MARK"), (0, u "DIRECTIONALITY_BOUNDARY_NEUTRAL"), (0, u "DIRECTIONALITY_PARAGRAPH_SEPARATOR"), (0, u "DIRECTIONALITY_SEGMENT_SEPARATOR"), (0, u "DIRECTIONALITY_WHITESPACE"), (0, u "DIRECTIONALITY_OTHER_NEUTRALS"), (0, u "DIRECTIONALITY_LEFT_TO_RIGHT_EMBEDDING"), (0, u "DIRECTIONALITY_LEFT_TO_RIGHT_OVERRIDE"), (0, u "DIRECTIONALITY_RIGHT_TO_LEFT_EMBEDDING"), (0, u "DIRECTIONALITY_RIGHT_TO_LEFT_OVERRIDE"), (1, u "DIRECTIONALITY_POP_DIRECTIONAL_FORMAT"), (0, u "DIRECTIONALITY_LEFT_TO_RIGHT_ISOLATE"), (0, u "DIRECTIONALITY_RIGHT_TO_LEFT_ISOLATE"), (0, u "DIRECTIONALITY_FIRST_STRONG_ISOLATE"), (0, u "DIRECTIONALITY_POP_DIRECTIONAL_ISOLATE"), (0, u "MIN_HIGH_SURROGATE"), (0, u "MAX_HIGH_SURROGATE"), (1, u "MIN_LOW_SURROGATE"), (0, u "MAX_LOW_SURROGATE"), (1, u "MIN_SURROGATE"), (0, u "MAX_SURROGATE"), (0, u "MIN_SUPPLEMENTARY_CODE_POINT"), (0, u "MIN_CODE_POINT"), (0, u "MAX_CODE_POINT"), (1, u "serialVersionUID"), (0, u "J"), (2, u "SIZE"), (0, u "BYTES"), (24, u "isSurrogate"), (63, .class_ 596), (0, u "java/lang/Character$UnicodeScript"), (0, .class_ 598), (0, u "java/lang/Character$Subset")] 5

def k12c0 : Code := { maxStack := 2, maxLocals := 1, code := jdk_89_method_14_code, exceptionTable := #[], attributes := #[] }
def k12m0 : Method := { name := "isHighSurrogate", desc := "(C)Z", sig := { parameters := [.char], returnType := some .boolean }, accessFlags := 9, code := some k12c0 }
def k12c1 : Code := { maxStack := 2, maxLocals := 1, code := jdk_89_method_15_code, exceptionTable := #[], attributes := #[] }
def k12m1 : Method := { name := "isLowSurrogate", desc := "(C)Z", sig := { parameters := [.char], returnType := some .boolean }, accessFlags := 9, code := some k12c1 }
def k12c2 : Code := { maxStack := 2, maxLocals := 1, code := jdk_89_method_16_code, exceptionTable := #[], attributes := #[] }
def k12m2 : Method := { name := "isSurrogate", desc := "(C)Z", sig := { parameters := [.char], returnType := some .boolean }, accessFlags := 9, code := some k12c2 }
/-- java/lang/Character -/
def k12 : Class := { plain "java/lang/Character" (some 0) with
  accessFlags := 49
  interfaces := #[2, 3, 5]
  cf := some (fileOf pool12 1 #[.nestMembers #[48, 595, 307, 597]] #[{ accessFlags := 9, nameIndex := 80, descriptorIndex := 81, attributes := #[] }, { accessFlags := 9, nameIndex := 84, descriptorIndex := 81, attributes := #[] }, { accessFlags := 9, nameIndex := 531, descriptorIndex := 81, attributes := #[] }] 49 42 #[385, 387, 389] #[{ accessFlags := 25, nameIndex := 391, descriptorIndex := 392, attributes := #[] }, { accessFlags := 25, nameIndex := 395, descriptorIndex := 392, attributes := #[] }, { accessFlags := 25, nameIndex := 397, descriptorIndex := 22, attributes := #[] }, { accessFlags := 25, nameIndex := 399, descriptorIndex := 22, attributes := #[] }, { accessFlags := 25, nameIndex := 383, descriptorIndex := 384, attributes := #[] }, { accessFlags := 25, nameIndex := 403, descriptorIndex := 404, attributes := #[] }, { accessFlags := 25, nameIndex := 405, descriptorIndex := 404, attributes := #[] }, { accessFlags := 25, nameIndex := 407, descriptorIndex := 404, attributes := #[] }, { accessFlags := 25, nameIndex := 408, descriptorIndex := 404, attributes := #[] }, { accessFlags := 25, nameIndex := 410, descriptorIndex := 404, attributes := #[] }, { accessFlags := 25, nameIndex := 412, descriptorIndex := 404, attributes := #[] }, { accessFlags := 25, nameIndex := 414, descriptorIndex := 404, attributes := #[] }, { accessFlags := 25, nameIndex := 416, descriptorIndex := 404, attributes := #[] }, { accessFlags := 25, nameIndex := 418, descriptorIndex := 404, attributes := #[] }, { accessFlags := 25, nameIndex := 420, descriptorIndex := 404, attributes := #[] }, { accessFlags := 25, nameIndex := 422, descriptorIndex := 404, attributes := #[] }, { accessFlags := 25, nameIndex := 424, descriptorIndex := 404, attributes := #[] }, { accessFlags := 25, nameIndex := 426, descriptorIndex := 404, attributes := #[] }, { accessFlags := 25, nameIndex := 428, descriptorIndex := 404, attributes := #[] }, { accessFlags := 25, nameIndex := 430, descriptorIndex := 404, attributes := #[] }, { accessFlags := 25, nameIndex := 432, descriptorIndex := 404, attributes := #[] }, { accessFlags := 25, nameIndex := 434, descriptorIndex := 404, attributes := #[] }, { accessFlags := 25, nameIndex := 436, descriptorIndex := 404, attributes := #[] }, { accessFlags := 25, nameIndex := 438, descriptorIndex := 404, attributes := #[] }, { accessFlags := 25, nameIndex := 440, descriptorIndex := 404, attributes := #[] }, { accessFlags := 25, nameIndex := 442, descriptorIndex := 404, attributes := #[] }, { accessFlags := 25, nameIndex := 444, descriptorIndex := 404, attributes := #[] }, { accessFlags := 25, nameIndex := 446, descriptorIndex := 404, attributes := #[] }, { accessFlags := 25, nameIndex := 448, descriptorIndex := 404, attributes := #[] }, { accessFlags := 25, nameIndex := 450, descriptorIndex := 404, attributes := #[] }, { accessFlags := 25, nameIndex := 452, descriptorIndex := 404, attributes := #[] }, { accessFlags := 25, nameIndex := 454, descriptorIndex := 404, attributes := #[] }, { accessFlags := 25, nameIndex := 456, descriptorIndex := 404, attributes := #[] }, { accessFlags := 25, nameIndex := 458, descriptorIndex := 404, attributes := #[] }, { accessFlags := 25, nameIndex := 460, descriptorIndex := 404, attributes := #[] }, { accessFlags := 24, nameIndex := 462, descriptorIndex := 392, attributes := #[] }, { accessFlags := 25, nameIndex := 464, descriptorIndex := 404, attributes := #[] }, { accessFlags := 25, nameIndex := 465, descriptorIndex := 404, attributes := #[] }, { accessFlags := 25, nameIndex := 466, descriptorIndex := 404, attributes := #[] }, { accessFlags := 25, nameIndex := 467, descriptorIndex := 404, attributes := #[] }, { accessFlags := 25, nameIndex := 468, descriptorIndex := 404, attributes := #[] }, { accessFlags := 25, nameIndex := 469, descriptorIndex := 404, attributes := #[] }, { accessFlags := 25, nameIndex := 470, descriptorIndex := 404, attributes := #[] }, { accessFlags := 25, nameIndex := 471, descriptorIndex := 404, attributes := #[] }, { accessFlags := 25, nameIndex := 472, descriptorIndex := 404, attributes := #[] }, { accessFlags := 25, nameIndex := 473, descriptorIndex := 404, attributes := #[] }, { accessFlags := 25, nameIndex := 474, descriptorIndex := 404, attributes := #[] }, { accessFlags := 25, nameIndex := 475, descriptorIndex := 404, attributes := #[] }, { accessFlags := 25, nameIndex := 476, descriptorIndex := 404, attributes := #[] }, { accessFlags := 25, nameIndex := 477, descriptorIndex := 404, attributes := #[] }, { accessFlags := 25, nameIndex := 478, descriptorIndex := 404, attributes := #[] }, { accessFlags := 25, nameIndex := 479, descriptorIndex := 404, attributes := #[] }, { accessFlags := 25, nameIndex := 480, descriptorIndex := 404, attributes := #[] }, { accessFlags := 25, nameIndex := 481, descriptorIndex := 404, attributes := #[] }, { accessFlags := 25, nameIndex := 482, descriptorIndex := 404, attributes := #[] }, { accessFlags := 25, nameIndex := 484, descriptorIndex := 404, attributes := #[] }, { accessFlags := 25, nameIndex := 485, descriptorIndex := 404, attributes := #[] }, { accessFlags := 25, nameIndex := 486, descriptorIndex := 404, attributes := #[] }, { accessFlags := 25, nameIndex := 487, descriptorIndex := 404, attributes := #[] }, { accessFlags := 25, nameIndex := 488, descriptorIndex := 404, attributes := #[] }, { accessFlags := 25, nameIndex := 489, descriptorIndex := 22, attributes := #[] }, { accessFlags := 25, nameIndex := 490, descriptorIndex := 22, attributes := #[] }, { accessFlags := 25, nameIndex := 492, descriptorIndex := 22, attributes := #[] }, { accessFlags := 25, nameIndex := 493, descriptorIndex := 22, attributes := #[] }, { accessFlags := 25, nameIndex := 495, descriptorIndex := 22, attributes := #[] }, { accessFlags := 25, nameIndex := 496, descriptorIndex := 22, attributes := #[] }, { accessFlags := 25, nameIndex := 497, descriptorIndex := 392, attributes := #[] }, { accessFlags := 25, nameIndex := 498, descriptorIndex := 392, attributes := #[] }, { accessFlags := 25, nameIndex := 499, descriptorIndex := 392, attributes := #[] }, { accessFlags := 18, nameIndex := 21, descriptorIndex := 22, attributes := #[] }, { accessFlags := 26, nameIndex := 501, descriptorIndex := 502, attributes := #[] }, { accessFlags := 25, nameIndex := 505, descriptorIndex := 392, attributes := #[] }, { accessFlags := 25, nameIndex := 506, descriptorIndex := 392, attributes := #[] }, { accessFlags := 4120, nameIndex := 284, descriptorIndex := 285, attributes := #[] }])
  fields := #[{ name := "MIN_RADIX", type := .int, accessFlags := 25, slot := 0, constantValue := 0 }, { name := "MAX_RADIX", type := .int, accessFlags := 25, slot := 1, constantValue := 0 }, { name := "MIN_VALUE", type := .char, accessFlags := 25, slot := 2, constantValue := 0 }, { name := "MAX_VALUE", type := .char, accessFlags := 25, slot := 3, constantValue := 0 }, { name := "TYPE", type := (.object "java/lang/Class"), accessFlags := 25, slot := 4, constantValue := 0 }, { name := "UNASSIGNED", type := .byte, accessFlags := 25, slot := 5, constantValue := 0 }, { name := "UPPERCASE_LETTER", type := .byte, accessFlags := 25, slot := 6, constantValue := 0 }, { name := "LOWERCASE_LETTER", type := .byte, accessFlags := 25, slot := 7, constantValue := 0 }, { name := "TITLECASE_LETTER", type := .byte, accessFlags := 25, slot := 8, constantValue := 0 }, { name := "MODIFIER_LETTER", type := .byte, accessFlags := 25, slot := 9, constantValue := 0 }, { name := "OTHER_LETTER", type := .byte, accessFlags := 25, slot := 10, constantValue := 0 }, { name := "NON_SPACING_MARK", type := .byte, accessFlags := 25, slot := 11, constantValue := 0 }, { name := "ENCLOSING_MARK", type := .byte, accessFlags := 25, slot := 12, constantValue := 0 }, { name := "COMBINING_SPACING_MARK", type := .byte, accessFlags := 25, slot := 13, constantValue := 0 }, { name := "DECIMAL_DIGIT_NUMBER", type := .byte, accessFlags := 25, slot := 14, constantValue := 0 }, { name := "LETTER_NUMBER", type := .byte, accessFlags := 25, slot := 15, constantValue := 0 }, { name := "OTHER_NUMBER", type := .byte, accessFlags := 25, slot := 16, constantValue := 0 }, { name := "SPACE_SEPARATOR", type := .byte, accessFlags := 25, slot := 17, constantValue := 0 }, { name := "LINE_SEPARATOR", type := .byte, accessFlags := 25, slot := 18, constantValue := 0 }, { name := "PARAGRAPH_SEPARATOR", type := .byte, accessFlags := 25, slot := 19, constantValue := 0 }, { name := "CONTROL", type := .byte, accessFlags := 25, slot := 20, constantValue := 0 }, { name := "FORMAT", type := .byte, accessFlags := 25, slot := 21, constantValue := 0 }, { name := "PRIVATE_USE", type := .byte, accessFlags := 25, slot := 22, constantValue := 0 }, { name := "SURROGATE", type := .byte, accessFlags := 25, slot := 23, constantValue := 0 }, { name := "DASH_PUNCTUATION", type := .byte, accessFlags := 25, slot := 24, constantValue := 0 }, { name := "START_PUNCTUATION", type := .byte, accessFlags := 25, slot := 25, constantValue := 0 }, { name := "END_PUNCTUATION", type := .byte, accessFlags := 25, slot := 26, constantValue := 0 }, { name := "CONNECTOR_PUNCTUATION", type := .byte, accessFlags := 25, slot := 27, constantValue := 0 }, { name := "OTHER_PUNCTUATION", type := .byte, accessFlags := 25, slot := 28, constantValue := 0 }, { name := "MATH_SYMBOL", type := .byte, accessFlags := 25, slot := 29, constantValue := 0 }, { name := "CURRENCY_SYMBOL", type := .byte, accessFlags := 25, slot := 30, constantValue := 0 }, { name := "MODIFIER_SYMBOL", type := .byte, accessFlags := 25, slot := 31, constantValue := 0 }, { name := "OTHER_SYMBOL", type := .byte, accessFlags := 25, slot := 32, constantValue := 0 }, { name := "INITIAL_QUOTE_PUNCTUATION", type := .byte, accessFlags := 25, slot := 33, constantValue := 0 }, { name := "FINAL_QUOTE_PUNCTUATION", type := .byte, accessFlags := 25, slot := 34, constantValue := 0 }, { name := "ERROR", type := .int, accessFlags := 24, slot := 35, constantValue := 0 }, { name := "DIRECTIONALITY_UNDEFINED", type := .byte, accessFlags := 25, slot := 36, constantValue := 0 }, { name := "DIRECTIONALITY_LEFT_TO_RIGHT", type := .byte, accessFlags := 25, slot := 37, constantValue := 0 }, { name := "DIRECTIONALITY_RIGHT_TO_LEFT", type := .byte, accessFlags := 25, slot := 38, constantValue := 0 }, { name := "DIRECTIONALITY_RIGHT_TO_LEFT_ARABIC", type := .byte, accessFlags := 25, slot := 39, constantValue := 0 }, { name := "DIRECTIONALITY_EUROPEAN_NUMBER", type := .byte, accessFlags := 25, slot := 40, constantValue := 0 }, { name := "DIRECTIONALITY_EUROPEAN_NUMBER_SEPARATOR", type := .byte, accessFlags := 25, slot := 41, constantValue := 0 }, { name := "DIRECTIONALITY_EUROPEAN_NUMBER_TERMINATOR", type := .byte, accessFlags := 25, slot := 42, constantValue := 0 }, { name := "DIRECTIONALITY_ARABIC_NUMBER", type := .byte, accessFlags := 25, slot := 43, constantValue := 0 }, { name := "DIRECTIONALITY_COMMON_NUMBER_SEPARATOR", type := .byte, accessFlags := 25, slot := 44, constantValue := 0 }, { name := "DIRECTIONALITY_NONSPACING_MARK", type := .byte, accessFlags := 25, slot := 45, constantValue := 0 }, { name := "DIRECTIONALITY_BOUNDARY_NEUTRAL", type := .byte, accessFlags := 25, slot := 46, constantValue := 0 }, { name := "DIRECTIONALITY_PARAGRAPH_SEPARATOR", type := .byte, accessFlags := 25, slot := 47, constantValue := 0 }, { name := "DIRECTIONALITY_SEGMENT_SEPARATOR", type := .byte, accessFlags := 25, slot := 48, constantValue := 0 }, { name := "DIRECTIONALITY_WHITESPACE", type := .byte, accessFlags := 25, slot := 49, constantValue := 0 }, { name := "DIRECTIONALITY_OTHER_NEUTRALS", type := .byte, accessFlags := 25, slot := 50, constantValue := 0 }, { name := "DIRECTIONALITY_LEFT_TO_RIGHT_EMBEDDING", type := .byte, accessFlags := 25, slot := 51, constantValue := 0 }, { name := "DIRECTIONALITY_LEFT_TO_RIGHT_OVERRIDE", type := .byte, accessFlags := 25, slot := 52, constantValue := 0 }, { name := "DIRECTIONALITY_RIGHT_TO_LEFT_EMBEDDING", type := .byte, accessFlags := 25, slot := 53, constantValue := 0 }, { name := "DIRECTIONALITY_RIGHT_TO_LEFT_OVERRIDE", type := .byte, accessFlags := 25, slot := 54, constantValue := 0 }, { name := "DIRECTIONALITY_POP_DIRECTIONAL_FORMAT", type := .byte, accessFlags := 25, slot := 55, constantValue := 0 }, { name := "DIRECTIONALITY_LEFT_TO_RIGHT_ISOLATE", type := .byte, accessFlags := 25, slot := 56, constantValue := 0 }, { name := "DIRECTIONALITY_RIGHT_TO_LEFT_ISOLATE", type := .byte, accessFlags := 25, slot := 57, constantValue := 0 }, { name := "DIRECTIONALITY_FIRST_STRONG_ISOLATE", type := .byte, accessFlags := 25, slot := 58, constantValue := 0 }, { name := "DIRECTIONALITY_POP_DIRECTIONAL_ISOLATE", type := .byte, accessFlags := 25, slot := 59, constantValue := 0 }, { name := "MIN_HIGH_SURROGATE", type := .char, accessFlags := 25, slot := 60, constantValue := 0 }, { name := "MAX_HIGH_SURROGATE", type := .char, accessFlags := 25, slot := 61, constantValue := 0 }, { name := "MIN_LOW_SURROGATE", type := .char, accessFlags := 25, slot := 62, constantValue := 0 }, { name := "MAX_LOW_SURROGATE", type := .char, accessFlags := 25, slot := 63, constantValue := 0 }, { name := "MIN_SURROGATE", type := .char, accessFlags := 25, slot := 64, constantValue := 0 }, { name := "MAX_SURROGATE", type := .char, accessFlags := 25, slot := 65, constantValue := 0 }, { name := "MIN_SUPPLEMENTARY_CODE_POINT", type := .int, accessFlags := 25, slot := 66, constantValue := 0 }, { name := "MIN_CODE_POINT", type := .int, accessFlags := 25, slot := 67, constantValue := 0 }, { name := "MAX_CODE_POINT", type := .int, accessFlags := 25, slot := 68, constantValue := 0 }, { name := "value", type := .char, accessFlags := 18, slot := 0, constantValue := 0 }, { name := "serialVersionUID", type := .long, accessFlags := 26, slot := 69, constantValue := 0 }, { name := "SIZE", type := .int, accessFlags := 25, slot := 70, constantValue := 0 }, { name := "BYTES", type := .int, accessFlags := 25, slot := 71, constantValue := 0 }, { name := "$assertionsDisabled", type := .boolean, accessFlags := 4120, slot := 72, constantValue := 0 }]
  methods := #[k12m0, k12m1, k12m2]
  instanceTypes := #[.char]
  staticTypes := #[.int, .int, .char, .char, (.object "java/lang/Class"), .byte, .byte, .byte, .byte, .byte, .byte, .byte, .byte, .byte, .byte, .byte, .byte, .byte, .byte, .byte, .byte, .byte, .byte, .byte, .byte, .byte, .byte, .byte, .byte, .byte, .byte, .byte, .byte, .byte, .byte, .int, .byte, .byte, .byte, .byte, .byte, .byte, .byte, .byte, .byte, .byte, .byte, .byte, .byte, .byte, .byte, .byte, .byte, .byte, .byte, .byte, .byte, .byte, .byte, .byte, .char, .char, .char, .char, .char, .char, .int, .int, .int, .long, .int, .int, .boolean]
  resolved := Array.replicate 604 none
  statics := none }

def pool13 : Array CpInfo := pool [(9, u "<init>"), (6, .class_ 18), (1, u "java/lang/Object"), (0, u "()V"), (1, .class_ 23), (1, u "jdk/internal/util/ArraysSupport"), (0, u "LOG2_ARRAY_LONG_INDEX_SCALE"), (0, u "I"), (2, u "U"), (0, u "Ljdk/internal/misc/Unsafe;"), (8, u "BIG_ENDIAN"), (0, u "Z"), (8, u "LOG2_BYTE_BIT_SIZE"), (4, u "LOG2_ARRAY_INT_INDEX_SCALE"), (54, u "JLA"), (0, u "Ljdk/internal/access/JavaLangAccess;"), (11, u "LOG2_ARRAY_BOOLEAN_INDEX_SCALE"), (9, u "LOG2_ARRAY_BYTE_INDEX_SCALE"), (5, u "LOG2_ARRAY_CHAR_INDEX_SCALE"), (5, u "LOG2_ARRAY_SHORT_INDEX_SCALE"), (18, u "LOG2_ARRAY_FLOAT_INDEX_SCALE"), (24, u "LOG2_ARRAY_DOUBLE_INDEX_SCALE"), (89, u "T_BOOLEAN"), (2, u "T_CHAR"), (1, u "T_FLOAT"), (1, u "T_DOUBLE"), (1, u "T_BYTE"), (1, u "T_SHORT"), (1, u "T_INT"), (1, u "T_LONG"), (1, u "SOFT_MAX_ARRAY_LENGTH")] 83

def k13m0 : Method := { name := "<init>", desc := "()V", sig := { parameters := [], returnType := none }, accessFlags := 2, code := none }
/-- jdk/internal/util/ArraysSupport -/
def k13 : Class := { plain "jdk/internal/util/ArraysSupport" (some 0) with
  accessFlags := 33
  interfaces := #[]
  cf := some (fileOf pool13 21 #[] #[{ accessFlags := 2, nameIndex := 9, descriptorIndex := 19, attributes := #[] }] 33 16 #[] #[{ accessFlags := 24, nameIndex := 28, descriptorIndex := 29, attributes := #[] }, { accessFlags := 26, nameIndex := 38, descriptorIndex := 39, attributes := #[] }, { accessFlags := 25, nameIndex := 121, descriptorIndex := 25, attributes := #[] }, { accessFlags := 25, nameIndex := 131, descriptorIndex := 25, attributes := #[] }, { accessFlags := 25, nameIndex := 137, descriptorIndex := 25, attributes := #[] }, { accessFlags := 25, nameIndex := 143, descriptorIndex := 25, attributes := #[] }, { accessFlags := 25, nameIndex := 53, descriptorIndex := 25, attributes := #[] }, { accessFlags := 25, nameIndex := 24, descriptorIndex := 25, attributes := #[] }, { accessFlags := 25, nameIndex := 162, descriptorIndex := 25, attributes := #[] }, { accessFlags := 25, nameIndex := 187, descriptorIndex := 25, attributes := #[] }, { accessFlags := 26, nameIndex := 48, descriptorIndex := 25, attributes := #[] }, { accessFlags := 25, nameIndex := 277, descriptorIndex := 25, attributes := #[] }, { accessFlags := 25, nameIndex := 280, descriptorIndex := 25, attributes := #[] }, { accessFlags := 25, nameIndex := 282, descriptorIndex := 25, attributes := #[] }, { accessFlags := 25, nameIndex := 284, descriptorIndex := 25, attributes := #[] }, { accessFlags := 25, nameIndex := 286, descriptorIndex := 25, attributes := #[] }, { accessFlags := 25, nameIndex := 288, descriptorIndex := 25, attributes := #[] }, { accessFlags := 25, nameIndex := 290, descriptorIndex := 25, attributes := #[] }, { accessFlags := 25, nameIndex := 292, descriptorIndex := 25, attributes := #[] }, { accessFlags := 26, nameIndex := 108, descriptorIndex := 109, attributes := #[] }, { accessFlags := 25, nameIndex := 294, descriptorIndex := 25, attributes := #[] }])
  fields := #[{ name := "U", type := (.object "jdk/internal/misc/Unsafe"), accessFlags := 24, slot := 0, constantValue := 0 }, { name := "BIG_ENDIAN", type := .boolean, accessFlags := 26, slot := 1, constantValue := 0 }, { name := "LOG2_ARRAY_BOOLEAN_INDEX_SCALE", type := .int, accessFlags := 25, slot := 2, constantValue := 0 }, { name := "LOG2_ARRAY_BYTE_INDEX_SCALE", type := .int, accessFlags := 25, slot := 3, constantValue := 0 }, { name := "LOG2_ARRAY_CHAR_INDEX_SCALE", type := .int, accessFlags := 25, slot := 4, constantValue := 0 }, { name := "LOG2_ARRAY_SHORT_INDEX_SCALE", type := .int, accessFlags := 25, slot := 5, constantValue := 0 }, { name := "LOG2_ARRAY_INT_INDEX_SCALE", type := .int, accessFlags := 25, slot := 6, constantValue := 0 }, { name := "LOG2_ARRAY_LONG_INDEX_SCALE", type := .int, accessFlags := 25, slot := 7, constantValue := 0 }, { name := "LOG2_ARRAY_FLOAT_INDEX_SCALE", type := .int, accessFlags := 25, slot := 8, constantValue := 0 }, { name := "LOG2_ARRAY_DOUBLE_INDEX_SCALE", type := .int, accessFlags := 25, slot := 9, constantValue := 0 }, { name := "LOG2_BYTE_BIT_SIZE", type := .int, accessFlags := 26, slot := 10, constantValue := 0 }, { name := "T_BOOLEAN", type := .int, accessFlags := 25, slot := 11, constantValue := 0 }, { name := "T_CHAR", type := .int, accessFlags := 25, slot := 12, constantValue := 0 }, { name := "T_FLOAT", type := .int, accessFlags := 25, slot := 13, constantValue := 0 }, { name := "T_DOUBLE", type := .int, accessFlags := 25, slot := 14, constantValue := 0 }, { name := "T_BYTE", type := .int, accessFlags := 25, slot := 15, constantValue := 0 }, { name := "T_SHORT", type := .int, accessFlags := 25, slot := 16, constantValue := 0 }, { name := "T_INT", type := .int, accessFlags := 25, slot := 17, constantValue := 0 }, { name := "T_LONG", type := .int, accessFlags := 25, slot := 18, constantValue := 0 }, { name := "JLA", type := (.object "jdk/internal/access/JavaLangAccess"), accessFlags := 26, slot := 19, constantValue := 0 }, { name := "SOFT_MAX_ARRAY_LENGTH", type := .int, accessFlags := 25, slot := 20, constantValue := 0 }]
  methods := #[k13m0]
  instanceTypes := #[]
  staticTypes := #[(.object "jdk/internal/misc/Unsafe"), .boolean, .int, .int, .int, .int, .int, .int, .int, .int, .int, .int, .int, .int, .int, .int, .int, .int, .int, (.object "jdk/internal/access/JavaLangAccess"), .int]
  resolved := Array.replicate 378 none
  statics := none }

def pool14 : Array CpInfo := pool [(1, u "java/lang/Cloneable"), (0, .class_ 1), (0, u "java/lang/Object"), (0, .class_ 3)] 3

/-- java/lang/Cloneable -/
def k14 : Class := { plain "java/lang/Cloneable" (some 0) with
  accessFlags := 1537
  interfaces := #[]
  cf := some (fileOf pool14 2 #[] #[] 1537 4 #[] #[])
  fields := #[]
  methods := #[]
  instanceTypes := #[]
  staticTypes := #[]
  resolved := Array.replicate 8 none
  statics := none }

/-- the primitive byte -/
def k15 : Class := { plain "byte" none with kind := .primitive 'B', accessFlags := 0x411 }
/-- [B -/
def k16 : Class := { plain "[B" (some 0) with kind := .array 15 .byte, interfaces := #[14, 2], accessFlags := 1041 }

/-- the primitive char -/
def k17 : Class := { plain "char" none with kind := .primitive 'C', accessFlags := 0x411 }
/-- [C -/
def k18 : Class := { plain "[C" (some 0) with kind := .array 17 .char, interfaces := #[14, 2], accessFlags := 1041 }

/-- the primitive int -/
def k19 : Class := { plain "int" none with kind := .primitive 'I', accessFlags := 0x411 }
/-- [I -/
def k20 : Class := { plain "[I" (some 0) with kind := .array 19 .int, interfaces := #[14, 2], accessFlags := 1041 }

def heap : Heap := #[{ cls := 7, slots := #[.long 0, .int 1, .null, .int 0, .null, .int 0, .int 0], vm := .statics 7 },
  { cls := 9, slots := #[.int 0, .int 8, .int 0, .int 1], vm := .statics 9 },
  { cls := 11, slots := #[.null, .null, .null], vm := .statics 11 }]
def classes : Array Class := #[k0, k1, k2, k3, k4, k5, k6, k7, k8, k9, k10, k11, k12, k13, k14, k15, k16, k17, k18, k19, k20]
def interned : List (Array UInt16 × Addr) := []
def slotsUsed : Nat := 14
def theMethod : MethodId := ⟨1, 1⟩
def args0 : Array Value := #[.int 65, .int 66, .int 67, .int 68, .int 4]
def aboutOver (below : List Frame) : State where
  vm := { classes := classes, interned := interned.toArray }
  heap := heap
  slotsUsed := slotsUsed
  threads := #[{ frames := .invoking theMethod args0 :: below }]
def below0 : List Frame := [.native { method := ⟨0, 0⟩, args := #[] }]
def about1 : State := aboutOver below0
def p0 : Program := .bare "" "" ""
def e0 : Env := launch0.env 0 0 0
theorem w_frames : about1.frames = Frame.invoking theMethod args0 :: below0 := rfl
set_option maxRecDepth 65536 in
theorem w_args : argsFit about1.vm theMethod args0 = true := by decide +kernel
set_option maxRecDepth 65536 in
theorem w_heap : heapFits about1 = true := by decide +kernel
set_option maxRecDepth 65536 in
theorem w_runnable : about1.curStatus? = some .runnable := by decide +kernel
set_option maxRecDepth 65536 in
theorem w_alone : about1.alone = true := by decide +kernel
set_option maxRecDepth 65536 in
theorem w_named : about1.methodNamed? x = some theMethod := by decide +kernel
set_option maxRecDepth 65536 in
theorem w_hears : about1.hears theMethod below0 = true := by decide +kernel
set_option maxRecDepth 65536 in
theorem w_ripe : about1.ripe theMethod args0 below0 = true := by decide +kernel
theorem w_running : about1.status = .running := rfl
set_option maxRecDepth 65536 in
theorem w_room : about1.hasRoom e0.platform room_1 = true :=
  launch0.hasRoom_least _ room_1 (by decide +kernel) (by decide +kernel) (by decide +kernel) (by decide +kernel) (by decide +kernel) (by decide +kernel)
theorem allAtoms_all (ts : List Jvm.Cond) (a : Array Jvm.Value) (st : Jvm.State) : (allAtoms ts).before a st = ts.all (fun c => c.before a st) := by
  induction ts with
  | nil => rfl
  | cons c t ih =>
    show (Jvm.Cond.and c (allAtoms t)).before a st = _
    rw [Jvm.Cond.before_and, ih, List.all_cons]
def words1 : List Jvm.Cond := Jvm.Cond.code x code maxLocals ret :: tables_1
/-- a 'code' word, met by the world's own term for the bytes: nothing is compared byte by byte -/
theorem code_word {y : MethodName} {bytes : ByteArray} {mx : Nat} {rt : Option FieldType} {a : Array Value} {s : State} {m : MethodId} {meth : Method} {c : Code} (h1 : s.methodNamed? y = some m) (h2 : s.vm.method? m = some meth) (h3 : meth.code = some c) (h4 : c.code = bytes)
    (h5 : (c.maxLocals == mx && c.exceptionTable.isEmpty && decide (c.maxStack ≤ mostOperands) && decide (meth.sig.returnType = rt) && !meth.locks && decide (parseMethodDescriptor y.desc = some meth.sig)) = true) : (Jvm.Cond.code y bytes mx rt).before a s = true := by
  simp only [Bool.and_eq_true, beq_iff_eq, Bool.not_eq_true', decide_eq_true_eq] at h5
  obtain ⟨⟨⟨⟨⟨g1, g2⟩, g3⟩, g4⟩, g5⟩, g6⟩ := h5
  simp [Cond.before, Cond.holds, Cond.value, h1, h2, h3, h4, g1, g2, g3, g4, g5, g6]
def isCode : Jvm.Cond → Bool
  | .code _ _ _ _ => true
  | _ => false
theorem all_split {L : List Jvm.Cond} {P : Jvm.Cond → Bool} (h1 : L.all (fun c => isCode c || P c) = true) (h2 : ∀ c ∈ L.filter isCode, P c = true) : L.all P = true := by
  refine List.all_eq_true.mpr fun c hc => ?_
  have h := List.all_eq_true.mp h1 c hc
  rcases Bool.eq_false_or_eq_true (isCode c) with hi | hi
  · exact h2 c (List.mem_filter.mpr ⟨hc, hi⟩)
  · simpa [hi] using h
set_option maxRecDepth 65536 in
theorem w_c0 : (Jvm.Cond.code x code maxLocals ret).before args0 about1 = true := code_word (m := ⟨1, 1⟩) (meth := k1m1) (c := k1c1) (by decide +kernel) rfl rfl rfl (by decide +kernel)
set_option maxRecDepth 65536 in
theorem w_c1 : (Jvm.Cond.code ({ cls := "com/example/record_hold/recordhold/text/Utf8CanEncodePinLaw", name := "draw", desc := "(I)C" } : Jvm.MethodName) method_6_code (4 : Nat) (Option.some Jvm.ClassFile.FieldType.char)).before args0 about1 = true := code_word (m := ⟨1, 5⟩) (meth := k1m5) (c := k1c5) (by decide +kernel) rfl rfl rfl (by decide +kernel)
set_option maxRecDepth 65536 in
theorem w_c2 : (Jvm.Cond.code ({ cls := "java/lang/String", name := "<init>", desc := "([C)V" } : Jvm.MethodName) jdk_42_method_3_code (2 : Nat) (Option.none : Option Jvm.ClassFile.FieldType)).before args0 about1 = true := code_word (m := ⟨7, 1⟩) (meth := k7m1) (c := k7c1) (by decide +kernel) rfl rfl rfl (by decide +kernel)
set_option maxRecDepth 65536 in
theorem w_c3 : (Jvm.Cond.code ({ cls := "java/lang/String", name := "<init>", desc := "([CIILjava/lang/Void;)V" } : Jvm.MethodName) jdk_42_method_149_code (6 : Nat) (Option.none : Option Jvm.ClassFile.FieldType)).before args0 about1 = true := code_word (m := ⟨7, 4⟩) (meth := k7m4) (c := k7c4) (by decide +kernel) rfl rfl rfl (by decide +kernel)
set_option maxRecDepth 65536 in
theorem w_c4 : (Jvm.Cond.code ({ cls := "java/lang/Object", name := "<init>", desc := "()V" } : Jvm.MethodName) object_method_1_code (1 : Nat) (Option.none : Option Jvm.ClassFile.FieldType)).before args0 about1 = true := code_word (m := ⟨0, 0⟩) (meth := k0m0) (c := k0c0) (by decide +kernel) rfl rfl rfl (by decide +kernel)
set_option maxRecDepth 65536 in
theorem w_c5 : (Jvm.Cond.code ({ cls := "com/example/record_hold/recordhold/text/Utf8", name := "canEncode", desc := "(Ljava/lang/String;)Z" } : Jvm.MethodName) prog_46_method_4_code (3 : Nat) (Option.some Jvm.ClassFile.FieldType.boolean)).before args0 about1 = true := code_word (m := ⟨8, 1⟩) (meth := k8m1) (c := k8c1) (by decide +kernel) rfl rfl rfl (by decide +kernel)
set_option maxRecDepth 65536 in
theorem w_c6 : (Jvm.Cond.code ({ cls := "java/lang/String", name := "length", desc := "()I" } : Jvm.MethodName) jdk_42_method_54_code (1 : Nat) (Option.some Jvm.ClassFile.FieldType.int)).before args0 about1 = true := code_word (m := ⟨7, 2⟩) (meth := k7m2) (c := k7c2) (by decide +kernel) rfl rfl rfl (by decide +kernel)
set_option maxRecDepth 65536 in
theorem w_c7 : (Jvm.Cond.code ({ cls := "java/lang/String", name := "coder", desc := "()B" } : Jvm.MethodName) jdk_42_method_152_code (1 : Nat) (Option.some Jvm.ClassFile.FieldType.byte)).before args0 about1 = true := code_word (m := ⟨7, 5⟩) (meth := k7m5) (c := k7c5) (by decide +kernel) rfl rfl rfl (by decide +kernel)
set_option maxRecDepth 65536 in
theorem w_c8 : (Jvm.Cond.code ({ cls := "java/lang/StringUTF16", name := "compress", desc := "([CII)[B" } : Jvm.MethodName) jdk_52_method_16_code (6 : Nat) (Option.some (Jvm.ClassFile.FieldType.array Jvm.ClassFile.FieldType.byte))).before args0 about1 = true := code_word (m := ⟨9, 8⟩) (meth := k9m8) (c := k9c8) (by decide +kernel) rfl rfl rfl (by decide +kernel)
set_option maxRecDepth 65536 in
theorem w_c9 : (Jvm.Cond.code ({ cls := "java/lang/StringUTF16", name := "compress", desc := "([CI[BII)I" } : Jvm.MethodName) jdk_52_method_21_code (7 : Nat) (Option.some Jvm.ClassFile.FieldType.int)).before args0 about1 = true := code_word (m := ⟨9, 9⟩) (meth := k9m9) (c := k9c9) (by decide +kernel) rfl rfl rfl (by decide +kernel)
set_option maxRecDepth 65536 in
theorem w_c10 : (Jvm.Cond.code ({ cls := "java/lang/StringUTF16", name := "coderFromArrayLen", desc := "([BI)B" } : Jvm.MethodName) jdk_52_method_15_code (2 : Nat) (Option.some Jvm.ClassFile.FieldType.byte)).before args0 about1 = true := code_word (m := ⟨9, 7⟩) (meth := k9m7) (c := k9c7) (by decide +kernel) rfl rfl rfl (by decide +kernel)
set_option maxRecDepth 65536 in
theorem w_c11 : (Jvm.Cond.code ({ cls := "com/example/record_hold/recordhold/text/Utf8CanEncodePinLaw", name := "fine", desc := "(ZCCZC)Z" } : Jvm.MethodName) method_5_code (5 : Nat) (Option.some Jvm.ClassFile.FieldType.boolean)).before args0 about1 = true := code_word (m := ⟨1, 4⟩) (meth := k1m4) (c := k1c4) (by decide +kernel) rfl rfl rfl (by decide +kernel)
set_option maxRecDepth 65536 in
theorem w_c12 : (Jvm.Cond.code ({ cls := "com/example/record_hold/recordhold/text/Utf8CanEncodePinLaw", name := "isHigh", desc := "(C)Z" } : Jvm.MethodName) method_3_code (1 : Nat) (Option.some Jvm.ClassFile.FieldType.boolean)).before args0 about1 = true := code_word (m := ⟨1, 2⟩) (meth := k1m2) (c := k1c2) (by decide +kernel) rfl rfl rfl (by decide +kernel)
set_option maxRecDepth 65536 in
theorem w_c13 : (Jvm.Cond.code ({ cls := "com/example/record_hold/recordhold/text/Utf8CanEncodePinLaw", name := "isLow", desc := "(C)Z" } : Jvm.MethodName) method_4_code (1 : Nat) (Option.some Jvm.ClassFile.FieldType.boolean)).before args0 about1 = true := code_word (m := ⟨1, 3⟩) (meth := k1m3) (c := k1c3) (by decide +kernel) rfl rfl rfl (by decide +kernel)
set_option maxRecDepth 65536 in
theorem w_c14 : (Jvm.Cond.code ({ cls := "java/lang/String", name := "charAt", desc := "(I)C" } : Jvm.MethodName) jdk_42_method_56_code (2 : Nat) (Option.some Jvm.ClassFile.FieldType.char)).before args0 about1 = true := code_word (m := ⟨7, 3⟩) (meth := k7m3) (c := k7c3) (by decide +kernel) rfl rfl rfl (by decide +kernel)
set_option maxRecDepth 65536 in
theorem w_c15 : (Jvm.Cond.code ({ cls := "java/lang/String", name := "isLatin1", desc := "()Z" } : Jvm.MethodName) jdk_42_method_154_code (1 : Nat) (Option.some Jvm.ClassFile.FieldType.boolean)).before args0 about1 = true := code_word (m := ⟨7, 6⟩) (meth := k7m6) (c := k7c6) (by decide +kernel) rfl rfl rfl (by decide +kernel)
set_option maxRecDepth 65536 in
theorem w_c16 : (Jvm.Cond.code ({ cls := "java/lang/StringLatin1", name := "charAt", desc := "([BI)C" } : Jvm.MethodName) jdk_43_method_2_code (2 : Nat) (Option.some Jvm.ClassFile.FieldType.char)).before args0 about1 = true := code_word (m := ⟨10, 1⟩) (meth := k10m1) (c := k10c1) (by decide +kernel) rfl rfl rfl (by decide +kernel)
set_option maxRecDepth 65536 in
theorem w_c17 : (Jvm.Cond.code ({ cls := "java/lang/String", name := "checkIndex", desc := "(II)V" } : Jvm.MethodName) jdk_42_method_155_code (2 : Nat) (Option.none : Option Jvm.ClassFile.FieldType)).before args0 about1 = true := code_word (m := ⟨7, 7⟩) (meth := k7m7) (c := k7c7) (by decide +kernel) rfl rfl rfl (by decide +kernel)
set_option maxRecDepth 65536 in
theorem w_c18 : (Jvm.Cond.code ({ cls := "jdk/internal/util/Preconditions", name := "checkIndex", desc := "(IILjava/util/function/BiFunction;)I" } : Jvm.MethodName) jdk_41_method_11_code (3 : Nat) (Option.some Jvm.ClassFile.FieldType.int)).before args0 about1 = true := code_word (m := ⟨11, 1⟩) (meth := k11m1) (c := k11c1) (by decide +kernel) rfl rfl rfl (by decide +kernel)
set_option maxRecDepth 65536 in
theorem w_c19 : (Jvm.Cond.code ({ cls := "java/lang/Character", name := "isHighSurrogate", desc := "(C)Z" } : Jvm.MethodName) jdk_89_method_14_code (1 : Nat) (Option.some Jvm.ClassFile.FieldType.boolean)).before args0 about1 = true := code_word (m := ⟨12, 0⟩) (meth := k12m0) (c := k12c0) (by decide +kernel) rfl rfl rfl (by decide +kernel)
set_option maxRecDepth 65536 in
theorem w_c20 : (Jvm.Cond.code ({ cls := "java/lang/Character", name := "isSurrogate", desc := "(C)Z" } : Jvm.MethodName) jdk_89_method_16_code (1 : Nat) (Option.some Jvm.ClassFile.FieldType.boolean)).before args0 about1 = true := code_word (m := ⟨12, 2⟩) (meth := k12m2) (c := k12c2) (by decide +kernel) rfl rfl rfl (by decide +kernel)
set_option maxRecDepth 65536 in
theorem w_c21 : (Jvm.Cond.code ({ cls := "java/lang/StringUTF16", name := "toBytes", desc := "([CII)[B" } : Jvm.MethodName) jdk_52_method_14_code (5 : Nat) (Option.some (Jvm.ClassFile.FieldType.array Jvm.ClassFile.FieldType.byte))).before args0 about1 = true := code_word (m := ⟨9, 6⟩) (meth := k9m6) (c := k9c6) (by decide +kernel) rfl rfl rfl (by decide +kernel)
set_option maxRecDepth 65536 in
theorem w_c22 : (Jvm.Cond.code ({ cls := "java/lang/StringUTF16", name := "newBytesFor", desc := "(I)[B" } : Jvm.MethodName) jdk_52_method_2_code (1 : Nat) (Option.some (Jvm.ClassFile.FieldType.array Jvm.ClassFile.FieldType.byte))).before args0 about1 = true := code_word (m := ⟨9, 1⟩) (meth := k9m1) (c := k9c1) (by decide +kernel) rfl rfl rfl (by decide +kernel)
set_option maxRecDepth 65536 in
theorem w_c23 : (Jvm.Cond.code ({ cls := "java/lang/StringUTF16", name := "newBytesLength", desc := "(I)I" } : Jvm.MethodName) jdk_52_method_3_code (1 : Nat) (Option.some Jvm.ClassFile.FieldType.int)).before args0 about1 = true := code_word (m := ⟨9, 2⟩) (meth := k9m2) (c := k9c2) (by decide +kernel) rfl rfl rfl (by decide +kernel)
set_option maxRecDepth 65536 in
theorem w_c24 : (Jvm.Cond.code ({ cls := "java/lang/StringUTF16", name := "putChar", desc := "([BII)V" } : Jvm.MethodName) jdk_52_method_4_code (3 : Nat) (Option.none : Option Jvm.ClassFile.FieldType)).before args0 about1 = true := code_word (m := ⟨9, 3⟩) (meth := k9m3) (c := k9c3) (by decide +kernel) rfl rfl rfl (by decide +kernel)
set_option maxRecDepth 65536 in
theorem w_c25 : (Jvm.Cond.code ({ cls := "java/lang/StringUTF16", name := "getChar", desc := "([BI)C" } : Jvm.MethodName) jdk_52_method_5_code (2 : Nat) (Option.some Jvm.ClassFile.FieldType.char)).before args0 about1 = true := code_word (m := ⟨9, 4⟩) (meth := k9m4) (c := k9c4) (by decide +kernel) rfl rfl rfl (by decide +kernel)
set_option maxRecDepth 65536 in
theorem w_c26 : (Jvm.Cond.code ({ cls := "java/lang/StringUTF16", name := "charAt", desc := "([BI)C" } : Jvm.MethodName) jdk_52_method_83_code (2 : Nat) (Option.some Jvm.ClassFile.FieldType.char)).before args0 about1 = true := code_word (m := ⟨9, 10⟩) (meth := k9m10) (c := k9c10) (by decide +kernel) rfl rfl rfl (by decide +kernel)
set_option maxRecDepth 65536 in
theorem w_c27 : (Jvm.Cond.code ({ cls := "java/lang/StringUTF16", name := "checkIndex", desc := "(I[B)V" } : Jvm.MethodName) jdk_52_method_91_code (2 : Nat) (Option.none : Option Jvm.ClassFile.FieldType)).before args0 about1 = true := code_word (m := ⟨9, 11⟩) (meth := k9m11) (c := k9c11) (by decide +kernel) rfl rfl rfl (by decide +kernel)
set_option maxRecDepth 65536 in
theorem w_c28 : (Jvm.Cond.code ({ cls := "java/lang/StringUTF16", name := "length", desc := "([B)I" } : Jvm.MethodName) jdk_52_method_6_code (1 : Nat) (Option.some Jvm.ClassFile.FieldType.int)).before args0 about1 = true := code_word (m := ⟨9, 5⟩) (meth := k9m5) (c := k9c5) (by decide +kernel) rfl rfl rfl (by decide +kernel)
set_option maxRecDepth 65536 in
theorem w_c29 : (Jvm.Cond.code ({ cls := "java/lang/Character", name := "isLowSurrogate", desc := "(C)Z" } : Jvm.MethodName) jdk_89_method_15_code (1 : Nat) (Option.some Jvm.ClassFile.FieldType.boolean)).before args0 about1 = true := code_word (m := ⟨12, 1⟩) (meth := k12m1) (c := k12c1) (by decide +kernel) rfl rfl rfl (by decide +kernel)
def codes1 : List Jvm.Cond := [Jvm.Cond.code x code maxLocals ret, Jvm.Cond.code ({ cls := "com/example/record_hold/recordhold/text/Utf8CanEncodePinLaw", name := "draw", desc := "(I)C" } : Jvm.MethodName) method_6_code (4 : Nat) (Option.some Jvm.ClassFile.FieldType.char), Jvm.Cond.code ({ cls := "java/lang/String", name := "<init>", desc := "([C)V" } : Jvm.MethodName) jdk_42_method_3_code (2 : Nat) (Option.none : Option Jvm.ClassFile.FieldType), Jvm.Cond.code ({ cls := "java/lang/String", name := "<init>", desc := "([CIILjava/lang/Void;)V" } : Jvm.MethodName) jdk_42_method_149_code (6 : Nat) (Option.none : Option Jvm.ClassFile.FieldType), Jvm.Cond.code ({ cls := "java/lang/Object", name := "<init>", desc := "()V" } : Jvm.MethodName) object_method_1_code (1 : Nat) (Option.none : Option Jvm.ClassFile.FieldType), Jvm.Cond.code ({ cls := "com/example/record_hold/recordhold/text/Utf8", name := "canEncode", desc := "(Ljava/lang/String;)Z" } : Jvm.MethodName) prog_46_method_4_code (3 : Nat) (Option.some Jvm.ClassFile.FieldType.boolean), Jvm.Cond.code ({ cls := "java/lang/String", name := "length", desc := "()I" } : Jvm.MethodName) jdk_42_method_54_code (1 : Nat) (Option.some Jvm.ClassFile.FieldType.int), Jvm.Cond.code ({ cls := "java/lang/String", name := "coder", desc := "()B" } : Jvm.MethodName) jdk_42_method_152_code (1 : Nat) (Option.some Jvm.ClassFile.FieldType.byte), Jvm.Cond.code ({ cls := "java/lang/StringUTF16", name := "compress", desc := "([CII)[B" } : Jvm.MethodName) jdk_52_method_16_code (6 : Nat) (Option.some (Jvm.ClassFile.FieldType.array Jvm.ClassFile.FieldType.byte)), Jvm.Cond.code ({ cls := "java/lang/StringUTF16", name := "compress", desc := "([CI[BII)I" } : Jvm.MethodName) jdk_52_method_21_code (7 : Nat) (Option.some Jvm.ClassFile.FieldType.int), Jvm.Cond.code ({ cls := "java/lang/StringUTF16", name := "coderFromArrayLen", desc := "([BI)B" } : Jvm.MethodName) jdk_52_method_15_code (2 : Nat) (Option.some Jvm.ClassFile.FieldType.byte), Jvm.Cond.code ({ cls := "com/example/record_hold/recordhold/text/Utf8CanEncodePinLaw", name := "fine", desc := "(ZCCZC)Z" } : Jvm.MethodName) method_5_code (5 : Nat) (Option.some Jvm.ClassFile.FieldType.boolean), Jvm.Cond.code ({ cls := "com/example/record_hold/recordhold/text/Utf8CanEncodePinLaw", name := "isHigh", desc := "(C)Z" } : Jvm.MethodName) method_3_code (1 : Nat) (Option.some Jvm.ClassFile.FieldType.boolean), Jvm.Cond.code ({ cls := "com/example/record_hold/recordhold/text/Utf8CanEncodePinLaw", name := "isLow", desc := "(C)Z" } : Jvm.MethodName) method_4_code (1 : Nat) (Option.some Jvm.ClassFile.FieldType.boolean), Jvm.Cond.code ({ cls := "java/lang/String", name := "charAt", desc := "(I)C" } : Jvm.MethodName) jdk_42_method_56_code (2 : Nat) (Option.some Jvm.ClassFile.FieldType.char), Jvm.Cond.code ({ cls := "java/lang/String", name := "isLatin1", desc := "()Z" } : Jvm.MethodName) jdk_42_method_154_code (1 : Nat) (Option.some Jvm.ClassFile.FieldType.boolean), Jvm.Cond.code ({ cls := "java/lang/StringLatin1", name := "charAt", desc := "([BI)C" } : Jvm.MethodName) jdk_43_method_2_code (2 : Nat) (Option.some Jvm.ClassFile.FieldType.char), Jvm.Cond.code ({ cls := "java/lang/String", name := "checkIndex", desc := "(II)V" } : Jvm.MethodName) jdk_42_method_155_code (2 : Nat) (Option.none : Option Jvm.ClassFile.FieldType), Jvm.Cond.code ({ cls := "jdk/internal/util/Preconditions", name := "checkIndex", desc := "(IILjava/util/function/BiFunction;)I" } : Jvm.MethodName) jdk_41_method_11_code (3 : Nat) (Option.some Jvm.ClassFile.FieldType.int), Jvm.Cond.code ({ cls := "java/lang/Character", name := "isHighSurrogate", desc := "(C)Z" } : Jvm.MethodName) jdk_89_method_14_code (1 : Nat) (Option.some Jvm.ClassFile.FieldType.boolean), Jvm.Cond.code ({ cls := "java/lang/Character", name := "isSurrogate", desc := "(C)Z" } : Jvm.MethodName) jdk_89_method_16_code (1 : Nat) (Option.some Jvm.ClassFile.FieldType.boolean), Jvm.Cond.code ({ cls := "java/lang/StringUTF16", name := "toBytes", desc := "([CII)[B" } : Jvm.MethodName) jdk_52_method_14_code (5 : Nat) (Option.some (Jvm.ClassFile.FieldType.array Jvm.ClassFile.FieldType.byte)), Jvm.Cond.code ({ cls := "java/lang/StringUTF16", name := "newBytesFor", desc := "(I)[B" } : Jvm.MethodName) jdk_52_method_2_code (1 : Nat) (Option.some (Jvm.ClassFile.FieldType.array Jvm.ClassFile.FieldType.byte)), Jvm.Cond.code ({ cls := "java/lang/StringUTF16", name := "newBytesLength", desc := "(I)I" } : Jvm.MethodName) jdk_52_method_3_code (1 : Nat) (Option.some Jvm.ClassFile.FieldType.int), Jvm.Cond.code ({ cls := "java/lang/StringUTF16", name := "putChar", desc := "([BII)V" } : Jvm.MethodName) jdk_52_method_4_code (3 : Nat) (Option.none : Option Jvm.ClassFile.FieldType), Jvm.Cond.code ({ cls := "java/lang/StringUTF16", name := "getChar", desc := "([BI)C" } : Jvm.MethodName) jdk_52_method_5_code (2 : Nat) (Option.some Jvm.ClassFile.FieldType.char), Jvm.Cond.code ({ cls := "java/lang/StringUTF16", name := "charAt", desc := "([BI)C" } : Jvm.MethodName) jdk_52_method_83_code (2 : Nat) (Option.some Jvm.ClassFile.FieldType.char), Jvm.Cond.code ({ cls := "java/lang/StringUTF16", name := "checkIndex", desc := "(I[B)V" } : Jvm.MethodName) jdk_52_method_91_code (2 : Nat) (Option.none : Option Jvm.ClassFile.FieldType), Jvm.Cond.code ({ cls := "java/lang/StringUTF16", name := "length", desc := "([B)I" } : Jvm.MethodName) jdk_52_method_6_code (1 : Nat) (Option.some Jvm.ClassFile.FieldType.int), Jvm.Cond.code ({ cls := "java/lang/Character", name := "isLowSurrogate", desc := "(C)Z" } : Jvm.MethodName) jdk_89_method_15_code (1 : Nat) (Option.some Jvm.ClassFile.FieldType.boolean)]
set_option maxRecDepth 65536 in
theorem codes_eq : words1.filter isCode = codes1 := rfl
theorem w_codes : ∀ c ∈ words1.filter isCode, c.before args0 about1 = true := by
  rw [codes_eq]
  intro c hc
  simp only [codes1, List.mem_cons, List.not_mem_nil, or_false] at hc
  rcases hc with rfl | rfl | rfl | rfl | rfl | rfl | rfl | rfl | rfl | rfl | rfl | rfl | rfl | rfl | rfl | rfl | rfl | rfl | rfl | rfl | rfl | rfl | rfl | rfl | rfl | rfl | rfl | rfl | rfl | rfl
  · exact w_c0
  · exact w_c1
  · exact w_c2
  · exact w_c3
  · exact w_c4
  · exact w_c5
  · exact w_c6
  · exact w_c7
  · exact w_c8
  · exact w_c9
  · exact w_c10
  · exact w_c11
  · exact w_c12
  · exact w_c13
  · exact w_c14
  · exact w_c15
  · exact w_c16
  · exact w_c17
  · exact w_c18
  · exact w_c19
  · exact w_c20
  · exact w_c21
  · exact w_c22
  · exact w_c23
  · exact w_c24
  · exact w_c25
  · exact w_c26
  · exact w_c27
  · exact w_c28
  · exact w_c29
set_option maxRecDepth 65536 in
theorem w_t1 : (words1.take 24).all (fun c => isCode c || c.before args0 about1) = true := by decide +kernel
set_option maxRecDepth 65536 in
theorem w_t2 : ((words1.drop 24).take 24).all (fun c => isCode c || c.before args0 about1) = true := by decide +kernel
set_option maxRecDepth 65536 in
theorem w_t3 : (((words1.drop 24).drop 24).take 24).all (fun c => isCode c || c.before args0 about1) = true := by decide +kernel
set_option maxRecDepth 65536 in
theorem w_t4 : ((((words1.drop 24).drop 24).drop 24).take 24).all (fun c => isCode c || c.before args0 about1) = true := by decide +kernel
set_option maxRecDepth 65536 in
theorem w_t5 : (((((words1.drop 24).drop 24).drop 24).drop 24).take 24).all (fun c => isCode c || c.before args0 about1) = true := by decide +kernel
set_option maxRecDepth 65536 in
theorem w_t6 : (((((words1.drop 24).drop 24).drop 24).drop 24).drop 24).all (fun c => isCode c || c.before args0 about1) = true := by decide +kernel
theorem w_tables : (allAtoms (Jvm.Cond.code x code maxLocals ret :: tables_1)).before args0 about1 = true := by
  rw [allAtoms_all]
  show words1.all (fun c => c.before args0 about1) = true
  refine all_split ?_ w_codes
  rw [← List.take_append_drop 24 words1, List.all_append, w_t1, ← List.take_append_drop 24 (words1.drop 24), List.all_append, w_t2, ← List.take_append_drop 24 ((words1.drop 24).drop 24), List.all_append, w_t3, ← List.take_append_drop 24 (((words1.drop 24).drop 24).drop 24), List.all_append, w_t4, ← List.take_append_drop 24 ((((words1.drop 24).drop 24).drop 24).drop 24), List.all_append, w_t5, w_t6]
  rfl
set_option maxRecDepth 65536 in
theorem w_rest : rest_1_c.before args0 about1 = true := by decide +kernel
set_option maxRecDepth 65536 in
theorem w_case : (Jvm.Cond.and given_1 narrow_1).before args0 about1 = true := by decide +kernel
set_option maxRecDepth 65536 in
theorem w_consts : constsHeld consts_1 about1 := Jvm.Lit.constsHeldB_iff.mp (by decide +kernel)
theorem w_applies : (headSpec (Jvm.Cond.code x code maxLocals ret :: tables_1) room_1).applies x e0.platform about1 = true :=
  (Spec.applies_iff w_frames).mpr ⟨w_running, w_runnable, w_alone, w_named, w_hears, w_ripe, w_room, w_tables⟩
theorem atStart : AtStart classFile x code maxLocals ret World_1 tables_1 room_1 Calls_1 rest_1 Pre_1 launch0 p0 e0 about1 theMethod args0 below0 :=
  ⟨lists_1, trivial, launch0.admits_env _ _ _, launch0.least_env, fairChoices_fair.cas, fairChoices_fair.clock, w_frames, w_args, w_heap, w_applies, ⟨w_consts, trivial⟩, w_rest, w_case⟩
end start1
theorem witness_1 : WitnessClaimed_1 := ⟨start1.p0, start1.e0, start1.about1, start1.theMethod, start1.args0, start1.below0, start1.atStart⟩
end Jvm.Pilot.@@N@@
