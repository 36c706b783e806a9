import JvmDerived
import JvmDerived.Pilot.@@N@@Statement
import JvmDerived.Pilot.@@N@@Code
set_option linter.unusedVariables false
set_option linter.unusedSimpArgs false
/- laws to paste: Road.backV, Road.eqW, Road.codOf (cut by pick.py; bodies as the Statement names them) -/
namespace Jvm.Pilot.@@N@@
namespace StrChars
open Jvm Sem ClassFile Op Lib Jvm.Stand Jvm.Free.XT Jvm.Free.ALB Jvm.Free.JM Jvm.Free
open Jvm.Lib.Cold (StaticIs)
/-- a char array whose places are chars -/
def Ch (a : Addr) (A : Cell) (U : State) : Prop := Arr .char a A U ∧ Typed .char A
theorem Ch.mv {a : Addr} {A : Cell} {U U' : State} (h : Ch a A U) (hal : U.vm.Alike U'.vm) (hh : U'.heap = U.heap) : Ch a A U' := ⟨h.1.mv hal hh, h.2⟩
theorem Ch.keep {a : Addr} {A : Cell} {U U' : State} (h : Ch a A U) (hal : U.vm.Alike U'.vm) (hk : U'.heap[a]? = some A) : Ch a A U' := ⟨h.1.keep hal hk, h.2⟩
/-- what place i of a char[]'s cell holds -/
def cv (A : Cell) (i : Nat) : Int32 := match A.slots[i]? with | some (.int x) => x | _ => 0
theorem Ch.get {a : Addr} {A : Cell} {U : State} (h : Ch a A U) {i : Nat} (hi : i < A.slots.size) : A.slots[i]? = some (.int (cv A i)) := by
  have e := Array.getElem?_eq_getElem hi
  have f := h.2 i _ e
  unfold cv; rw [e]
  generalize A.slots[i] = v at f
  cases v <;> simp [fits] at f ⊢
/-- the byte that i2b leaves of a char -/
def lo8 (x : Int32) : Int32 := x.toInt8.toInt32
theorem fits_lo8 (y : Int32) : fits .byte (.int (lo8 y)) = true := by
  have h1 := y.toInt8.le_toInt
  have h2 := y.toInt8.toInt_lt
  simp only [lo8, fits, Bool.and_eq_true, decide_eq_true_eq, Int32.le_iff_toInt_le, Int8.toInt_toInt32, show (-128 : Int32).toInt = -128 from by decide, show (127 : Int32).toInt = 127 from by decide]
  omega
/-- A' is A but that each place j of lo .. hi - 1 holds f j -/
def Laid (A A' : Cell) (lo hi : Nat) (f : Nat → Value) : Prop := A'.cls = A.cls ∧ A'.vm = A.vm ∧ A'.slots.size = A.slots.size ∧ ∀ i, A'.slots[i]? = if lo ≤ i ∧ i < hi then some (f i) else A.slots[i]?
theorem Laid.zero (A : Cell) (lo : Nat) (f : Nat → Value) : Laid A A lo (lo + 0) f := ⟨rfl, rfl, rfl, fun i => by rw [if_neg (by omega)]⟩
theorem Laid.step {A Ak : Cell} {lo k : Nat} {f : Nat → Value} {v : Value} (h : Laid A Ak lo k f) (hlo : lo ≤ k) (hk : k < Ak.slots.size) (hv : v = f k) : Laid A (Ak.setSlot k v) lo (k + 1) f := by
  refine ⟨h.1, h.2.1, by simpa [Cell.setSlot] using h.2.2.1, fun i => ?_⟩
  by_cases e : k = i
  · subst e; rw [Cell.slots_setSlot_self v hk, if_pos (by omega), hv]
  · rw [Cell.slots_setSlot_ne v e, h.2.2.2 i]
    by_cases q : lo ≤ i ∧ i < k
    · rw [if_pos q, if_pos (by omega)]
    · rw [if_neg q, if_neg (by omega)]
def U16 : String := "java/lang/StringUTF16"
namespace Cmp5
def yN : MethodName := ⟨"java/lang/StringUTF16", "compress", "([CI[BII)I"⟩
abbrev yB : ByteArray := jdk_52_method_21_code
theorem d0 : decode yB 0 = .ok (.iconst 0, 1) := by decide +kernel
theorem d1 : decode yB 1 = .ok (.istore 5, 2) := by decide +kernel
theorem d3 : decode yB 3 = .ok (.iload 5, 2) := by decide +kernel
theorem d5 : decode yB 5 = .ok (.iload 4, 2) := by decide +kernel
theorem d7 : decode yB 7 = .ok (.if_icmp (.ge) 37, 3) := by decide +kernel
theorem d10 : decode yB 10 = .ok (.aload_n 0, 1) := by decide +kernel
theorem d11 : decode yB 11 = .ok (.iload_n 1, 1) := by decide +kernel
theorem d12 : decode yB 12 = .ok (.caload, 1) := by decide +kernel
theorem d13 : decode yB 13 = .ok (.istore 6, 2) := by decide +kernel
theorem d15 : decode yB 15 = .ok (.iload 6, 2) := by decide +kernel
theorem d17 : decode yB 17 = .ok (.sipush 255, 3) := by decide +kernel
theorem d20 : decode yB 20 = .ok (.if_icmp (.le) 6, 3) := by decide +kernel
theorem d26 : decode yB 26 = .ok (.aload_n 2, 1) := by decide +kernel
theorem d27 : decode yB 27 = .ok (.iload_n 3, 1) := by decide +kernel
theorem d28 : decode yB 28 = .ok (.iload 6, 2) := by decide +kernel
theorem d30 : decode yB 30 = .ok (.i2b, 1) := by decide +kernel
theorem d31 : decode yB 31 = .ok (.bastore, 1) := by decide +kernel
theorem d32 : decode yB 32 = .ok (.iinc 1 1, 3) := by decide +kernel
theorem d35 : decode yB 35 = .ok (.iinc 3 1, 3) := by decide +kernel
theorem d38 : decode yB 38 = .ok (.iinc 5 1, 3) := by decide +kernel
theorem d41 : decode yB 41 = .ok (.goto (-38), 3) := by decide +kernel
theorem d44 : decode yB 44 = .ok (.iload 4, 2) := by decide +kernel
theorem d46 : decode yB 46 = .ok (.ireturn, 1) := by decide +kernel
def site : List Cond := []
def tab : Cond := tabOf yN yB 7 (some .int) site
def P (b : Addr) (A : Cell) (d : Addr) (B : Cell) (o q len : Nat) (args : Array Value) (s : State) : Prop := args = #[.ref b, .int (Int32.ofNat o), .ref d, .int (Int32.ofNat q), .int (Int32.ofNat len)] ∧ Ch b A s ∧ Arr .byte d B s ∧ b ≠ d ∧ o + len ≤ A.slots.size ∧ q + len ≤ B.slots.size ∧ ∀ i, i < len → ¬ 255 < cv A (o + i)
def E (b : Addr) (A : Cell) (d : Addr) (B : Cell) (o q len : Nat) (r : Option Value) (s u : State) : Prop := r = some (.int (Int32.ofNat len)) ∧ ∃ B', Put d B' s u ∧ Laid B B' q (q + len) (fun j => Value.int (lo8 (cv A (o + (j - q)))))
/-- no char of the range above 255: len; the places written hold each char's low byte -/
theorem law (l : Launch) (b : Addr) (A : Cell) (d : Addr) (B : Cell) (o q len : Nat) : Law l yN 5 5 0 0 yB 7 (some .int) site (P b A d B o q len) (E b A d B o q len) (copyLocs d q len) 0 0 := by
  refine Law.of_walk (plainFor_of_name (by decide +kernel)) (by decide +kernel) (by decide +kernel) (by decide) (fun _ _ h => by rw [h.1]; rfl) (fun _ U U' hal hh h => ⟨h.1, h.2.1.mv hal hh, h.2.2.1.mv hal hh, h.2.2.2⟩) (fun r U U' V V' h1 hal h2 h => ⟨h.1, h.2.elim fun B' q => ⟨B', q.1.mv h1 h2, q.2⟩⟩) ?_
  intro p e s m args below meth c s₁ X0 hexec hbytes hml hret hlk hnm hown hh0 W hP
  obtain ⟨rfl, hA, hB, hne, l1, l2, hp⟩ := hP
  have c1 : Steps p.tables e below (s₁.setTop (entryFrame m #[.ref b, .int (Int32.ofNat o), .ref d, .int (Int32.ofNat q), .int (Int32.ofNat len)] 7)) (s₁.setTop (mkF m 0 #[.val (.ref b), .val (.int (Int32.ofNat o)), .val (.ref d), .val (.int (Int32.ofNat q)), .val (.int (Int32.ofNat len)), .unset, .unset] [])) := entry rfl
  have hA0 := hA.1.mv X0.warmed.alike hh0
  have hB0 := hB.mv X0.warmed.alike hh0
  have a31 := hA.1.2.2.2
  have c2 : Steps p.tables e below (s₁.setTop (entryFrame m #[.ref b, .int (Int32.ofNat o), .ref d, .int (Int32.ofNat q), .int (Int32.ofNat len)] 7)) (s₁.setTop (mkF m 3 #[.val (.ref b), .val (.int (Int32.ofNat o)), .val (.ref d), .val (.int (Int32.ofNat q)), .val (.int (Int32.ofNat len)), .val (.int 0), .unset] [])) := c1.trans (by
    refine iconstV X0.here hexec rfl 0 (hb hbytes d0) (by decide) ?_
    refine XS.istore X0.here hexec rfl (hb hbytes d1) rfl rfl ?_
    exact Steps.refl _)
  have loop : ∀ (r i : Nat), i + r = len → ∀ (z : Slot), (z = .unset ∨ ∃ w, z = .val w ∧ w.category = 1) → ∀ (Tl : State) (Bk : Cell), Stand p l e { frames := 0, locals := 0, cells := 0, slots := 0 } s m #[.ref b, .int (Int32.ofNat o), .ref d, .int (Int32.ofNat q), .int (Int32.ofNat len)] below meth c Tl ([] ++ copyLocs d q i) 0 0 → Put d Bk s₁ Tl → Laid B Bk q (q + i) (fun j => Value.int (lo8 (cv A (o + (j - q))))) →
      Steps p.tables e below (s₁.setTop (entryFrame m #[.ref b, .int (Int32.ofNat o), .ref d, .int (Int32.ofNat q), .int (Int32.ofNat len)] 7)) (Tl.setTop (mkF m 3 #[.val (.ref b), .val (.int (Int32.ofNat (o + i))), .val (.ref d), .val (.int (Int32.ofNat (q + i))), .val (.int (Int32.ofNat len)), .val (.int (Int32.ofNat i)), z] [])) → ∃ (T' : State) (B' : Cell) (z' : Slot), Stand p l e { frames := 0, locals := 0, cells := 0, slots := 0 } s m #[.ref b, .int (Int32.ofNat o), .ref d, .int (Int32.ofNat q), .int (Int32.ofNat len)] below meth c T' ([] ++ copyLocs d q len) 0 0 ∧ Put d B' s₁ T' ∧ Laid B B' q (q + len) (fun j => Value.int (lo8 (cv A (o + (j - q))))) ∧
      Steps p.tables e below (s₁.setTop (entryFrame m #[.ref b, .int (Int32.ofNat o), .ref d, .int (Int32.ofNat q), .int (Int32.ofNat len)] 7)) (T'.setTop (mkF m 3 #[.val (.ref b), .val (.int (Int32.ofNat (o + len))), .val (.ref d), .val (.int (Int32.ofNat (q + len))), .val (.int (Int32.ofNat len)), .val (.int (Int32.ofNat len)), z'] [])) := by
    intro r
    induction r with
    | zero =>
      intro i hi z hz Tl Bk Xl pl fl cl
      have hil : i = len := by omega
      rw [hil] at Xl fl cl
      exact ⟨Tl, Bk, z, Xl, pl, fl, cl⟩
    | succ r ih =>
      intro i hi z hz Tl Bk Xl pl fl cl
      have all := X0.warmed.alike.symm.trans Xl.warmed.alike
      have hAl := hA0.keep all (pl.other hne hA0.1)
      have hBk := hB0.like all pl.1 fl.1 fl.2.1 fl.2.2.1
      have hlt : q + i < Bk.slots.size := by rw [fl.2.2.1]; omega
      have c3 : Steps p.tables e below (s₁.setTop (entryFrame m #[.ref b, .int (Int32.ofNat o), .ref d, .int (Int32.ofNat q), .int (Int32.ofNat len)] 7)) (Tl.setTop (mkF m 12 #[.val (.ref b), .val (.int (Int32.ofNat (o + i))), .val (.ref d), .val (.int (Int32.ofNat (q + i))), .val (.int (Int32.ofNat len)), .val (.int (Int32.ofNat i)), z] [.int (Int32.ofNat (o + i)), .ref b])) := cl.trans (by
        refine XS.iload Xl.here hexec rfl (hb hbytes d3) rfl ?_
        refine XS.iload Xl.here hexec rfl (hb hbytes d5) rfl ?_
        refine XS.icmpNo Xl.here hexec rfl (hb hbytes d7) rfl (ii_ge_f (lt32 (by omega) (by omega))) ?_
        refine XS.aloadN Xl.here hexec rfl (hb hbytes d10) rfl rfl ?_
        refine XS.iloadN Xl.here hexec rfl (hb hbytes d11) rfl ?_
        exact Steps.refl _)
      have c4 : Steps p.tables e below (s₁.setTop (entryFrame m #[.ref b, .int (Int32.ofNat o), .ref d, .int (Int32.ofNat q), .int (Int32.ofNat len)] 7)) (Tl.setTop (mkF m 13 #[.val (.ref b), .val (.int (Int32.ofNat (o + i))), .val (.ref d), .val (.int (Int32.ofNat (q + i))), .val (.int (Int32.ofNat len)), .val (.int (Int32.ofNat i)), z] [.int (cv A (o + i))])) := c3.trans (by
        refine Xl.aget hexec hAl rfl (hA.get (i := o + i) (by omega)) rfl rfl (hb hbytes d12) ?_
        exact Steps.refl _)
      have c5 : Steps p.tables e below (s₁.setTop (entryFrame m #[.ref b, .int (Int32.ofNat o), .ref d, .int (Int32.ofNat q), .int (Int32.ofNat len)] 7)) (Tl.setTop (mkF m 15 #[.val (.ref b), .val (.int (Int32.ofNat (o + i))), .val (.ref d), .val (.int (Int32.ofNat (q + i))), .val (.int (Int32.ofNat len)), .val (.int (Int32.ofNat i)), .val (.int (cv A (o + i)))] [])) := c4.trans (by
        refine XS.istoreS Xl.here hexec rfl (hb hbytes d13) rfl rfl hz ?_
        exact Steps.refl _)
      have c6 : Steps p.tables e below (s₁.setTop (entryFrame m #[.ref b, .int (Int32.ofNat o), .ref d, .int (Int32.ofNat q), .int (Int32.ofNat len)] 7)) (Tl.setTop (mkF m 31 #[.val (.ref b), .val (.int (Int32.ofNat (o + i))), .val (.ref d), .val (.int (Int32.ofNat (q + i))), .val (.int (Int32.ofNat len)), .val (.int (Int32.ofNat i)), .val (.int (cv A (o + i)))] [.int (lo8 (cv A (o + i))), .int (Int32.ofNat (q + i)), .ref d])) := c5.trans (by
        refine XS.iload Xl.here hexec rfl (hb hbytes d15) rfl ?_
        refine sipushV Xl.here hexec rfl 255 (hb hbytes d17) (by decide) ?_
        refine XS.icmpYes Xl.here hexec rfl (pc0 := 20) rfl (hb hbytes d20) rfl (ii_le_t (hp i (by omega))) (by decide) rfl ?_
        refine XS.aloadN Xl.here hexec rfl (hb hbytes d26) rfl rfl ?_
        refine XS.iloadN Xl.here hexec rfl (hb hbytes d27) rfl ?_
        refine XS.iload Xl.here hexec rfl (hb hbytes d28) rfl ?_
        refine i2b Xl.here hexec rfl (hb hbytes d30) rfl ?_
        exact Steps.refl _)
      obtain ⟨T7, X7, p7, st7⟩ := Xl.aput hexec hBk rfl hlt rfl (fits_lo8 (cv A (o + i))) (g := (mkF m 31 #[.val (.ref b), .val (.int (Int32.ofNat (o + i))), .val (.ref d), .val (.int (Int32.ofNat (q + i))), .val (.int (Int32.ofNat len)), .val (.int (Int32.ofNat i)), .val (.int (cv A (o + i)))] [.int (lo8 (cv A (o + i))), .int (Int32.ofNat (q + i)), .ref d])) rfl (rest := []) rfl (hb hbytes d31)
      have c8 : Steps p.tables e below (s₁.setTop (entryFrame m #[.ref b, .int (Int32.ofNat o), .ref d, .int (Int32.ofNat q), .int (Int32.ofNat len)] 7)) (T7.setTop (mkF m 32 #[.val (.ref b), .val (.int (Int32.ofNat (o + i))), .val (.ref d), .val (.int (Int32.ofNat (q + i))), .val (.int (Int32.ofNat len)), .val (.int (Int32.ofNat i)), .val (.int (cv A (o + i)))] [])) := c6.trans (st7 _ (Steps.refl _))
      have c9 : Steps p.tables e below (s₁.setTop (entryFrame m #[.ref b, .int (Int32.ofNat o), .ref d, .int (Int32.ofNat q), .int (Int32.ofNat len)] 7)) (T7.setTop (mkF m 3 #[.val (.ref b), .val (.int (Int32.ofNat (o + i) + 1)), .val (.ref d), .val (.int (Int32.ofNat (q + i) + 1)), .val (.int (Int32.ofNat len)), .val (.int (Int32.ofNat i + 1)), .val (.int (cv A (o + i)))] [])) := c8.trans (by
        refine iincV X7.here hexec rfl 1 (hb hbytes d32) (by decide) rfl rfl ?_
        refine iincV X7.here hexec rfl 1 (hb hbytes d35) (by decide) rfl rfl ?_
        refine iincV X7.here hexec rfl 1 (hb hbytes d38) (by decide) rfl rfl ?_
        refine XS.goto X7.here hexec rfl (pc0 := 41) rfl (hb hbytes d41) (by decide) rfl ?_
        exact Steps.refl _)
      have c10 : Steps p.tables e below (s₁.setTop (entryFrame m #[.ref b, .int (Int32.ofNat o), .ref d, .int (Int32.ofNat q), .int (Int32.ofNat len)] 7)) (T7.setTop (mkF m 3 #[.val (.ref b), .val (.int (Int32.ofNat (o + (i + 1)))), .val (.ref d), .val (.int (Int32.ofNat (q + (i + 1)))), .val (.int (Int32.ofNat len)), .val (.int (Int32.ofNat (i + 1))), .val (.int (cv A (o + i)))] [])) := by
        have := c9
        rw [succ32, succ32, succ32] at this
        exact this
      exact ih (i + 1) (by omega) _ (Or.inr ⟨_, rfl, rfl⟩) T7 _ (by rw [copyLocs_step, ← List.append_assoc]; exact X7) (pl.trans p7) (fl.step (by omega) hlt (by simp)) c10
  obtain ⟨T9, B9, z9, X9, p9, f9, g9⟩ := loop len 0 (by omega) .unset (Or.inl rfl) s₁ B (by simpa [copyLocs] using X0) ⟨hB0.1, fun _ _ => rfl, rfl⟩ (Laid.zero _ _ _) c2
  have c11 : Steps p.tables e below (s₁.setTop (entryFrame m #[.ref b, .int (Int32.ofNat o), .ref d, .int (Int32.ofNat q), .int (Int32.ofNat len)] 7)) (T9.setTop (mkF m 46 #[.val (.ref b), .val (.int (Int32.ofNat (o + len))), .val (.ref d), .val (.int (Int32.ofNat (q + len))), .val (.int (Int32.ofNat len)), .val (.int (Int32.ofNat len)), z9] [.int (Int32.ofNat len)])) := g9.trans (by
    refine XS.iload X9.here hexec rfl (hb hbytes d3) rfl ?_
    refine XS.iload X9.here hexec rfl (hb hbytes d5) rfl ?_
    refine XS.icmpYes X9.here hexec rfl (pc0 := 7) rfl (hb hbytes d7) rfl (ii_ge_t (nlt32 (by omega) (Nat.le_refl _))) (by decide) rfl ?_
    refine XS.iload X9.here hexec rfl (hb hbytes d44) rfl ?_
    exact Steps.refl _)
  exact ⟨T9, some (.int (Int32.ofNat len)), _, _, _, X9, by simp, rfl, rfl, (fun h => by cases h), ⟨rfl, B9, p9.from hh0, f9⟩, fun fs hl => c11.trans (X9.ireturnOut hexec hret rfl (Or.inl rfl) (hb hbytes d46) hl)⟩
end Cmp5
namespace Cmp3
def yN : MethodName := ⟨"java/lang/StringUTF16", "compress", "([CII)[B"⟩
abbrev yB : ByteArray := jdk_52_method_16_code
theorem d0 : decode yB 0 = .ok (.iload_n 2, 1) := by decide +kernel
theorem d1 : decode yB 1 = .ok (.newarray .byte, 2) := by decide +kernel
theorem d3 : decode yB 3 = .ok (.astore_n 3, 1) := by decide +kernel
theorem d4 : decode yB 4 = .ok (.aload_n 0, 1) := by decide +kernel
theorem d5 : decode yB 5 = .ok (.iload_n 1, 1) := by decide +kernel
theorem d6 : decode yB 6 = .ok (.aload_n 3, 1) := by decide +kernel
theorem d7 : decode yB 7 = .ok (.iconst 0, 1) := by decide +kernel
theorem d8 : decode yB 8 = .ok (.iload_n 2, 1) := by decide +kernel
theorem d9 : decode yB 9 = .ok (.invokestatic 115, 3) := by decide +kernel
theorem d12 : decode yB 12 = .ok (.istore 4, 2) := by decide +kernel
theorem d14 : decode yB 14 = .ok (.iload 4, 2) := by decide +kernel
theorem d16 : decode yB 16 = .ok (.iload_n 2, 1) := by decide +kernel
theorem d17 : decode yB 17 = .ok (.if_icmp (.eq) 40, 3) := by decide +kernel
theorem d57 : decode yB 57 = .ok (.aload_n 3, 1) := by decide +kernel
theorem d58 : decode yB 58 = .ok (.areturn, 1) := by decide +kernel
def site : List Cond := [.arrayClass .byte, Cmp5.tab] ++ staticW U16 115 Cmp5.yN
def tab : Cond := tabOf yN yB 6 (some (.array .byte)) site
def P (b : Addr) (A : Cell) (o len : Nat) (args : Array Value) (s : State) : Prop := args = #[.ref b, .int (Int32.ofNat o), .int (Int32.ofNat len)] ∧ Ch b A s ∧ o + len ≤ A.slots.size ∧ len ≤ 536870912 ∧ ∀ i, i < len → ¬ 255 < cv A (o + i)
def E (b : Addr) (A : Cell) (o len : Nat) (r : Option Value) (s u : State) : Prop := NewArr .byte "[B" len (fun j => .int (lo8 (cv A (o + j)))) r s u ∧ u.heap.size = s.heap.size + 1
/-- no char of the range above 255: a new byte[] of their low bytes -/
theorem law (l : Launch) (b : Addr) (A : Cell) (o len : Nat) : Law l yN 3 3 1 18 yB 6 (some (.array .byte)) site (P b A o len) (E b A o len) [] 1 len := by
  refine Law.of_walk (plainFor_of_name (by decide +kernel)) (by decide +kernel) (by decide +kernel) (by decide) (fun _ _ h => by rw [h.1]; rfl) (fun _ U U' hal hh h => ⟨h.1, h.2.1.mv hal hh, h.2.2⟩) (fun r U U' V V' h1 hal h2 h => ⟨NewArr.mv r U U' V V' h1 hal h2 h.1, by rw [h1, h2]; exact h.2⟩) ?_
  intro p e s m args below meth c s₁ X0 hexec hbytes hml hret hlk hnm hown hh0 W hP
  obtain ⟨rfl, hA, l1, l2, hp⟩ := hP
  have a31 := hA.1.2.2.2
  have c1 : Steps p.tables e below (s₁.setTop (entryFrame m #[.ref b, .int (Int32.ofNat o), .int (Int32.ofNat len)] 6)) (s₁.setTop (mkF m 0 #[.val (.ref b), .val (.int (Int32.ofNat o)), .val (.int (Int32.ofNat len)), .unset, .unset, .unset] [])) := entry rfl
  have c2 : Steps p.tables e below (s₁.setTop (entryFrame m #[.ref b, .int (Int32.ofNat o), .int (Int32.ofNat len)] 6)) (s₁.setTop (mkF m 1 #[.val (.ref b), .val (.int (Int32.ofNat o)), .val (.int (Int32.ofNat len)), .unset, .unset, .unset] [.int (Int32.ofNat len)])) := c1.trans (by
    refine XS.iloadN X0.here hexec rfl (hb hbytes d0) rfl ?_
    exact Steps.refl _)
  obtain ⟨T3, B3, X3, ba3, bs3, bv3, bh3, bf3, st3⟩ := X0.anew hexec (atype := .byte) (wk W (.arrayClass .byte)) rfl (by show len * 1 ≤ _; omega) (by omega) (g := (mkF m 1 #[.val (.ref b), .val (.int (Int32.ofNat o)), .val (.int (Int32.ofNat len)), .unset, .unset, .unset] [.int (Int32.ofNat len)])) rfl (hb hbytes d1) (rest := []) rfl (Nat.le_refl _) (by show 0 + len ≤ len; omega)
  rw [hh0] at ba3 st3
  have kp3 : XT.Kept s T3 := (XT.Kept.of_eq hh0).push bh3
  have hA3 := hA.keep X3.warmed.alike (kp3 _ _ hA.1.1)
  have hne : b ≠ s.heap.size := hA.1.ne
  have c4 : Steps p.tables e below (s₁.setTop (entryFrame m #[.ref b, .int (Int32.ofNat o), .int (Int32.ofNat len)] 6)) (T3.setTop (mkF m 3 #[.val (.ref b), .val (.int (Int32.ofNat o)), .val (.int (Int32.ofNat len)), .unset, .unset, .unset] [.ref s.heap.size])) := c2.trans (st3 _ (Steps.refl _))
  have c5 : Steps p.tables e below (s₁.setTop (entryFrame m #[.ref b, .int (Int32.ofNat o), .int (Int32.ofNat len)] 6)) (T3.setTop (mkF m 9 #[.val (.ref b), .val (.int (Int32.ofNat o)), .val (.int (Int32.ofNat len)), .val (.ref s.heap.size), .unset, .unset] [.int (Int32.ofNat len), .int 0, .ref s.heap.size, .int (Int32.ofNat o), .ref b])) := c4.trans (by
    refine XS.astoreN X3.here hexec rfl (hb hbytes d3) rfl rfl rfl ?_
    refine XS.aloadN X3.here hexec rfl (hb hbytes d4) rfl rfl ?_
    refine XS.iloadN X3.here hexec rfl (hb hbytes d5) rfl ?_
    refine XS.aloadN X3.here hexec rfl (hb hbytes d6) rfl rfl ?_
    refine iconstV X3.here hexec rfl 0 (hb hbytes d7) (by decide) ?_
    refine XS.iloadN X3.here hexec rfl (hb hbytes d8) rfl ?_
    exact Steps.refl _)
  obtain ⟨v6, T6, X6, E6, g6⟩ := X3.callS hexec (Cmp5.law l b A s.heap.size B3 o 0 len) hown (wks W (staticW U16 115 Cmp5.yN)) (wk W Cmp5.tab) (W := 0) (Nat.le_of_ble_eq_true rfl) (Nat.le_of_ble_eq_true rfl) (Nat.le_refl _) (by show 0 + len + 0 ≤ len; omega) (g := (mkF m 9 #[.val (.ref b), .val (.int (Int32.ofNat o)), .val (.int (Int32.ofNat len)), .val (.ref s.heap.size), .unset, .unset] [.int (Int32.ofNat len), .int (Int32.ofNat 0), .ref s.heap.size, .int (Int32.ofNat o), .ref b])) rfl (by rw [hml]; rfl) c5 (argsL := [.ref b, .int (Int32.ofNat o), .ref s.heap.size, .int (Int32.ofNat 0), .int (Int32.ofNat len)]) (rest := []) rfl rfl (by show 2 * 0 + 0 ≤ _; decide) (hb hbytes d9) (⟨rfl, hA3, ba3, hne, l1, by rw [bs3]; simp, hp⟩)
  obtain ⟨rfl, B6, p6, f6⟩ := E6
  have c7 : Steps p.tables e below (s₁.setTop (entryFrame m #[.ref b, .int (Int32.ofNat o), .int (Int32.ofNat len)] 6)) (T6.setTop (mkF m 12 #[.val (.ref b), .val (.int (Int32.ofNat o)), .val (.int (Int32.ofNat len)), .val (.ref s.heap.size), .unset, .unset] [.int (Int32.ofNat len)])) := g6
  have c8 : Steps p.tables e below (s₁.setTop (entryFrame m #[.ref b, .int (Int32.ofNat o), .int (Int32.ofNat len)] 6)) (T6.setTop (mkF m 58 #[.val (.ref b), .val (.int (Int32.ofNat o)), .val (.int (Int32.ofNat len)), .val (.ref s.heap.size), .val (.int (Int32.ofNat len)), .unset] [.ref s.heap.size])) := c7.trans (by
    refine XS.istore X6.here hexec rfl (hb hbytes d12) rfl rfl ?_
    refine XS.iload X6.here hexec rfl (hb hbytes d14) rfl ?_
    refine XS.iloadN X6.here hexec rfl (hb hbytes d16) rfl ?_
    refine XS.icmpYes X6.here hexec rfl (pc0 := 17) rfl (hb hbytes d17) rfl (ii_eq_t rfl) (by decide) rfl ?_
    refine XS.aloadN X6.here hexec rfl (hb hbytes d57) rfl rfl ?_
    exact Steps.refl _)
  have X8 := X6.wide (L' := []) (cells' := 1) (slots' := len) (fun x hx hlt => by
    simp only [List.nil_append, copyLocs, List.mem_map, List.mem_range] at hx
    obtain ⟨i, -, rfl⟩ := hx
    exact absurd hlt (Nat.lt_irrefl _)) (Nat.le_refl _) (by omega)
  exact ⟨T6, some (.ref s.heap.size), _, _, _, X8, rfl, rfl, rfl, (fun h => by cases h), ⟨⟨rfl, B6, ba3.like (X3.warmed.alike.symm.trans X6.warmed.alike) p6.1 f6.1 f6.2.1 f6.2.2.1, f6.2.1.trans bv3, by rw [X6.warmed.alike.findClass, f6.1]; exact bf3, by rw [f6.2.2.1, bs3]; simp, fun j hj => by rw [f6.2.2.2 j, if_pos (by omega)]; rfl, kp3.put p6 (Nat.le_refl _)⟩, by rw [p6.2.2, bh3, hh0]; simp⟩, fun fs hl => c8.trans (X8.areturnOut hexec rfl hret rfl (hb hbytes d58) hl)⟩
end Cmp3
namespace CodL
def yN : MethodName := ⟨"java/lang/StringUTF16", "coderFromArrayLen", "([BI)B"⟩
abbrev yB : ByteArray := jdk_52_method_15_code
theorem d0 : decode yB 0 = .ok (.iload_n 1, 1) := by decide +kernel
theorem d1 : decode yB 1 = .ok (.aload_n 0, 1) := by decide +kernel
theorem d2 : decode yB 2 = .ok (.arraylength, 1) := by decide +kernel
theorem d3 : decode yB 3 = .ok (.isub, 1) := by decide +kernel
theorem d4 : decode yB 4 = .ok (.bipush 31, 2) := by decide +kernel
theorem d6 : decode yB 6 = .ok (.iushr, 1) := by decide +kernel
theorem d7 : decode yB 7 = .ok (.i2b, 1) := by decide +kernel
theorem d8 : decode yB 8 = .ok (.ireturn, 1) := by decide +kernel
def site : List Cond := []
def tab : Cond := tabOf yN yB 2 (some .byte) site
def P (d : Addr) (B : Cell) (args : Array Value) (s : State) : Prop := args = #[.ref d, .int (Int32.ofNat B.slots.size)] ∧ Arr .byte d B s
def E (r : Option Value) (s u : State) : Prop := XT.PureE (some (.int 0)) r s u
/-- an array as long as the number of chars: LATIN1 -/
theorem law (l : Launch) (d : Addr) (B : Cell) : Law l yN 2 2 0 0 yB 2 (some .byte) site (P d B) E [] 0 0 := by
  refine Law.of_walk (plainFor_of_name (by decide +kernel)) (by decide +kernel) (by decide +kernel) (by decide) (fun _ _ h => by rw [h.1]; rfl) (fun _ U U' hal hh h => ⟨h.1, h.2.mv hal hh⟩) (fun r U U' V V' h1 hal h2 h => XT.PureE.mv r U U' V V' h1 hal h2 h) ?_
  intro p e s m args below meth c s₁ X0 hexec hbytes hml hret hlk hnm hown hh0 W hP
  obtain ⟨rfl, hB⟩ := hP
  have hB0 := hB.mv X0.warmed.alike hh0
  have c1 : Steps p.tables e below (s₁.setTop (entryFrame m #[.ref d, .int (Int32.ofNat B.slots.size)] 2)) (s₁.setTop (mkF m 0 #[.val (.ref d), .val (.int (Int32.ofNat B.slots.size))] [])) := entry rfl
  have c2 : Steps p.tables e below (s₁.setTop (entryFrame m #[.ref d, .int (Int32.ofNat B.slots.size)] 2)) (s₁.setTop (mkF m 2 #[.val (.ref d), .val (.int (Int32.ofNat B.slots.size))] [.ref d, .int (Int32.ofNat B.slots.size)])) := c1.trans (by
    refine XS.iloadN X0.here hexec rfl (hb hbytes d0) rfl ?_
    refine XS.aloadN X0.here hexec rfl (hb hbytes d1) rfl rfl ?_
    exact Steps.refl _)
  have c3 : Steps p.tables e below (s₁.setTop (entryFrame m #[.ref d, .int (Int32.ofNat B.slots.size)] 2)) (s₁.setTop (mkF m 8 #[.val (.ref d), .val (.int (Int32.ofNat B.slots.size))] [.int (lo8 (ushr (Int32.ofNat B.slots.size - Int32.ofNat B.slots.size) 31))])) := c2.trans (by
    refine X0.alen hexec hB0 rfl rfl (hb hbytes d2) ?_
    refine XS.isub X0.here hexec rfl (hb hbytes d3) rfl ?_
    refine bipushV X0.here hexec rfl 31 (hb hbytes d4) (by decide) ?_
    refine iushr X0.here hexec rfl (hb hbytes d6) rfl ?_
    refine i2b X0.here hexec rfl (hb hbytes d7) rfl ?_
    exact Steps.refl _)
  have e0 : lo8 (ushr (Int32.ofNat B.slots.size - Int32.ofNat B.slots.size) 31) = 0 := by rw [Int32.sub_self]; decide
  rw [e0] at c3
  exact ⟨s₁, some (.int 0), _, _, _, X0, rfl, rfl, rfl, (fun h => by cases h), ⟨rfl, hh0⟩, fun fs hl => c3.trans (X0.ireturnOut hexec hret rfl (Or.inr (Or.inr (Or.inl rfl))) (hb hbytes d8) hl)⟩
end CodL
/-- the String at a is Latin-1 over a new byte[] (the heap's one new cell): the low bytes of the len chars of A from o on; every cell but a is kept -/
def Got (a : Addr) (D : Cell) (fV fC : Field) (A : Cell) (o len : Nat) (r : Option Value) (s u : State) : Prop := r = none ∧ ∃ D' V : Cell, Blank "java/lang/String" a D' u ∧ Same D D' [fV.slot, fC.slot] ∧ D'.slots[fV.slot]? = some (.ref s.heap.size) ∧ D'.slots[fC.slot]? = some (.int 0) ∧ Arr .byte s.heap.size V u ∧ V.vm = .none ∧ u.vm.findClass "[B" = some V.cls ∧ V.slots.size = len ∧ (∀ j, j < len → V.slots[j]? = some (.int (lo8 (cv A (o + j))))) ∧ (∀ (y : Addr) (c : Cell), y ≠ a → s.heap[y]? = some c → u.heap[y]? = some c) ∧ u.heap.size = s.heap.size + 1
theorem Got.mv {a : Addr} {D A : Cell} {fV fC : Field} {o len : Nat} : ∀ r (U U' V V' : State), U'.heap = U.heap → V.vm.Alike V'.vm → V'.heap = V.heap → Got a D fV fC A o len r U V → Got a D fV fC A o len r U' V' :=
  fun r U U' V V' h1 hal h2 ⟨e0, D', X, a1, a2, a3, a4, a5, a6, a7, a8, a9, a10, a11⟩ => ⟨e0, D', X, a1.mv hal h2, a2, by rw [h1]; exact a3, a4, by rw [h1]; exact a5.mv hal h2, a6, by rw [hal.findClass]; exact a7, a8, a9, by rw [h1, h2]; exact a10, by rw [h1, h2]; exact a11⟩
namespace New4
def yN : MethodName := ⟨"java/lang/String", "<init>", "([CIILjava/lang/Void;)V"⟩
abbrev yB : ByteArray := jdk_42_method_149_code
theorem d0 : decode yB 0 = .ok (.aload_n 0, 1) := by decide +kernel
theorem d1 : decode yB 1 = .ok (.invokespecial 1, 3) := by decide +kernel
theorem d4 : decode yB 4 = .ok (.iload_n 3, 1) := by decide +kernel
theorem d5 : decode yB 5 = .ok (.ifCond (.ne) 22, 3) := by decide +kernel
theorem d27 : decode yB 27 = .ok (.getstatic 38, 3) := by decide +kernel
theorem d30 : decode yB 30 = .ok (.ifCond (.eq) 28, 3) := by decide +kernel
theorem d33 : decode yB 33 = .ok (.aload_n 1, 1) := by decide +kernel
theorem d34 : decode yB 34 = .ok (.iload_n 2, 1) := by decide +kernel
theorem d35 : decode yB 35 = .ok (.iload_n 3, 1) := by decide +kernel
theorem d36 : decode yB 36 = .ok (.invokestatic 177, 3) := by decide +kernel
theorem d39 : decode yB 39 = .ok (.astore 5, 2) := by decide +kernel
theorem d41 : decode yB 41 = .ok (.aload_n 0, 1) := by decide +kernel
theorem d42 : decode yB 42 = .ok (.aload 5, 2) := by decide +kernel
theorem d44 : decode yB 44 = .ok (.iload_n 3, 1) := by decide +kernel
theorem d45 : decode yB 45 = .ok (.invokestatic 47, 3) := by decide +kernel
theorem d48 : decode yB 48 = .ok (.putfield 15, 3) := by decide +kernel
theorem d51 : decode yB 51 = .ok (.aload_n 0, 1) := by decide +kernel
theorem d52 : decode yB 52 = .ok (.aload 5, 2) := by decide +kernel
theorem d54 : decode yB 54 = .ok (.putfield 9, 3) := by decide +kernel
theorem d57 : decode yB 57 = .ok (.return_, 1) := by decide +kernel
def site : List Cond := [.fieldLink "java/lang/String" 38 "java/lang/String" "COMPACT_STRINGS" "Z", Cmp3.tab, CodL.tab, .laysFinal "java/lang/String" "java/lang/String" "value" "[B", .fieldLink "java/lang/String" 9 "java/lang/String" "value" "[B", .laysFinal "java/lang/String" "java/lang/String" "coder" "B", .fieldLink "java/lang/String" 15 "java/lang/String" "coder" "B"] ++ objW "java/lang/String" 1 ++ staticW "java/lang/String" 177 Cmp3.yN ++ staticW "java/lang/String" 47 CodL.yN
def tab : Cond := tabOf yN yB 6 none site
def P (a : Addr) (D : Cell) (fV fC : Field) (b : Addr) (A : Cell) (z : Int32) (o len : Nat) (args : Array Value) (s : State) : Prop := args = #[.ref a, .ref b, .int (Int32.ofNat o), .int (Int32.ofNat len), .null] ∧ Blank "java/lang/String" a D s ∧ Found "java/lang/String" "value" "[B" fV s ∧ Found "java/lang/String" "coder" "B" fC s ∧ Ch b A s ∧ StaticIs s "java/lang/String" "COMPACT_STRINGS" "Z" (.int z) ∧ ¬ z = 0 ∧ 0 < len ∧ o + len ≤ A.slots.size ∧ len ≤ 536870912 ∧ ∀ i, i < len → ¬ 255 < cv A (o + i)
def E (a : Addr) (D : Cell) (fV fC : Field) (A : Cell) (o len : Nat) (r : Option Value) (s u : State) : Prop := Got a D fV fC A o len r s u
/-- len > 0, no char of the range above 255: a Latin-1 String of their low bytes -/
theorem law (l : Launch) (a : Addr) (D : Cell) (fV fC : Field) (b : Addr) (A : Cell) (z : Int32) (o len : Nat) : Law l yN 5 4 2 35 yB 6 none site (P a D fV fC b A z o len) (E a D fV fC A o len) [⟨a, fC.slot⟩, ⟨a, fV.slot⟩] 1 len := by
  refine Law.of_walk (plainFor_of_name (by decide +kernel)) (by decide +kernel) (by decide +kernel) (by decide) (fun _ _ h => by rw [h.1]; rfl) (fun _ U U' hal hh h => ⟨h.1, h.2.1.mv hal hh, h.2.2.1.al hal, h.2.2.2.1.al hal, h.2.2.2.2.1.mv hal hh, h.2.2.2.2.2.1.there hal hh, h.2.2.2.2.2.2⟩) (fun r U U' V V' h1 hal h2 h => Got.mv r U U' V V' h1 hal h2 h) ?_
  intro p e s m args below meth c s₁ X0 hexec hbytes hml hret hlk hnm hown hh0 W hP
  obtain ⟨rfl, hB, f1, f2, hA, s1, hz, l0, l1, l2, hp⟩ := hP
  have a31 := hA.1.2.2.2
  have c1 : Steps p.tables e below (s₁.setTop (entryFrame m #[.ref a, .ref b, .int (Int32.ofNat o), .int (Int32.ofNat len), .null] 6)) (s₁.setTop (mkF m 0 #[.val (.ref a), .val (.ref b), .val (.int (Int32.ofNat o)), .val (.int (Int32.ofNat len)), .val .null, .unset] [])) := entry rfl
  have c2 : Steps p.tables e below (s₁.setTop (entryFrame m #[.ref a, .ref b, .int (Int32.ofNat o), .int (Int32.ofNat len), .null] 6)) (s₁.setTop (mkF m 1 #[.val (.ref a), .val (.ref b), .val (.int (Int32.ofNat o)), .val (.int (Int32.ofNat len)), .val .null, .unset] [.ref a])) := c1.trans (by
    refine XS.aloadN X0.here hexec rfl (hb hbytes d0) rfl rfl ?_
    exact Steps.refl _)
  obtain ⟨T3, X3, q3, st3⟩ := X0.oinit hexec hown (wks W (objW "java/lang/String" 1)) (g := (mkF m 1 #[.val (.ref a), .val (.ref b), .val (.int (Int32.ofNat o)), .val (.int (Int32.ofNat len)), .val .null, .unset] [.ref a])) rfl (by rw [hml]; rfl) (rest := []) rfl (hb hbytes d1) (W := 0) (by show 2 * 0 + 0 ≤ _; decide) (Nat.le_of_ble_eq_true rfl) (Nat.le_of_ble_eq_true rfl)
  have hh3 := q3.trans hh0
  have c4 : Steps p.tables e below (s₁.setTop (entryFrame m #[.ref a, .ref b, .int (Int32.ofNat o), .int (Int32.ofNat len), .null] 6)) (T3.setTop (mkF m 27 #[.val (.ref a), .val (.ref b), .val (.int (Int32.ofNat o)), .val (.int (Int32.ofNat len)), .val .null, .unset] [])) := (c2.trans (st3 _ (Steps.refl _))).trans (by
    refine XS.iloadN X3.here hexec rfl (hb hbytes d4) rfl ?_
    refine XS.ifYes X3.here hexec rfl (pc0 := 5) rfl (hb hbytes d5) rfl (i0_ne_t (nz32 (by omega) l0)) (by decide) rfl ?_
    exact Steps.refl _)
  obtain ⟨T5, X5, q5, st5⟩ := X3.sget hexec hown (wk W (.fieldLink "java/lang/String" 38 "java/lang/String" "COMPACT_STRINGS" "Z")) s1 (fun _ _ h => by rw [hh3]; exact h) (g := (mkF m 27 #[.val (.ref a), .val (.ref b), .val (.int (Int32.ofNat o)), .val (.int (Int32.ofNat len)), .val .null, .unset] [])) rfl (hb hbytes d27)
  have hh5 := q5.trans hh3
  have c6 : Steps p.tables e below (s₁.setTop (entryFrame m #[.ref a, .ref b, .int (Int32.ofNat o), .int (Int32.ofNat len), .null] 6)) (T5.setTop (mkF m 30 #[.val (.ref a), .val (.ref b), .val (.int (Int32.ofNat o)), .val (.int (Int32.ofNat len)), .val .null, .unset] [.int z])) := c4.trans (st5 _ (Steps.refl _))
  have c7 : Steps p.tables e below (s₁.setTop (entryFrame m #[.ref a, .ref b, .int (Int32.ofNat o), .int (Int32.ofNat len), .null] 6)) (T5.setTop (mkF m 36 #[.val (.ref a), .val (.ref b), .val (.int (Int32.ofNat o)), .val (.int (Int32.ofNat len)), .val .null, .unset] [.int (Int32.ofNat len), .int (Int32.ofNat o), .ref b])) := c6.trans (by
    refine XS.ifNo X5.here hexec rfl (hb hbytes d30) rfl (i0_eq_f hz) ?_
    refine XS.aloadN X5.here hexec rfl (hb hbytes d33) rfl rfl ?_
    refine XS.iloadN X5.here hexec rfl (hb hbytes d34) rfl ?_
    refine XS.iloadN X5.here hexec rfl (hb hbytes d35) rfl ?_
    exact Steps.refl _)
  obtain ⟨v8, T8, X8, E8, g8⟩ := X5.callS hexec (Cmp3.law l b A o len) hown (wks W (staticW "java/lang/String" 177 Cmp3.yN)) (wk W Cmp3.tab) (W := 0) (Nat.le_of_ble_eq_true rfl) (Nat.le_of_ble_eq_true rfl) (Nat.le_refl _) (by show 0 + len ≤ len; omega) (g := (mkF m 36 #[.val (.ref a), .val (.ref b), .val (.int (Int32.ofNat o)), .val (.int (Int32.ofNat len)), .val .null, .unset] [.int (Int32.ofNat len), .int (Int32.ofNat o), .ref b])) rfl (by rw [hml]; rfl) c7 (argsL := [.ref b, .int (Int32.ofNat o), .int (Int32.ofNat len)]) (rest := []) rfl rfl (by show 2 * 0 + 0 ≤ _; decide) (hb hbytes d36) (⟨rfl, hA.mv X5.warmed.alike hh5, l1, l2, hp⟩)
  obtain ⟨e8, z8⟩ := E8
  obtain ⟨rfl, N, n1, n2, n3, n4, n5, n6⟩ := NewArr.mv _ T5 s _ _ hh5.symm (Vm.Alike.refl _) rfl e8
  rw [hh5] at z8
  have hB1 := hB.keep X8.warmed.alike (n6 _ _ hB.1)
  have hne : s.heap.size ≠ a := (Nat.ne_of_lt (Array.getElem?_eq_some_iff.mp hB.1).1).symm
  have c9 : Steps p.tables e below (s₁.setTop (entryFrame m #[.ref a, .ref b, .int (Int32.ofNat o), .int (Int32.ofNat len), .null] 6)) (T8.setTop (mkF m 39 #[.val (.ref a), .val (.ref b), .val (.int (Int32.ofNat o)), .val (.int (Int32.ofNat len)), .val .null, .unset] [.ref s.heap.size])) := g8
  have c10 : Steps p.tables e below (s₁.setTop (entryFrame m #[.ref a, .ref b, .int (Int32.ofNat o), .int (Int32.ofNat len), .null] 6)) (T8.setTop (mkF m 45 #[.val (.ref a), .val (.ref b), .val (.int (Int32.ofNat o)), .val (.int (Int32.ofNat len)), .val .null, .val (.ref s.heap.size)] [.int (Int32.ofNat N.slots.size), .ref s.heap.size, .ref a])) := by
    have hc : Steps p.tables e below (s₁.setTop (entryFrame m #[.ref a, .ref b, .int (Int32.ofNat o), .int (Int32.ofNat len), .null] 6)) (T8.setTop (mkF m 45 #[.val (.ref a), .val (.ref b), .val (.int (Int32.ofNat o)), .val (.int (Int32.ofNat len)), .val .null, .val (.ref s.heap.size)] [.int (Int32.ofNat len), .ref s.heap.size, .ref a])) := c9.trans (by
      refine XS.astore X8.here hexec rfl (hb hbytes d39) rfl rfl rfl ?_
      refine XS.aloadN X8.here hexec rfl (hb hbytes d41) rfl rfl ?_
      refine XS.aload X8.here hexec rfl (hb hbytes d42) rfl rfl ?_
      refine XS.iloadN X8.here hexec rfl (hb hbytes d44) rfl ?_
      exact Steps.refl _)
    rw [n4]; exact hc
  obtain ⟨v11, T11, X11, E11, g11⟩ := X8.callS hexec (CodL.law l s.heap.size N) hown (wks W (staticW "java/lang/String" 47 CodL.yN)) (wk W CodL.tab) (W := 1) (Nat.le_of_ble_eq_true rfl) (Nat.le_of_ble_eq_true rfl) (Nat.le_refl _) (by show 0 + len + 0 ≤ len; omega) (g := (mkF m 45 #[.val (.ref a), .val (.ref b), .val (.int (Int32.ofNat o)), .val (.int (Int32.ofNat len)), .val .null, .val (.ref s.heap.size)] [.int (Int32.ofNat N.slots.size), .ref s.heap.size, .ref a])) rfl (by rw [hml]; rfl) c10 (argsL := [.ref s.heap.size, .int (Int32.ofNat N.slots.size)]) (rest := [.ref a]) rfl rfl (by show 2 * 0 + (1 + 0) ≤ _; decide) (hb hbytes d45) (⟨rfl, n1⟩)
  obtain ⟨rfl, q11⟩ := E11
  have hB11 := hB1.mv (X8.warmed.alike.symm.trans X11.warmed.alike) q11
  have c12 : Steps p.tables e below (s₁.setTop (entryFrame m #[.ref a, .ref b, .int (Int32.ofNat o), .int (Int32.ofNat len), .null] 6)) (T11.setTop (mkF m 48 #[.val (.ref a), .val (.ref b), .val (.int (Int32.ofNat o)), .val (.int (Int32.ofNat len)), .val .null, .val (.ref s.heap.size)] [.int 0, .ref a])) := g11
  obtain ⟨T13, X13, p13, bl13, sl13, st13⟩ := X11.finit hexec hown (wk W (.fieldLink "java/lang/String" 15 "java/lang/String" "coder" "B")) (Or.inr ⟨_, (wk W (.laysFinal "java/lang/String" "java/lang/String" "coder" "B"))⟩) (Or.inl ⟨rfl, hnm⟩) f2 (Or.inl rfl) hB11 (t := .byte) (by decide +kernel) rfl (g := (mkF m 48 #[.val (.ref a), .val (.ref b), .val (.int (Int32.ofNat o)), .val (.int (Int32.ofNat len)), .val .null, .val (.ref s.heap.size)] [.int 0, .ref a])) rfl (rest := []) rfl (hb hbytes d48)
  have c14 : Steps p.tables e below (s₁.setTop (entryFrame m #[.ref a, .ref b, .int (Int32.ofNat o), .int (Int32.ofNat len), .null] 6)) (T13.setTop (mkF m 54 #[.val (.ref a), .val (.ref b), .val (.int (Int32.ofNat o)), .val (.int (Int32.ofNat len)), .val .null, .val (.ref s.heap.size)] [.ref s.heap.size, .ref a])) := (c12.trans (st13 _ (Steps.refl _))).trans (by
    refine XS.aloadN X13.here hexec rfl (hb hbytes d51) rfl rfl ?_
    refine XS.aload X13.here hexec rfl (hb hbytes d52) rfl rfl ?_
    exact Steps.refl _)
  obtain ⟨T15, X15, p15, bl15, sl15, st15⟩ := X13.finit hexec hown (wk W (.fieldLink "java/lang/String" 9 "java/lang/String" "value" "[B")) (Or.inr ⟨_, (wk W (.laysFinal "java/lang/String" "java/lang/String" "value" "[B"))⟩) (Or.inl ⟨rfl, hnm⟩) f1 (Or.inl rfl) bl13 (t := (.array .byte)) (by decide +kernel) rfl (g := (mkF m 54 #[.val (.ref a), .val (.ref b), .val (.int (Int32.ofNat o)), .val (.int (Int32.ofNat len)), .val .null, .val (.ref s.heap.size)] [.ref s.heap.size, .ref a])) rfl (rest := []) rfl (hb hbytes d54)
  have c16 : Steps p.tables e below (s₁.setTop (entryFrame m #[.ref a, .ref b, .int (Int32.ofNat o), .int (Int32.ofNat len), .null] 6)) (T15.setTop (mkF m 57 #[.val (.ref a), .val (.ref b), .val (.int (Int32.ofNat o)), .val (.int (Int32.ofNat len)), .val .null, .val (.ref s.heap.size)] [])) := c14.trans (st15 _ (Steps.refl _))
  have ap := apart (Or.inr ⟨_, (wk W (.laysFinal "java/lang/String" "java/lang/String" "value" "[B"))⟩) (Or.inr ⟨_, (wk W (.laysFinal "java/lang/String" "java/lang/String" "coder" "B"))⟩) f1 f2 (t₁ := .array .byte) (t₂ := .byte) (by decide +kernel) (by decide +kernel) (by decide)
  have al := X8.warmed.alike.symm.trans X15.warmed.alike
  have n7 : T11.heap[s.heap.size]? = some N := by rw [q11]; exact n1.1
  exact ⟨T15, none, _, _, _, X15, by simp, rfl, by omega, (fun _ => rfl), ⟨rfl, _, N, bl15, ((Same.refl D _).set _ (by simp)).set _ (by simp), sl15, (Cell.slots_setSlot_ne _ ap).trans sl13, n1.keep al (p15.other hne (p13.other hne n7)), n2, by rw [al.findClass]; exact n3, n4, n5, fun y c h1 h2 => p15.other h1 (p13.other h1 (by rw [q11]; exact n6 y c h2)), by rw [p15.2.2, p13.2.2, q11]; exact z8⟩, fun fs hl => c16.trans (X15.returnOut hexec hret (hb hbytes d57) hl)⟩
end New4
namespace New1
def yN : MethodName := ⟨"java/lang/String", "<init>", "([C)V"⟩
abbrev yB : ByteArray := jdk_42_method_3_code
theorem d0 : decode yB 0 = .ok (.aload_n 0, 1) := by decide +kernel
theorem d1 : decode yB 1 = .ok (.aload_n 1, 1) := by decide +kernel
theorem d2 : decode yB 2 = .ok (.iconst 0, 1) := by decide +kernel
theorem d3 : decode yB 3 = .ok (.aload_n 1, 1) := by decide +kernel
theorem d4 : decode yB 4 = .ok (.arraylength, 1) := by decide +kernel
theorem d5 : decode yB 5 = .ok (.aconst_null, 1) := by decide +kernel
theorem d6 : decode yB 6 = .ok (.invokespecial 27, 3) := by decide +kernel
theorem d9 : decode yB 9 = .ok (.return_, 1) := by decide +kernel
def site : List Cond := [New4.tab] ++ initW "java/lang/String" 27 New4.yN
def tab : Cond := tabOf yN yB 2 none site
def P (a : Addr) (D : Cell) (fV fC : Field) (b : Addr) (A : Cell) (z : Int32) (args : Array Value) (s : State) : Prop := args = #[.ref a, .ref b] ∧ Blank "java/lang/String" a D s ∧ Found "java/lang/String" "value" "[B" fV s ∧ Found "java/lang/String" "coder" "B" fC s ∧ Ch b A s ∧ StaticIs s "java/lang/String" "COMPACT_STRINGS" "Z" (.int z) ∧ ¬ z = 0 ∧ 0 < A.slots.size ∧ A.slots.size ≤ 536870912 ∧ ∀ i, i < A.slots.size → ¬ 255 < cv A i
def E (a : Addr) (D : Cell) (fV fC : Field) (A : Cell) (r : Option Value) (s u : State) : Prop := Got a D fV fC A 0 A.slots.size r s u
/-- new String(chars), not empty, no char above 255: a Latin-1 String of their low bytes -/
theorem law (l : Launch) (a : Addr) (D : Cell) (fV fC : Field) (b : Addr) (A : Cell) (z : Int32) : Law l yN 2 1 3 52 yB 2 none site (P a D fV fC b A z) (E a D fV fC A) [⟨a, fC.slot⟩, ⟨a, fV.slot⟩] 1 A.slots.size := by
  refine Law.of_walk (plainFor_of_name (by decide +kernel)) (by decide +kernel) (by decide +kernel) (by decide) (fun _ _ h => by rw [h.1]; rfl) (fun _ U U' hal hh h => ⟨h.1, h.2.1.mv hal hh, h.2.2.1.al hal, h.2.2.2.1.al hal, h.2.2.2.2.1.mv hal hh, h.2.2.2.2.2.1.there hal hh, h.2.2.2.2.2.2⟩) (fun r U U' V V' h1 hal h2 h => Got.mv r U U' V V' h1 hal h2 h) ?_
  intro p e s m args below meth c s₁ X0 hexec hbytes hml hret hlk hnm hown hh0 W hP
  obtain ⟨rfl, hB, f1, f2, hA, s1, hz, l0, l2, hp⟩ := hP
  have c1 : Steps p.tables e below (s₁.setTop (entryFrame m #[.ref a, .ref b] 2)) (s₁.setTop (mkF m 0 #[.val (.ref a), .val (.ref b)] [])) := entry rfl
  have c2 : Steps p.tables e below (s₁.setTop (entryFrame m #[.ref a, .ref b] 2)) (s₁.setTop (mkF m 6 #[.val (.ref a), .val (.ref b)] [.null, .int (Int32.ofNat A.slots.size), .int 0, .ref b, .ref a])) := c1.trans (by
    refine XS.aloadN X0.here hexec rfl (hb hbytes d0) rfl rfl ?_
    refine XS.aloadN X0.here hexec rfl (hb hbytes d1) rfl rfl ?_
    refine iconstV X0.here hexec rfl 0 (hb hbytes d2) (by decide) ?_
    refine XS.aloadN X0.here hexec rfl (hb hbytes d3) rfl rfl ?_
    refine X0.alen hexec (hA.1.mv X0.warmed.alike hh0) rfl rfl (hb hbytes d4) ?_
    refine XS.aconstNull X0.here hexec rfl (hb hbytes d5) ?_
    exact Steps.refl _)
  obtain ⟨v3, T3, X3, E3, g3⟩ := X0.callN hexec (New4.law l a D fV fC b A z 0 A.slots.size) rfl hown (wks W (initW "java/lang/String" 27 New4.yN)) (W New4.tab (by simp only [site, List.mem_cons, List.mem_append, true_or, or_true])) (W := 0) (Nat.le_of_ble_eq_true rfl) (Nat.le_of_ble_eq_true rfl) (Nat.le_refl _) (by show 0 + A.slots.size ≤ A.slots.size; omega) (g := (mkF m 6 #[.val (.ref a), .val (.ref b)] [.null, .int (Int32.ofNat A.slots.size), .int (Int32.ofNat 0), .ref b, .ref a])) rfl (by rw [hml]; rfl) c2 (argsL := [.ref b, .int (Int32.ofNat 0), .int (Int32.ofNat A.slots.size), .null]) (rest := []) rfl rfl (by show 2 * 0 + 0 ≤ _; decide) (hb hbytes d6) (⟨rfl, hB.mv X0.warmed.alike hh0, f1.al X0.warmed.alike, f2.al X0.warmed.alike, hA.mv X0.warmed.alike hh0, s1.there X0.warmed.alike hh0, hz, l0, by omega, l2, fun i hi => by rw [Nat.zero_add]; exact hp i hi⟩)
  have e0 := Got.mv _ s₁ s _ _ hh0.symm (Vm.Alike.refl _) rfl E3
  obtain rfl := e0.1
  have c4 : Steps p.tables e below (s₁.setTop (entryFrame m #[.ref a, .ref b] 2)) (T3.setTop (mkF m 9 #[.val (.ref a), .val (.ref b)] [])) := g3
  exact ⟨T3, none, _, _, _, X3, by simp, rfl, by omega, (fun _ => rfl), e0, fun fs hl => c4.trans (X3.returnOut hexec hret (hb hbytes d9) hl)⟩
theorem pays {l : Launch} {R : Room} {p : Program} {e : Env} {below : List Frame} {s : State} {sargs : Array Value} {len W : Nat} (a : Addr) (D : Cell) (fV fC : Field) (b : Addr) (A : Cell) (z : Int32) (htab : tab.before sargs s = true) (hfr : 4 ≤ R.frames) (hlo : W + 65 ≤ R.locals) :
    Back l R p e below s sargs yN len W (fun A₁ a₁ => A₁.cells + 1 ≤ R.cells ∧ A₁.slots + A.slots.size ≤ R.slots ∧ P a D fV fC b A z a₁ A₁.U) (fun A₁ _ v₁ B₁ => E a D fV fC A v₁ A₁.U B₁.U ∧ B₁.locs = A₁.locs ++ [⟨a, fC.slot⟩, ⟨a, fV.slot⟩] ∧ B₁.cells = A₁.cells + 1 ∧ B₁.slots = A₁.slots + A.slots.size) :=
  (law l a D fV fC b A z).pays htab hfr (by omega)
end New1
/-- the byte, read back as charAt reads it, is the char -/
theorem lo8_mask {x : Int32} (h0 : ¬ x < 0) (h1 : ¬ 255 < x) : lo8 x &&& 255 = x := by
  have t : ∀ k : Fin 256, lo8 (Int32.ofNat k.val) &&& 255 = Int32.ofNat k.val := by decide +kernel
  rw [Int32.lt_iff_toInt_lt] at h0 h1
  have e0 : (0 : Int32).toInt = 0 := rfl
  have e1 : (255 : Int32).toInt = 255 := rfl
  obtain ⟨k, hk⟩ : ∃ k : Nat, x.toInt = k := ⟨x.toInt.toNat, by omega⟩
  have hx : x = Int32.ofNat k := Int32.toInt_inj.mp (by rw [hk, Int32.toInt_ofNat_small (by omega)])
  rw [hx]
  exact t ⟨k, by omega⟩
end StrChars
namespace StrChars.Road
open Jvm Sem ClassFile Op Lib Jvm.Stand Jvm.Free Jvm.Free.XT
open Jvm.Lib.Cold (StaticIs)
abbrev ST : String := "java/lang/String"
/-- every table word that New1's law asks, flat -/
abbrev words : List Jvm.Cond := [.code New1.yN New1.yB 2 none, .initialized ST, .methodLink ST 27 New4.yN, .instanceMethod New4.yN,
  .code New4.yN New4.yB 6 none, .fieldLink ST 38 ST "COMPACT_STRINGS" "Z", .laysFinal ST ST "value" "[B", .fieldLink ST 9 ST "value" "[B", .laysFinal ST ST "coder" "B", .fieldLink ST 15 ST "coder" "B",
  .methodLink ST 1 Lib.objectInit, .instanceMethod Lib.objectInit, .code Lib.objectInit ⟨#[0xb1]⟩ 1 none, .methodLink ST 177 Cmp3.yN, .static Cmp3.yN, .methodLink ST 47 CodL.yN, .static CodL.yN,
  .code Cmp3.yN Cmp3.yB 6 (some (.array .byte)), .initialized U16, .arrayClass .byte, .methodLink U16 115 Cmp5.yN, .static Cmp5.yN, .code Cmp5.yN Cmp5.yB 7 (some .int), .code CodL.yN CodL.yB 2 (some .byte)]
theorem tab_of {a : Array Value} {s : State} (h : ∀ w ∈ words, w.before a s = true) : New1.tab.before a s = true := by
  have h5 : Cmp5.tab.before a s = true := unparts (wk h (.code Cmp5.yN Cmp5.yB 7 (some .int))) (wks h (.initialized Cmp5.yN.cls :: Cmp5.site))
  have hc : CodL.tab.before a s = true := unparts (wk h (.code CodL.yN CodL.yB 2 (some .byte))) (wks h (.initialized CodL.yN.cls :: CodL.site))
  have q5 : ∀ w ∈ Cmp5.tab :: words, w.before a s = true := fun w hw => (List.mem_cons.mp hw).elim (fun e => e ▸ h5) (h w)
  have h3 : Cmp3.tab.before a s = true := unparts (wk q5 (.code Cmp3.yN Cmp3.yB 6 (some (.array .byte)))) (wks q5 (.initialized Cmp3.yN.cls :: Cmp3.site))
  have q3 : ∀ w ∈ Cmp3.tab :: CodL.tab :: words, w.before a s = true := fun w hw => (List.mem_cons.mp hw).elim (fun e => e ▸ h3) fun hw => (List.mem_cons.mp hw).elim (fun e => e ▸ hc) (h w)
  have h4 : New4.tab.before a s = true := unparts (wk q3 (.code New4.yN New4.yB 6 none)) (wks q3 (.initialized New4.yN.cls :: New4.site))
  have q4 : ∀ w ∈ New4.tab :: words, w.before a s = true := fun w hw => (List.mem_cons.mp hw).elim (fun e => e ▸ h4) (h w)
  exact unparts (wk q4 (.code New1.yN New1.yB 2 none)) (wks q4 (.initialized New1.yN.cls :: New1.site))
/-- the words ride from the start Z to the walk's own state -/
theorem moved {Z s : State} {a0 args : Array Value} (hZ : Z.Warmed39 s.vm) (hw : ∀ d ∈ words, d.before a0 Z = true) : ∀ d ∈ words, d.before args s = true := fun d hd => by
  have q := hw d hd
  have t : ∀ d ∈ words, d = .arrayClass .byte ∨ (d.onTables && d.keepsFace) = true := by decide +kernel
  rcases t d hd with rfl | t
  · exact RoadKit.mvA hZ q
  · exact RoadKit.mv hZ q t
/-- WHAT COMES BACK, over the tables of the start Z: h the heap at the call, h' behind it -/
def Q (Z : State) (x : Addr) (A : Cell) (h : Heap) (v : Option Value) (h' : Heap) (L : List Loc) : Prop := v = none ∧ (∀ y ∈ L, y.base = x) ∧ RoadKit.Keep h h' [x] ∧ h'.size = h.size + 1 ∧ RoadKit.Exa Z h' x ST ∧ RoadKit.Fld Z h' x ST "value" "[B" (.ref h.size) ∧ RoadKit.Fld Z h' x ST "coder" "B" (.int 0) ∧
  (∃ V : Cell, RoadKit.Arr Z h' h.size V .byte ∧ V.vm = .none ∧ Z.vm.findClass "[B" = some V.cls ∧ V.slots.size = A.slots.size ∧ ∀ j, j < A.slots.size → V.slots[j]? = some (.int (lo8 (cv A j)))) ∧
  ∀ (O n d : String) (w : Value), RoadKit.Fld Z h x O n d w → RoadKit.slotOf Z O n d ≠ RoadKit.slotOf Z ST "value" "[B" → RoadKit.slotOf Z O n d ≠ RoadKit.slotOf Z ST "coder" "B" → RoadKit.Fld Z h' x O n d w
/-- **new String(chars) AT A CALL, IN THE ROAD'S FORM**: for specialBack behind newO: x the fresh String, b the char[] with the cell A -/
theorem back {p : Program} {l : Launch} {e : Env} {R : Room} {s : State} {args : Array Value} {below : List Frame} {len W : Nat} {Z : State} {a0 : Array Value} {h : Heap} (hZ : Z.Warmed39 s.vm) (hw : ∀ d ∈ words, d.before a0 Z = true) {kI : Nat} (wi : (Jvm.Cond.instantiable ST kI).before a0 Z = true)
    {x b : Addr} {A : Cell} {z : Int32} {v0 c0 : Value} (E : RoadKit.Exa Z h x ST) (V : RoadKit.Fld Z h x ST "value" "[B" v0) (C : RoadKit.Fld Z h x ST "coder" "B" c0) (K : RoadKit.Arr Z h b A .char) (hty : Typed .char A) (S : RoadKit.Sta Z h ST "COMPACT_STRINGS" "Z" (.int z)) (hz : ¬ z = 0)
    (l0 : 0 < A.slots.size) (l2 : A.slots.size ≤ 536870912) (hp : ∀ i, i < A.slots.size → ¬ 255 < cv A i) (hfr : 4 ≤ R.frames) (hlo : W + 65 ≤ R.locals) :
    Back l R p e below s args New1.yN len W (fun P a => a = #[.ref x, .ref b] ∧ P.U.heap = h ∧ P.cells + 1 ≤ R.cells ∧ P.slots + A.slots.size ≤ R.slots)
      (fun P _ v B => ∃ L, Q Z x A h v B.U.heap L ∧ B.locs = P.locs ++ L ∧ B.cells = P.cells + 1 ∧ B.slots = P.slots + A.slots.size) := by
  intro m meth c P g ig mk a X hg hsize hdg hW hn hp'
  obtain ⟨rfl, rfl, r1, r2⟩ := hp'
  have al : Z.vm.Alike P.U.vm := hZ.alike.trans X.warmed.alike
  obtain ⟨D, cfV, kV, iV, fV, hD, gV, stV, knV, obV, asV, slV⟩ := id V
  obtain ⟨D', cfC, kC, iC, fC, hD', gC, stC, -, -, asC, slC⟩ := id C
  cases hD.symm.trans hD'
  obtain ⟨D2, kD, e1, e2, e3, e4, e5⟩ := id E
  cases hD.symm.trans e1
  obtain ⟨c2, k2, i1, i2, i3, -⟩ := Cond.instantiable_spec wi
  cases e2.symm.trans i1
  cases e3.symm.trans i2
  obtain ⟨kU, u1, u2⟩ := al.2.2 _ _ e3
  have hB : Blank ST x D P.U := ⟨hD, ⟨knV, fun q hq => by rw [hq] at obV; cases obV⟩, by rw [al.findClass]; exact e2, kU, u1, by rw [u2]; exact i3, by rw [u2]; exact e5 i3⟩
  have F1 : Found ST "value" "[B" fV P.U := ⟨SBG.found_only al ⟨cfV, kV, iV, gV⟩, stV⟩
  have F2 : Found ST "coder" "B" fC P.U := ⟨SBG.found_only al ⟨cfC, kC, iC, gC⟩, stC⟩
  have hA : Ch b A P.U := ⟨⟨K.1, State.isArrayOf_alike al K.2.1, K.2.2, by omega⟩, hty⟩
  have hS : StaticIs P.U ST "COMPACT_STRINGS" "Z" (.int z) := by
    obtain ⟨cfS, iS, kS, fS, st, cS, t1, t2, t3, t4, t5, t6, t7⟩ := S
    exact StaticIs.there (s := { Z with heap := P.U.heap }) ⟨cfS, iS, kS, fS, st, cS, t1, t2, t3, t4, t5, (fun q => by rw [q] at t6; cases t6), t7⟩ al rfl
  obtain ⟨v, B, X', ⟨⟨hv, E', V', q1, q2, q3, q4, q5, q6, q7, q8, q9, q10, q11⟩, hl, hc, hs⟩, st⟩ := New1.pays x D fV fC b A z (tab_of (moved hZ hw)) hfr hlo m meth c P g ig mk _ X hg hsize hdg hW hn ⟨r1, r2, rfl, hB, F1, F2, hA, hS, hz, l0, l2, hp⟩
  have al' : Z.vm.Alike B.U.vm := hZ.alike.trans X'.warmed.alike
  have hsz : E'.slots.size = D.slots.size := by
    obtain ⟨-, -, -, kB, w1, w2, w3⟩ := q1
    obtain ⟨kB', y1, y2⟩ := al'.2.2 _ _ e3
    rw [q2.2.1] at w1
    cases w1.symm.trans y1
    rw [w3, e5 i3, y2]
  refine ⟨v, B, X', ⟨_, ⟨hv, ?_, ⟨by omega, fun y cy hy hn' => q10 y cy (by simpa using hn') hy, fun y cy hy => ?_⟩, q11, ⟨E', _, q1.1, by rw [q2.2.1]; exact e2, by rw [q2.2.1]; exact e3, by rw [q2.1]; exact obV, fun _ => by rw [hsz]; exact e5 i3⟩,
    ⟨E', cfV, kV, iV, fV, q1.1, gV, stV, by rw [q2.1]; exact knV, by rw [q2.1]; exact obV, by rw [q2.2.1]; exact asV, q3⟩, ⟨E', cfC, kC, iC, fC, q1.1, gC, stC, by rw [q2.1]; exact knV, by rw [q2.1]; exact obV, by rw [q2.2.1]; exact asC, q4⟩,
    ⟨V', ⟨q5.1, State.isArrayOf_alike al'.symm q5.2.1, q5.2.2.1⟩, q6, by rw [← al'.findClass]; exact q7, q8, fun j hj => by have := q9 j hj; rwa [Nat.zero_add] at this⟩, fun O n d w F n1 n2 => ?_⟩, hl, hc, hs⟩, st⟩
  · intro y hy
    simp only [List.mem_cons, List.not_mem_nil, or_false] at hy
    rcases hy with rfl | rfl <;> rfl
  · by_cases q : y = x
    · subst q
      cases hD.symm.trans hy
      exact ⟨E', q1.1, q2.2.1, q2.1, hsz⟩
    · exact ⟨cy, q10 y cy q hy, rfl, rfl, rfl⟩
  · obtain ⟨D3, cf, k, i, f, g1, g2, g3, g4, g5, g6, g7⟩ := F
    cases hD.symm.trans g1
    simp only [RoadKit.slotOf, g2, gV, gC, Option.map_some, Option.getD_some] at n1 n2
    exact ⟨E', cf, k, i, f, q1.1, g2, g3, by rw [q2.1]; exact g4, by rw [q2.1]; exact g5, by rw [q2.2.1]; exact g6, by rw [q2.2.2 f.slot (by simp [n1, n2])]; exact g7⟩
end StrChars.Road
namespace StrChars.Road
open Jvm Sem ClassFile Op Lib Jvm.Stand Jvm.Free Jvm.Free.XT
/-- WHAT COMES BACK, the byte[] as a list of values -/
def QA (Z : State) (x : Addr) (zn : Int32) (cs : List Int32) (h : Heap) (v : Option Value) (h' : Heap) (L : List Loc) : Prop := v = none ∧ (∀ y ∈ L, y.base = x) ∧ RoadKit.Keep h h' [x] ∧ h'.size = h.size + 1 ∧ RoadKit.Exa Z h' x ST ∧ RoadKit.Fld Z h' x ST "value" "[B" (.ref h.size) ∧ RoadKit.Fld Z h' x ST "coder" "B" (.int 0) ∧
  (∃ kb, Z.vm.findClass "[B" = some kb ∧ RoadKit.Arv Z h' h.size kb .byte zn (cs.map fun c => .int (lo8 c)) (.int 0)) ∧
  ∀ (O n d : String) (w : Value), RoadKit.Fld Z h x O n d w → RoadKit.slotOf Z O n d ≠ RoadKit.slotOf Z ST "value" "[B" → RoadKit.slotOf Z O n d ≠ RoadKit.slotOf Z ST "coder" "B" → RoadKit.Fld Z h' x O n d w
/-- **new String(chars) AT A CALL, THE ARRAYS AS LISTS**: the char[] at b holds cs, not empty, no char above 255 -/
theorem backArv {p : Program} {l : Launch} {e : Env} {R : Room} {s : State} {args : Array Value} {below : List Frame} {len W : Nat} {Z : State} {a0 : Array Value} {h : Heap} (hZ : Z.Warmed39 s.vm) (hw : ∀ d ∈ words, d.before a0 Z = true) {kI : Nat} (wi : (Jvm.Cond.instantiable ST kI).before a0 Z = true)
    {x b : Addr} {k : ClassId} {zn z : Int32} {cs : List Int32} {dv v0 c0 : Value} (E : RoadKit.Exa Z h x ST) (V : RoadKit.Fld Z h x ST "value" "[B" v0) (C : RoadKit.Fld Z h x ST "coder" "B" c0) (K : RoadKit.Arv Z h b k .char zn (cs.map Value.int) dv) (S : RoadKit.Sta Z h ST "COMPACT_STRINGS" "Z" (.int z)) (hz : ¬ z = 0)
    (hlen : zn.toNatClampNeg = cs.length) (h0 : 0 < cs.length) (hbig : cs.length ≤ 536870912) (hall : ∀ c ∈ cs, ¬ 255 < c) (hfr : 4 ≤ R.frames) (hlo : W + 65 ≤ R.locals) :
    Back l R p e below s args New1.yN len W (fun P a => a = #[.ref x, .ref b] ∧ P.U.heap = h ∧ P.cells + 1 ≤ R.cells ∧ P.slots + cs.length ≤ R.slots)
      (fun P _ v B => ∃ L, QA Z x zn cs h v B.U.heap L ∧ B.locs = P.locs ++ L ∧ B.cells = P.cells + 1 ∧ B.slots = P.slots + cs.length) := by
  obtain ⟨A, K1, K2, K3, K4, K5, K6⟩ := K
  have e : A.slots.size = cs.length := K3.trans hlen
  have hat : ∀ (i : Nat) (hi : i < cs.length), A.slots[i]? = some (.int cs[i]) := fun i hi => by rw [K5 i (by omega)]; simp [List.getD_eq_getElem?_getD, hi]
  have hcv : ∀ (i : Nat) (hi : i < cs.length), cv A i = cs[i] := fun i hi => by unfold cv; rw [hat i hi]
  have hty : Typed .char A := fun i v hv => by
    have hi : i < A.slots.size := (Array.getElem?_eq_some_iff.mp hv).1
    have q := K5 i hi
    rw [hv] at q
    rw [Option.some.inj q]
    exact K6 i hi
  refine Back.mono (back hZ hw wi E V C K1 hty S hz (by omega) (by omega) (fun i hi => by rw [hcv i (by omega)]; exact hall _ (List.getElem_mem _)) hfr hlo) (fun P a hp => ⟨hp.1, hp.2.1, hp.2.2.1, by rw [e]; exact hp.2.2.2⟩) (fun P a v B hp hq => ?_)
  obtain ⟨L, ⟨q1, q2, q3, q4, q5, q6, q7, ⟨V', v1, v2, v3, v4, v5⟩, q9⟩, hl, hc, hs⟩ := hq
  refine ⟨L, ⟨q1, q2, q3, q4, q5, q6, q7, ⟨V'.cls, v3, V', v1, rfl, by rw [v4, e, hlen], K4, fun i hi => ?_, fun i hi => ?_⟩, q9⟩, hl, hc, by rw [hs, e]⟩
  · have hi' : i < cs.length := by omega
    rw [v5 i (by omega), hcv i hi']; simp [List.getD_eq_getElem?_getD, hi']
  · have hi' : i < cs.length := by omega
    simp only [List.getD_eq_getElem?_getD, List.getElem?_map, List.getElem?_eq_getElem hi', Option.map_some, Option.getD_some]
    exact fits_lo8 _
end StrChars.Road
namespace StrChars.Road
open Jvm Sem ClassFile Op Lib Jvm.Stand Jvm.Free Jvm.Free.XT
/-- WHAT COMES BACK, in the writer's own shape -/
def QV (Z : State) (x : Addr) (N : Int32) (bs : List Int32) (h : Heap) (n0 : Nat) (v : Option Value) (h' : Heap) (L : List Loc) : Prop := v = none ∧ RoadKit.Fr n0 L ∧ RoadKit.Keep h h' [x] ∧ RoadKit.Exa Z h' x ST ∧ RoadKit.Fld Z h' x ST "coder" "B" (.int 0) ∧
  ∃ (t : Addr) (kb : ClassId), n0 ≤ t ∧ h.size ≤ t ∧ ¬ t = x ∧ RoadKit.Fld Z h' x ST "value" "[B" (.ref t) ∧ RoadKit.Arv Z h' t kb .byte N (bs.map Value.int) (.int 0)
/-- **new String(chars) AT A CALL, FOR THE WRITER**: a char[] of n known ints, each 0 to 255 -/
theorem backV {p : Program} {l : Launch} {e : Env} {R : Room} {s : State} {args : Array Value} {below : List Frame} {len W : Nat} {Z : State} {a0 : Array Value} {h : Heap} (hZ : Z.Warmed39 s.vm) (hw : ∀ d ∈ words, d.before a0 Z = true) {kI : Nat} (wi : (Jvm.Cond.instantiable ST kI).before a0 Z = true)
    {x b : Addr} {kC : ClassId} {cs bs : List Int32} {d v0 c0 : Value} {z N : Int32} {n n0 : Nat} (hx0 : n0 ≤ x) (hh0 : n0 ≤ h.size) (E : RoadKit.Exa Z h x ST) (V : RoadKit.Fld Z h x ST "value" "[B" v0) (C : RoadKit.Fld Z h x ST "coder" "B" c0) (K : RoadKit.Arv Z h b kC .char N (cs.map Value.int) d) (S : RoadKit.Sta Z h ST "COMPACT_STRINGS" "Z" (.int z)) (hz : ¬ z = 0)
    (hn : cs.length = n) (hN : N = Int32.ofNat n) (l0 : 0 < n) (l2 : n ≤ 4000) (hp : ∀ c ∈ cs, ¬ c < 0 ∧ ¬ (255 : Int32) < c) (hb : bs = cs.map (fun c => c.toInt8.toInt32)) (hfr : 4 ≤ R.frames) (hlo : W + 65 ≤ R.locals) :
    Back l R p e below s args (⟨"java/lang/String", "<init>", "([C)V"⟩ : MethodName) len W (fun P a => a = #[.ref x, .ref b] ∧ P.U.heap = h ∧ P.cells + 1 ≤ R.cells ∧ P.slots + n ≤ R.slots)
      (fun P _ v B => ∃ L, QV Z x N bs h n0 v B.U.heap L ∧ B.locs = P.locs ++ L ∧ B.cells = P.cells + 1 ∧ B.slots = P.slots + n) := by
  subst hn hN hb
  refine Back.mono (backArv hZ hw wi E V C K S hz (n32 (by omega)) l0 (by omega) (fun c hc => (hp c hc).2) hfr hlo) (fun P a hp => hp) (fun P a v B hp hq => ?_)
  obtain ⟨L, ⟨q1, q2, q3, q4, q5, q6, q7, ⟨kb, v1, v2⟩, q9⟩, hl, hc, hs⟩ := hq
  exact ⟨L, ⟨q1, fun y hy => by rw [q2 y hy]; exact hx0, q3, q5, q7, h.size, kb, hh0, Nat.le_refl _, Nat.ne_of_gt E.lt, q6, by rw [List.map_map]; exact v2⟩, hl, hc, hs⟩
end StrChars.Road
namespace StrChars
open Jvm Sem ClassFile Op Lib Jvm.Stand Jvm.Free.XT Jvm.Free.ALB Jvm.Free.JM Jvm.Free
open Jvm.Lib.Cold (StaticIs)
def hi8 (x : Int32) : Int32 := lo8 (x >>> ((8 : Int32) &&& 31))
/-- what StringUTF16.getChar makes of two bytes -/
def pairCh (u v : Int32) : Int32 := (((u &&& 255) <<< ((0 : Int32) &&& 31)) ||| ((v &&& 255) <<< ((8 : Int32) &&& 31))).toUInt32.toUInt16.toUInt32.toInt32
theorem lo8_and (x : Int32) : (lo8 x &&& 255).toBitVec.toNat = x.toBitVec.toNat % 256 := by
  have h : (lo8 x).toBitVec = (x.toBitVec.signExtend 8).signExtend 32 := by rw [lo8, Int8.toBitVec_toInt32, Int32.toBitVec_toInt8]
  rw [Int32.toBitVec_and, BitVec.toNat_and, h]
  have e : ((x.toBitVec.signExtend 8).signExtend 32).toNat % 256 = x.toBitVec.toNat % 256 := by
    rw [BitVec.toNat_signExtend]
    have hlt := x.toBitVec.isLt
    simp only [BitVec.toNat_setWidth, BitVec.toNat_signExtend]
    split <;> split <;> omega
  rw [← e]
  exact Nat.and_two_pow_sub_one_eq_mod _ 8
theorem pair_says {c : Int32} (h0 : ¬ c < 0) (h1 : ¬ 65535 < c) : pairCh (lo8 c) (hi8 c) = c := by
  rw [Int32.lt_iff_toInt_lt] at h0 h1
  have e0 : (0 : Int32).toInt = 0 := rfl
  have e1 : (65535 : Int32).toInt = 65535 := rfl
  have hc : c.toInt = c.toBitVec.toNat := by
    have := c.toBitVec.isLt
    have e : c.toInt = c.toBitVec.toInt := rfl
    rw [e] at h0 h1
    rw [e]
    rw [BitVec.toInt_eq_toNat_cond] at h0 h1 ⊢
    split at h0 <;> split <;> omega
  have hn : c.toBitVec.toNat < 65536 := by omega
  have a1 := lo8_and c
  have a2 : (hi8 c &&& 255).toBitVec.toNat = c.toBitVec.toNat / 256 := by
    rw [hi8, lo8_and]
    have e : ((8 : Int32) &&& 31) = 8 := by decide
    rw [e, Int32.toBitVec_shiftRight]
    have e2 : ((8 : Int32).toBitVec.smod 32) = 8#32 := by decide
    rw [e2, BitVec.sshiftRight_eq', BitVec.toNat_sshiftRight_of_msb_false (by rw [BitVec.msb_eq_false_iff_two_mul_lt]; omega)]
    show c.toBitVec.toNat >>> 8 % 256 = _
    rw [Nat.shiftRight_eq_div_pow]
    omega
  unfold pairCh
  apply Int32.toBitVec_inj.mp
  apply BitVec.eq_of_toNat_eq
  have f0 : ((0 : Int32) &&& 31) = 0 := by decide
  have f8 : ((8 : Int32) &&& 31) = 8 := by decide
  rw [f0, f8]
  have g : (((lo8 c &&& 255) <<< (0 : Int32)) ||| ((hi8 c &&& 255) <<< (8 : Int32))).toBitVec.toNat = c.toBitVec.toNat := by
    rw [Int32.toBitVec_or, Int32.toBitVec_shiftLeft, Int32.toBitVec_shiftLeft]
    have s0 : ((0 : Int32).toBitVec.smod 32) = 0#32 := by decide
    have s8 : ((8 : Int32).toBitVec.smod 32) = 8#32 := by decide
    rw [s0, s8, BitVec.toNat_or]
    simp only [BitVec.shiftLeft_eq', BitVec.toNat_shiftLeft, a1, a2]
    show (c.toBitVec.toNat % 256) <<< 0 % 2 ^ 32 ||| (c.toBitVec.toNat / 256) <<< 8 % 2 ^ 32 = _
    rw [Nat.shiftLeft_zero, Nat.mod_eq_of_lt (show c.toBitVec.toNat % 256 < 2 ^ 32 by omega), Nat.mod_eq_of_lt (show (c.toBitVec.toNat / 256) <<< 8 < 2 ^ 32 by rw [Nat.shiftLeft_eq]; omega), Nat.or_comm, ← Nat.shiftLeft_add_eq_or_of_lt (by omega), Nat.shiftLeft_eq]
    omega
  show BitVec.toNat (((((lo8 c &&& 255) <<< (0 : Int32)) ||| ((hi8 c &&& 255) <<< (8 : Int32))).toBitVec.setWidth 16).setWidth 32) = _
  rw [BitVec.toNat_setWidth, BitVec.toNat_setWidth, g]
  omega
end StrChars
namespace StrChars
open Jvm Sem ClassFile Op Lib Jvm.Stand Jvm.Free.XT Jvm.Free.ALB Jvm.Free.JM Jvm.Free
open Jvm.Lib.Cold (StaticIs)
/-- the array's cell V codes the n chars f 0 .. f (n - 1) by the coder cd, as the JDK does: coder 1 just where some char is above 255 -/
def Cod (cd : Int32) (n : Nat) (f : Nat → Int32) (V : Cell) : Prop := (cd = 0 ∧ V.slots.size = n ∧ ∀ j, j < n → V.slots[j]? = some (.int (lo8 (f j))) ∧ ¬ 255 < f j) ∨ (cd = 1 ∧ V.slots.size = 2 * n ∧ (∀ j, j < n → V.slots[2 * j]? = some (.int (lo8 (f j))) ∧ V.slots[2 * j + 1]? = some (.int (hi8 (f j)))) ∧ ∃ j, j < n ∧ 255 < f j)
/-- **x is a String of the n chars f 0 .. f (n - 1)**, Latin-1 or UTF-16; its array at t has the cell V -/
def Txt (x t : Addr) (V : Cell) (cd : Int32) (n : Nat) (f : Nat → Int32) (U : State) : Prop := Exact "java/lang/String" x U ∧ Has x "java/lang/String" "value" "[B" (.ref t) U ∧ Has x "java/lang/String" "coder" "B" (.int cd) U ∧ XT.Arr .byte t V U ∧ Cod cd n f V ∧ ∀ j, j < n → ¬ f j < 0 ∧ ¬ 65535 < f j
theorem Txt.mv {x t : Addr} {V : Cell} {cd : Int32} {n : Nat} {f : Nat → Int32} {U U' : State} (h : Txt x t V cd n f U) (hal : U.vm.Alike U'.vm) (hh : U'.heap = U.heap) : Txt x t V cd n f U' := ⟨h.1.mv hal hh, h.2.1.mv hal hh, h.2.2.1.mv hal hh, h.2.2.2.1.mv hal hh, h.2.2.2.2⟩
end StrChars
namespace StrChars.Road
open Jvm Sem ClassFile Op Lib Jvm.Stand Jvm.Free Jvm.Free.XT
open Jvm.Lib.Cold (StaticIs)
theorem consq {a : Array Value} {s : State} {c : Jvm.Cond} {L : List Jvm.Cond} (h0 : c.before a s = true) (h : ∀ w ∈ L, w.before a s = true) : ∀ w ∈ c :: L, w.before a s = true := fun w hw => (List.mem_cons.mp hw).elim (fun e => e ▸ h0) (h w)
/-- the bytes of the chars cs, low before high -/
def wideBytes : List Int32 → List Value
  | [] => []
  | c :: cs => .int (lo8 c) :: .int (hi8 c) :: wideBytes cs
theorem wide_lo (d : Value) : ∀ (cs : List Int32) (j : Nat), j < cs.length → (wideBytes cs).getD (2 * j) d = .int (lo8 (cs.getD j 0))
  | [], j, h => absurd h (Nat.not_lt_zero j)
  | c :: cs, 0, _ => rfl
  | c :: cs, j + 1, h => by
    have q := wide_lo d cs j (by simpa using h)
    rw [show 2 * (j + 1) = 2 * j + 1 + 1 from by omega]
    simpa [wideBytes] using q
theorem wide_hi (d : Value) : ∀ (cs : List Int32) (j : Nat), j < cs.length → (wideBytes cs).getD (2 * j + 1) d = .int (hi8 (cs.getD j 0))
  | [], j, h => absurd h (Nat.not_lt_zero j)
  | c :: cs, 0, _ => rfl
  | c :: cs, j + 1, h => by
    have q := wide_hi d cs j (by simpa using h)
    rw [show 2 * (j + 1) + 1 = 2 * j + 1 + 1 + 1 from by omega]
    simpa [wideBytes] using q
theorem low_at (d : Value) (cs : List Int32) (j : Nat) (h : j < cs.length) : (cs.map fun c => Value.int (lo8 c)).getD j d = .int (lo8 (cs.getD j 0)) := by
  simp [List.getD_eq_getElem?_getD, h]
/-- an array of N2 bytes vs codes the chars cs by the coder cd -/
def CodA (cs : List Int32) (cd N2 : Int32) (vs : List Value) : Prop := (cd = 0 ∧ N2 = Int32.ofNat cs.length ∧ vs = (cs.map fun c => Value.int (lo8 c)) ∧ ∀ c ∈ cs, ¬ 255 < c) ∨ (cd = 1 ∧ N2 = Int32.ofNat (2 * cs.length) ∧ vs = wideBytes cs ∧ ∃ c ∈ cs, 255 < c)
theorem CodA.cod {cs : List Int32} {cd N2 : Int32} {vs : List Value} {V : Cell} (h : CodA cs cd N2 vs) (hn : 2 * cs.length < 2 ^ 31) (hs : V.slots.size = N2.toNatClampNeg) (hv : RoadKit.Has V vs (.int 0)) : Cod cd cs.length (fun j => cs.getD j 0) V := by
  rcases h with ⟨rfl, rfl, rfl, h⟩ | ⟨rfl, rfl, rfl, c, hc, hw⟩
  · rw [n32 (by omega)] at hs
    exact Or.inl ⟨rfl, hs, fun j hj => ⟨by rw [hv j (by omega), low_at _ _ _ hj], by
      have e : cs.getD j 0 = cs[j] := by simp [List.getD_eq_getElem?_getD, hj]
      show ¬ 255 < cs.getD j 0
      rw [e]; exact h _ (List.getElem_mem _)⟩⟩
  · rw [n32 (by omega)] at hs
    obtain ⟨j, hj, rfl⟩ := List.getElem_of_mem hc
    exact Or.inr ⟨rfl, hs, fun j hj => ⟨by rw [hv _ (by omega), wide_lo _ _ _ hj], by rw [hv _ (by omega), wide_hi _ _ _ hj]⟩, j, hj, by
      have e : cs.getD j 0 = cs[j] := by simp [List.getD_eq_getElem?_getD, hj]
      show 255 < cs.getD j 0
      rw [e]; exact hw⟩
/-- an object of exactly java/lang/String, its two fields found: as the laws ask it -/
theorem strObj {Z U : State} {a0 : Array Value} {kI : Nat} (wi : (Jvm.Cond.instantiable ST kI).before a0 Z = true) (al : Z.vm.Alike U.vm) {x : Addr} {v0 c0 : Value} (E : RoadKit.Exa Z U.heap x ST) (V : RoadKit.Fld Z U.heap x ST "value" "[B" v0) (C : RoadKit.Fld Z U.heap x ST "coder" "B" c0) :
    ∃ (D : Cell) (fV fC : Field), Blank ST x D U ∧ Found ST "value" "[B" fV U ∧ Found ST "coder" "B" fC U ∧ D.slots[fV.slot]? = some v0 ∧ D.slots[fC.slot]? = some c0 ∧ RoadKit.slotOf Z ST "value" "[B" = fV.slot ∧ RoadKit.slotOf Z ST "coder" "B" = fC.slot := by
  obtain ⟨D, cfV, kV, iV, fV, hD, gV, stV, knV, obV, asV, slV⟩ := V
  obtain ⟨D', cfC, kC, iC, fC, hD', gC, stC, -, -, asC, slC⟩ := C
  cases hD.symm.trans hD'
  obtain ⟨D2, kD, e1, e2, e3, e4, e5⟩ := E
  cases hD.symm.trans e1
  obtain ⟨c2, k2, i1, i2, i3, -⟩ := Cond.instantiable_spec wi
  cases e2.symm.trans i1
  cases e3.symm.trans i2
  obtain ⟨kU, u1, u2⟩ := al.2.2 _ _ e3
  exact ⟨D, fV, fC, ⟨hD, ⟨knV, fun q hq => by rw [hq] at obV; cases obV⟩, by rw [al.findClass]; exact e2, kU, u1, by rw [u2]; exact i3, by rw [u2]; exact e5 i3⟩, ⟨SBG.found_only al ⟨cfV, kV, iV, gV⟩, stV⟩, ⟨SBG.found_only al ⟨cfC, kC, iC, gC⟩, stC⟩, slV, slC, by simp [RoadKit.slotOf, gV], by simp [RoadKit.slotOf, gC]⟩
theorem sta_is {Z U : State} (al : Z.vm.Alike U.vm) {C n d : String} {v : Value} (S : RoadKit.Sta Z U.heap C n d v) : StaticIs U C n d v := by
  obtain ⟨cfS, iS, kS, fS, st, cS, t1, t2, t3, t4, t5, t6, t7⟩ := S
  exact StaticIs.there (s := { Z with heap := U.heap }) ⟨cfS, iS, kS, fS, st, cS, t1, t2, t3, t4, t5, (fun q => by rw [q] at t6; cases t6), t7⟩ al rfl
end StrChars.Road
namespace StrChars
open Jvm Sem ClassFile Op Lib Jvm.Stand Jvm.Free.XT Jvm.Free.ALB Jvm.Free.JM Jvm.Free
open Jvm.Lib.Cold (StaticIs)
/-- what place i of a byte[]'s cell holds -/
def yv (A : Cell) (i : Nat) : Int32 := match A.slots[i]? with | some (.int x) => x | _ => 0
theorem yv_get {a : Addr} {A : Cell} {U : State} (h : XT.Arr .byte a A U) (ht : Typed .byte A) {i : Nat} (hi : i < A.slots.size) : A.slots[i]? = some (.int (yv A i)) := by
  have e := Array.getElem?_eq_getElem hi
  have f := ht i _ e
  unfold yv; rw [e]
  generalize A.slots[i] = v at f
  cases v <;> simp [fits] at f ⊢
/-- the two arrays are equal, place for place -/
def EqC (A B : Cell) : Prop := A.slots.size = B.slots.size ∧ ∀ i, i < A.slots.size → yv A i = yv B i
/-- a boolean that says whether p -/
def Says01 (q : Prop) (r : Option Value) (s u : State) : Prop := ∃ v : Int32, r = some (.int v) ∧ u.heap = s.heap ∧ ((v = 1 ∧ q) ∨ (v = 0 ∧ ¬ q))
theorem Says01.mv {q : Prop} : ∀ r (U U' V V' : State), U'.heap = U.heap → V.vm.Alike V'.vm → V'.heap = V.heap → Says01 q r U V → Says01 q r U' V' :=
  fun r U U' V V' h1 _ h2 ⟨v, a, b, c⟩ => ⟨v, a, by rw [h1, h2]; exact b, c⟩
namespace LEq
def yN : MethodName := ⟨"java/lang/StringLatin1", "equals", "([B[B)Z"⟩
abbrev yB : ByteArray := jdk_43_method_13_code
theorem d0 : decode yB 0 = .ok (.aload_n 0, 1) := by decide +kernel
theorem d1 : decode yB 1 = .ok (.arraylength, 1) := by decide +kernel
theorem d2 : decode yB 2 = .ok (.aload_n 1, 1) := by decide +kernel
theorem d3 : decode yB 3 = .ok (.arraylength, 1) := by decide +kernel
theorem d4 : decode yB 4 = .ok (.if_icmp (.ne) 30, 3) := by decide +kernel
theorem d7 : decode yB 7 = .ok (.iconst 0, 1) := by decide +kernel
theorem d8 : decode yB 8 = .ok (.istore_n 2, 1) := by decide +kernel
theorem d9 : decode yB 9 = .ok (.iload_n 2, 1) := by decide +kernel
theorem d10 : decode yB 10 = .ok (.aload_n 0, 1) := by decide +kernel
theorem d11 : decode yB 11 = .ok (.arraylength, 1) := by decide +kernel
theorem d12 : decode yB 12 = .ok (.if_icmp (.ge) 20, 3) := by decide +kernel
theorem d15 : decode yB 15 = .ok (.aload_n 0, 1) := by decide +kernel
theorem d16 : decode yB 16 = .ok (.iload_n 2, 1) := by decide +kernel
theorem d17 : decode yB 17 = .ok (.baload, 1) := by decide +kernel
theorem d18 : decode yB 18 = .ok (.aload_n 1, 1) := by decide +kernel
theorem d19 : decode yB 19 = .ok (.iload_n 2, 1) := by decide +kernel
theorem d20 : decode yB 20 = .ok (.baload, 1) := by decide +kernel
theorem d21 : decode yB 21 = .ok (.if_icmp (.eq) 5, 3) := by decide +kernel
theorem d24 : decode yB 24 = .ok (.iconst 0, 1) := by decide +kernel
theorem d25 : decode yB 25 = .ok (.ireturn, 1) := by decide +kernel
theorem d26 : decode yB 26 = .ok (.iinc 2 1, 3) := by decide +kernel
theorem d29 : decode yB 29 = .ok (.goto (-20), 3) := by decide +kernel
theorem d32 : decode yB 32 = .ok (.iconst 1, 1) := by decide +kernel
theorem d33 : decode yB 33 = .ok (.ireturn, 1) := by decide +kernel
theorem d34 : decode yB 34 = .ok (.iconst 0, 1) := by decide +kernel
theorem d35 : decode yB 35 = .ok (.ireturn, 1) := by decide +kernel
def site : List Cond := []
def tab : Cond := tabOf yN yB 3 (some .boolean) site
def P (a : Addr) (A : Cell) (b : Addr) (B : Cell) (args : Array Value) (s : State) : Prop := args = #[.ref a, .ref b] ∧ XT.Arr .byte a A s ∧ Typed .byte A ∧ XT.Arr .byte b B s ∧ Typed .byte B
/-- whether two byte[] are equal, place for place -/
theorem law (l : Launch) (a : Addr) (A : Cell) (b : Addr) (B : Cell) : Law l yN 2 2 0 0 yB 3 (some .boolean) site (P a A b B) (Says01 (EqC A B)) [] 0 0 := by
  refine Law.of_walk (plainFor_of_name (by decide +kernel)) (by decide +kernel) (by decide +kernel) (by decide) (fun _ _ h => by rw [h.1]; rfl) (fun _ U U' hal hh h => ⟨h.1, h.2.1.mv hal hh, h.2.2.1, h.2.2.2.1.mv hal hh, h.2.2.2.2⟩) (fun r U U' V V' h1 hal h2 h => Says01.mv r U U' V V' h1 hal h2 h) ?_
  intro p e s m args below meth c s₁ X0 hexec hbytes hml hret hlk hnm hown hh0 W hP
  obtain ⟨rfl, hA, tA, hB, tB⟩ := hP
  have a31 := hA.2.2.2
  have b31 := hB.2.2.2
  have hA0 := hA.mv X0.warmed.alike hh0
  have hB0 := hB.mv X0.warmed.alike hh0
  have c1 : Steps p.tables e below (s₁.setTop (entryFrame m #[.ref a, .ref b] 3)) (s₁.setTop (mkF m 0 #[.val (.ref a), .val (.ref b), .unset] [])) := entry rfl
  have c2 : Steps p.tables e below (s₁.setTop (entryFrame m #[.ref a, .ref b] 3)) (s₁.setTop (mkF m 4 #[.val (.ref a), .val (.ref b), .unset] [.int (Int32.ofNat B.slots.size), .int (Int32.ofNat A.slots.size)])) := c1.trans (by
    refine XS.aloadN X0.here hexec rfl (hb hbytes d0) rfl rfl ?_
    refine X0.alen hexec hA0 rfl rfl (hb hbytes d1) ?_
    refine XS.aloadN X0.here hexec rfl (hb hbytes d2) rfl rfl ?_
    refine X0.alen hexec hB0 rfl rfl (hb hbytes d3) ?_
    exact Steps.refl _)
  by_cases hs : A.slots.size = B.slots.size
  · have c3 : Steps p.tables e below (s₁.setTop (entryFrame m #[.ref a, .ref b] 3)) (s₁.setTop (mkF m 9 #[.val (.ref a), .val (.ref b), .val (.int 0)] [])) := c2.trans (by
      refine XS.icmpNo X0.here hexec rfl (hb hbytes d4) rfl (ii_ne_f (by rw [hs])) ?_
      refine iconstV X0.here hexec rfl 0 (hb hbytes d7) (by decide) ?_
      refine XS.istoreN X0.here hexec rfl (hb hbytes d8) rfl rfl ?_
      exact Steps.refl _)
    have loop : ∀ (r i : Nat), i + r = A.slots.size → (∀ j, j < i → yv A j = yv B j) → Steps p.tables e below (s₁.setTop (entryFrame m #[.ref a, .ref b] 3)) (s₁.setTop (mkF m 9 #[.val (.ref a), .val (.ref b), .val (.int (Int32.ofNat i))] [])) → ∃ (pc : Nat) (Ls : Array Slot) (v : Int32), (pc = 25 ∨ pc = 33) ∧ ((v = 1 ∧ EqC A B) ∨ (v = 0 ∧ ¬ EqC A B)) ∧ Steps p.tables e below (s₁.setTop (entryFrame m #[.ref a, .ref b] 3)) (s₁.setTop (mkF m pc Ls [.int v])) := by
      intro r
      induction r with
      | zero =>
        intro i hi he cl
        exact ⟨33, _, 1, Or.inr rfl, Or.inl ⟨rfl, hs, fun j hj => he j (by omega)⟩, cl.trans (by
          refine XS.iloadN X0.here hexec rfl (hb hbytes d9) rfl ?_
          refine XS.aloadN X0.here hexec rfl (hb hbytes d10) rfl rfl ?_
          refine X0.alen hexec hA0 rfl rfl (hb hbytes d11) ?_
          refine XS.icmpYes X0.here hexec rfl (pc0 := 12) rfl (hb hbytes d12) rfl (ii_ge_t (nlt32 (by omega) (by omega))) (by decide) rfl ?_
          refine iconstV X0.here hexec rfl 1 (hb hbytes d32) (by decide) ?_
          exact Steps.refl _)⟩
      | succ r ih =>
        intro i hi he cl
        have c4 : Steps p.tables e below (s₁.setTop (entryFrame m #[.ref a, .ref b] 3)) (s₁.setTop (mkF m 21 #[.val (.ref a), .val (.ref b), .val (.int (Int32.ofNat i))] [.int (yv B i), .int (yv A i)])) := cl.trans (by
          refine XS.iloadN X0.here hexec rfl (hb hbytes d9) rfl ?_
          refine XS.aloadN X0.here hexec rfl (hb hbytes d10) rfl rfl ?_
          refine X0.alen hexec hA0 rfl rfl (hb hbytes d11) ?_
          refine XS.icmpNo X0.here hexec rfl (hb hbytes d12) rfl (ii_ge_f (lt32 (by omega) (by omega))) ?_
          refine XS.aloadN X0.here hexec rfl (hb hbytes d15) rfl rfl ?_
          refine XS.iloadN X0.here hexec rfl (hb hbytes d16) rfl ?_
          refine X0.aget hexec hA0 rfl (yv_get hA tA (i := i) (by omega)) rfl rfl (hb hbytes d17) ?_
          refine XS.aloadN X0.here hexec rfl (hb hbytes d18) rfl rfl ?_
          refine XS.iloadN X0.here hexec rfl (hb hbytes d19) rfl ?_
          refine X0.aget hexec hB0 rfl (yv_get hB tB (i := i) (by omega)) rfl rfl (hb hbytes d20) ?_
          exact Steps.refl _)
        by_cases hv : yv A i = yv B i
        · have c5 : Steps p.tables e below (s₁.setTop (entryFrame m #[.ref a, .ref b] 3)) (s₁.setTop (mkF m 9 #[.val (.ref a), .val (.ref b), .val (.int (Int32.ofNat i + 1))] [])) := c4.trans (by
            refine XS.icmpYes X0.here hexec rfl (pc0 := 21) rfl (hb hbytes d21) rfl (ii_eq_t hv) (by decide) rfl ?_
            refine iincV X0.here hexec rfl 1 (hb hbytes d26) (by decide) rfl rfl ?_
            refine XS.goto X0.here hexec rfl (pc0 := 29) rfl (hb hbytes d29) (by decide) rfl ?_
            exact Steps.refl _)
          rw [succ32] at c5
          exact ih (i + 1) (by omega) (fun j hj => by
            by_cases e : j = i
            · rw [e]; exact hv
            · exact he j (by omega)) c5
        · exact ⟨25, _, 0, Or.inl rfl, Or.inr ⟨rfl, fun q => hv (q.2 i (by omega))⟩, c4.trans (by
            refine XS.icmpNo X0.here hexec rfl (hb hbytes d21) rfl (ii_eq_f hv) ?_
            refine iconstV X0.here hexec rfl 0 (hb hbytes d24) (by decide) ?_
            exact Steps.refl _)⟩
    obtain ⟨pc, Ls, v, hpc, hv, cz⟩ := loop A.slots.size 0 (by omega) (fun j hj => absurd hj (Nat.not_lt_zero j)) c3
    have nv : narrow .boolean (.int v) = .int v := by rcases hv with ⟨rfl, -⟩ | ⟨rfl, -⟩ <;> rfl
    rcases hpc with rfl | rfl
    · exact ⟨s₁, some (.int v), _, _, _, X0, rfl, rfl, rfl, (fun h => by cases h), ⟨v, rfl, hh0, hv⟩, fun fs hl => cz.trans (X0.ireturnOut hexec hret nv (Or.inr (Or.inl rfl)) (hb hbytes d25) hl)⟩
    · exact ⟨s₁, some (.int v), _, _, _, X0, rfl, rfl, rfl, (fun h => by cases h), ⟨v, rfl, hh0, hv⟩, fun fs hl => cz.trans (X0.ireturnOut hexec hret nv (Or.inr (Or.inl rfl)) (hb hbytes d33) hl)⟩
  · have c3 : Steps p.tables e below (s₁.setTop (entryFrame m #[.ref a, .ref b] 3)) (s₁.setTop (mkF m 35 #[.val (.ref a), .val (.ref b), .unset] [.int 0])) := c2.trans (by
      refine XS.icmpYes X0.here hexec rfl (pc0 := 4) rfl (hb hbytes d4) rfl (ii_ne_t (ne32 a31 b31 hs)) (by decide) rfl ?_
      refine iconstV X0.here hexec rfl 0 (hb hbytes d34) (by decide) ?_
      exact Steps.refl _)
    exact ⟨s₁, some (.int 0), _, _, _, X0, rfl, rfl, rfl, (fun h => by cases h), ⟨0, rfl, hh0, Or.inr ⟨rfl, fun q => hs q.1⟩⟩, fun fs hl => c3.trans (X0.ireturnOut hexec hret rfl (Or.inr (Or.inl rfl)) (hb hbytes d35) hl)⟩
end LEq
theorem Cod.ty {cd : Int32} {n : Nat} {f : Nat → Int32} {V : Cell} (h : Cod cd n f V) : Typed .byte V := fun i v hv => by
  have hi : i < V.slots.size := (Array.getElem?_eq_some_iff.mp hv).1
  rcases h with ⟨-, k1, k2⟩ | ⟨-, k1, k2, -⟩
  · rw [(k2 i (by omega)).1] at hv; cases hv; exact fits_lo8 _
  · rcases Nat.mod_two_eq_zero_or_one i with e | e
    · obtain ⟨j, rfl⟩ : ∃ j, i = 2 * j := ⟨i / 2, by omega⟩
      rw [(k2 j (by omega)).1] at hv; cases hv; exact fits_lo8 _
    · obtain ⟨j, rfl⟩ : ∃ j, i = 2 * j + 1 := ⟨i / 2, by omega⟩
      rw [(k2 j (by omega)).2] at hv; cases hv; exact fits_lo8 _
/-- the same text -/
def SameT (n : Nat) (f : Nat → Int32) (k : Nat) (g : Nat → Int32) : Prop := n = k ∧ ∀ j, j < n → f j = g j
theorem lo8_inj {x y : Int32} (h0 : ¬ x < 0) (h1 : ¬ 255 < x) (k0 : ¬ y < 0) (k1 : ¬ 255 < y) (h : lo8 x = lo8 y) : x = y := by
  rw [← lo8_mask h0 h1, ← lo8_mask k0 k1, h]
/-- arrays coded by one coder are equal just where the texts are -/
theorem Cod.eqv {cd : Int32} {n k : Nat} {f g : Nat → Int32} {V V' : Cell} (h : Cod cd n f V) (h' : Cod cd k g V') (hf : ∀ j, j < n → ¬ f j < 0 ∧ ¬ 65535 < f j) (hg : ∀ j, j < k → ¬ g j < 0 ∧ ¬ 65535 < g j) : EqC V V' ↔ SameT n f k g := by
  have yvv : ∀ {W : Cell} {i : Nat} {x : Int32}, W.slots[i]? = some (.int x) → yv W i = x := fun q => by unfold yv; rw [q]
  rcases h with ⟨rfl, k1, k2⟩ | ⟨rfl, k1, k2, -⟩
  · rcases h' with ⟨-, m1, m2⟩ | ⟨e, -⟩
    · constructor
      · rintro ⟨e1, e2⟩
        refine ⟨by omega, fun j hj => ?_⟩
        have q := e2 j (by omega)
        rw [yvv (k2 j hj).1, yvv (m2 j (by omega)).1] at q
        exact lo8_inj (hf j hj).1 (k2 j hj).2 (hg j (by omega)).1 (m2 j (by omega)).2 q
      · rintro ⟨rfl, e2⟩
        refine ⟨by omega, fun j hj => ?_⟩
        rw [yvv (k2 j (by omega)).1, yvv (m2 j (by omega)).1, e2 j (by omega)]
    · exact absurd e (by decide)
  · rcases h' with ⟨e, -⟩ | ⟨-, m1, m2, -⟩
    · exact absurd e (by decide)
    · constructor
      · rintro ⟨e1, e2⟩
        refine ⟨by omega, fun j hj => ?_⟩
        have q1 := e2 (2 * j) (by omega)
        have q2 := e2 (2 * j + 1) (by omega)
        rw [yvv (k2 j hj).1, yvv (m2 j (by omega)).1] at q1
        rw [yvv (k2 j hj).2, yvv (m2 j (by omega)).2] at q2
        rw [← pair_says (hf j hj).1 (hf j hj).2, ← pair_says (hg j (by omega)).1 (hg j (by omega)).2, q1, q2]
      · rintro ⟨rfl, e2⟩
        refine ⟨by omega, fun i hi => ?_⟩
        rcases Nat.mod_two_eq_zero_or_one i with e | e
        · obtain ⟨j, rfl⟩ : ∃ j, i = 2 * j := ⟨i / 2, by omega⟩
          rw [yvv (k2 j (by omega)).1, yvv (m2 j (by omega)).1, e2 j (by omega)]
        · obtain ⟨j, rfl⟩ : ∃ j, i = 2 * j + 1 := ⟨i / 2, by omega⟩
          rw [yvv (k2 j (by omega)).2, yvv (m2 j (by omega)).2, e2 j (by omega)]
/-- two codings differ: so do the texts -/
theorem Cod.dif {cd cd' : Int32} {n k : Nat} {f g : Nat → Int32} {V V' : Cell} (h : Cod cd n f V) (h' : Cod cd' k g V') (hne : ¬ cd = cd') : ¬ SameT n f k g := by
  rintro ⟨rfl, e⟩
  rcases h with ⟨rfl, -, k2⟩ | ⟨rfl, -, -, j, hj, hw⟩
  · rcases h' with ⟨rfl, -⟩ | ⟨-, -, -, j, hj, hw⟩
    · exact hne rfl
    · exact (k2 j hj).2 (by rw [e j hj]; exact hw)
  · rcases h' with ⟨-, -, m2⟩ | ⟨rfl, -⟩
    · exact (m2 j hj).2 (by rw [← e j hj]; exact hw)
    · exact hne rfl
/-- an object of exactly C is an instance of C -/
theorem cinst {p : Program} {l : Launch} {e : Env} {R : Room} {s : State} {m : MethodId} {args : Array Value} {below : List Frame} {meth : Method} {c : Code} {T : State} {locs : List Loc} {cells slots : Nat} (X : Stand p l e R s m args below meth c T locs cells slots) (hexec : p.tables.exec = Jvm.exec) {own C : String} {index : Nat} (hown : s.vm.findClass own = some m.cls) (hlink : (Cond.classLink own index C).before args s = true) {a : Addr} (hE : Exact C a T)
    {g : JFrame} (hg : g.method = m) {rest : List Value} (hstack : g.stack = .ref a :: rest) (hdg : decode c.code g.pc = .ok (.instanceof index, 3)) :
    ∃ T', Stand p l e R s m args below meth c T' locs cells slots ∧ T'.heap = T.heap ∧ ∀ target, Steps p.tables e below (T'.setTop { g with pc := g.pc + 3, stack := .int 1 :: rest }) target → Steps p.tables e below (T.setTop g) target := by
  obtain ⟨cB, h1, D, h2, h3, h4⟩ := hE
  have h1' : s.vm.findClass C = some cB := by rw [← X.warmed.alike.findClass]; exact h1
  obtain ⟨vm', X', st⟩ := X.instanceofYes hexec hown hlink h2 h4 h1' (by rw [h3]; exact Jvm.Free.SB.assignable_self _ _) hg hstack hdg
  exact ⟨_, X', rfl, st⟩
theorem cself {p : Program} {l : Launch} {e : Env} {R : Room} {s : State} {m : MethodId} {args : Array Value} {below : List Frame} {meth : Method} {c : Code} {T : State} {locs : List Loc} {cells slots : Nat} (X : Stand p l e R s m args below meth c T locs cells slots) (hexec : p.tables.exec = Jvm.exec) {own C : String} {index : Nat} (hown : s.vm.findClass own = some m.cls) (hlink : (Cond.classLink own index C).before args s = true) {a : Addr} (hE : Exact C a T)
    {g : JFrame} (hg : g.method = m) {rest : List Value} (hstack : g.stack = .ref a :: rest) (hdg : decode c.code g.pc = .ok (.checkcast index, 3)) :
    ∃ T', Stand p l e R s m args below meth c T' locs cells slots ∧ T'.heap = T.heap ∧ ∀ target, Steps p.tables e below (T'.setTop { g with pc := g.pc + 3, stack := .ref a :: rest }) target → Steps p.tables e below (T.setTop g) target := by
  obtain ⟨cB, h1, D, h2, h3, h4⟩ := hE
  have h1' : s.vm.findClass C = some cB := by rw [← X.warmed.alike.findClass]; exact h1
  obtain ⟨vm', X', st⟩ := X.checkcastYes hexec hown hlink h2 h4 h1' (by rw [h3]; exact Jvm.Free.SB.assignable_self _ _) hg hstack hdg
  exact ⟨_, X', rfl, fun t h => st t (by rw [← hstack] at h; exact h)⟩
namespace SEq
def yN : MethodName := ⟨"java/lang/String", "equals", "(Ljava/lang/Object;)Z"⟩
abbrev yB : ByteArray := jdk_42_method_66_code
theorem d0 : decode yB 0 = .ok (.aload_n 0, 1) := by decide +kernel
theorem d1 : decode yB 1 = .ok (.aload_n 1, 1) := by decide +kernel
theorem d2 : decode yB 2 = .ok (.if_acmp (.ne) 5, 3) := by decide +kernel
theorem d5 : decode yB 5 = .ok (.iconst 1, 1) := by decide +kernel
theorem d6 : decode yB 6 = .ok (.ireturn, 1) := by decide +kernel
theorem d7 : decode yB 7 = .ok (.aload_n 1, 1) := by decide +kernel
theorem d8 : decode yB 8 = .ok (.instanceof 10, 3) := by decide +kernel
theorem d11 : decode yB 11 = .ok (.ifCond (.eq) 43, 3) := by decide +kernel
theorem d14 : decode yB 14 = .ok (.aload_n 1, 1) := by decide +kernel
theorem d15 : decode yB 15 = .ok (.checkcast 10, 3) := by decide +kernel
theorem d18 : decode yB 18 = .ok (.astore_n 2, 1) := by decide +kernel
theorem d19 : decode yB 19 = .ok (.getstatic 38, 3) := by decide +kernel
theorem d22 : decode yB 22 = .ok (.ifCond (.eq) 14, 3) := by decide +kernel
theorem d25 : decode yB 25 = .ok (.aload_n 0, 1) := by decide +kernel
theorem d26 : decode yB 26 = .ok (.getfield 15, 3) := by decide +kernel
theorem d29 : decode yB 29 = .ok (.aload_n 2, 1) := by decide +kernel
theorem d30 : decode yB 30 = .ok (.getfield 15, 3) := by decide +kernel
theorem d33 : decode yB 33 = .ok (.if_icmp (.ne) 21, 3) := by decide +kernel
theorem d36 : decode yB 36 = .ok (.aload_n 0, 1) := by decide +kernel
theorem d37 : decode yB 37 = .ok (.getfield 9, 3) := by decide +kernel
theorem d40 : decode yB 40 = .ok (.aload_n 2, 1) := by decide +kernel
theorem d41 : decode yB 41 = .ok (.getfield 9, 3) := by decide +kernel
theorem d44 : decode yB 44 = .ok (.invokestatic 541, 3) := by decide +kernel
theorem d47 : decode yB 47 = .ok (.ifCond (.eq) 7, 3) := by decide +kernel
theorem d50 : decode yB 50 = .ok (.iconst 1, 1) := by decide +kernel
theorem d51 : decode yB 51 = .ok (.goto 4, 3) := by decide +kernel
theorem d54 : decode yB 54 = .ok (.iconst 0, 1) := by decide +kernel
theorem d55 : decode yB 55 = .ok (.ireturn, 1) := by decide +kernel
def site : List Cond := [.classLink "java/lang/String" 10 "java/lang/String", .fieldLink "java/lang/String" 38 "java/lang/String" "COMPACT_STRINGS" "Z", .fieldLink "java/lang/String" 15 "java/lang/String" "coder" "B", .fieldLink "java/lang/String" 9 "java/lang/String" "value" "[B", LEq.tab] ++ staticW "java/lang/String" 541 LEq.yN
def tab : Cond := tabOf yN yB 3 (some .boolean) site
def P (x t : Addr) (V : Cell) (cd : Int32) (n : Nat) (f : Nat → Int32) (y t' : Addr) (V' : Cell) (cd' : Int32) (k : Nat) (g : Nat → Int32) (z : Int32) (args : Array Value) (s : State) : Prop := args = #[.ref x, .ref y] ∧ Txt x t V cd n f s ∧ Txt y t' V' cd' k g s ∧ StaticIs s "java/lang/String" "COMPACT_STRINGS" "Z" (.int z) ∧ ¬ z = 0
/-- equals(Object) of two Strings: whether the texts are the same -/
theorem law (l : Launch) (x t : Addr) (V : Cell) (cd : Int32) (n : Nat) (f : Nat → Int32) (y t' : Addr) (V' : Cell) (cd' : Int32) (k : Nat) (g : Nat → Int32) (z : Int32) : Law l yN 2 1 1 14 yB 3 (some .boolean) site (P x t V cd n f y t' V' cd' k g z) (Says01 (SameT n f k g)) [] 0 0 := by
  refine Law.of_walk (plainFor_of_name (by decide +kernel)) (by decide +kernel) (by decide +kernel) (by decide) (fun _ _ h => by rw [h.1]; rfl) (fun _ U U' hal hh h => ⟨h.1, h.2.1.mv hal hh, h.2.2.1.mv hal hh, h.2.2.2.1.there hal hh, h.2.2.2.2⟩) (fun r U U' V V' h1 hal h2 h => Says01.mv r U U' V V' h1 hal h2 h) ?_
  intro p e s m args below meth c s₁ X0 hexec hbytes hml hret hlk hnm hown hh0 W hP
  obtain ⟨rfl, hx, hy, s1, hz⟩ := hP
  have c1 : Steps p.tables e below (s₁.setTop (entryFrame m #[.ref x, .ref y] 3)) (s₁.setTop (mkF m 2 #[.val (.ref x), .val (.ref y), .unset] [.ref y, .ref x])) := Steps.trans (entry rfl) (by
    show Steps p.tables e below (s₁.setTop (mkF m 0 #[.val (.ref x), .val (.ref y), .unset] [])) _
    refine XS.aloadN X0.here hexec rfl (hb hbytes d0) rfl rfl ?_
    refine XS.aloadN X0.here hexec rfl (hb hbytes d1) rfl rfl ?_
    exact Steps.refl _)
  by_cases hxy : x = y
  · have c2 : Steps p.tables e below (s₁.setTop (entryFrame m #[.ref x, .ref y] 3)) (s₁.setTop (mkF m 6 #[.val (.ref x), .val (.ref y), .unset] [.int 1])) := c1.trans (by
      refine acmpNo X0.here hexec rfl (hb hbytes d2) rfl rfl rfl (by simp [acmp, hxy]) ?_
      refine iconstV X0.here hexec rfl 1 (hb hbytes d5) (by decide) ?_
      exact Steps.refl _)
    subst hxy
    have ec : cd = cd' := by
      obtain ⟨D, fd, a1, a2, a3⟩ := hx.2.2.1
      obtain ⟨D', fd', b1, b2, b3⟩ := hy.2.2.1
      cases a1.symm.trans b1
      obtain ⟨q1, q2, q3, q4⟩ := a2.1
      obtain ⟨r1, r2, r3, r4⟩ := b2.1
      cases q4.symm.trans r4
      cases a3.symm.trans b3; rfl
    have et : t = t' := by
      obtain ⟨D, fd, a1, a2, a3⟩ := hx.2.1
      obtain ⟨D', fd', b1, b2, b3⟩ := hy.2.1
      cases a1.symm.trans b1
      obtain ⟨q1, q2, q3, q4⟩ := a2.1
      obtain ⟨r1, r2, r3, r4⟩ := b2.1
      cases q4.symm.trans r4
      cases a3.symm.trans b3; rfl
    subst ec et
    have ev : V = V' := by cases hx.2.2.2.1.1.symm.trans hy.2.2.2.1.1; rfl
    subst ev
    have hs : SameT n f k g := (Cod.eqv hx.2.2.2.2.1 hy.2.2.2.2.1 hx.2.2.2.2.2 hy.2.2.2.2.2).mp ⟨rfl, fun _ _ => rfl⟩
    exact ⟨s₁, some (.int 1), _, _, _, X0, rfl, rfl, rfl, (fun h => by cases h), ⟨1, rfl, hh0, Or.inl ⟨rfl, hs⟩⟩, fun fs hl => c2.trans (X0.ireturnOut hexec hret rfl (Or.inr (Or.inl rfl)) (hb hbytes d6) hl)⟩
  · have c2 : Steps p.tables e below (s₁.setTop (entryFrame m #[.ref x, .ref y] 3)) (s₁.setTop (mkF m 8 #[.val (.ref x), .val (.ref y), .unset] [.ref y])) := c1.trans (by
      refine acmpYes X0.here hexec rfl (pc0 := 2) rfl (hb hbytes d2) rfl rfl rfl (by simp [acmp, hxy]) (by decide) rfl ?_
      refine XS.aloadN X0.here hexec rfl (hb hbytes d7) rfl rfl ?_
      exact Steps.refl _)
    obtain ⟨T3, X3, q3, st3⟩ := cinst X0 hexec hown (wk W (.classLink "java/lang/String" 10 "java/lang/String")) (hy.mv X0.warmed.alike hh0).1 (g := (mkF m 8 #[.val (.ref x), .val (.ref y), .unset] [.ref y])) rfl (rest := []) rfl (hb hbytes d8)
    have hh3 := q3.trans hh0
    have c4 : Steps p.tables e below (s₁.setTop (entryFrame m #[.ref x, .ref y] 3)) (T3.setTop (mkF m 15 #[.val (.ref x), .val (.ref y), .unset] [.ref y])) := (c2.trans (st3 _ (Steps.refl _))).trans (by
      refine XS.ifNo X3.here hexec rfl (hb hbytes d11) rfl (i0_eq_f (by decide)) ?_
      refine XS.aloadN X3.here hexec rfl (hb hbytes d14) rfl rfl ?_
      exact Steps.refl _)
    obtain ⟨T5, X5, q5, st5⟩ := cself X3 hexec hown (wk W (.classLink "java/lang/String" 10 "java/lang/String")) (hy.mv X3.warmed.alike hh3).1 (g := (mkF m 15 #[.val (.ref x), .val (.ref y), .unset] [.ref y])) rfl (rest := []) rfl (hb hbytes d15)
    have hh5 := q5.trans hh3
    have c6 : Steps p.tables e below (s₁.setTop (entryFrame m #[.ref x, .ref y] 3)) (T5.setTop (mkF m 19 #[.val (.ref x), .val (.ref y), .val (.ref y)] [])) := (c4.trans (st5 _ (Steps.refl _))).trans (by
      refine XS.astoreN X5.here hexec rfl (hb hbytes d18) rfl rfl rfl ?_
      exact Steps.refl _)
    obtain ⟨T7, X7, q7, st7⟩ := X5.sget hexec hown (wk W (.fieldLink "java/lang/String" 38 "java/lang/String" "COMPACT_STRINGS" "Z")) s1 (fun _ _ h => by rw [hh5]; exact h) (g := (mkF m 19 #[.val (.ref x), .val (.ref y), .val (.ref y)] [])) rfl (hb hbytes d19)
    have hh7 := q7.trans hh5
    have c8 : Steps p.tables e below (s₁.setTop (entryFrame m #[.ref x, .ref y] 3)) (T7.setTop (mkF m 26 #[.val (.ref x), .val (.ref y), .val (.ref y)] [.ref x])) := (c6.trans (st7 _ (Steps.refl _))).trans (by
      refine XS.ifNo X7.here hexec rfl (hb hbytes d22) rfl (i0_eq_f hz) ?_
      refine XS.aloadN X7.here hexec rfl (hb hbytes d25) rfl rfl ?_
      exact Steps.refl _)
    obtain ⟨T9, X9, q9, st9⟩ := X7.hget hexec hown (wk W (.fieldLink "java/lang/String" 15 "java/lang/String" "coder" "B")) (hx.mv X7.warmed.alike hh7).2.2.1 (g := (mkF m 26 #[.val (.ref x), .val (.ref y), .val (.ref y)] [.ref x])) rfl (rest := []) rfl (hb hbytes d26)
    have hh9 := q9.trans hh7
    have c10 : Steps p.tables e below (s₁.setTop (entryFrame m #[.ref x, .ref y] 3)) (T9.setTop (mkF m 30 #[.val (.ref x), .val (.ref y), .val (.ref y)] [.ref y, .int cd])) := (c8.trans (st9 _ (Steps.refl _))).trans (by
      refine XS.aloadN X9.here hexec rfl (hb hbytes d29) rfl rfl ?_
      exact Steps.refl _)
    obtain ⟨T11, X11, q11, st11⟩ := X9.hget hexec hown (wk W (.fieldLink "java/lang/String" 15 "java/lang/String" "coder" "B")) (hy.mv X9.warmed.alike hh9).2.2.1 (g := (mkF m 30 #[.val (.ref x), .val (.ref y), .val (.ref y)] [.ref y, .int cd])) rfl (rest := [.int cd]) rfl (hb hbytes d30)
    have hh11 := q11.trans hh9
    have c12 : Steps p.tables e below (s₁.setTop (entryFrame m #[.ref x, .ref y] 3)) (T11.setTop (mkF m 33 #[.val (.ref x), .val (.ref y), .val (.ref y)] [.int cd', .int cd])) := c10.trans (st11 _ (Steps.refl _))
    by_cases hcd : cd = cd'
    · subst hcd
      have c13 : Steps p.tables e below (s₁.setTop (entryFrame m #[.ref x, .ref y] 3)) (T11.setTop (mkF m 37 #[.val (.ref x), .val (.ref y), .val (.ref y)] [.ref x])) := c12.trans (by
        refine XS.icmpNo X11.here hexec rfl (hb hbytes d33) rfl (ii_ne_f rfl) ?_
        refine XS.aloadN X11.here hexec rfl (hb hbytes d36) rfl rfl ?_
        exact Steps.refl _)
      obtain ⟨T14, X14, q14, st14⟩ := X11.hget hexec hown (wk W (.fieldLink "java/lang/String" 9 "java/lang/String" "value" "[B")) (hx.mv X11.warmed.alike hh11).2.1 (g := (mkF m 37 #[.val (.ref x), .val (.ref y), .val (.ref y)] [.ref x])) rfl (rest := []) rfl (hb hbytes d37)
      have hh14 := q14.trans hh11
      have c15 : Steps p.tables e below (s₁.setTop (entryFrame m #[.ref x, .ref y] 3)) (T14.setTop (mkF m 41 #[.val (.ref x), .val (.ref y), .val (.ref y)] [.ref y, .ref t])) := (c13.trans (st14 _ (Steps.refl _))).trans (by
        refine XS.aloadN X14.here hexec rfl (hb hbytes d40) rfl rfl ?_
        exact Steps.refl _)
      obtain ⟨T16, X16, q16, st16⟩ := X14.hget hexec hown (wk W (.fieldLink "java/lang/String" 9 "java/lang/String" "value" "[B")) (hy.mv X14.warmed.alike hh14).2.1 (g := (mkF m 41 #[.val (.ref x), .val (.ref y), .val (.ref y)] [.ref y, .ref t])) rfl (rest := [.ref t]) rfl (hb hbytes d41)
      have hh16 := q16.trans hh14
      have c17 : Steps p.tables e below (s₁.setTop (entryFrame m #[.ref x, .ref y] 3)) (T16.setTop (mkF m 44 #[.val (.ref x), .val (.ref y), .val (.ref y)] [.ref t', .ref t])) := c15.trans (st16 _ (Steps.refl _))
      obtain ⟨v18, T18, X18, E18, g18⟩ := X16.callS hexec (LEq.law l t V t' V') hown (wks W (staticW "java/lang/String" 541 LEq.yN)) (wk W LEq.tab) (W := 0) (Nat.le_of_ble_eq_true rfl) (Nat.le_of_ble_eq_true rfl) (Nat.le_refl _) (Nat.le_refl _) (g := (mkF m 44 #[.val (.ref x), .val (.ref y), .val (.ref y)] [.ref t', .ref t])) rfl (by rw [hml]; rfl) c17 (argsL := [.ref t, .ref t']) (rest := []) rfl rfl (by show 2 * 0 + 0 ≤ _; decide) (hb hbytes d44) (⟨rfl, hx.2.2.2.1.mv X16.warmed.alike hh16, hx.2.2.2.2.1.ty, hy.2.2.2.1.mv X16.warmed.alike hh16, hy.2.2.2.2.1.ty⟩)
      obtain ⟨v, rfl, q18, hv⟩ := E18
      have iff := Cod.eqv hx.2.2.2.2.1 hy.2.2.2.2.1 hx.2.2.2.2.2 hy.2.2.2.2.2
      rcases hv with ⟨rfl, he⟩ | ⟨rfl, he⟩
      · have c19 : Steps p.tables e below (s₁.setTop (entryFrame m #[.ref x, .ref y] 3)) (T18.setTop (mkF m 55 #[.val (.ref x), .val (.ref y), .val (.ref y)] [.int 1])) := Steps.trans g18 (by
          refine XS.ifNo X18.here hexec rfl (hb hbytes d47) rfl (i0_eq_f (by decide)) ?_
          refine iconstV X18.here hexec rfl 1 (hb hbytes d50) (by decide) ?_
          refine XS.goto X18.here hexec rfl (pc0 := 51) rfl (hb hbytes d51) (by decide) rfl ?_
          exact Steps.refl _)
        exact ⟨T18, some (.int 1), _, _, _, X18, rfl, rfl, rfl, (fun h => by cases h), ⟨1, rfl, q18.trans hh16, Or.inl ⟨rfl, iff.mp he⟩⟩, fun fs hl => c19.trans (X18.ireturnOut hexec hret rfl (Or.inr (Or.inl rfl)) (hb hbytes d55) hl)⟩
      · have c19 : Steps p.tables e below (s₁.setTop (entryFrame m #[.ref x, .ref y] 3)) (T18.setTop (mkF m 55 #[.val (.ref x), .val (.ref y), .val (.ref y)] [.int 0])) := Steps.trans g18 (by
          refine XS.ifYes X18.here hexec rfl (pc0 := 47) rfl (hb hbytes d47) rfl (i0_eq_t rfl) (by decide) rfl ?_
          refine iconstV X18.here hexec rfl 0 (hb hbytes d54) (by decide) ?_
          exact Steps.refl _)
        exact ⟨T18, some (.int 0), _, _, _, X18, rfl, rfl, rfl, (fun h => by cases h), ⟨0, rfl, q18.trans hh16, Or.inr ⟨rfl, fun q => he (iff.mpr q)⟩⟩, fun fs hl => c19.trans (X18.ireturnOut hexec hret rfl (Or.inr (Or.inl rfl)) (hb hbytes d55) hl)⟩
    · have c13 : Steps p.tables e below (s₁.setTop (entryFrame m #[.ref x, .ref y] 3)) (T11.setTop (mkF m 55 #[.val (.ref x), .val (.ref y), .val (.ref y)] [.int 0])) := c12.trans (by
        refine XS.icmpYes X11.here hexec rfl (pc0 := 33) rfl (hb hbytes d33) rfl (ii_ne_t hcd) (by decide) rfl ?_
        refine iconstV X11.here hexec rfl 0 (hb hbytes d54) (by decide) ?_
        exact Steps.refl _)
      exact ⟨T11, some (.int 0), _, _, _, X11, rfl, rfl, rfl, (fun h => by cases h), ⟨0, rfl, hh11, Or.inr ⟨rfl, Cod.dif hx.2.2.2.2.1 hy.2.2.2.2.1 hcd⟩⟩, fun fs hl => c13.trans (X11.ireturnOut hexec hret rfl (Or.inr (Or.inl rfl)) (hb hbytes d55) hl)⟩
theorem pays {l : Launch} {R : Room} {p : Program} {e : Env} {below : List Frame} {s : State} {sargs : Array Value} {len W : Nat} (x t : Addr) (V : Cell) (cd : Int32) (n : Nat) (f : Nat → Int32) (y t' : Addr) (V' : Cell) (cd' : Int32) (k : Nat) (g : Nat → Int32) (z : Int32) (htab : tab.before sargs s = true) (hfr : 2 ≤ R.frames) (hlo : W + 28 ≤ R.locals) :
    Back l R p e below s sargs yN len W (fun A₁ a₁ => A₁.cells + 0 ≤ R.cells ∧ A₁.slots + 0 ≤ R.slots ∧ P x t V cd n f y t' V' cd' k g z a₁ A₁.U) (fun A₁ _ v₁ B₁ => Says01 (SameT n f k g) v₁ A₁.U B₁.U ∧ B₁.locs = A₁.locs ++ [] ∧ B₁.cells = A₁.cells + 0 ∧ B₁.slots = A₁.slots + 0) :=
  (law l x t V cd n f y t' V' cd' k g z).pays htab hfr (by omega)
end SEq
end StrChars
namespace StrChars.Road
open Jvm Sem ClassFile Op Lib Jvm.Stand Jvm.Free Jvm.Free.XT
open Jvm.Lib.Cold (StaticIs)
/-- the words of String.equals(Object) -/
abbrev wordsEq : List Jvm.Cond := [.code SEq.yN SEq.yB 3 (some .boolean), .initialized ST, .classLink ST 10 ST, .fieldLink ST 38 ST "COMPACT_STRINGS" "Z", .fieldLink ST 15 ST "coder" "B", .fieldLink ST 9 ST "value" "[B", .methodLink ST 541 LEq.yN, .static LEq.yN, .code LEq.yN LEq.yB 3 (some .boolean), .initialized "java/lang/StringLatin1"]
theorem tabEq_of {a : Array Value} {s : State} (h : ∀ w ∈ wordsEq, w.before a s = true) : SEq.tab.before a s = true := by
  have hl : LEq.tab.before a s = true := unparts (wk h (.code LEq.yN LEq.yB 3 (some .boolean))) (wks h (.initialized LEq.yN.cls :: LEq.site))
  have q := consq hl h
  exact unparts (wk q (.code SEq.yN SEq.yB 3 (some .boolean))) (wks q (.initialized SEq.yN.cls :: SEq.site))
theorem movedEq {Z s : State} {a0 args : Array Value} (hZ : Z.Warmed39 s.vm) (hw : ∀ d ∈ wordsEq, d.before a0 Z = true) : ∀ d ∈ wordsEq, d.before args s = true := fun d hd => by
  have t : ∀ d ∈ wordsEq, (d.onTables && d.keepsFace) = true := by decide +kernel
  exact RoadKit.mv hZ (hw d hd) (t d hd)
/-- the road's facts of a String, as the laws ask it -/
theorem txt_of {Z U : State} {a0 : Array Value} {kI : Nat} (wi : (Jvm.Cond.instantiable ST kI).before a0 Z = true) (al : Z.vm.Alike U.vm) {x t : Addr} {kb : ClassId} {cs : List Int32} {cd N2 : Int32} {vs : List Value} (E : RoadKit.Exa Z U.heap x ST) (V : RoadKit.Fld Z U.heap x ST "value" "[B" (.ref t)) (C : RoadKit.Fld Z U.heap x ST "coder" "B" (.int cd)) (K : RoadKit.Arv Z U.heap t kb .byte N2 vs (.int 0)) (hc : CodA cs cd N2 vs) (hb : ∀ c ∈ cs, ¬ c < 0 ∧ ¬ (65535 : Int32) < c) (l2 : cs.length ≤ 4000) :
    ∃ A, Txt x t A cd cs.length (fun j => cs.getD j 0) U := by
  obtain ⟨A, K1, K2, K3, K4, K5, K6⟩ := K
  have hcod := hc.cod (by omega) K3 K5
  obtain ⟨D, fV, fC, hB, F1, F2, g1, g2, -, -⟩ := strObj wi al E V C
  exact ⟨A, ⟨_, hB.2.2.1, D, hB.1, rfl, by cases q : D.vm <;> first | rfl | exact absurd q (hB.2.1.2 _)⟩, Has.of hB F1 g1, Has.of hB F2 g2, ⟨K1.1, State.isArrayOf_alike al K1.2.1, K1.2.2, by rcases hcod with ⟨-, q, -⟩ | ⟨-, q, -⟩ <;> omega⟩, hcod, fun j hj => by
    have e : cs.getD j 0 = cs[j] := by simp [List.getD_eq_getElem?_getD, hj]
    show ¬ cs.getD j 0 < 0 ∧ ¬ 65535 < cs.getD j 0
    rw [e]; exact hb _ (List.getElem_mem _)⟩
theorem same_list (cs ds : List Int32) : SameT cs.length (fun j => cs.getD j 0) ds.length (fun j => ds.getD j 0) ↔ cs = ds := by
  constructor
  · rintro ⟨e, q⟩
    refine List.ext_getElem e fun j h1 h2 => ?_
    have := q j h1
    simpa [List.getD_eq_getElem?_getD, h1, h2] using this
  · rintro rfl
    exact ⟨rfl, fun _ _ => rfl⟩
/-- **equals(Object) OF TWO SUCH STRINGS**: 1 just where the chars are the same -/
theorem eqW {p : Program} {l : Launch} {e : Env} {R : Room} {s : State} {args : Array Value} {below : List Frame} {len W : Nat} {Z : State} {a0 : Array Value} {h : Heap} (hZ : Z.Warmed39 s.vm) (hw : ∀ d ∈ wordsEq, d.before a0 Z = true) {kI : Nat} (wi : (Jvm.Cond.instantiable ST kI).before a0 Z = true)
    {x t : Addr} {kb : ClassId} {cs : List Int32} {cd N2 : Int32} {vs : List Value} (E : RoadKit.Exa Z h x ST) (V : RoadKit.Fld Z h x ST "value" "[B" (.ref t)) (C : RoadKit.Fld Z h x ST "coder" "B" (.int cd)) (K : RoadKit.Arv Z h t kb .byte N2 vs (.int 0)) (hc : CodA cs cd N2 vs) (hb : ∀ c ∈ cs, ¬ c < 0 ∧ ¬ (65535 : Int32) < c) (l2 : cs.length ≤ 4000)
    {y t' : Addr} {kb' : ClassId} {ds : List Int32} {cd' N2' : Int32} {vs' : List Value} (E' : RoadKit.Exa Z h y ST) (V' : RoadKit.Fld Z h y ST "value" "[B" (.ref t')) (C' : RoadKit.Fld Z h y ST "coder" "B" (.int cd')) (K' : RoadKit.Arv Z h t' kb' .byte N2' vs' (.int 0)) (hc' : CodA ds cd' N2' vs') (hb' : ∀ c ∈ ds, ¬ c < 0 ∧ ¬ (65535 : Int32) < c) (l2' : ds.length ≤ 4000)
    {z : Int32} (S : RoadKit.Sta Z h ST "COMPACT_STRINGS" "Z" (.int z)) (hz : ¬ z = 0) (hfr : 2 ≤ R.frames) (hlo : W + 28 ≤ R.locals) :
    Back l R p e below s args (⟨"java/lang/String", "equals", "(Ljava/lang/Object;)Z"⟩ : MethodName) len W (fun P a => a = #[.ref x, .ref y] ∧ P.U.heap = h ∧ P.cells + 0 ≤ R.cells ∧ P.slots + 0 ≤ R.slots)
      (fun P _ v B => ∃ L, (((v = some (.int 1) ∧ cs = ds) ∨ (v = some (.int 0) ∧ ¬ cs = ds)) ∧ L = [] ∧ B.U.heap = h) ∧ B.locs = P.locs ++ L ∧ B.cells = P.cells + 0 ∧ B.slots = P.slots + 0) := by
  intro m meth c P g ig mk a X hg hsize hdg hW hn hp'
  obtain ⟨rfl, rfl, r1, r2⟩ := hp'
  have al : Z.vm.Alike P.U.vm := hZ.alike.trans X.warmed.alike
  obtain ⟨A, hx⟩ := txt_of wi al E V C K hc hb l2
  obtain ⟨A', hy⟩ := txt_of wi al E' V' C' K' hc' hb' l2'
  obtain ⟨v, B, X', ⟨⟨w, hv, hh, hq⟩, hl, hk, hs⟩, st⟩ := SEq.pays x t A cd cs.length (fun j => cs.getD j 0) y t' A' cd' ds.length (fun j => ds.getD j 0) z (tabEq_of (movedEq hZ hw)) hfr hlo m meth c P g ig mk _ X hg hsize hdg hW hn ⟨r1, r2, rfl, hx, hy, sta_is al S, hz⟩
  refine ⟨v, B, X', ⟨[], ⟨?_, rfl, hh⟩, hl, hk, hs⟩, st⟩
  rcases hq with ⟨rfl, q⟩ | ⟨rfl, q⟩
  · exact Or.inl ⟨hv, (same_list cs ds).mp q⟩
  · exact Or.inr ⟨hv, fun e => q ((same_list cs ds).mpr e)⟩
end StrChars.Road
namespace StrChars.Road
open Jvm Sem ClassFile Op Lib Jvm.Stand Jvm.Free Jvm.Free.XT
open Jvm.Lib.Cold (StaticIs)
/-- what backV says of its String, as the contracts of this text ask it: cs's low bytes, coder 0 -/
theorem codOf {cs : List Int32} {n : Nat} (hn : cs.length = n) (hb : ∀ c ∈ cs, ¬ 255 < c) : CodA cs 0 (Int32.ofNat n) ((cs.map lo8).map Value.int) := Or.inl ⟨rfl, by rw [hn], by simp [List.map_map, Function.comp_def], hb⟩
end StrChars.Road
end Jvm.Pilot.@@N@@

namespace Jvm.OwnW
open Jvm Jvm.ClassFile Sem Op Lib Jvm.Free Jvm.Stand Jvm.LawKit Jvm.RoadKit Bundle
/-! OwnW: a walk told forwards. Wk: where the walk stands (tables that may have interned, fresh places alone written, the held constants kept). Fi: from here the body comes to its end as its contract says. One law a step: what is left to show is Fi of the next state. -/
def Wk (p : Program) (l : Launch) (e : Env) (R : Room) (s : State) (m : MethodId) (args : Array Value) (below : List Frame) (meth : Method) (c : Code) (Z : State) (a0 : Array Value) (EL : List (String × Nat)) (own : String) (n0 : Nat) (T : State) (h : Heap) (cells slots : Nat) : Prop :=
  ∃ (vm0 : Vm) (k0 : Nat) (locs : List Loc), Stand p l e R (s.setVm vm0) m args below meth c T locs cells slots ∧ T.heap = h ∧ s.Since vm0 k0 ∧ k0 ≤ h.size ∧ Z.Warmed39 vm0 ∧ vm0.findClass own = some m.cls ∧ Fr n0 locs ∧ CHr Z EL s.vm s.heap vm0 h ∧ EW Z a0 EL
def Fi (p : Program) (e : Env) (below : List Frame) (s : State) (Z : State) (EL : List (String × Nat)) (n0 : Nat) (Q : Option Value → Heap → Prop) (kc ks : Nat) (st : State) : Prop :=
  ∃ s₂ o, Steps p.tables e below st s₂ ∧ s₂.status = .running ∧ Ended s₂ below o ∧ ∃ v L, o = .returned v ∧ (Fr n0 L ∧ Q v s₂.heap) ∧ CHr Z EL s.vm s.heap s₂.vm s₂.heap ∧ ReturnedEndW s o s₂ L kc ks
/-- a body's contract: called with as' over the heap h0 -/
def Con (l : Launch) (Z : State) (EL : List (String × Nat)) (y : MethodName) (bytes : ByteArray) (maxL : Nat) (ret : Option FieldType) (ws : List Jvm.Cond) (rm : Room) (as' : Array Value) (h0 : Heap) (n0 : Nat) (Q : Option Value → Heap → Prop) : Prop :=
  MetFree l y (head1 (Jvm.Cond.code y bytes maxL ret :: ws) rm) (fun a U => a = as' ∧ Z.Warmed39 U.vm ∧ U.heap = h0 ∧ CHv Z EL U.vm h0) (fun _ _ _ _ _ => True)
    (fun _ U o U' => ∃ v L, o = .returned v ∧ (Fr n0 L ∧ Q v U'.heap) ∧ CHr Z EL U.vm U.heap U'.vm U'.heap ∧ ReturnedEndW U o U' L rm.cells rm.slots)
/-- a call that is paid for: by a contract, or by a law of the library -/
def Pay (l : Launch) (R : Room) (p : Program) (e : Env) (below : List Frame) (s : State) (args : Array Value) (Z : State) (EL : List (String × Nat)) (n0 : Nat) (y : MethodName) (Wd : Nat) (as' : Array Value) (h : Heap) (Q : Option Value → Heap → Prop) (k n : Nat) : Prop :=
  ∀ vm0 : Vm, Z.Warmed39 vm0 → CHv Z EL vm0 h →
    BackS l R p e below (s.setVm vm0) args y 3 Wd (fun A a => a = as' ∧ A.U.heap = h ∧ A.cells + k ≤ R.cells ∧ A.slots + n ≤ R.slots)
      (fun A _ v B => ∃ L, (Fr n0 L ∧ Q v B.U.heap) ∧ B.locs = A.locs ++ L ∧ B.cells = A.cells + k ∧ B.slots = A.slots + n ∧ CHr Z EL vm0 h B.U.vm B.U.heap)
section Base
variable {p : Program} {l : Launch} {e : Env} {R : Room} {s : State} {m : MethodId} {args : Array Value} {below : List Frame} {meth : Method} {c : Code} {Z : State} {a0 : Array Value} {EL : List (String × Nat)} {own : String} {n0 : Nat} {T : State} {h h' h1 h2 : Heap} {cells slots : Nat} {Q : Option Value → Heap → Prop} {kc ks : Nat}
theorem Fi.via {st st' : State} (f : Fi p e below s Z EL n0 Q kc ks st') (k : ∀ t, Steps p.tables e below st' t → Steps p.tables e below st t) : Fi p e below s Z EL n0 Q kc ks st := by
  obtain ⟨s₂, o, h1, r⟩ := f
  exact ⟨s₂, o, k _ h1, r⟩
theorem Fi.by' {st st' : State} (k : ∀ t, Steps p.tables e below st' t → Steps p.tables e below st t) (f : Fi p e below s Z EL n0 Q kc ks st') : Fi p e below s Z EL n0 Q kc ks st := f.via k
theorem Fi.cast {g g' : JFrame} (q : g = g') (f : Fi p e below s Z EL n0 Q kc ks (T.setTop g')) : Fi p e below s Z EL n0 Q kc ks (T.setTop g) := q ▸ f
theorem Wk.here (W : Wk p l e R s m args below meth c Z a0 EL own n0 T h cells slots) : At T m c below := by
  obtain ⟨_, _, _, X, -⟩ := W
  exact X.here
theorem Wk.mono (W : Wk p l e R s m args below meth c Z a0 EL own n0 T h cells slots) {k n : Nat} (h1 : cells ≤ k) (h2 : slots ≤ n) : Wk p l e R s m args below meth c Z a0 EL own n0 T h k n := by
  obtain ⟨vm0, k0, locs, X, r⟩ := W
  exact ⟨vm0, k0, locs, X.mono h1 h2, r⟩
theorem Con.intro {y : MethodName} {bytes : ByteArray} {maxL : Nat} {ret : Option FieldType} {ws : List Jvm.Cond} {rm : Room} {as' : Array Value} {h0 : Heap} (ho : y.cls = own) (hpl : plainFor y = true) (hEL : EW Z a0 EL)
    (body : ∀ (p : Program) (e : Env) (s : State) (m : MethodId) (below : List Frame) (meth : Method) (c : Code) (s₁ : State), p.tables.exec = Jvm.exec → c.code = bytes → c.maxLocals = maxL → meth.sig.returnType = ret → meth.locks = false → meth.name = y.name →
      Wk p l e rm s m as' below meth c Z a0 EL own n0 s₁ h0 0 0 → Fi p e below s Z EL n0 Q rm.cells rm.slots (s₁.setTop (entryFrame m as' maxL))) :
    Con l Z EL y bytes maxL ret ws rm as' h0 n0 Q := by
  refine MetFree.of_bodySF hpl hisR ?_
  intro p e s m args below meth c s₁ Bd hml0 hP hK
  obtain ⟨ha, hZ, hh, hC⟩ := hP
  subst ha
  have X0 : Stand p l e rm s m args below meth c s₁ [] 0 0 := Stand.of_body Bd
  have e0 : s₁.heap = h0 := by rw [← hh, Bd.state]; rfl
  have hown : s.vm.findClass own = some m.cls := by rw [← ho]; exact findClass_of_methodNamed Bd.named
  exact body p e s m below meth c s₁ Bd.exec Bd.bytes hml0 Bd.returns Bd.notSynchronized (name_of_methodNamed Bd.named Bd.method).1
    ⟨s.vm, 0, [], X0, e0, (State.WarmedH.refl s).since 0, Nat.zero_le _, hZ, hown, Fr.nil n0, by rw [hh]; exact CHr.refl hC, hEL⟩
theorem Wk.leave (W : Wk p l e R s m args below meth c Z a0 EL own n0 T h cells slots) (hlk : meth.locks = false) {v : Option Value} (hv : meth.sig.returnType = none → v = none) (hq : Q v h) (h1 : cells ≤ kc) (h2 : slots ≤ ks) {g : JFrame}
    (st : ∀ (vm0 : Vm) (locs : List Loc) (_ : Stand p l e R (s.setVm vm0) m args below meth c T locs cells slots) (fs : List Frame), (∀ (f : JFrame) (acts : List Action), f.method = m → f.locked = none → f.entered = [] → (doReturn e (T.setTop f) acts v).1 = T.setFrames fs) → Steps p.tables e below (T.setTop g) (T.setFrames fs)) :
    Fi p e below s Z EL n0 Q kc ks (T.setTop g) := by
  obtain ⟨vm0, k0, locs, X, eT, hS, hk, hZ, ho, N, C, hE⟩ := W
  obtain ⟨fs, hr, hrun, hended, hEnd⟩ := X.leaveW hS (by rw [eT]; exact hk) hv hlk
  have D := C.trans (CHv.at X hZ hE C.1)
  refine ⟨T.setFrames fs, _, st vm0 locs X fs hr, hrun, hended, v, locs, rfl, ⟨N, ?_⟩, ?_, ⟨hEnd.1, hEnd.2.1, hEnd.2.2.1, hEnd.2.2.2.mono h1 h2⟩⟩
  · show Q v T.heap
    rw [eT]; exact hq
  · show CHr Z EL s.vm s.heap T.vm T.heap
    rw [eT]; exact D
theorem Wk.aret (W : Wk p l e R s m args below meth c Z a0 EL own n0 T h cells slots) (hx : p.tables.exec = Jvm.exec) (hlk : meth.locks = false) {t : FieldType} (hret : meth.sig.returnType = some t) (ht : t.isReference = true) {pc : Nat} {Ls : Array Slot} {w : Value} (hw : w.isRef = true)
    (hd : decode c.code pc = .ok (.areturn, 1)) (hq : Q (some w) h) (h1 : cells ≤ kc) (h2 : slots ≤ ks) : Fi p e below s Z EL n0 Q kc ks (T.setTop (mkF m pc Ls [w])) :=
  W.leave hlk (fun q => by rw [hret] at q; cases q) hq h1 h2 fun vm0 locs X fs hl => X.areturnOut hx hw hret ht hd hl
theorem Wk.iret (W : Wk p l e R s m args below meth c Z a0 EL own n0 T h cells slots) (hx : p.tables.exec = Jvm.exec) (hlk : meth.locks = false) {t : FieldType} (hret : meth.sig.returnType = some t) (hti : t = .int ∨ t = .boolean ∨ t = .byte ∨ t = .char ∨ t = .short) {pc : Nat} {Ls : Array Slot} {w : Int32} (hn : narrow t (.int w) = .int w)
    (hd : decode c.code pc = .ok (.ireturn, 1)) (hq : Q (some (.int w)) h) (h1 : cells ≤ kc) (h2 : slots ≤ ks) : Fi p e below s Z EL n0 Q kc ks (T.setTop (mkF m pc Ls [.int w])) :=
  W.leave hlk (fun q => by rw [hret] at q; cases q) hq h1 h2 fun vm0 locs X fs hl => X.ireturnOut hx hret hn hti hd hl
theorem Wk.vret (W : Wk p l e R s m args below meth c Z a0 EL own n0 T h cells slots) (hx : p.tables.exec = Jvm.exec) (hlk : meth.locks = false) (hret : meth.sig.returnType = none) {pc : Nat} {Ls : Array Slot}
    (hd : decode c.code pc = .ok (.return_, 1)) (hq : Q none h) (h1 : cells ≤ kc) (h2 : slots ≤ ks) : Fi p e below s Z EL n0 Q kc ks (T.setTop (mkF m pc Ls [])) :=
  W.leave hlk (fun _ => rfl) hq h1 h2 fun vm0 locs X fs hl => X.returnOut hx hret hd hl
theorem Wk.new (W : Wk p l e R s m args below meth c Z a0 EL own n0 T h cells slots) (hx : p.tables.exec = Jvm.exec) {C : String} {index n : Nat} (w : (Jvm.Cond.classLink own index C).before a0 Z = true) (wi : (Jvm.Cond.instantiable C n).before a0 Z = true) (wz : (Jvm.Cond.initialized C).before a0 Z = true)
    {g : JFrame} (hg : g.method = m) (hd : decode c.code g.pc = .ok (.new index, 3)) (hc : cells + 1 ≤ R.cells) (hl : slots + n ≤ R.slots)
    (k : ∀ (T' : State) (h' : Heap) (a : Addr), @Eq Nat a h.size → Wk p l e R s m args below meth c Z a0 EL own n0 T' h' (cells + 1) (slots + n) → Ext h h' → Exa Z h' a C → (∀ {O nm d : String} {ty : FieldType}, Laid Z a0 C O nm d → parseFieldDescriptor d = some ty → Fld Z h' a O nm d (defaultValue ty)) →
      Fi p e below s Z EL n0 Q kc ks (T'.setTop { g with pc := g.pc + 3, stack := .ref a :: g.stack })) : Fi p e below s Z EL n0 Q kc ks (T.setTop g) := by
  obtain ⟨vm0, k0, locs, X, eT, hS, hk, hZ, ho, N, CC, hE⟩ := W
  obtain ⟨T', h', X', e', E, A, D, -, st⟩ := newO X hx hZ ho w wi wz eT hg hd hc hl
  exact (k T' h' _ rfl ⟨vm0, k0, locs, X', e', hS, Nat.le_trans hk E.1, hZ, ho, N, CC.trans (CHr.ext E CC.1), hE⟩ E A D).via st
theorem Wk.newP (W : Wk p l e R s m args below meth c Z a0 EL own n0 T h cells slots) (hx : p.tables.exec = Jvm.exec) {aty : ArrayType} (w : (Jvm.Cond.arrayClass (newarray.typeOf aty)).before a0 Z = true)
    {g : JFrame} (hg : g.method = m) (hd : decode c.code g.pc = .ok (.newarray aty, 2)) {n : Int32} {rest : List Value} (hs : g.stack = .int n :: rest) (hn : ¬ n < 0) {cap : Nat} (hcap : n.toNatClampNeg ≤ cap) (hb : cap * 8 ≤ 536870912) (hc : cells + 1 ≤ R.cells) (hl : slots + cap ≤ R.slots)
    (k : ∀ (T' : State) (h' : Heap) (a : Addr) (cA : ClassId), @Eq Nat a h.size → Wk p l e R s m args below meth c Z a0 EL own n0 T' h' (cells + 1) (slots + cap) → Ext h h' → Arv Z h' a cA (newarray.typeOf aty) n [] (defaultValue (newarray.typeOf aty)) →
      Fi p e below s Z EL n0 Q kc ks (T'.setTop { g with pc := g.pc + 2, stack := .ref a :: rest })) : Fi p e below s Z EL n0 Q kc ks (T.setTop g) := by
  obtain ⟨vm0, k0, locs, X, eT, hS, hk, hZ, ho, N, CC, hE⟩ := W
  obtain ⟨T', h', cA, X', e', E, A, st⟩ := Jvm.RoadKit.newP X hx hZ w eT hg hd hs hn hcap hb hc hl
  exact (k T' h' _ cA rfl ⟨vm0, k0, locs, X', e', hS, Nat.le_trans hk E.1, hZ, ho, N, CC.trans (CHr.ext E CC.1), hE⟩ E (Arv.new A hn)).via st
theorem Wk.getF (W : Wk p l e R s m args below meth c Z a0 EL own n0 T h cells slots) (hx : p.tables.exec = Jvm.exec) {O n d : String} {index : Nat} (w : (Jvm.Cond.fieldLink own index O n d).before a0 Z = true) {a : Addr} {v : Value} (F : Fld Z h a O n d v)
    {g : JFrame} (hg : g.method = m) {rest : List Value} (hs : g.stack = .ref a :: rest) (hd : decode c.code g.pc = .ok (.getfield index, 3))
    (k : ∀ T' : State, Wk p l e R s m args below meth c Z a0 EL own n0 T' h cells slots → Fi p e below s Z EL n0 Q kc ks (T'.setTop { g with pc := g.pc + 3, stack := v :: rest })) : Fi p e below s Z EL n0 Q kc ks (T.setTop g) := by
  obtain ⟨vm0, k0, locs, X, eT, hS, hk, hZ, ho, N, CC, hE⟩ := W
  obtain ⟨T', X', e', st⟩ := Jvm.RoadKit.getF X hx hZ ho (host := "") (Or.inl w) Via.refl eT F hg hs hd
  exact (k T' ⟨vm0, k0, locs, X', e', hS, hk, hZ, ho, N, CC, hE⟩).via st
theorem Wk.getS (W : Wk p l e R s m args below meth c Z a0 EL own n0 T h cells slots) (hx : p.tables.exec = Jvm.exec) {O n d : String} {index : Nat} (w : (Jvm.Cond.fieldLink own index O n d).before a0 Z = true) {v : Value} (F : Sta Z h O n d v)
    {g : JFrame} (hg : g.method = m) (hd : decode c.code g.pc = .ok (.getstatic index, 3))
    (k : ∀ T' : State, Wk p l e R s m args below meth c Z a0 EL own n0 T' h cells slots → Fi p e below s Z EL n0 Q kc ks (T'.setTop { g with pc := g.pc + 3, stack := v :: g.stack })) : Fi p e below s Z EL n0 Q kc ks (T.setTop g) := by
  obtain ⟨vm0, k0, locs, X, eT, hS, hk, hZ, ho, N, CC, hE⟩ := W
  obtain ⟨T', X', e', st⟩ := Jvm.RoadKit.getS (host := "") X hx hZ ho w Via.refl eT F hg hd
  exact (k T' ⟨vm0, k0, locs, X', e', hS, hk, hZ, ho, N, CC, hE⟩).via st
theorem Wk.putF (W : Wk p l e R s m args below meth c Z a0 EL own n0 T h cells slots) (hx : p.tables.exec = Jvm.exec) {O n d C : String} {index kk : Nat} {ty : FieldType} (w : (Jvm.Cond.fieldLink own index O n d).before a0 Z = true) {a : Addr} {v old : Value} (F : Fld Z h a O n d old) (E : Exa Z h a C)
    (L : (Jvm.Cond.lays C O n d).before a0 Z = true ∨ ((Jvm.Cond.laysFinal C O n d).before a0 Z = true ∧ own = O ∧ meth.name = "<init>")) (wi : (Jvm.Cond.instantiable C kk).before a0 Z = true) (hty : parseFieldDescriptor d = some ty) (hn : narrow ty v = v) (hf : fits ty v = true)
    {g : JFrame} (hg : g.method = m) {rest : List Value} (hs : g.stack = v :: .ref a :: rest) (hd : decode c.code g.pc = .ok (.putfield index, 3)) (ha : n0 ≤ a) (S : ∀ vm : Vm, Z.Warmed39 vm → CHv Z EL vm h → Safe Z EL vm h a)
    (k : ∀ (T' : State) (h' : Heap), Wk p l e R s m args below meth c Z a0 EL own n0 T' h' cells slots → Wr h h' a (Jvm.RoadKit.slotOf Z O n d) v → Fi p e below s Z EL n0 Q kc ks (T'.setTop { g with pc := g.pc + 3, stack := rest })) : Fi p e below s Z EL n0 Q kc ks (T.setTop g) := by
  obtain ⟨vm0, k0, locs, X, eT, hS, hk, hZ, ho, N, CC, hE⟩ := W
  obtain ⟨T', h', X', e', Wr', st⟩ := Jvm.RoadKit.putF X hx hZ ho (host := "") (Or.inl w) Via.refl eT F E L wi hty hn hf hg hs hd
  exact (k T' h' ⟨vm0, k0, _, X', e', hS, by rw [Wr'.size]; exact hk, hZ, ho, Fr.snoc X' N ha, CC.trans (CHr.wr Wr' (S vm0 hZ CC.1) CC.1), hE⟩ Wr').via st
theorem safe_exa {a : Addr} {C : String} (E : Exa Z h a C) (h1 : C ≠ "java/lang/String") (h2 : C ≠ "[B") : ∀ vm : Vm, Z.Warmed39 vm → CHv Z EL vm h → Safe Z EL vm h a := fun vm hZ _ => Safe.exa hZ.alike E h1 h2
theorem Wk.initO (W : Wk p l e R s m args below meth c Z a0 EL own n0 T h cells slots) (hx : p.tables.exec = Jvm.exec) {idx : Nat} (w1 : (Jvm.Cond.methodLink own idx Lib.objectInit).before a0 Z = true) (w2 : (Jvm.Cond.instanceMethod Lib.objectInit).before a0 Z = true) (w3 : (Jvm.Cond.code Lib.objectInit ⟨#[0xb1]⟩ 1 none).before a0 Z = true)
    {g : JFrame} (hg : g.method = m) (hsize : g.locals.size = c.maxLocals) {a : Addr} {rest : List Value} (hs : g.stack = .ref a :: rest) (hd : decode c.code g.pc = .ok (.invokespecial idx, 3)) (hf : 1 ≤ R.frames) {Wd : Nat} (hW : 2 * g.monitorRoom + (rest.map fun v => v.category).sum ≤ Wd) (hl : Wd + 12 ≤ R.locals)
    (k : ∀ T' : State, Wk p l e R s m args below meth c Z a0 EL own n0 T' h cells slots → Fi p e below s Z EL n0 Q kc ks (T'.setTop { g with pc := g.pc + 3, stack := rest })) : Fi p e below s Z EL n0 Q kc ks (T.setTop g) := by
  obtain ⟨vm0, k0, locs, X, eT, hS, hk, hZ, ho, N, CC, hE⟩ := W
  obtain ⟨T', X', e', st⟩ := Jvm.RoadKit.initO X hx hZ ho w1 w2 w3 eT hg hsize hs hd hf hW hl
  exact (k T' ⟨vm0, k0, locs, X', e', hS, hk, hZ, ho, N, CC, hE⟩).via st
/-! ## calls -/
theorem Pay.of_con {y : MethodName} {bytes : ByteArray} {maxL Wd : Nat} {ret : Option FieldType} {rm : Room} {as' : Array Value} (hM : Con l Z EL y bytes maxL ret [] rm as' h n0 Q) (wc : (Jvm.Cond.code y bytes maxL ret).before a0 Z = true) (wz : (Jvm.Cond.initialized y.cls).before a0 Z = true) (hEL : EW Z a0 EL)
    (hf : rm.frames + 1 ≤ R.frames) (hl : Wd + (maxL + 11) + rm.locals ≤ R.locals) : Pay l R p e below s args Z EL n0 y Wd as' h Q rm.cells rm.slots :=
  fun vm0 hZ hC => backOfSH (Q := fun v h L => Fr n0 L ∧ Q v h) hM hZ wc wz hf hl hEL hC
theorem Pay.of_back {y : MethodName} {Wd k n : Nat} {as' : Array Value} {ws : List Addr} (hEL : EW Z a0 EL)
    (hB : ∀ vm0 : Vm, Z.Warmed39 vm0 → Back l R p e below (s.setVm vm0) args y 3 Wd (fun A a => a = as' ∧ A.U.heap = h ∧ A.cells + k ≤ R.cells ∧ A.slots + n ≤ R.slots) (fun A _ v B => ∃ L, (Fr n0 L ∧ Keep h B.U.heap ws ∧ Q v B.U.heap) ∧ B.locs = A.locs ++ L ∧ B.cells = A.cells + k ∧ B.slots = A.slots + n))
    (S : ∀ vm : Vm, Z.Warmed39 vm → CHv Z EL vm h → ∀ x ∈ ws, Safe Z EL vm h x) : Pay l R p e below s args Z EL n0 y Wd as' h Q k n := by
  intro vm0 hZ hC m meth c A g ig mk a X hg hsize hdg hW hn hp
  obtain ⟨v, B, X', ⟨L, ⟨NL, K, hq⟩, l1, l2, l3⟩, hsteps⟩ := hB vm0 hZ m meth c A g ig mk a X hg hsize hdg hW hn hp
  have C1 := CHr.keep K (S vm0 hZ hC) hC
  exact ⟨v, B, X'.retabled X'.warmed.wide, X'.warmed.since _, by rw [hp.2.1]; exact K.1, ⟨L, ⟨NL, hq⟩, l1, l2, l3, C1.trans (CHv.at X' hZ hEL C1.1)⟩, hsteps⟩
theorem Wk.callS (W : Wk p l e R s m args below meth c Z a0 EL own n0 T h cells slots) (hx : p.tables.exec = Jvm.exec) {index : Nat} {y : MethodName} {bytes : ByteArray} {maxL : Nat} {ret : Option FieldType}
    (w1 : (Jvm.Cond.methodLink own index y).before a0 Z = true) (w2 : (Jvm.Cond.static y).before a0 Z = true) (w3 : (Jvm.Cond.initialized y.cls).before a0 Z = true) (w4 : (Jvm.Cond.code y bytes maxL ret).before a0 Z = true) (hy : y.cls ≠ "java/lang/invoke/MethodHandle" ∧ y.cls ≠ "java/lang/invoke/VarHandle")
    {Wd k n : Nat} {as' : Array Value} {Qy : Option Value → Heap → Prop} (P : Pay l R p e below s args Z EL n0 y Wd as' h Qy k n)
    {g : JFrame} (hg : g.method = m) (hsize : g.locals.size = c.maxLocals) {argsL rest : List Value} (hlen : ∀ sig, parseMethodDescriptor y.desc = some sig → argsL.length = sig.parameters.length) (hstack : g.stack = argsL.reverse ++ rest) (has : argsL.toArray = as') (hW : 2 * g.monitorRoom + (rest.map fun v => v.category).sum ≤ Wd)
    (hd : decode c.code g.pc = .ok (.invokestatic index, 3)) (hc : cells + k ≤ R.cells) (hl : slots + n ≤ R.slots)
    (kk : ∀ (v : Option Value) (T' : State) (h' : Heap), Wk p l e R s m args below meth c Z a0 EL own n0 T' h' (cells + k) (slots + n) → h.size ≤ h'.size → Qy v h' → Fi p e below s Z EL n0 Q kc ks (T'.setTop { g with pc := g.pc + 3, stack := v.toList ++ rest })) : Fi p e below s Z EL n0 Q kc ks (T.setTop g) := by
  obtain ⟨vm0, k0, locs, X, eT, hS, hk, hZ, ho, N, CC, hE⟩ := W
  obtain ⟨v, vm1, ⟨U, L', k', n'⟩, -, X', hS', hgr, ⟨L, ⟨NL, hq⟩, l1, l2, l3, hC⟩, st⟩ := callSS X hx ho (mvT hZ w1) (mvT hZ w2) (mvT hZ w3) (mvT hZ w4) hy (P vm0 hZ CC.1) hg hsize hlen hstack hW hd (fun _ _ => ⟨has, eT, hc, hl⟩)
  dsimp only [Pt.U, Pt.locs, Pt.cells, Pt.slots] at X' hS' hgr hq l1 l2 l3 hC st
  subst l1 l2 l3
  rw [eT] at hgr
  obtain ⟨Y1, Y2, Y3, Y4⟩ := rebS hS hk X' hS' hgr hZ ho
  exact (kk v U U.heap ⟨U.vm, _, _, Y1, rfl, Y2, Nat.le_refl _, Y3, Y4, N.app NL, CC.trans hC, hE⟩ hgr hq).via fun t ht => st.trans ht
theorem Wk.callI (W : Wk p l e R s m args below meth c Z a0 EL own n0 T h cells slots) (hx : p.tables.exec = Jvm.exec) {index : Nat} {y : MethodName} {bytes : ByteArray} {maxL : Nat} (hy1 : y.name = "<init>")
    (w1 : (Jvm.Cond.methodLink own index y).before a0 Z = true) (w2 : (Jvm.Cond.instanceMethod y).before a0 Z = true) (w4 : (Jvm.Cond.code y bytes maxL none).before a0 Z = true) (hy : y.cls ≠ "java/lang/invoke/MethodHandle" ∧ y.cls ≠ "java/lang/invoke/VarHandle")
    {Wd k n : Nat} {as' : Array Value} {Qy : Option Value → Heap → Prop} (P : Pay l R p e below s args Z EL n0 y Wd as' h Qy k n)
    {g : JFrame} (hg : g.method = m) (hsize : g.locals.size = c.maxLocals) {a : Addr} {argsL rest : List Value} (hlen : ∀ sig, parseMethodDescriptor y.desc = some sig → argsL.length = sig.parameters.length) (hstack : g.stack = argsL.reverse ++ .ref a :: rest) (has : (Value.ref a :: argsL).toArray = as') (hW : 2 * g.monitorRoom + (rest.map fun v => v.category).sum ≤ Wd)
    (hd : decode c.code g.pc = .ok (.invokespecial index, 3)) (hc : cells + k ≤ R.cells) (hl : slots + n ≤ R.slots)
    (kk : ∀ (v : Option Value) (T' : State) (h' : Heap), Wk p l e R s m args below meth c Z a0 EL own n0 T' h' (cells + k) (slots + n) → h.size ≤ h'.size → Qy v h' → Fi p e below s Z EL n0 Q kc ks (T'.setTop { g with pc := g.pc + 3, stack := v.toList ++ rest })) : Fi p e below s Z EL n0 Q kc ks (T.setTop g) := by
  obtain ⟨vm0, k0, locs, X, eT, hS, hk, hZ, ho, N, CC, hE⟩ := W
  obtain ⟨v, vm1, ⟨U, L', k', n'⟩, -, X', hS', hgr, ⟨L, ⟨NL, hq⟩, l1, l2, l3, hC⟩, st⟩ := X.specialBackS hx hy1 ho (mvT hZ w1) (mvT hZ w2) (mvT hZ w4) hy (P vm0 hZ CC.1) hg hsize (Steps.refl _) hlen hstack hW hd (fun _ _ => ⟨has, eT, hc, hl⟩)
  dsimp only [Pt.U, Pt.locs, Pt.cells, Pt.slots] at X' hS' hgr hq l1 l2 l3 hC st
  subst l1 l2 l3
  rw [eT] at hgr
  obtain ⟨Y1, Y2, Y3, Y4⟩ := rebS hS hk X' hS' hgr hZ ho
  exact (kk v U U.heap ⟨U.vm, _, _, Y1, rfl, Y2, Nat.le_refl _, Y3, Y4, N.app NL, CC.trans hC, hE⟩ hgr hq).via fun t ht => st.trans ht
theorem Wk.callV (W : Wk p l e R s m args below meth c Z a0 EL own n0 T h cells slots) (hx : p.tables.exec = Jvm.exec) {index : Nat} {y : MethodName} {C : String}
    (w1 : (Jvm.Cond.methodLink own index y).before a0 Z = true) (w2 : (Jvm.Cond.declares y).before a0 Z = true) (w3 : (Jvm.Cond.selects C y y).before a0 Z = true) (w4 : (Jvm.Cond.instanceMethod y).before a0 Z = true) (hy : y.cls ≠ "java/lang/invoke/MethodHandle" ∧ y.cls ≠ "java/lang/invoke/VarHandle")
    {Wd k n : Nat} {as' : Array Value} {Qy : Option Value → Heap → Prop} (P : Pay l R p e below s args Z EL n0 y Wd as' h Qy k n) {a : Addr} (E : Exa Z h a C)
    {g : JFrame} (hg : g.method = m) (hsize : g.locals.size = c.maxLocals) {argsL rest : List Value} (hlen : ∀ sig, parseMethodDescriptor y.desc = some sig → argsL.length = sig.parameters.length) (hstack : g.stack = argsL.reverse ++ .ref a :: rest) (has : (Value.ref a :: argsL).toArray = as') (hW : 2 * g.monitorRoom + (rest.map fun v => v.category).sum ≤ Wd)
    (hd : decode c.code g.pc = .ok (.invokevirtual index, 3)) (hc : cells + k ≤ R.cells) (hl : slots + n ≤ R.slots)
    (kk : ∀ (v : Option Value) (T' : State) (h' : Heap), Wk p l e R s m args below meth c Z a0 EL own n0 T' h' (cells + k) (slots + n) → h.size ≤ h'.size → Qy v h' → Fi p e below s Z EL n0 Q kc ks (T'.setTop { g with pc := g.pc + 3, stack := v.toList ++ rest })) : Fi p e below s Z EL n0 Q kc ks (T.setTop g) := by
  obtain ⟨vm0, k0, locs, X, eT, hS, hk, hZ, ho, N, CC, hE⟩ := W
  have hZ' : Z.Warmed39 (s.setVm vm0).vm := hZ
  obtain ⟨cq, kq, qa, qb, qc⟩ := isOf hZ' eT E
  obtain ⟨v, vm1, ⟨U, L', k', n'⟩, -, X', hS', hgr, ⟨L, ⟨NL, hq⟩, l1, l2, l3, hC⟩, st⟩ := X.virtualBackS hx ho (mvT hZ' w1) (mvT hZ' w2) (notFace_of_selects (args := #[]) (mvT hZ' w3)) (mvT hZ' w3) (mvT hZ' w4) hy (P vm0 hZ CC.1) qa qc hg hsize (Steps.refl _) hlen hstack hW hd (fun _ _ => ⟨has, eT, hc, hl⟩)
  dsimp only [Pt.U, Pt.locs, Pt.cells, Pt.slots] at X' hS' hgr hq l1 l2 l3 hC st
  subst l1 l2 l3
  rw [eT] at hgr
  obtain ⟨Y1, Y2, Y3, Y4⟩ := rebS hS hk X' hS' hgr hZ ho
  exact (kk v U U.heap ⟨U.vm, _, _, Y1, rfl, Y2, Nat.le_refl _, Y3, Y4, N.app NL, CC.trans hC, hE⟩ hgr hq).via fun t ht => st.trans ht
/-! ## heaps that grow -/
theorem ext_refl (h : Heap) : Ext h h := ⟨Nat.le_refl _, fun _ _ q => q⟩
theorem ext_trans (E : Ext h h1) (F : Ext h1 h2) : Ext h h2 := ⟨Nat.le_trans E.1 F.1, fun a c q => F.2 a c (E.2 a c q)⟩
theorem ext_keep (E : Ext h h1) {ws : List Addr} (K : Keep h1 h2 ws) (q : ∀ x ∈ ws, h.size ≤ x) : Ext h h2 := ⟨Nat.le_trans E.1 K.1, fun a c r => K.2.1 a c (E.2 a c r) fun z => absurd (Array.getElem?_eq_some_iff.mp r).1 (Nat.not_lt.mpr (q a z))⟩
theorem ext_keep1 (E : Ext h h1) {x : Addr} (K : Keep h1 h2 [x]) (q : h.size ≤ x) : Ext h h2 := ext_keep E K fun y hy => by cases List.mem_singleton.mp hy; exact q
theorem ext_wr (E : Ext h h1) {a : Addr} {sl : Nat} {v : Value} (W : Wr h1 h2 a sl v) (q : h.size ≤ a) : Ext h h2 := ext_keep1 E (Keep.of_wr W) q
/-! ## Strings of known chars below 256 -/
def low8 (x : Int32) : Int32 := x.toInt8.toInt32
def StrL (Z : State) (h : Heap) (x : Addr) (cs : List Int32) : Prop := ∃ (t : Addr) (kb : ClassId), Exa Z h x "java/lang/String" ∧ Fld Z h x "java/lang/String" "value" "[B" (.ref t) ∧ Fld Z h x "java/lang/String" "coder" "B" (.int 0) ∧ Arv Z h t kb .byte (Int32.ofNat cs.length) ((cs.map low8).map Value.int) (.int 0) ∧
  (∀ c ∈ cs, ¬ c < 0 ∧ ¬ (255 : Int32) < c) ∧ cs.length ≤ 4000
theorem StrL.ext {x : Addr} {cs : List Int32} (F : StrL Z h x cs) (E : Ext h h') : StrL Z h' x cs := by
  obtain ⟨t, kb, a1, a2, a3, a4, r⟩ := F
  exact ⟨t, kb, a1.ext E, a2.ext E, a3.ext E, a4.ext E, r⟩
theorem StrL.exa {x : Addr} {cs : List Int32} (F : StrL Z h x cs) : Exa Z h x "java/lang/String" := by
  obtain ⟨_, _, a1, -⟩ := F
  exact a1
theorem StrL.lt {x : Addr} {cs : List Int32} (F : StrL Z h x cs) : x < h.size := F.exa.lt
/-- a String whose value is still null is no booked one -/
theorem safe_null {x : Addr} (E : Exa Z h x "java/lang/String") (V : Fld Z h x "java/lang/String" "value" "[B" .null) {k : Nat} (wi : (Jvm.Cond.instantiable "java/lang/String" k).before a0 Z = true) : ∀ vm : Vm, Z.Warmed39 vm → CHv Z EL vm h → Safe Z EL vm h x := fun vm hZ _ B => by
  have hal : Z.vm.Alike vm := hZ.alike
  obtain ⟨p, -, u, a, -, q, -, F, hy⟩ := B
  obtain ⟨cS, ⟨⟨s1, s2, s3, ⟨cv, kv, iv, s4, s4'⟩, -, s6, s7, s8, s9, s10, s11, -⟩, hfS, hcS⟩, ⟨kS, k1, k2, k3⟩, hB, hbyt⟩ := F
  rcases hy with rfl | rfl
  · obtain ⟨cell, cf, k', i, f, h1, h2, h3, -, -, -, h7⟩ := V
    obtain ⟨k9, e9, -⟩ := State.fieldFound?_setVm (s := { Z with heap := h }) hal h2
    have e1 := (show (Wst Z vm h).fieldFound? "java/lang/String" "value" "[B" = _ from e9).symm.trans s4
    simp only [Option.some.injEq, Prod.mk.injEq] at e1
    have e2 : h[q.sa]? = some q.sC := s1
    cases h1.symm.trans e2
    rw [e1.2.2.2, s8] at h7
    cases h7
  · obtain ⟨cell, k', e1, e2, e3, -, -⟩ := E
    have e4 : h[q.sd]? = some q.SA := s10
    cases e1.symm.trans e4
    have e5 : vm.findClass "[B" = some q.SA.cls := hB
    rw [hal.findClass] at e5
    obtain ⟨k1', q1, q2⟩ := Vm.findClass_spec e5
    obtain ⟨k2', q3, q4⟩ := Vm.findClass_spec e2
    cases q1.symm.trans q3
    exact absurd (q2.symm.trans q4) (by decide)
/-- the chars of a constant's text -/
def lits (t : String) : List Int32 := t.toList.map fun c => Int32.ofNat c.toNat
theorem StrL.keep {x t : Addr} {cs : List Int32} {C : String} {k : Nat} (F : StrL Z h t cs) (K : Keep h h' [x]) (E : Exa Z h x C) (hC : C ≠ "java/lang/String") (wi : (Jvm.Cond.instantiable C k).before a0 Z = true) : StrL Z h' t cs := by
  obtain ⟨b, kb, a1, a2, a3, a4, r⟩ := F
  have n1 : t ∉ [x] := fun q => Exa.ne a1 E (Ne.symm hC) (List.mem_singleton.mp q)
  have n2 : b ∉ [x] := fun q => Exa.neArv E a4 wi (List.mem_singleton.mp q).symm
  exact ⟨b, kb, a1.keep K, a2.keep K n1, a3.keep K n1, a4.keep K n2, r⟩
theorem Wk.ldc (W : Wk p l e R s m args below meth c Z a0 EL own n0 T h cells slots) (hx : p.tables.exec = Jvm.exec) {text : String} {index : Nat} (w : (Jvm.Cond.stringLink own index text).before a0 Z = true) (wS : ∀ a ∈ Bundle.stringAtoms, a.before a0 Z = true) (hmem : (own, index) ∈ EL) (cs : List Int32)
    (ht' : (∀ c ∈ text.toList, c.toNat < 256) ∧ text.toList.map (fun c => Jvm.Lit.byteI c.toNat.toUInt16) = cs.map low8) (hcs : (∀ c ∈ cs, ¬ c < 0 ∧ ¬ (255 : Int32) < c) ∧ cs.length ≤ 4000)
    {g : JFrame} (hg : g.method = m) (hd : decode c.code g.pc = .ok (.ldc index, 2)) {n : Nat} (hn : 4 * text.toList.length ≤ n) (hbig : n ≤ 536870912) (hc : cells + 2 ≤ R.cells) (hl : slots + (n + 4) ≤ R.slots)
    (k : ∀ (T' : State) (h' : Heap) (a : Addr), Wk p l e R s m args below meth c Z a0 EL own n0 T' h' (cells + 2) (slots + (n + 4)) → Ext h h' → StrL Z h' a cs → Fi p e below s Z EL n0 Q kc ks (T'.setTop { g with pc := g.pc + 2, stack := .ref a :: g.stack })) : Fi p e below s Z EL n0 Q kc ks (T.setTop g) := by
  obtain ⟨vm0, k0, locs, X, eT, hS, hk, hZ, ho, N, CC, hE⟩ := W
  have ht : (∀ c ∈ text.toList, c.toNat < 256) ∧ text.toList.map (fun c => Value.int (Jvm.Lit.byteI c.toNat.toUInt16)) = (cs.map low8).map Value.int := ⟨ht'.1, by rw [← ht'.2, List.map_map]; rfl⟩
  have hz : (Int32.ofNat cs.length).toInt = cs.length := len_toInt (by have := hcs.2; omega)
  obtain ⟨a, T', h', k1, b, kb, X', e', E, hS', hk1, hZ', ho', A1, A2, A3, A4, -, -, hC, -, -, st⟩ := ldcCH X hx hZ ho w wS eT hS hk hE hmem CC.1 ht (z := Int32.ofNat cs.length) (by rw [Int32.lt_iff_toInt_lt, hz, show (0 : Int32).toInt = 0 from rfl]; omega) (by simp only [Int32.toNatClampNeg, hz, List.length_map]; omega) hg hd hn hbig hc hl
  exact (k T' h' a ⟨T'.vm, k1, locs, X', e', hS', hk1, hZ', ho', N, CC.trans hC, hE⟩ E ⟨b, kb, A1, A3, A2, A4, hcs.1, hcs.2⟩).via st
theorem all_nil {P : Int32 → Prop} : ∀ c ∈ ([] : List Int32), P c := fun _ q => (nomatch q)
theorem all_cons {P : Int32 → Prop} {a : Int32} {L : List Int32} (q : P a) (r : ∀ c ∈ L, P c) : ∀ c ∈ a :: L, P c := fun c hc => (List.mem_cons.mp hc).elim (fun e => e ▸ q) (r c)
theorem ch_ok {x : Int32} (q : ¬ x < 0 ∧ ¬ (255 : Int32) < x) : nar .char x = x ∧ fits .char (.int x) = true := by
  obtain ⟨h0, h1⟩ := q
  rw [Int32.lt_iff_toInt_lt] at h0 h1
  have e0 : (0 : Int32).toInt = 0 := rfl
  have e1 : (255 : Int32).toInt = 255 := rfl
  obtain ⟨k, hk⟩ : ∃ k : Nat, x.toInt = k := ⟨x.toInt.toNat, by omega⟩
  have hx : x = Int32.ofNat k := Int32.toInt_inj.mp (by rw [hk, Int32.toInt_ofNat_small (by omega)])
  have t : ∀ k : Fin 256, nar .char (Int32.ofNat k.val) = Int32.ofNat k.val ∧ fits .char (.int (Int32.ofNat k.val)) = true := by decide +kernel
  rw [hx]
  exact t ⟨k, by omega⟩
theorem big_ch {x : Int32} (q : ¬ (255 : Int32) < x) : ¬ (65535 : Int32) < x := by
  rw [Int32.lt_iff_toInt_lt] at q ⊢
  rw [show (255 : Int32).toInt = 255 from rfl] at q
  rw [show (65535 : Int32).toInt = 65535 from rfl]
  omega
theorem bnar {x : Int32} (q : x = 0 ∨ x = 1) : narrow .boolean (.int x) = .int x := by rcases q with rfl | rfl <;> rfl
theorem bfit {x : Int32} (q : x = 0 ∨ x = 1) : fits .boolean (.int x) = true := by rcases q with rfl | rfl <;> rfl
theorem and255 (x : Int32) : ¬ (x &&& 255) < 0 ∧ ¬ (255 : Int32) < (x &&& 255) := by
  have h : (x &&& 255).toBitVec.toNat < 256 := by
    simp only [Int32.toBitVec_and, BitVec.toNat_and]
    exact Nat.lt_succ_of_le Nat.and_le_right
  have e : (x &&& 255).toInt = ((x &&& 255).toBitVec.toNat : Int) := by
    show (x &&& 255).toBitVec.toInt = _
    rw [BitVec.toInt_eq_toNat_cond]
    split <;> omega
  rw [Int32.lt_iff_toInt_lt, Int32.lt_iff_toInt_lt, e, show (0 : Int32).toInt = 0 from rfl, show (255 : Int32).toInt = 255 from rfl]
  omega
theorem rng_nat {x : Int32} : (¬ x < 0 ∧ ¬ (255 : Int32) < x) ↔ x.toBitVec.toNat < 256 := by
  have e : x.toInt = x.toBitVec.toInt := rfl
  rw [Int32.lt_iff_toInt_lt, Int32.lt_iff_toInt_lt, e, show (0 : Int32).toInt = 0 from rfl, show (255 : Int32).toInt = 255 from rfl, BitVec.toInt_eq_toNat_cond]
  have := x.toBitVec.isLt
  split <;> omega
theorem xor255 {x y : Int32} (a : ¬ x < 0 ∧ ¬ (255 : Int32) < x) (b : ¬ y < 0 ∧ ¬ (255 : Int32) < y) : ¬ (x ^^^ y) < 0 ∧ ¬ (255 : Int32) < (x ^^^ y) := by
  rw [rng_nat] at a b ⊢
  rw [Int32.toBitVec_xor, BitVec.toNat_xor]
  exact Nat.xor_lt_two_pow (n := 8) a b
theorem b01 {v : Int32} {P : Prop} (q : (P ∧ v = 0) ∨ (¬ P ∧ v = 1)) : v = 0 ∨ v = 1 := q.elim (fun u => Or.inl u.2) (fun u => Or.inr u.2)
theorem r01 {r : Int32} {P : Prop} (q : (r = 1 ∧ P) ∨ (r = 0 ∧ ¬ P)) : r = 0 ∨ r = 1 := q.elim (fun u => Or.inr u.1) (fun u => Or.inl u.1)
theorem and3 (y : Int32) : y &&& 3 = 0 ∨ y &&& 3 = 1 ∨ y &&& 3 = 2 ∨ y &&& 3 = 3 := by
  have h : (y &&& 3).toBitVec.toNat < 4 := by
    simp only [Int32.toBitVec_and, BitVec.toNat_and]
    exact Nat.lt_succ_of_le Nat.and_le_right
  obtain ⟨k, hk⟩ : ∃ k, k = (y &&& 3).toBitVec.toNat := ⟨_, rfl⟩
  rw [← hk] at h
  have e : y &&& 3 = Int32.ofNat k := by
    apply Int32.toBitVec_inj.mp
    apply BitVec.eq_of_toNat_eq
    rw [← hk]
    show k = (BitVec.ofNat 32 k).toNat
    rw [BitVec.toNat_ofNat, Nat.mod_eq_of_lt (by omega)]
  rw [e]
  have : k = 0 ∨ k = 1 ∨ k = 2 ∨ k = 3 := by omega
  rcases this with rfl | rfl | rfl | rfl <;> decide
theorem rem3 {y z : Int32} (q : z = (y &&& 3) - ((y &&& 3) / 3) * 3) : z = 0 ∨ z = 1 ∨ z = 2 := by
  subst q
  rcases and3 y with e | e | e | e <;> rw [e] <;> decide
theorem Wk.castore (W : Wk p l e R s m args below meth c Z a0 EL own n0 T h cells slots) (hx : p.tables.exec = Jvm.exec) {a : Addr} {k : ClassId} {N : Int32} {cs : List Int32} {d : Value} (A : Arv Z h a k .char N (cs.map Value.int) d) {i : Nat} (hi : i < cs.length) {j x : Int32} (hj : j.toNatClampNeg = i) (hj0 : ¬ j < 0) (hN : N.toNatClampNeg = cs.length) (hc : nar .char x = x ∧ fits .char (.int x) = true)
    {g : JFrame} (hg : g.method = m) {rest : List Value} (hs : g.stack = .int x :: .int j :: .ref a :: rest) (hd : decode c.code g.pc = .ok (.castore, 1)) (ha : n0 ≤ a)
    (kk : ∀ (T' : State) (h' : Heap), Wk p l e R s m args below meth c Z a0 EL own n0 T' h' cells slots → Wr h h' a j.toNatClampNeg (.int x) → Arv Z h' a k .char N ((cs.set i x).map Value.int) d → Fi p e below s Z EL n0 Q kc ks (T'.setTop { g with pc := g.pc + 1, stack := rest })) : Fi p e below s Z EL n0 Q kc ks (T.setTop g) := by
  obtain ⟨vm0, k0, locs, X, eT, hS, hk, hZ, ho, N0, CC, hE⟩ := W
  obtain ⟨cl, A1, A2, A3, A4, A5, A6⟩ := id A
  obtain ⟨T', h', X', e', Wr', st⟩ := stC X hx hZ eT A1 (j := j) (x := x) (by rw [A3, hN, hj]; exact fun q => q.elim hj0 (fun q => absurd hi (Nat.not_lt.mpr q))) hg hs hd
  rw [hc.1] at Wr'
  have V := Arv.set A1 A2 A3 A4 A5 A6 hc.2 Wr' i hj (by simpa using hi)
  refine (kk T' h' ⟨vm0, k0, _, X', e', hS, by rw [Wr'.size]; exact hk, hZ, ho, Fr.snoc X' N0 ha, CC.trans (CHr.wr Wr' (Safe.arr hZ.alike A1 (by decide)) CC.1), hE⟩ Wr' ?_).via st
  rw [List.map_set]; exact V
theorem Wk.alen (W : Wk p l e R s m args below meth c Z a0 EL own n0 T h cells slots) (hx : p.tables.exec = Jvm.exec) {a : Addr} {k : ClassId} {ty : FieldType} {N : Int32} {vs : List Value} {d : Value} (A : Arv Z h a k ty N vs d)
    {g : JFrame} (hg : g.method = m) {rest : List Value} (hs : g.stack = .ref a :: rest) (hd : decode c.code g.pc = .ok (.arraylength, 1)) (f : Fi p e below s Z EL n0 Q kc ks (T.setTop { g with pc := g.pc + 1, stack := .int N :: rest })) : Fi p e below s Z EL n0 Q kc ks (T.setTop g) := by
  obtain ⟨vm0, k0, locs, X, eT, hS, hk, hZ, ho, N0, CC, hE⟩ := W
  obtain ⟨cl, A1, A2, A3, A4, A5, A6⟩ := A
  exact f.via fun t ht => X.arraylength hx (by rw [eT]; exact A1.1) (State.isArrayOf_alike (s := Z) hZ.alike A1.2.1) hg hs hd t (by rw [len_of A3 A4]; exact ht)
theorem set_same {α : Type} {A : Array α} {i : Nat} {v : α} (q : A[i]? = some v) : A.setIfInBounds i v = A := by
  apply Array.ext_getElem?
  intro j
  rw [Array.getElem?_setIfInBounds]
  split
  · next e => subst e; rw [if_pos (Array.getElem?_eq_some_iff.mp q).1]; exact q.symm
  · rfl
/-- a field is written with what it holds already: the heap stays -/
theorem Wk.putSame (W : Wk p l e R s m args below meth c Z a0 EL own n0 T h cells slots) (hx : p.tables.exec = Jvm.exec) {O n d C : String} {index kk : Nat} {ty : FieldType} (w : (Jvm.Cond.fieldLink own index O n d).before a0 Z = true) {a : Addr} {v : Value} (F : Fld Z h a O n d v) (E : Exa Z h a C)
    (L : (Jvm.Cond.lays C O n d).before a0 Z = true ∨ ((Jvm.Cond.laysFinal C O n d).before a0 Z = true ∧ own = O ∧ meth.name = "<init>")) (wi : (Jvm.Cond.instantiable C kk).before a0 Z = true) (hty : parseFieldDescriptor d = some ty) (hn : narrow ty v = v) (hf : fits ty v = true)
    {g : JFrame} (hg : g.method = m) {rest : List Value} (hs : g.stack = v :: .ref a :: rest) (hd : decode c.code g.pc = .ok (.putfield index, 3)) (ha : n0 ≤ a)
    (k : ∀ (T' : State), Wk p l e R s m args below meth c Z a0 EL own n0 T' h cells slots → Fi p e below s Z EL n0 Q kc ks (T'.setTop { g with pc := g.pc + 3, stack := rest })) : Fi p e below s Z EL n0 Q kc ks (T.setTop g) := by
  obtain ⟨vm0, k0, locs, X, eT, hS, hk, hZ, ho, N, CC, hE⟩ := W
  obtain ⟨T', h', X', e', Wr', st⟩ := Jvm.RoadKit.putF X hx hZ ho (host := "") (Or.inl w) Via.refl eT F E L wi hty hn hf hg hs hd
  have eh : h' = h := by
    obtain ⟨cell, w1, w2, w3, rfl⟩ := Wr'
    obtain ⟨cell', cf, k', i, f, h1, h2, -, -, -, -, h7⟩ := F
    cases w1.symm.trans h1
    have es : Jvm.RoadKit.slotOf Z O n d = f.slot := by simp [Jvm.RoadKit.slotOf, h2]
    rw [es]
    have ec : cell.setSlot f.slot v = cell := by
      have hb := (Array.getElem?_eq_some_iff.mp h7)
      obtain ⟨hb1, hb2⟩ := hb
      have : cell.slots.setIfInBounds f.slot v = cell.slots := set_same h7
      simp [Cell.setSlot, this]
    rw [ec]
    exact set_same w1
  subst eh
  exact (k T' ⟨vm0, k0, _, X', e', hS, hk, hZ, ho, Fr.snoc X' N ha, CC, hE⟩).via st
end Base
/-! ## plain steps, the value said as it is wanted -/
section Plain
variable {tb : Tables} [Ours tb] {e : Env} {below : List Frame} {T target : State} {m : MethodId} {c : Code} {g : JFrame}
theorem iconstZ (h : At T m c below) (hx : tb.exec = Jvm.exec) (hg : g.method = m) {i : Int} {z : Int32} (hd : decode c.code g.pc = .ok (.iconst i, 1)) (q : Int32.ofInt i = z) (hr : Steps tb e below (T.setTop { g with pc := g.pc + 1, stack := .int z :: g.stack }) target) : Steps tb e below (T.setTop g) target := by
  subst q; exact XS.iconst h hx hg hd hr
theorem bipushZ (h : At T m c below) (hx : tb.exec = Jvm.exec) (hg : g.method = m) {i : Int} {z : Int32} (hd : decode c.code g.pc = .ok (.bipush i, 2)) (q : (Int8.ofInt i).toInt32 = z) (hr : Steps tb e below (T.setTop { g with pc := g.pc + 2, stack := .int z :: g.stack }) target) : Steps tb e below (T.setTop g) target := by
  subst q; exact XS.bipush h hx hg hd hr
theorem sipushZ (h : At T m c below) (hx : tb.exec = Jvm.exec) (hg : g.method = m) {i : Int} {z : Int32} (hd : decode c.code g.pc = .ok (.sipush i, 3)) (q : (Int16.ofInt i).toInt32 = z) (hr : Steps tb e below (T.setTop { g with pc := g.pc + 3, stack := .int z :: g.stack }) target) : Steps tb e below (T.setTop g) target := by
  subst q; exact XS.sipush h hx hg hd hr
theorem i2cZ (h : At T m c below) (hx : tb.exec = Jvm.exec) (hg : g.method = m) {v z : Int32} {rest : List Value} (hd : decode c.code g.pc = .ok (.i2c, 1)) (hs : g.stack = .int v :: rest) (q : v.toUInt32.toUInt16.toUInt32.toInt32 = z) (hr : Steps tb e below (T.setTop { g with pc := g.pc + 1, stack := .int z :: rest }) target) : Steps tb e below (T.setTop g) target := by
  subst q; exact XS.i2c h hx hg hd hs hr
theorem acmpTEq {a b : Addr} (q : a = b) : if_acmp.holds .eq (some a) (some b) = true := by subst q; simp [if_acmp.holds]
theorem acmpTNe {a b : Addr} (q : a = b) : if_acmp.holds .ne (some a) (some b) = false := by subst q; simp [if_acmp.holds]
theorem acmpFEq {a b : Addr} (q : ¬ a = b) : if_acmp.holds .eq (some a) (some b) = false := by simp [if_acmp.holds, q]
theorem acmpFNe {a b : Addr} (q : ¬ a = b) : if_acmp.holds .ne (some a) (some b) = true := by simp [if_acmp.holds, q]
end Plain
end Jvm.OwnW
namespace Jvm.OwnW
open Jvm Jvm.ClassFile Sem Op Lib Jvm.Free Jvm.Stand Jvm.LawKit Jvm.RoadKit Bundle
section Base2
variable {p : Program} {l : Launch} {e : Env} {R : Room} {s : State} {m : MethodId} {args : Array Value} {below : List Frame} {meth : Method} {c : Code} {Z : State} {a0 : Array Value} {EL : List (String × Nat)} {own : String} {n0 : Nat} {T : State} {h h' h1 h2 : Heap} {cells slots : Nat} {Q : Option Value → Heap → Prop} {kc ks : Nat}
/-- the walk stands here, and nothing that is held lies at x -/
def WkS (p : Program) (l : Launch) (e : Env) (R : Room) (s : State) (m : MethodId) (args : Array Value) (below : List Frame) (meth : Method) (c : Code) (Z : State) (a0 : Array Value) (EL : List (String × Nat)) (own : String) (n0 : Nat) (T : State) (h : Heap) (cells slots : Nat) (x : Addr) : Prop :=
  ∃ (vm0 : Vm) (k0 : Nat) (locs : List Loc), (Stand p l e R (s.setVm vm0) m args below meth c T locs cells slots ∧ T.heap = h ∧ s.Since vm0 k0 ∧ k0 ≤ h.size ∧ Z.Warmed39 vm0 ∧ vm0.findClass own = some m.cls ∧ Fr n0 locs ∧ CHr Z EL s.vm s.heap vm0 h ∧ EW Z a0 EL) ∧ Safe Z EL vm0 h x
theorem WkS.wk {x : Addr} (W : WkS p l e R s m args below meth c Z a0 EL own n0 T h cells slots x) : Wk p l e R s m args below meth c Z a0 EL own n0 T h cells slots := by
  obtain ⟨vm0, k0, locs, r, -⟩ := W
  exact ⟨vm0, k0, locs, r⟩
theorem Wk.newPS (W : Wk p l e R s m args below meth c Z a0 EL own n0 T h cells slots) (hx : p.tables.exec = Jvm.exec) {aty : ArrayType} (w : (Jvm.Cond.arrayClass (newarray.typeOf aty)).before a0 Z = true)
    {g : JFrame} (hg : g.method = m) (hd : decode c.code g.pc = .ok (.newarray aty, 2)) {n : Int32} {rest : List Value} (hs : g.stack = .int n :: rest) (hn : ¬ n < 0) {cap : Nat} (hcap : n.toNatClampNeg ≤ cap) (hb : cap * 8 ≤ 536870912) (hc : cells + 1 ≤ R.cells) (hl : slots + cap ≤ R.slots)
    (k : ∀ (T' : State) (h' : Heap) (a : Addr) (cA : ClassId), @Eq Nat a h.size → WkS p l e R s m args below meth c Z a0 EL own n0 T' h' (cells + 1) (slots + cap) a → Ext h h' → Arv Z h' a cA (newarray.typeOf aty) n [] (defaultValue (newarray.typeOf aty)) →
      Fi p e below s Z EL n0 Q kc ks (T'.setTop { g with pc := g.pc + 2, stack := .ref a :: rest })) : Fi p e below s Z EL n0 Q kc ks (T.setTop g) := by
  obtain ⟨vm0, k0, locs, X, eT, hS, hk, hZ, ho, N, CC, hE⟩ := W
  obtain ⟨T', h', cA, X', e', E, A, st⟩ := Jvm.RoadKit.newP X hx hZ w eT hg hd hs hn hcap hb hc hl
  exact (k T' h' _ cA rfl ⟨vm0, k0, locs, ⟨X', e', hS, Nat.le_trans hk E.1, hZ, ho, N, CC.trans (CHr.ext E CC.1), hE⟩, Safe.ext E CC.1 (Safe.new (Nat.le_refl _))⟩ E (Arv.new A hn)).via st
theorem WkS.bastore {a : Addr} (W : WkS p l e R s m args below meth c Z a0 EL own n0 T h cells slots a) (hx : p.tables.exec = Jvm.exec) {k : ClassId} {N : Int32} {cs : List Int32} {d : Value} (A : Arv Z h a k .byte N (cs.map Value.int) d) {i : Nat} (hi : i < cs.length) {j x : Int32} (hj : j.toNatClampNeg = i) (hj0 : ¬ j < 0) (hN : N.toNatClampNeg = cs.length) (hc : nar .byte x = x ∧ fits .byte (.int x) = true)
    {g : JFrame} (hg : g.method = m) {rest : List Value} (hs : g.stack = .int x :: .int j :: .ref a :: rest) (hd : decode c.code g.pc = .ok (.bastore, 1)) (ha : n0 ≤ a)
    (kk : ∀ (T' : State) (h' : Heap), WkS p l e R s m args below meth c Z a0 EL own n0 T' h' cells slots a → Wr h h' a j.toNatClampNeg (.int x) → Arv Z h' a k .byte N ((cs.set i x).map Value.int) d → Fi p e below s Z EL n0 Q kc ks (T'.setTop { g with pc := g.pc + 1, stack := rest })) : Fi p e below s Z EL n0 Q kc ks (T.setTop g) := by
  obtain ⟨vm0, k0, locs, ⟨X, eT, hS, hk, hZ, ho, N0, CC, hE⟩, SA⟩ := W
  obtain ⟨cl, A1, A2, A3, A4, A5, A6⟩ := id A
  obtain ⟨T', h', X', e', Wr', st⟩ := stB X hx hZ eT A1 (j := j) (x := x) (by rw [A3, hN, hj]; exact fun q => q.elim hj0 (fun q => absurd hi (Nat.not_lt.mpr q))) hg hs hd
  rw [hc.1] at Wr'
  have V := Arv.set A1 A2 A3 A4 A5 A6 hc.2 Wr' i hj (by simpa using hi)
  refine (kk T' h' ⟨vm0, k0, _, ⟨X', e', hS, by rw [Wr'.size]; exact hk, hZ, ho, Fr.snoc X' N0 ha, CC.trans (CHr.wr Wr' SA CC.1), hE⟩, Safe.wr Wr' SA CC.1 SA⟩ Wr' ?_).via st
  rw [List.map_set]; exact V
theorem low_ok (x : Int32) : nar .byte (low8 x) = low8 x ∧ fits .byte (.int (low8 x)) = true := by
  refine ⟨?_, ?_⟩
  · show x.toInt8.toInt32.toInt8.toInt32 = x.toInt8.toInt32
    simp
  · show (decide ((-128 : Int32) ≤ x.toInt8.toInt32) && decide (x.toInt8.toInt32 ≤ 127)) = true
    simp only [Bool.and_eq_true, decide_eq_true_eq, Int32.le_iff_toInt_le, Int8.toInt_toInt32, show (-128 : Int32).toInt = -128 from by decide, show (127 : Int32).toInt = 127 from by decide]
    have h1 := Int8.le_toInt x.toInt8
    have h2 := Int8.toInt_lt x.toInt8
    omega
theorem Wk.ldcI (W : Wk p l e R s m args below meth c Z a0 EL own n0 T h cells slots) (hx : p.tables.exec = Jvm.exec) {index : Nat} {v : Int32} (w : (Jvm.Cond.constant own index v).before a0 Z = true) {g : JFrame} (hg : g.method = m) (hd : decode c.code g.pc = .ok (.ldc index, 2))
    (f : Fi p e below s Z EL n0 Q kc ks (T.setTop { g with pc := g.pc + 2, stack := .int v :: g.stack })) : Fi p e below s Z EL n0 Q kc ks (T.setTop g) := by
  obtain ⟨vm0, k0, locs, X, eT, hS, hk, hZ, ho, N, CC, hE⟩ := W
  have hZ' : Z.Warmed39 (s.setVm vm0).vm := hZ
  exact f.via (X.ldcInt hx ho (mvT hZ' w) hg hd)
/-- invokevirtual of a private method of the object's own class -/
theorem Wk.callP (W : Wk p l e R s m args below meth c Z a0 EL own n0 T h cells slots) (hx : p.tables.exec = Jvm.exec) {index : Nat} {y : MethodName} {bytes : ByteArray} {maxL nI : Nat} {ret : Option FieldType}
    (w1 : (Jvm.Cond.methodLink own index y).before a0 Z = true) (w2 : (Jvm.Cond.instanceMethod y).before a0 Z = true) (w3 : (Jvm.Cond.privateMethod y).before a0 Z = true) (w4 : (Jvm.Cond.code y bytes maxL ret).before a0 Z = true) (w5 : (Jvm.Cond.instantiable y.cls nI).before a0 Z = true) (hy : y.cls ≠ "java/lang/invoke/MethodHandle" ∧ y.cls ≠ "java/lang/invoke/VarHandle")
    {Wd k n : Nat} {as' : Array Value} {Qy : Option Value → Heap → Prop} (P : Pay l R p e below s args Z EL n0 y Wd as' h Qy k n) {a : Addr} {C : String} (E : Exa Z h a C)
    {g : JFrame} (hg : g.method = m) (hsize : g.locals.size = c.maxLocals) {argsL rest : List Value} (hlen : ∀ sig, parseMethodDescriptor y.desc = some sig → argsL.length = sig.parameters.length) (hstack : g.stack = argsL.reverse ++ .ref a :: rest) (has : (Value.ref a :: argsL).toArray = as') (hW : 2 * g.monitorRoom + (rest.map fun v => v.category).sum ≤ Wd)
    (hd : decode c.code g.pc = .ok (.invokevirtual index, 3)) (hc : cells + k ≤ R.cells) (hl : slots + n ≤ R.slots)
    (kk : ∀ (v : Option Value) (T' : State) (h' : Heap), Wk p l e R s m args below meth c Z a0 EL own n0 T' h' (cells + k) (slots + n) → h.size ≤ h'.size → Qy v h' → Fi p e below s Z EL n0 Q kc ks (T'.setTop { g with pc := g.pc + 3, stack := v.toList ++ rest })) : Fi p e below s Z EL n0 Q kc ks (T.setTop g) := by
  obtain ⟨vm0, k0, locs, X, eT, hS, hk, hZ, ho, N, CC, hE⟩ := W
  have hZ' : Z.Warmed39 (s.setVm vm0).vm := hZ
  obtain ⟨cell, hcell, hobj⟩ := E.cell
  obtain ⟨mk, methM, hnamed, hmethM, hstM, habM⟩ := Cond.instanceMethod_spec (mvT (args := args) hZ' w2)
  obtain ⟨methM', cM, hmethM', -, -, -, -, -, -, hsigM⟩ := Cond.code_spec hnamed (mvT (args := args) hZ' w4)
  cases hmethM.symm.trans hmethM'
  obtain ⟨cI, kI, i1, i2, i3, i4, -⟩ := Cond.instantiable_spec (mvT (args := args) hZ' w5)
  have hfc := findClass_of_methodNamed hnamed
  cases hfc.symm.trans i1
  have hni : kI.isInterface = false := by
    cases hq : kI.isInterface with
    | false => rfl
    | true => simp [hq] at i4
  have hselP : selectMethod e.platform (s.setVm vm0).vm cell.cls mk = .method mk := selectMethod_private hmethM (Cond.privateMethod_at (mvP (args := args) hZ' w3) mk methM hnamed hmethM)
  obtain ⟨vm₁, X₁, hstep₁⟩ := X.invokevirtual hx ho (mvT hZ' w1) hnamed hmethM hstM i2 hni hy (a := a) (cell := cell) (by rw [eT]; exact hcell) hobj hselP hmethM habM i2 hni (g := g) hg (argsL := argsL) (rest := rest) (hlen _ hsigM) hstack hd
  have hW₁ : (s.setVm vm0).WarmedH vm₁ := X₁.warmed
  obtain ⟨v, ⟨U, L', k', n'⟩, X', hS', hgr, ⟨L, ⟨NL, hq⟩, l1, l2, l3, hC⟩, hsteps⟩ := P vm0 hZ CC.1 m meth c ⟨T.setVm vm₁, locs, cells, slots⟩ { g with stack := rest } (.invokevirtual index) mk (.ref a :: argsL).toArray X₁ hg hsize hd hW (X₁.named hnamed) ⟨has, eT, hc, hl⟩
  dsimp only [Pt.U, Pt.locs, Pt.cells, Pt.slots] at X' hS' hgr hq l1 l2 l3 hC hsteps
  subst l1 l2 l3
  have hgr : h.size ≤ U.heap.size := by rw [← eT]; exact hgr
  obtain ⟨Y1, Y2, Y3, Y4⟩ := rebS hS hk X' hS' hgr hZ ho
  exact (kk v U U.heap ⟨U.vm, _, _, Y1, rfl, Y2, Nat.le_refl _, Y3, Y4, N.app NL, CC.trans hC, hE⟩ hgr hq).via fun t ht => ((hstep₁ _ fun acts => by rw [doInvoke_state]; exact Steps.refl _).trans hsteps).trans ht
end Base2
end Jvm.OwnW
namespace Jvm.Pilot.@@N@@
open Jvm Jvm.ClassFile Sem Op Lib Jvm.Free Jvm.Stand Jvm.LawKit Jvm.RoadKit Bundle Jvm.OwnW Jvm.Pilot.@@N@@.Jvm.D
theorem ww {a0 : Array Value} {Z : State} (hw : ∀ d ∈ tables_1, d.before a0 Z = true) {i : Nat} {d : Jvm.Cond} (q : tables_1[i]? = some d) : d.before a0 Z = true := hw _ (List.mem_of_getElem? q)
theorem wS {a0 : Array Value} {Z : State} (hw : ∀ d ∈ tables_1, d.before a0 Z = true) : ∀ a ∈ Bundle.stringAtoms, a.before a0 Z = true := fun a ha => hw a ((by decide +kernel : ∀ d ∈ Bundle.stringAtoms, d ∈ tables_1) a ha)
def textAt (i : Nat) : String := match tables_1[i]? with | some (Jvm.Cond.stringLink _ _ t) => t | _ => ""
def EL : List (String × Nat) := [("java/lang/String", 7)]
theorem hEL {a0 : Array Value} {Z : State} (hw : ∀ d ∈ tables_1, d.before a0 Z = true) : EW Z a0 EL := (EW.cons (ww hw (i := 18) rfl) (by decide +kernel) EW.nil)
theorem d_method_2_code_0 : decode method_2_code 0 = .ok (.iload_n 0, 1) := by decide +kernel
theorem d_method_2_code_1 : decode method_2_code 1 = .ok (.ifCond .ne 14, 3) := by decide +kernel
theorem d_method_2_code_4 : decode method_2_code 4 = .ok (.new 7, 3) := by decide +kernel
theorem d_method_2_code_7 : decode method_2_code 7 = .ok (.dup, 1) := by decide +kernel
theorem d_method_2_code_8 : decode method_2_code 8 = .ok (.iconst 0, 1) := by decide +kernel
theorem d_method_2_code_9 : decode method_2_code 9 = .ok (.newarray .char, 2) := by decide +kernel
theorem d_method_2_code_11 : decode method_2_code 11 = .ok (.invokespecial 9, 3) := by decide +kernel
theorem d_method_2_code_14 : decode method_2_code 14 = .ok (.areturn, 1) := by decide +kernel
theorem d_method_2_code_15 : decode method_2_code 15 = .ok (.iload_n 0, 1) := by decide +kernel
theorem d_method_2_code_16 : decode method_2_code 16 = .ok (.iconst 1, 1) := by decide +kernel
theorem d_method_2_code_17 : decode method_2_code 17 = .ok (.if_icmp .ne 20, 3) := by decide +kernel
theorem d_method_2_code_20 : decode method_2_code 20 = .ok (.iconst 1, 1) := by decide +kernel
theorem d_method_2_code_21 : decode method_2_code 21 = .ok (.newarray .char, 2) := by decide +kernel
theorem d_method_2_code_23 : decode method_2_code 23 = .ok (.astore_n 3, 1) := by decide +kernel
theorem d_method_2_code_24 : decode method_2_code 24 = .ok (.aload_n 3, 1) := by decide +kernel
theorem d_method_2_code_25 : decode method_2_code 25 = .ok (.iconst 0, 1) := by decide +kernel
theorem d_method_2_code_26 : decode method_2_code 26 = .ok (.iload_n 1, 1) := by decide +kernel
theorem d_method_2_code_27 : decode method_2_code 27 = .ok (.castore, 1) := by decide +kernel
theorem d_method_2_code_28 : decode method_2_code 28 = .ok (.new 7, 3) := by decide +kernel
theorem d_method_2_code_31 : decode method_2_code 31 = .ok (.dup, 1) := by decide +kernel
theorem d_method_2_code_32 : decode method_2_code 32 = .ok (.aload_n 3, 1) := by decide +kernel
theorem d_method_2_code_33 : decode method_2_code 33 = .ok (.invokespecial 9, 3) := by decide +kernel
theorem d_method_2_code_36 : decode method_2_code 36 = .ok (.areturn, 1) := by decide +kernel
theorem d_method_2_code_37 : decode method_2_code 37 = .ok (.iconst 2, 1) := by decide +kernel
theorem d_method_2_code_38 : decode method_2_code 38 = .ok (.newarray .char, 2) := by decide +kernel
theorem d_method_2_code_40 : decode method_2_code 40 = .ok (.astore_n 3, 1) := by decide +kernel
theorem d_method_2_code_41 : decode method_2_code 41 = .ok (.aload_n 3, 1) := by decide +kernel
theorem d_method_2_code_42 : decode method_2_code 42 = .ok (.iconst 0, 1) := by decide +kernel
theorem d_method_2_code_43 : decode method_2_code 43 = .ok (.iload_n 1, 1) := by decide +kernel
theorem d_method_2_code_44 : decode method_2_code 44 = .ok (.castore, 1) := by decide +kernel
theorem d_method_2_code_45 : decode method_2_code 45 = .ok (.aload_n 3, 1) := by decide +kernel
theorem d_method_2_code_46 : decode method_2_code 46 = .ok (.iconst 1, 1) := by decide +kernel
theorem d_method_2_code_47 : decode method_2_code 47 = .ok (.iload_n 2, 1) := by decide +kernel
theorem d_method_2_code_48 : decode method_2_code 48 = .ok (.castore, 1) := by decide +kernel
theorem d_method_2_code_49 : decode method_2_code 49 = .ok (.new 7, 3) := by decide +kernel
theorem d_method_2_code_52 : decode method_2_code 52 = .ok (.dup, 1) := by decide +kernel
theorem d_method_2_code_53 : decode method_2_code 53 = .ok (.aload_n 3, 1) := by decide +kernel
theorem d_method_2_code_54 : decode method_2_code 54 = .ok (.invokespecial 9, 3) := by decide +kernel
theorem d_method_2_code_57 : decode method_2_code 57 = .ok (.areturn, 1) := by decide +kernel
theorem d_jdk_30_method_1_code_0 : decode jdk_30_method_1_code 0 = .ok (.aload_n 0, 1) := by decide +kernel
theorem d_jdk_30_method_1_code_1 : decode jdk_30_method_1_code 1 = .ok (.invokespecial 1, 3) := by decide +kernel
theorem d_jdk_30_method_1_code_4 : decode jdk_30_method_1_code 4 = .ok (.return_, 1) := by decide +kernel
theorem d_prog_24_method_1_code_0 : decode prog_24_method_1_code 0 = .ok (.aload_n 0, 1) := by decide +kernel
theorem d_prog_24_method_1_code_1 : decode prog_24_method_1_code 1 = .ok (.invokespecial 1, 3) := by decide +kernel
theorem d_prog_24_method_1_code_4 : decode prog_24_method_1_code 4 = .ok (.aload_n 0, 1) := by decide +kernel
theorem d_prog_24_method_1_code_5 : decode prog_24_method_1_code 5 = .ok (.aload_n 1, 1) := by decide +kernel
theorem d_prog_24_method_1_code_6 : decode prog_24_method_1_code 6 = .ok (.putfield 7, 3) := by decide +kernel
theorem d_prog_24_method_1_code_9 : decode prog_24_method_1_code 9 = .ok (.aload_n 0, 1) := by decide +kernel
theorem d_prog_24_method_1_code_10 : decode prog_24_method_1_code 10 = .ok (.iload_n 2, 1) := by decide +kernel
theorem d_prog_24_method_1_code_11 : decode prog_24_method_1_code 11 = .ok (.putfield 13, 3) := by decide +kernel
theorem d_prog_24_method_1_code_14 : decode prog_24_method_1_code 14 = .ok (.return_, 1) := by decide +kernel
theorem d_prog_24_method_3_code_0 : decode prog_24_method_3_code 0 = .ok (.aload_n 0, 1) := by decide +kernel
theorem d_prog_24_method_3_code_1 : decode prog_24_method_3_code 1 = .ok (.getfield 13, 3) := by decide +kernel
theorem d_prog_24_method_3_code_4 : decode prog_24_method_3_code 4 = .ok (.ifCond .ne 28, 3) := by decide +kernel
theorem d_prog_24_method_3_code_7 : decode prog_24_method_3_code 7 = .ok (.aload_n 1, 1) := by decide +kernel
theorem d_prog_24_method_3_code_8 : decode prog_24_method_3_code 8 = .ok (.getfield 13, 3) := by decide +kernel
theorem d_prog_24_method_3_code_11 : decode prog_24_method_3_code 11 = .ok (.ifCond .ne 21, 3) := by decide +kernel
theorem d_prog_24_method_3_code_14 : decode prog_24_method_3_code 14 = .ok (.aload_n 0, 1) := by decide +kernel
theorem d_prog_24_method_3_code_15 : decode prog_24_method_3_code 15 = .ok (.getfield 7, 3) := by decide +kernel
theorem d_prog_24_method_3_code_18 : decode prog_24_method_3_code 18 = .ok (.aload_n 1, 1) := by decide +kernel
theorem d_prog_24_method_3_code_19 : decode prog_24_method_3_code 19 = .ok (.getfield 7, 3) := by decide +kernel
theorem d_prog_24_method_3_code_22 : decode prog_24_method_3_code 22 = .ok (.invokevirtual 69, 3) := by decide +kernel
theorem d_prog_24_method_3_code_25 : decode prog_24_method_3_code 25 = .ok (.ifCond .eq 7, 3) := by decide +kernel
theorem d_prog_24_method_3_code_32 : decode prog_24_method_3_code 32 = .ok (.iconst 0, 1) := by decide +kernel
theorem d_prog_24_method_3_code_33 : decode prog_24_method_3_code 33 = .ok (.ireturn, 1) := by decide +kernel
theorem d_prog_24_method_3_code_28 : decode prog_24_method_3_code 28 = .ok (.iconst 1, 1) := by decide +kernel
theorem d_prog_24_method_3_code_29 : decode prog_24_method_3_code 29 = .ok (.goto 4, 3) := by decide +kernel
theorem d_jdk_42_method_149_code_0 : decode jdk_42_method_149_code 0 = .ok (.aload_n 0, 1) := by decide +kernel
theorem d_jdk_42_method_149_code_1 : decode jdk_42_method_149_code 1 = .ok (.invokespecial 1, 3) := by decide +kernel
theorem d_jdk_42_method_149_code_4 : decode jdk_42_method_149_code 4 = .ok (.iload_n 3, 1) := by decide +kernel
theorem d_jdk_42_method_149_code_5 : decode jdk_42_method_149_code 5 = .ok (.ifCond .ne 22, 3) := by decide +kernel
theorem d_jdk_42_method_149_code_8 : decode jdk_42_method_149_code 8 = .ok (.aload_n 0, 1) := by decide +kernel
theorem d_jdk_42_method_149_code_9 : decode jdk_42_method_149_code 9 = .ok (.ldc 7, 2) := by decide +kernel
theorem d_jdk_42_method_149_code_11 : decode jdk_42_method_149_code 11 = .ok (.getfield 9, 3) := by decide +kernel
theorem d_jdk_42_method_149_code_14 : decode jdk_42_method_149_code 14 = .ok (.putfield 9, 3) := by decide +kernel
theorem d_jdk_42_method_149_code_17 : decode jdk_42_method_149_code 17 = .ok (.aload_n 0, 1) := by decide +kernel
theorem d_jdk_42_method_149_code_18 : decode jdk_42_method_149_code 18 = .ok (.ldc 7, 2) := by decide +kernel
theorem d_jdk_42_method_149_code_20 : decode jdk_42_method_149_code 20 = .ok (.getfield 15, 3) := by decide +kernel
theorem d_jdk_42_method_149_code_23 : decode jdk_42_method_149_code 23 = .ok (.putfield 15, 3) := by decide +kernel
theorem d_jdk_42_method_149_code_26 : decode jdk_42_method_149_code 26 = .ok (.return_, 1) := by decide +kernel
theorem d_jdk_42_method_3_code_0 : decode jdk_42_method_3_code 0 = .ok (.aload_n 0, 1) := by decide +kernel
theorem d_jdk_42_method_3_code_1 : decode jdk_42_method_3_code 1 = .ok (.aload_n 1, 1) := by decide +kernel
theorem d_jdk_42_method_3_code_2 : decode jdk_42_method_3_code 2 = .ok (.iconst 0, 1) := by decide +kernel
theorem d_jdk_42_method_3_code_3 : decode jdk_42_method_3_code 3 = .ok (.aload_n 1, 1) := by decide +kernel
theorem d_jdk_42_method_3_code_4 : decode jdk_42_method_3_code 4 = .ok (.arraylength, 1) := by decide +kernel
theorem d_jdk_42_method_3_code_5 : decode jdk_42_method_3_code 5 = .ok (.aconst_null, 1) := by decide +kernel
theorem d_jdk_42_method_3_code_6 : decode jdk_42_method_3_code 6 = .ok (.invokespecial 27, 3) := by decide +kernel
theorem d_jdk_42_method_3_code_9 : decode jdk_42_method_3_code 9 = .ok (.return_, 1) := by decide +kernel
theorem pd_0 : parseMethodDescriptor "([C)V" = some ⟨[(.array .char)], none⟩ := by decide +kernel
theorem pd_1 : parseMethodDescriptor "()V" = some ⟨[], none⟩ := by decide +kernel
theorem pd_2 : parseMethodDescriptor "(Ljava/lang/Object;)Z" = some ⟨[(.object "java/lang/Object")], some .boolean⟩ := by decide +kernel
theorem pd_3 : parseMethodDescriptor "(ICC)Ljava/lang/String;" = some ⟨[.int, .char, .char], some (.object "java/lang/String")⟩ := by decide +kernel
theorem pd_4 : parseMethodDescriptor "(Ljava/lang/String;Z)V" = some ⟨[(.object "java/lang/String"), .boolean], none⟩ := by decide +kernel
theorem pd_5 : parseMethodDescriptor "(Lcom/example/record_hold/recordhold/text/EntityTag;)Z" = some ⟨[(.object "com/example/record_hold/recordhold/text/EntityTag")], some .boolean⟩ := by decide +kernel
theorem pd_6 : parseMethodDescriptor "([CIILjava/lang/Void;)V" = some ⟨[(.array .char), .int, .int, (.object "java/lang/Void")], none⟩ := by decide +kernel
theorem plain_com_example_record_hold_recordhold_text_EntityTagMatchesStronglyPinLaw : plainName "com/example/record_hold/recordhold/text/EntityTagMatchesStronglyPinLaw" = true := by first | (simp [plainName, overriddenIn]; done) | decide +kernel
theorem plain_java_lang_Record : plainName "java/lang/Record" = true := by first | (simp [plainName, overriddenIn]; done) | decide +kernel
theorem plain_com_example_record_hold_recordhold_text_EntityTag : plainName "com/example/record_hold/recordhold/text/EntityTag" = true := by first | (simp [plainName, overriddenIn]; done) | decide +kernel
theorem plain_java_lang_String : plainName "java/lang/String" = true := by first | (simp [plainName, overriddenIn]; done) | decide +kernel
set_option maxRecDepth 65536 in
set_option maxHeartbeats 40000000 in
theorem rmE4 (l : Launch) (Z : State) (a0 : Array Value) (hw : ∀ d ∈ tables_1, d.before a0 Z = true) (h0 : Heap) (n0 : Nat) (Z0 : n0 ≤ h0.size) (x b : Addr) (g0 : n0 ≤ x) (A0 : Exa Z h0 x "java/lang/String") (V0 : Fld Z h0 x "java/lang/String" "value" "[B" .null) (C0 : Fld Z h0 x "java/lang/String" "coder" "B" (.int (0 : Int32))) : Con l Z EL (⟨"java/lang/String", "<init>", "([CIILjava/lang/Void;)V"⟩ : MethodName) jdk_42_method_149_code 6 none [] ({ frames := 1, cells := 4, slots := 8, locals := 14 } : Room) #[.ref x, .ref b, .int (0 : Int32), .int (0 : Int32), .null] h0 n0 (fun v h => v = none ∧ Keep h0 h [x] ∧ StrL Z h x []) := by
  refine Con.intro (own := "java/lang/String") rfl (plainFor_of_name plain_java_lang_String) (hEL hw) ?_
  intro p e s m below meth c s₁ hx hby hml hret hlk hnm W0
  refine Fi.cast (show entryFrame m #[.ref x, .ref b, .int (0 : Int32), .int (0 : Int32), .null] 6 = mkF m 0 #[.val (.ref x), .val (.ref b), .val (.int (0 : Int32)), .val (.int (0 : Int32)), .val .null, .unset] [] from by first | (simp [entryFrame, mkF, argsToLocals, Value.category]; done) | rfl) ?_
  refine Fi.by' (st' := (s₁.setTop (mkF m 1 #[.val (.ref x), .val (.ref b), .val (.int (0 : Int32)), .val (.int (0 : Int32)), .val .null, .unset] [.ref x]))) (fun t k => XS.aloadN W0.here hx rfl (hb hby d_jdk_42_method_149_code_0) rfl rfl k) ?_
  refine W0.initO hx (ww hw (i := 15) rfl) (ww hw (i := 16) rfl) (ww hw (i := 17) rfl) (g := (mkF m 1 #[.val (.ref x), .val (.ref b), .val (.int (0 : Int32)), .val (.int (0 : Int32)), .val .null, .unset] [.ref x])) rfl (by rw [hml]; rfl) rfl (hb hby d_jdk_42_method_149_code_1) (by decide) (Wd := 0) (Nat.le_of_ble_eq_true rfl) (by decide) (fun T1 W1 => ?_)
  refine Fi.by' (st' := (T1.setTop (mkF m 9 #[.val (.ref x), .val (.ref b), .val (.int (0 : Int32)), .val (.int (0 : Int32)), .val .null, .unset] [.ref x]))) (fun t k => ?_) ?_
  · refine XS.iloadN W1.here hx rfl (hb hby d_jdk_42_method_149_code_4) rfl ?_
    refine XS.ifNo W1.here hx rfl (hb hby d_jdk_42_method_149_code_5) rfl ((if0 _ _).trans (teq (rfl : (0 : Int32) = 0)).2) ?_
    refine XS.aloadN W1.here hx rfl (hb hby d_jdk_42_method_149_code_8) rfl rfl ?_
    exact k
  refine W1.ldc hx (ww hw (i := 18) rfl) (wS hw) (by decide) ([] : List Int32) (by decide +kernel) (by decide +kernel) (g := (mkF m 9 #[.val (.ref x), .val (.ref b), .val (.int (0 : Int32)), .val (.int (0 : Int32)), .val .null, .unset] [.ref x])) rfl (hb hby d_jdk_42_method_149_code_9) (n := 0) (by decide) (by decide) (by decide) (by decide) (fun T2 h2 a2 W2 E2 F2 => ?_)
  obtain ⟨t2, k2, f1, f2, f3, f4, f5, f6⟩ := F2
  have A2 := Exa.ext E2 A0
  have V2 := Fld.ext E2 V0
  have C2 := Fld.ext E2 C0
  refine W2.getF hx (ww hw (i := 24) rfl) f2 (g := (mkF m 11 #[.val (.ref x), .val (.ref b), .val (.int (0 : Int32)), .val (.int (0 : Int32)), .val .null, .unset] [.ref a2, .ref x])) rfl rfl (hb hby d_jdk_42_method_149_code_11) (fun T3 W3 => ?_)
  refine W3.putF hx (ww hw (i := 24) rfl) V2 A2 (Or.inr ⟨(ww hw (i := 20) rfl), rfl, hnm⟩) (ww hw (i := 5) rfl) (ty := .array .byte) (by decide) rfl rfl (g := (mkF m 14 #[.val (.ref x), .val (.ref b), .val (.int (0 : Int32)), .val (.int (0 : Int32)), .val .null, .unset] [.ref t2, .ref x])) rfl rfl (hb hby d_jdk_42_method_149_code_14) g0 (safe_null A2 V2 (ww hw (i := 5) rfl)) (fun T4 h4 W4 R4 => ?_)
  have A4 := Exa.wr R4 A2
  have V4 : Fld Z h4 x "java/lang/String" "value" "[B" (.ref t2) := Fld.same R4 V2
  have C4 : Fld Z h4 x "java/lang/String" "coder" "B" (.int (0 : Int32)) := Fld.other R4 C2 (Or.inr (slot_ne (Or.inr (ww hw (i := 21) rfl)) (Or.inr (ww hw (i := 20) rfl)) (by decide) (t := .byte) (t' := .array .byte) (by decide) (by decide)))
  have B4 := Arv.other f4 R4 (Ne.symm (Exa.neArv A2 f4 (ww hw (i := 5) rfl)))
  refine Fi.by' (st' := (T4.setTop (mkF m 18 #[.val (.ref x), .val (.ref b), .val (.int (0 : Int32)), .val (.int (0 : Int32)), .val .null, .unset] [.ref x]))) (fun t k => XS.aloadN W4.here hx rfl (hb hby d_jdk_42_method_149_code_17) rfl rfl k) ?_
  refine W4.ldc hx (ww hw (i := 18) rfl) (wS hw) (by decide) ([] : List Int32) (by decide +kernel) (by decide +kernel) (g := (mkF m 18 #[.val (.ref x), .val (.ref b), .val (.int (0 : Int32)), .val (.int (0 : Int32)), .val .null, .unset] [.ref x])) rfl (hb hby d_jdk_42_method_149_code_18) (n := 0) (by decide) (by decide) (by decide) (by decide) (fun T5 h5 a5 W5 E5 F5 => ?_)
  obtain ⟨t5, k5, j1, j2, j3, j4, j5, j6⟩ := F5
  have A5 := Exa.ext E5 A4
  have C5 := Fld.ext E5 C4
  refine W5.getF hx (ww hw (i := 25) rfl) j3 (g := (mkF m 20 #[.val (.ref x), .val (.ref b), .val (.int (0 : Int32)), .val (.int (0 : Int32)), .val .null, .unset] [.ref a5, .ref x])) rfl rfl (hb hby d_jdk_42_method_149_code_20) (fun T6 W6 => ?_)
  refine W6.putSame hx (ww hw (i := 25) rfl) C5 A5 (Or.inr ⟨(ww hw (i := 21) rfl), rfl, hnm⟩) (ww hw (i := 5) rfl) (ty := .byte) (by decide) rfl rfl (g := (mkF m 23 #[.val (.ref x), .val (.ref b), .val (.int (0 : Int32)), .val (.int (0 : Int32)), .val .null, .unset] [.int (0 : Int32), .ref x])) rfl rfl (hb hby d_jdk_42_method_149_code_23) g0 (fun T7 W7 => ?_)
  exact W7.vret hx hlk hret (hb hby d_jdk_42_method_149_code_26) ⟨rfl, (((Keep.refl h0 [x]).ext E2).wr R4 (Or.inl (List.mem_singleton.mpr rfl))).ext E5, t2, k2, A5, Fld.ext E5 V4, C5, B4.ext E5, fun _ q => (nomatch q), by decide⟩ (by decide) (by decide)
set_option maxRecDepth 65536 in
set_option maxHeartbeats 40000000 in
theorem rmE1 (l : Launch) (Z : State) (a0 : Array Value) (hw : ∀ d ∈ tables_1, d.before a0 Z = true) (h0 : Heap) (n0 : Nat) (Z0 : n0 ≤ h0.size) (x b : Addr) (g0 : n0 ≤ x) (A0 : Exa Z h0 x "java/lang/String") (V0 : Fld Z h0 x "java/lang/String" "value" "[B" .null) (C0 : Fld Z h0 x "java/lang/String" "coder" "B" (.int (0 : Int32))) {kC : ClassId} {dv : Value} (B0 : Arv Z h0 b kC .char (0 : Int32) [] dv) : Con l Z EL (⟨"java/lang/String", "<init>", "([C)V"⟩ : MethodName) jdk_42_method_3_code 2 none [] ({ frames := 2, cells := 4, slots := 8, locals := 33 } : Room) #[.ref x, .ref b] h0 n0 (fun v h => v = none ∧ Keep h0 h [x] ∧ StrL Z h x []) := by
  refine Con.intro (own := "java/lang/String") rfl (plainFor_of_name plain_java_lang_String) (hEL hw) ?_
  intro p e s m below meth c s₁ hx hby hml hret hlk hnm W0
  refine Fi.cast (show entryFrame m #[.ref x, .ref b] 2 = mkF m 0 #[.val (.ref x), .val (.ref b)] [] from by first | (simp [entryFrame, mkF, argsToLocals, Value.category]; done) | rfl) ?_
  refine Fi.by' (st' := s₁.setTop (mkF m 4 #[.val (.ref x), .val (.ref b)] [.ref b, .int (0 : Int32), .ref b, .ref x])) (fun t k => ?_) ?_
  · refine XS.aloadN W0.here hx rfl (hb hby d_jdk_42_method_3_code_0) rfl rfl ?_
    refine XS.aloadN W0.here hx rfl (hb hby d_jdk_42_method_3_code_1) rfl rfl ?_
    refine iconstZ W0.here hx rfl (hb hby d_jdk_42_method_3_code_2) rfl ?_
    refine XS.aloadN W0.here hx rfl (hb hby d_jdk_42_method_3_code_3) rfl rfl ?_
    exact k
  refine W0.alen hx B0 (g := (mkF m 4 #[.val (.ref x), .val (.ref b)] [.ref b, .int (0 : Int32), .ref b, .ref x])) rfl rfl (hb hby d_jdk_42_method_3_code_4) ?_
  refine Fi.by' (st' := s₁.setTop (mkF m 6 #[.val (.ref x), .val (.ref b)] [.null, .int (0 : Int32), .int (0 : Int32), .ref b, .ref x])) (fun t k => XS.aconstNull W0.here hx rfl (hb hby d_jdk_42_method_3_code_5) k) ?_
  refine W0.callI hx (y := (⟨"java/lang/String", "<init>", "([CIILjava/lang/Void;)V"⟩ : MethodName)) rfl (ww hw (i := 11) rfl) (ww hw (i := 12) rfl) (ww hw (i := 14) rfl) (by decide) (Pay.of_con (Wd := 0) (rmE4 l Z a0 hw h0 n0 Z0 x b g0 A0 V0 C0) (ww hw (i := 14) rfl) (ww hw (i := 6) rfl) (hEL hw) (by decide) (by decide)) (g := (mkF m 6 #[.val (.ref x), .val (.ref b)] [.null, .int (0 : Int32), .int (0 : Int32), .ref b, .ref x])) rfl (by rw [hml]; rfl) (a := x) (argsL := [.ref b, .int (0 : Int32), .int (0 : Int32), .null]) (rest := []) (lenOf pd_6 rfl) rfl rfl (Nat.le_of_ble_eq_true rfl) (hb hby d_jdk_42_method_3_code_6) (by decide) (by decide) (fun v1 T1 h1 W1 s1 q1 => ?_)
  obtain ⟨rfl, q2, q3⟩ := q1
  exact W1.vret hx hlk hret (hb hby d_jdk_42_method_3_code_9) ⟨rfl, q2, q3⟩ (by decide) (by decide)
section Paid
variable {p : Program} {l : Launch} {e : Env} {R : Room} {s : State} {args : Array Value} {below : List Frame} {Z : State} {a0 : Array Value} {n0 : Nat} {h : Heap}
theorem payE (hw : ∀ d ∈ tables_1, d.before a0 Z = true) {Wd : Nat} {x b : Addr} {kC : ClassId} {dv : Value} (Z0 : n0 ≤ h.size) (g0 : n0 ≤ x) (A0 : Exa Z h x "java/lang/String") (V0 : Fld Z h x "java/lang/String" "value" "[B" .null) (C0 : Fld Z h x "java/lang/String" "coder" "B" (.int (0 : Int32))) (B0 : Arv Z h b kC .char (0 : Int32) [] dv) (hf : 3 ≤ R.frames) (hl : Wd + 46 ≤ R.locals) :
    Pay l R p e below s args Z EL n0 (⟨"java/lang/String", "<init>", "([C)V"⟩ : MethodName) Wd #[.ref x, .ref b] h (fun v h' => v = none ∧ Keep h h' [x] ∧ StrL Z h' x []) 4 8 :=
  Pay.of_con (rm := ({ frames := 2, cells := 4, slots := 8, locals := 33 } : Room)) (rmE1 l Z a0 hw h n0 Z0 x b g0 A0 V0 C0 B0) (ww hw (i := 10) rfl) (ww hw (i := 6) rfl) (hEL hw) hf hl
theorem wsV {a0 : Array Value} {Z : State} (hw : ∀ d ∈ tables_1, d.before a0 Z = true) : ∀ d ∈ StrChars.Road.words, d.before a0 Z = true := fun d hd => hw d ((by decide +kernel : ∀ d ∈ StrChars.Road.words, d ∈ tables_1) d hd)
theorem payS (hw : ∀ d ∈ tables_1, d.before a0 Z = true) {Wd n : Nat} {x b : Addr} {kC : ClassId} {dv : Value} {cs : List Int32} {N z : Int32} (Z0 : n0 ≤ h.size) (g0 : n0 ≤ x) (A0 : Exa Z h x "java/lang/String") (V0 : Fld Z h x "java/lang/String" "value" "[B" .null) (C0 : Fld Z h x "java/lang/String" "coder" "B" (.int (0 : Int32))) (B0 : Arv Z h b kC .char N (cs.map Value.int) dv) (S : Sta Z h "java/lang/String" "COMPACT_STRINGS" "Z" (.int z)) (hz : ¬ z = 0)
    (hn : cs.length = n) (hN : N = Int32.ofNat n) (l0 : 0 < n) (l2 : n ≤ 4000) (hp : ∀ c ∈ cs, ¬ c < 0 ∧ ¬ (255 : Int32) < c) (hf : 4 ≤ R.frames) (hl : Wd + 65 ≤ R.locals) :
    Pay l R p e below s args Z EL n0 (⟨"java/lang/String", "<init>", "([C)V"⟩ : MethodName) Wd #[.ref x, .ref b] h (fun v h' => v = none ∧ Keep h h' [x] ∧ StrL Z h' x cs) 1 n :=
  Pay.of_back (ws := [x]) (hEL hw) (fun vm0 hZ => Back.mono (StrChars.Road.backV (s := s.setVm vm0) hZ (wsV hw) (ww hw (i := 5) rfl) g0 Z0 A0 V0 C0 B0 S hz hn hN l0 l2 hp rfl hf hl) (fun _ _ q => q) (fun _ _ v B _ q => by
    obtain ⟨L, ⟨q1, q2, q3, q4, q5, t, kb, -, -, -, q6, q7⟩, r1, r2, r3⟩ := q
    exact ⟨L, ⟨q2, q3, q1, q3, t, kb, q4, q6, q5, by rw [hn, ← hN]; exact q7, hp, by rw [hn]; exact l2⟩, r1, r2, r3⟩))
    (fun vm hZ hC y hy => by cases List.mem_singleton.mp hy; exact safe_null A0 V0 (ww hw (i := 5) rfl) vm hZ hC)
end Paid
def drawn_make (n u0 u1 : Int32) : List Int32 := if n = 0 then [] else if n = 1 then [u0] else [u0, u1]
section PaidEq
variable {p : Program} {l : Launch} {e : Env} {R : Room} {s : State} {args : Array Value} {below : List Frame} {Z : State} {a0 : Array Value} {n0 : Nat} {h : Heap}
theorem wsQ {a0 : Array Value} {Z : State} (hw : ∀ d ∈ tables_1, d.before a0 Z = true) : ∀ d ∈ StrChars.Road.wordsEq, d.before a0 Z = true := fun d hd => hw d ((by decide +kernel : ∀ d ∈ StrChars.Road.wordsEq, d ∈ tables_1) d hd)
theorem payQ (hw : ∀ d ∈ tables_1, d.before a0 Z = true) {Wd : Nat} {x y : Addr} {cs ds : List Int32} {z : Int32} (F : StrL Z h x cs) (G : StrL Z h y ds) (S : Sta Z h "java/lang/String" "COMPACT_STRINGS" "Z" (.int z)) (hz : ¬ z = 0) (hf : 2 ≤ R.frames) (hl : Wd + 28 ≤ R.locals) :
    Pay l R p e below s args Z EL n0 (⟨"java/lang/String", "equals", "(Ljava/lang/Object;)Z"⟩ : MethodName) Wd #[.ref x, .ref y] h (fun v h' => (∃ r : Int32, v = some (.int r) ∧ ((r = 1 ∧ cs = ds) ∨ (r = 0 ∧ ¬ cs = ds))) ∧ h = h') 0 0 := by
  obtain ⟨t1, k1, a1, a2, a3, a4, a5, a6⟩ := F
  obtain ⟨t2, k2, b1, b2, b3, b4, b5, b6⟩ := G
  refine Pay.of_back (ws := []) (hEL hw) (fun vm0 hZ => Back.mono (StrChars.Road.eqW (s := s.setVm vm0) hZ (wsQ hw) (ww hw (i := 5) rfl) a1 a2 a3 a4 (StrChars.Road.codOf rfl (fun c hc => (a5 c hc).2)) (fun c hc => ⟨(a5 c hc).1, big_ch (a5 c hc).2⟩) a6 b1 b2 b3 b4 (StrChars.Road.codOf rfl (fun c hc => (b5 c hc).2)) (fun c hc => ⟨(b5 c hc).1, big_ch (b5 c hc).2⟩) b6 S hz hf hl) (fun _ _ q => q) (fun _ _ v B _ q => ?_)) (fun _ _ _ _ q => (nomatch q))
  obtain ⟨L, ⟨q1, rfl, q3⟩, r1, r2, r3⟩ := q
  refine ⟨[], ⟨Fr.nil _, by rw [q3]; exact Keep.refl _ _, ?_, q3.symm⟩, r1, r2, r3⟩
  rcases q1 with ⟨u1, u2⟩ | ⟨u1, u2⟩
  · exact ⟨1, u1, Or.inl ⟨rfl, u2⟩⟩
  · exact ⟨0, u1, Or.inr ⟨rfl, u2⟩⟩
end PaidEq
def Q_make (Z : State) (zc n c0 c1 : Int32) (h0 : Heap) (v : Option Value) (h : Heap) : Prop := ∃ a : Addr, v = some (.ref a) ∧ Ext h0 h ∧ h0.size ≤ a ∧ StrL Z h a (drawn_make n c0 c1)
set_option maxRecDepth 65536 in
set_option maxHeartbeats 40000000 in
theorem rm_make (l : Launch) (Z : State) (a0 : Array Value) (hw : ∀ d ∈ tables_1, d.before a0 Z = true) (zc n c0 c1 : Int32) (h0 : Heap) (n0 : Nat) (Z0 : n0 ≤ h0.size) (S0 : Sta Z h0 "java/lang/String" "COMPACT_STRINGS" "Z" (.int zc)) (hz : ¬ zc = 0) (P_c0 : ¬ c0 < 0 ∧ ¬ (255 : Int32) < c0) (P_c1 : ¬ c1 < 0 ∧ ¬ (255 : Int32) < c1) :
    Con l Z EL (⟨"com/example/record_hold/recordhold/text/EntityTagMatchesStronglyPinLaw", "make", "(ICC)Ljava/lang/String;"⟩ : MethodName) method_2_code 4 (some (.object "java/lang/String")) [] ({ frames := 4, cells := 6, slots := 12, locals := 66 } : Room) #[(.int n), (.int c0), (.int c1)] h0 n0 (Q_make Z zc n c0 c1 h0) := by
  refine Con.intro (own := "com/example/record_hold/recordhold/text/EntityTagMatchesStronglyPinLaw") rfl (plainFor_of_name plain_com_example_record_hold_recordhold_text_EntityTagMatchesStronglyPinLaw) (hEL hw) ?_
  intro p e s m below meth c s₁ hx hby hml hret hlk hnm W0
  refine Fi.cast (show entryFrame m #[(.int n), (.int c0), (.int c1)] 4 = (mkF m 0 #[.val (.int n), .val (.int c0), .val (.int c1), .unset] []) from by first | (simp [entryFrame, mkF, argsToLocals, Value.category]; done) | rfl) ?_
  refine Fi.by' (st' := s₁.setTop (mkF m 1 #[.val (.int n), .val (.int c0), .val (.int c1), .unset] [(.int n)])) (fun t k => ?_) ?_
  · refine XS.iloadN W0.here hx rfl (hb hby d_method_2_code_0) rfl ?_
    exact k
  by_cases hc1_1 : n = (0 : Int32)
  · refine Fi.by' (st' := s₁.setTop (mkF m 4 #[.val (.int n), .val (.int c0), .val (.int c1), .unset] [])) (fun t k => ?_) ?_
    · refine XS.ifNo W0.here hx rfl (hb hby d_method_2_code_1) rfl ((if0 _ _).trans (teq hc1_1).2) ?_
      exact k
    refine W0.new hx (ww hw (i := 4) rfl) (ww hw (i := 5) rfl) (ww hw (i := 6) rfl) (g := (mkF m 4 #[.val (.int n), .val (.int c0), .val (.int c1), .unset] [])) rfl (hb hby d_method_2_code_4) (by decide) (by decide) (fun T2 h2 a2 ha2 W2 E2 A2 D2 => ?_)
    change Fi _ _ _ _ _ _ _ _ _ _ (T2.setTop (mkF m 7 #[.val (.int n), .val (.int c0), .val (.int c1), .unset] [(.ref a2)]))
    have sz2 := E2.1
    refine Fi.by' (st' := T2.setTop (mkF m 9 #[.val (.int n), .val (.int c0), .val (.int c1), .unset] [(.int (0 : Int32)), (.ref a2), (.ref a2)])) (fun t k => ?_) ?_
    · refine XS.dup W2.here hx rfl (hb hby d_method_2_code_7) rfl rfl ?_
      refine iconstZ W2.here hx rfl (hb hby d_method_2_code_8) (z := (0 : Int32)) rfl ?_
      exact k
    refine W2.newP hx (aty := .char) (ww hw (i := 7) rfl) (g := (mkF m 9 #[.val (.int n), .val (.int c0), .val (.int c1), .unset] [(.int (0 : Int32)), (.ref a2), (.ref a2)])) rfl (hb hby d_method_2_code_9) rfl (by decide) (cap := 0) (by decide) (by decide) (by decide) (by decide) (fun T3 h3 a3 k3 ha3 W3 E3 A3 => ?_)
    change Fi _ _ _ _ _ _ _ _ _ _ (T3.setTop (mkF m 11 #[.val (.int n), .val (.int c0), .val (.int c1), .unset] [(.ref a3), (.ref a2), (.ref a2)]))
    have sz3 := E3.1
    have V3 : Arv Z h3 a3 k3 .char (0 : Int32) (([] : List Int32).map Value.int) (.int (0 : Int32)) := A3.pad (pad_rep [] (.int (0 : Int32)) 0)
    have x4 : Ext h0 h3 := ext_trans E2 E3
    refine W3.callI hx (y := (⟨"java/lang/String", "<init>", "([C)V"⟩ : MethodName)) rfl (ww hw (i := 8) rfl) (ww hw (i := 9) rfl) (ww hw (i := 10) rfl) (by decide) (payE (Wd := 1) hw (by omega) (by omega) (Exa.ext E3 A2) (Fld.ext E3 (D2 (Or.inr (ww hw (i := 20) rfl)) (ty := (.array .byte)) (by decide))) (Fld.ext E3 (D2 (Or.inr (ww hw (i := 21) rfl)) (ty := .byte) (by decide))) V3 (by decide) (by decide)) (a := a2) (g := (mkF m 11 #[.val (.int n), .val (.int c0), .val (.int c1), .unset] [(.ref a3), (.ref a2), (.ref a2)])) rfl (by rw [hml]; rfl) (argsL := [(.ref a3)]) (rest := [(.ref a2)]) (lenOf pd_0 rfl) rfl rfl (Nat.le_of_ble_eq_true rfl) (hb hby d_method_2_code_11) (by decide) (by decide) (fun v5 T5 h5 W5 sz5 q5 => ?_)
    obtain ⟨rfl, K5, F5⟩ := q5
    change Fi _ _ _ _ _ _ _ _ _ _ (T5.setTop (mkF m 14 #[.val (.int n), .val (.int c0), .val (.int c1), .unset] [(.ref a2)]))
    have x5k : Ext h0 h5 := ext_keep1 x4 K5 (by omega)
    exact W5.aret hx hlk hret rfl rfl (hb hby d_method_2_code_14) ⟨a2, rfl, x5k, by omega, by unfold drawn_make; rw [if_pos hc1_1]; exact F5⟩ (by decide) (by decide)
  · refine Fi.by' (st' := s₁.setTop (mkF m 17 #[.val (.int n), .val (.int c0), .val (.int c1), .unset] [(.int (1 : Int32)), (.int n)])) (fun t k => ?_) ?_
    · refine XS.ifYes W0.here hx rfl (pc0 := 1) (pc' := 15) rfl (hb hby d_method_2_code_1) rfl ((if0 _ _).trans (feq hc1_1).2) (by decide) (by decide) ?_
      refine XS.iloadN W0.here hx rfl (hb hby d_method_2_code_15) rfl ?_
      refine iconstZ W0.here hx rfl (hb hby d_method_2_code_16) (z := (1 : Int32)) rfl ?_
      exact k
    by_cases hc17_6 : n = (1 : Int32)
    · refine Fi.by' (st' := s₁.setTop (mkF m 21 #[.val (.int n), .val (.int c0), .val (.int c1), .unset] [(.int (1 : Int32))])) (fun t k => ?_) ?_
      · refine XS.icmpNo W0.here hx rfl (hb hby d_method_2_code_17) rfl (teq hc17_6).2 ?_
        refine iconstZ W0.here hx rfl (hb hby d_method_2_code_20) (z := (1 : Int32)) rfl ?_
        exact k
      refine W0.newP hx (aty := .char) (ww hw (i := 7) rfl) (g := (mkF m 21 #[.val (.int n), .val (.int c0), .val (.int c1), .unset] [(.int (1 : Int32))])) rfl (hb hby d_method_2_code_21) rfl (by decide) (cap := 1) (by decide) (by decide) (by decide) (by decide) (fun T7 h7 a7 k7 ha7 W7 E7 A7 => ?_)
      change Fi _ _ _ _ _ _ _ _ _ _ (T7.setTop (mkF m 23 #[.val (.int n), .val (.int c0), .val (.int c1), .unset] [(.ref a7)]))
      have sz7 := E7.1
      have V7 : Arv Z h7 a7 k7 .char (1 : Int32) (([0] : List Int32).map Value.int) (.int (0 : Int32)) := A7.pad (pad_rep [] (.int (0 : Int32)) 1)
      refine Fi.by' (st' := T7.setTop (mkF m 27 #[.val (.int n), .val (.int c0), .val (.int c1), .val (.ref a7)] [(.int c0), (.int (0 : Int32)), (.ref a7)])) (fun t k => ?_) ?_
      · refine XS.astoreN W7.here hx rfl (hb hby d_method_2_code_23) rfl rfl (l' := #[.val (.int n), .val (.int c0), .val (.int c1), .val (.ref a7)]) rfl ?_
        refine XS.aloadN W7.here hx rfl (hb hby d_method_2_code_24) rfl rfl ?_
        refine iconstZ W7.here hx rfl (hb hby d_method_2_code_25) (z := (0 : Int32)) rfl ?_
        refine XS.iloadN W7.here hx rfl (hb hby d_method_2_code_26) rfl ?_
        exact k
      refine W7.castore hx V7 (i := 0) (Nat.le_of_ble_eq_true rfl) (j := (0 : Int32)) rfl (by decide) rfl (ch_ok P_c0) (g := (mkF m 27 #[.val (.int n), .val (.int c0), .val (.int c1), .val (.ref a7)] [(.int c0), (.int (0 : Int32)), (.ref a7)])) rfl rfl (hb hby d_method_2_code_27) (by omega) (fun T8 h8 W8 R8 V8 => ?_)
      change Fi _ _ _ _ _ _ _ _ _ _ (T8.setTop (mkF m 28 #[.val (.int n), .val (.int c0), .val (.int c1), .val (.ref a7)] []))
      have x8w : Ext h0 h8 := ext_wr E7 R8 (by omega)
      have sz8 := R8.size
      have V8' : Arv Z h8 a7 k7 .char (1 : Int32) (([c0] : List Int32).map Value.int) (.int (0 : Int32)) := V8
      refine W8.new hx (ww hw (i := 4) rfl) (ww hw (i := 5) rfl) (ww hw (i := 6) rfl) (g := (mkF m 28 #[.val (.int n), .val (.int c0), .val (.int c1), .val (.ref a7)] [])) rfl (hb hby d_method_2_code_28) (by decide) (by decide) (fun T9 h9 a9 ha9 W9 E9 A9 D9 => ?_)
      change Fi _ _ _ _ _ _ _ _ _ _ (T9.setTop (mkF m 31 #[.val (.int n), .val (.int c0), .val (.int c1), .val (.ref a7)] [(.ref a9)]))
      have sz9 := E9.1
      refine Fi.by' (st' := T9.setTop (mkF m 33 #[.val (.int n), .val (.int c0), .val (.int c1), .val (.ref a7)] [(.ref a7), (.ref a9), (.ref a9)])) (fun t k => ?_) ?_
      · refine XS.dup W9.here hx rfl (hb hby d_method_2_code_31) rfl rfl ?_
        refine XS.aloadN W9.here hx rfl (hb hby d_method_2_code_32) rfl rfl ?_
        exact k
      have x10 : Ext h0 h9 := ext_trans x8w E9
      refine W9.callI hx (y := (⟨"java/lang/String", "<init>", "([C)V"⟩ : MethodName)) rfl (ww hw (i := 8) rfl) (ww hw (i := 9) rfl) (ww hw (i := 10) rfl) (by decide) (payS (Wd := 1) (n := 1) (cs := [c0]) hw (by omega) (by omega) A9 (D9 (Or.inr (ww hw (i := 20) rfl)) (ty := (.array .byte)) (by decide)) (D9 (Or.inr (ww hw (i := 21) rfl)) (ty := .byte) (by decide)) (V8'.ext E9) (Sta.ext x10 S0) hz rfl rfl (by decide) (by decide) (all_cons P_c0 all_nil) (by decide) (by decide)) (a := a9) (g := (mkF m 33 #[.val (.int n), .val (.int c0), .val (.int c1), .val (.ref a7)] [(.ref a7), (.ref a9), (.ref a9)])) rfl (by rw [hml]; rfl) (argsL := [(.ref a7)]) (rest := [(.ref a9)]) (lenOf pd_0 rfl) rfl rfl (Nat.le_of_ble_eq_true rfl) (hb hby d_method_2_code_33) (by decide) (by decide) (fun v11 T11 h11 W11 sz11 q11 => ?_)
      obtain ⟨rfl, K11, F11⟩ := q11
      change Fi _ _ _ _ _ _ _ _ _ _ (T11.setTop (mkF m 36 #[.val (.int n), .val (.int c0), .val (.int c1), .val (.ref a7)] [(.ref a9)]))
      have x11k : Ext h8 h11 := ext_keep1 E9 K11 (by omega)
      have x12 : Ext h0 h11 := ext_trans x8w x11k
      exact W11.aret hx hlk hret rfl rfl (hb hby d_method_2_code_36) ⟨a9, rfl, x12, by omega, by unfold drawn_make; rw [if_neg hc1_1, if_pos hc17_6]; exact F11⟩ (by decide) (by decide)
    · refine Fi.by' (st' := s₁.setTop (mkF m 38 #[.val (.int n), .val (.int c0), .val (.int c1), .unset] [(.int (2 : Int32))])) (fun t k => ?_) ?_
      · refine XS.icmpYes W0.here hx rfl (pc0 := 17) (pc' := 37) rfl (hb hby d_method_2_code_17) rfl (feq hc17_6).2 (by decide) (by decide) ?_
        refine iconstZ W0.here hx rfl (hb hby d_method_2_code_37) (z := (2 : Int32)) rfl ?_
        exact k
      refine W0.newP hx (aty := .char) (ww hw (i := 7) rfl) (g := (mkF m 38 #[.val (.int n), .val (.int c0), .val (.int c1), .unset] [(.int (2 : Int32))])) rfl (hb hby d_method_2_code_38) rfl (by decide) (cap := 2) (by decide) (by decide) (by decide) (by decide) (fun T13 h13 a13 k13 ha13 W13 E13 A13 => ?_)
      change Fi _ _ _ _ _ _ _ _ _ _ (T13.setTop (mkF m 40 #[.val (.int n), .val (.int c0), .val (.int c1), .unset] [(.ref a13)]))
      have sz13 := E13.1
      have V13 : Arv Z h13 a13 k13 .char (2 : Int32) (([0, 0] : List Int32).map Value.int) (.int (0 : Int32)) := A13.pad (pad_rep [] (.int (0 : Int32)) 2)
      refine Fi.by' (st' := T13.setTop (mkF m 44 #[.val (.int n), .val (.int c0), .val (.int c1), .val (.ref a13)] [(.int c0), (.int (0 : Int32)), (.ref a13)])) (fun t k => ?_) ?_
      · refine XS.astoreN W13.here hx rfl (hb hby d_method_2_code_40) rfl rfl (l' := #[.val (.int n), .val (.int c0), .val (.int c1), .val (.ref a13)]) rfl ?_
        refine XS.aloadN W13.here hx rfl (hb hby d_method_2_code_41) rfl rfl ?_
        refine iconstZ W13.here hx rfl (hb hby d_method_2_code_42) (z := (0 : Int32)) rfl ?_
        refine XS.iloadN W13.here hx rfl (hb hby d_method_2_code_43) rfl ?_
        exact k
      refine W13.castore hx V13 (i := 0) (Nat.le_of_ble_eq_true rfl) (j := (0 : Int32)) rfl (by decide) rfl (ch_ok P_c0) (g := (mkF m 44 #[.val (.int n), .val (.int c0), .val (.int c1), .val (.ref a13)] [(.int c0), (.int (0 : Int32)), (.ref a13)])) rfl rfl (hb hby d_method_2_code_44) (by omega) (fun T14 h14 W14 R14 V14 => ?_)
      change Fi _ _ _ _ _ _ _ _ _ _ (T14.setTop (mkF m 45 #[.val (.int n), .val (.int c0), .val (.int c1), .val (.ref a13)] []))
      have x14w : Ext h0 h14 := ext_wr E13 R14 (by omega)
      have sz14 := R14.size
      have V14' : Arv Z h14 a13 k13 .char (2 : Int32) (([c0, 0] : List Int32).map Value.int) (.int (0 : Int32)) := V14
      refine Fi.by' (st' := T14.setTop (mkF m 48 #[.val (.int n), .val (.int c0), .val (.int c1), .val (.ref a13)] [(.int c1), (.int (1 : Int32)), (.ref a13)])) (fun t k => ?_) ?_
      · refine XS.aloadN W14.here hx rfl (hb hby d_method_2_code_45) rfl rfl ?_
        refine iconstZ W14.here hx rfl (hb hby d_method_2_code_46) (z := (1 : Int32)) rfl ?_
        refine XS.iloadN W14.here hx rfl (hb hby d_method_2_code_47) rfl ?_
        exact k
      refine W14.castore hx V14' (i := 1) (Nat.le_of_ble_eq_true rfl) (j := (1 : Int32)) rfl (by decide) rfl (ch_ok P_c1) (g := (mkF m 48 #[.val (.int n), .val (.int c0), .val (.int c1), .val (.ref a13)] [(.int c1), (.int (1 : Int32)), (.ref a13)])) rfl rfl (hb hby d_method_2_code_48) (by omega) (fun T15 h15 W15 R15 V15 => ?_)
      change Fi _ _ _ _ _ _ _ _ _ _ (T15.setTop (mkF m 49 #[.val (.int n), .val (.int c0), .val (.int c1), .val (.ref a13)] []))
      have x15w : Ext h0 h15 := ext_wr x14w R15 (by omega)
      have sz15 := R15.size
      have V15' : Arv Z h15 a13 k13 .char (2 : Int32) (([c0, c1] : List Int32).map Value.int) (.int (0 : Int32)) := V15
      refine W15.new hx (ww hw (i := 4) rfl) (ww hw (i := 5) rfl) (ww hw (i := 6) rfl) (g := (mkF m 49 #[.val (.int n), .val (.int c0), .val (.int c1), .val (.ref a13)] [])) rfl (hb hby d_method_2_code_49) (by decide) (by decide) (fun T16 h16 a16 ha16 W16 E16 A16 D16 => ?_)
      change Fi _ _ _ _ _ _ _ _ _ _ (T16.setTop (mkF m 52 #[.val (.int n), .val (.int c0), .val (.int c1), .val (.ref a13)] [(.ref a16)]))
      have sz16 := E16.1
      refine Fi.by' (st' := T16.setTop (mkF m 54 #[.val (.int n), .val (.int c0), .val (.int c1), .val (.ref a13)] [(.ref a13), (.ref a16), (.ref a16)])) (fun t k => ?_) ?_
      · refine XS.dup W16.here hx rfl (hb hby d_method_2_code_52) rfl rfl ?_
        refine XS.aloadN W16.here hx rfl (hb hby d_method_2_code_53) rfl rfl ?_
        exact k
      have x17 : Ext h0 h16 := ext_trans x15w E16
      refine W16.callI hx (y := (⟨"java/lang/String", "<init>", "([C)V"⟩ : MethodName)) rfl (ww hw (i := 8) rfl) (ww hw (i := 9) rfl) (ww hw (i := 10) rfl) (by decide) (payS (Wd := 1) (n := 2) (cs := [c0, c1]) hw (by omega) (by omega) A16 (D16 (Or.inr (ww hw (i := 20) rfl)) (ty := (.array .byte)) (by decide)) (D16 (Or.inr (ww hw (i := 21) rfl)) (ty := .byte) (by decide)) (V15'.ext E16) (Sta.ext x17 S0) hz rfl rfl (by decide) (by decide) (all_cons P_c0 (all_cons P_c1 all_nil)) (by decide) (by decide)) (a := a16) (g := (mkF m 54 #[.val (.int n), .val (.int c0), .val (.int c1), .val (.ref a13)] [(.ref a13), (.ref a16), (.ref a16)])) rfl (by rw [hml]; rfl) (argsL := [(.ref a13)]) (rest := [(.ref a16)]) (lenOf pd_0 rfl) rfl rfl (Nat.le_of_ble_eq_true rfl) (hb hby d_method_2_code_54) (by decide) (by decide) (fun v18 T18 h18 W18 sz18 q18 => ?_)
      obtain ⟨rfl, K18, F18⟩ := q18
      change Fi _ _ _ _ _ _ _ _ _ _ (T18.setTop (mkF m 57 #[.val (.int n), .val (.int c0), .val (.int c1), .val (.ref a13)] [(.ref a16)]))
      have x18k : Ext h15 h18 := ext_keep1 E16 K18 (by omega)
      have x19 : Ext h0 h18 := ext_trans x15w x18k
      exact W18.aret hx hlk hret rfl rfl (hb hby d_method_2_code_57) ⟨a16, rfl, x19, by omega, by unfold drawn_make; rw [if_neg hc1_1, if_neg hc17_6]; exact F18⟩ (by decide) (by decide)
def Q_rec (Z : State) (x : Addr) (h0 : Heap) (v : Option Value) (h : Heap) : Prop := v = none ∧ h0 = h
set_option maxRecDepth 65536 in
set_option maxHeartbeats 40000000 in
theorem rm_rec (l : Launch) (Z : State) (a0 : Array Value) (hw : ∀ d ∈ tables_1, d.before a0 Z = true) (x : Addr) (h0 : Heap) (n0 : Nat) (Z0 : n0 ≤ h0.size)  :
    Con l Z EL (⟨"java/lang/Record", "<init>", "()V"⟩ : MethodName) jdk_30_method_1_code 1 none [] ({ frames := 1, cells := 0, slots := 0, locals := 12 } : Room) #[(.ref x)] h0 n0 (Q_rec Z x h0) := by
  refine Con.intro (own := "java/lang/Record") rfl (plainFor_of_name plain_java_lang_Record) (hEL hw) ?_
  intro p e s m below meth c s₁ hx hby hml hret hlk hnm W0
  refine Fi.cast (show entryFrame m #[(.ref x)] 1 = (mkF m 0 #[.val (.ref x)] []) from by first | (simp [entryFrame, mkF, argsToLocals, Value.category]; done) | rfl) ?_
  refine Fi.by' (st' := s₁.setTop (mkF m 1 #[.val (.ref x)] [(.ref x)])) (fun t k => ?_) ?_
  · refine XS.aloadN W0.here hx rfl (hb hby d_jdk_30_method_1_code_0) rfl rfl ?_
    exact k
  refine W0.initO hx (ww hw (i := 37) rfl) (ww hw (i := 16) rfl) (ww hw (i := 17) rfl) (g := (mkF m 1 #[.val (.ref x)] [(.ref x)])) rfl (by rw [hml]; rfl) rfl (hb hby d_jdk_30_method_1_code_1) (by decide) (Wd := 0) (Nat.le_of_ble_eq_true rfl) (by decide) (fun T1 W1 => ?_)
  change Fi _ _ _ _ _ _ _ _ _ _ (T1.setTop (mkF m 4 #[.val (.ref x)] []))
  exact W1.vret hx hlk hret (hb hby d_jdk_30_method_1_code_4) ⟨rfl, rfl⟩ (by decide) (by decide)
def Q_init (Z : State) (x : Addr) (s1 : Addr) (w1 : Int32) (h0 : Heap) (v : Option Value) (h : Heap) : Prop := v = none ∧ Keep h0 h [x] ∧ Exa Z h x "com/example/record_hold/recordhold/text/EntityTag" ∧ Fld Z h x "com/example/record_hold/recordhold/text/EntityTag" "opaque" "Ljava/lang/String;" (.ref s1) ∧ Fld Z h x "com/example/record_hold/recordhold/text/EntityTag" "weak" "Z" (.int w1)
set_option maxRecDepth 65536 in
set_option maxHeartbeats 40000000 in
theorem rm_init (l : Launch) (Z : State) (a0 : Array Value) (hw : ∀ d ∈ tables_1, d.before a0 Z = true) (x : Addr) (s1 : Addr) (w1 : Int32) (h0 : Heap) (n0 : Nat) (Z0 : n0 ≤ h0.size) (g0 : n0 ≤ x) (A0 : Exa Z h0 x "com/example/record_hold/recordhold/text/EntityTag") (F0_opaque : Fld Z h0 x "com/example/record_hold/recordhold/text/EntityTag" "opaque" "Ljava/lang/String;" .null) (F0_weak : Fld Z h0 x "com/example/record_hold/recordhold/text/EntityTag" "weak" "Z" (.int (0 : Int32))) (b1 : w1 = 0 ∨ w1 = 1) :
    Con l Z EL (⟨"com/example/record_hold/recordhold/text/EntityTag", "<init>", "(Ljava/lang/String;Z)V"⟩ : MethodName) prog_24_method_1_code 3 none [] ({ frames := 2, cells := 0, slots := 0, locals := 24 } : Room) #[(.ref x), (.ref s1), (.int w1)] h0 n0 (Q_init Z x s1 w1 h0) := by
  refine Con.intro (own := "com/example/record_hold/recordhold/text/EntityTag") rfl (plainFor_of_name plain_com_example_record_hold_recordhold_text_EntityTag) (hEL hw) ?_
  intro p e s m below meth c s₁ hx hby hml hret hlk hnm W0
  refine Fi.cast (show entryFrame m #[(.ref x), (.ref s1), (.int w1)] 3 = (mkF m 0 #[.val (.ref x), .val (.ref s1), .val (.int w1)] []) from by first | (simp [entryFrame, mkF, argsToLocals, Value.category]; done) | rfl) ?_
  refine Fi.by' (st' := s₁.setTop (mkF m 1 #[.val (.ref x), .val (.ref s1), .val (.int w1)] [(.ref x)])) (fun t k => ?_) ?_
  · refine XS.aloadN W0.here hx rfl (hb hby d_prog_24_method_1_code_0) rfl rfl ?_
    exact k
  refine W0.callI hx (y := (⟨"java/lang/Record", "<init>", "()V"⟩ : MethodName)) rfl (ww hw (i := 32) rfl) (ww hw (i := 33) rfl) (ww hw (i := 36) rfl) (by decide) (Pay.of_con (Wd := 0) (rm_rec l Z a0 hw x h0 n0 (by omega)) (ww hw (i := 36) rfl) (ww hw (i := 35) rfl) (hEL hw) (by decide) (by decide)) (a := x) (g := (mkF m 1 #[.val (.ref x), .val (.ref s1), .val (.int w1)] [(.ref x)])) rfl (by rw [hml]; rfl) (argsL := []) (rest := []) (lenOf pd_1 rfl) rfl rfl (Nat.le_of_ble_eq_true rfl) (hb hby d_prog_24_method_1_code_1) (by decide) (by decide) (fun v1 T1 h1 W1 sz1 q1 => ?_)
  obtain ⟨rfl, rfl⟩ := q1
  change Fi _ _ _ _ _ _ _ _ _ _ (T1.setTop (mkF m 4 #[.val (.ref x), .val (.ref s1), .val (.int w1)] []))
  refine Fi.by' (st' := T1.setTop (mkF m 6 #[.val (.ref x), .val (.ref s1), .val (.int w1)] [(.ref s1), (.ref x)])) (fun t k => ?_) ?_
  · refine XS.aloadN W1.here hx rfl (hb hby d_prog_24_method_1_code_4) rfl rfl ?_
    refine XS.aloadN W1.here hx rfl (hb hby d_prog_24_method_1_code_5) rfl rfl ?_
    exact k
  refine W1.putF hx (ww hw (i := 38) rfl) F0_opaque A0 (Or.inr ⟨(ww hw (i := 39) rfl), rfl, hnm⟩) (ww hw (i := 27) rfl) (ty := (.object "java/lang/String")) (by decide) rfl rfl (g := (mkF m 6 #[.val (.ref x), .val (.ref s1), .val (.int w1)] [(.ref s1), (.ref x)])) rfl rfl (hb hby d_prog_24_method_1_code_6) g0 (safe_exa A0 (by decide) (by decide)) (fun T2 h2 W2 R2 => ?_)
  change Fi _ _ _ _ _ _ _ _ _ _ (T2.setTop (mkF m 9 #[.val (.ref x), .val (.ref s1), .val (.int w1)] []))
  have K2 := (Keep.refl h0 [x]).wr R2 (Or.inl (List.mem_singleton.mpr rfl))
  have A2 := Exa.wr R2 A0
  have F2_opaque := Fld.same R2 F0_opaque
  have F2_weak := Fld.other R2 F0_weak (Or.inr (slot_ne (Or.inr (ww hw (i := 41) rfl)) (Or.inr (ww hw (i := 39) rfl)) (by decide) (t := .boolean) (t' := (.object "java/lang/String")) (by decide) (by decide)))
  refine Fi.by' (st' := T2.setTop (mkF m 11 #[.val (.ref x), .val (.ref s1), .val (.int w1)] [(.int w1), (.ref x)])) (fun t k => ?_) ?_
  · refine XS.aloadN W2.here hx rfl (hb hby d_prog_24_method_1_code_9) rfl rfl ?_
    refine XS.iloadN W2.here hx rfl (hb hby d_prog_24_method_1_code_10) rfl ?_
    exact k
  refine W2.putF hx (ww hw (i := 40) rfl) F2_weak A2 (Or.inr ⟨(ww hw (i := 41) rfl), rfl, hnm⟩) (ww hw (i := 27) rfl) (ty := .boolean) (by decide) (bnar b1) (bfit b1) (g := (mkF m 11 #[.val (.ref x), .val (.ref s1), .val (.int w1)] [(.int w1), (.ref x)])) rfl rfl (hb hby d_prog_24_method_1_code_11) g0 (safe_exa A2 (by decide) (by decide)) (fun T3 h3 W3 R3 => ?_)
  change Fi _ _ _ _ _ _ _ _ _ _ (T3.setTop (mkF m 14 #[.val (.ref x), .val (.ref s1), .val (.int w1)] []))
  have K3 := K2.wr R3 (Or.inl (List.mem_singleton.mpr rfl))
  have A3 := Exa.wr R3 A2
  have F3_opaque := Fld.other R3 F2_opaque (Or.inr (slot_ne (Or.inr (ww hw (i := 39) rfl)) (Or.inr (ww hw (i := 41) rfl)) (by decide) (t := (.object "java/lang/String")) (t' := .boolean) (by decide) (by decide)))
  have F3_weak := Fld.same R3 F2_weak
  exact W3.vret hx hlk hret (hb hby d_prog_24_method_1_code_14) ⟨rfl, K3, A3, F3_opaque, F3_weak⟩ (by decide) (by decide)
def Q_strong (Z : State) (x y s1 s2 : Addr) (w1 w2 zc : Int32) (cs ds : List Int32) (h0 : Heap) (v : Option Value) (h : Heap) : Prop := ∃ r : Int32, v = some (.int r) ∧ ((r = 1 ∧ w1 = 0 ∧ w2 = 0 ∧ cs = ds) ∨ (r = 0 ∧ ¬ (w1 = 0 ∧ w2 = 0 ∧ cs = ds))) ∧ h0 = h
set_option maxRecDepth 65536 in
set_option maxHeartbeats 40000000 in
theorem rm_strong (l : Launch) (Z : State) (a0 : Array Value) (hw : ∀ d ∈ tables_1, d.before a0 Z = true) (x y s1 s2 : Addr) (w1 w2 zc : Int32) (cs ds : List Int32) (h0 : Heap) (n0 : Nat) (Z0 : n0 ≤ h0.size) (S0 : Sta Z h0 "java/lang/String" "COMPACT_STRINGS" "Z" (.int zc)) (hz : ¬ zc = 0) (Fx1 : Fld Z h0 x "com/example/record_hold/recordhold/text/EntityTag" "weak" "Z" (.int w1)) (Fy1 : Fld Z h0 y "com/example/record_hold/recordhold/text/EntityTag" "weak" "Z" (.int w2)) (Fx2 : Fld Z h0 x "com/example/record_hold/recordhold/text/EntityTag" "opaque" "Ljava/lang/String;" (.ref s1)) (Fy2 : Fld Z h0 y "com/example/record_hold/recordhold/text/EntityTag" "opaque" "Ljava/lang/String;" (.ref s2)) (U1 : StrL Z h0 s1 cs) (U2 : StrL Z h0 s2 ds) :
    Con l Z EL (⟨"com/example/record_hold/recordhold/text/EntityTag", "matchesStrongly", "(Lcom/example/record_hold/recordhold/text/EntityTag;)Z"⟩ : MethodName) prog_24_method_3_code 2 (some .boolean) [] ({ frames := 2, cells := 0, slots := 0, locals := 28 } : Room) #[(.ref x), (.ref y)] h0 n0 (Q_strong Z x y s1 s2 w1 w2 zc cs ds h0) := by
  refine Con.intro (own := "com/example/record_hold/recordhold/text/EntityTag") rfl (plainFor_of_name plain_com_example_record_hold_recordhold_text_EntityTag) (hEL hw) ?_
  intro p e s m below meth c s₁ hx hby hml hret hlk hnm W0
  refine Fi.cast (show entryFrame m #[(.ref x), (.ref y)] 2 = (mkF m 0 #[.val (.ref x), .val (.ref y)] []) from by first | (simp [entryFrame, mkF, argsToLocals, Value.category]; done) | rfl) ?_
  refine Fi.by' (st' := s₁.setTop (mkF m 1 #[.val (.ref x), .val (.ref y)] [(.ref x)])) (fun t k => ?_) ?_
  · refine XS.aloadN W0.here hx rfl (hb hby d_prog_24_method_3_code_0) rfl rfl ?_
    exact k
  refine W0.getF hx (ww hw (i := 40) rfl) Fx1 (g := (mkF m 1 #[.val (.ref x), .val (.ref y)] [(.ref x)])) rfl rfl (hb hby d_prog_24_method_3_code_1) (fun T1 W1 => ?_)
  change Fi _ _ _ _ _ _ _ _ _ _ (T1.setTop (mkF m 4 #[.val (.ref x), .val (.ref y)] [(.int w1)]))
  by_cases hc4_2 : w1 = (0 : Int32)
  · refine Fi.by' (st' := T1.setTop (mkF m 8 #[.val (.ref x), .val (.ref y)] [(.ref y)])) (fun t k => ?_) ?_
    · refine XS.ifNo W1.here hx rfl (hb hby d_prog_24_method_3_code_4) rfl ((if0 _ _).trans (teq hc4_2).2) ?_
      refine XS.aloadN W1.here hx rfl (hb hby d_prog_24_method_3_code_7) rfl rfl ?_
      exact k
    refine W1.getF hx (ww hw (i := 40) rfl) Fy1 (g := (mkF m 8 #[.val (.ref x), .val (.ref y)] [(.ref y)])) rfl rfl (hb hby d_prog_24_method_3_code_8) (fun T3 W3 => ?_)
    change Fi _ _ _ _ _ _ _ _ _ _ (T3.setTop (mkF m 11 #[.val (.ref x), .val (.ref y)] [(.int w2)]))
    by_cases hc11_4 : w2 = (0 : Int32)
    · refine Fi.by' (st' := T3.setTop (mkF m 15 #[.val (.ref x), .val (.ref y)] [(.ref x)])) (fun t k => ?_) ?_
      · refine XS.ifNo W3.here hx rfl (hb hby d_prog_24_method_3_code_11) rfl ((if0 _ _).trans (teq hc11_4).2) ?_
        refine XS.aloadN W3.here hx rfl (hb hby d_prog_24_method_3_code_14) rfl rfl ?_
        exact k
      refine W3.getF hx (ww hw (i := 38) rfl) Fx2 (g := (mkF m 15 #[.val (.ref x), .val (.ref y)] [(.ref x)])) rfl rfl (hb hby d_prog_24_method_3_code_15) (fun T5 W5 => ?_)
      change Fi _ _ _ _ _ _ _ _ _ _ (T5.setTop (mkF m 18 #[.val (.ref x), .val (.ref y)] [(.ref s1)]))
      refine Fi.by' (st' := T5.setTop (mkF m 19 #[.val (.ref x), .val (.ref y)] [(.ref y), (.ref s1)])) (fun t k => ?_) ?_
      · refine XS.aloadN W5.here hx rfl (hb hby d_prog_24_method_3_code_18) rfl rfl ?_
        exact k
      refine W5.getF hx (ww hw (i := 38) rfl) Fy2 (g := (mkF m 19 #[.val (.ref x), .val (.ref y)] [(.ref y), (.ref s1)])) rfl rfl (hb hby d_prog_24_method_3_code_19) (fun T6 W6 => ?_)
      change Fi _ _ _ _ _ _ _ _ _ _ (T6.setTop (mkF m 22 #[.val (.ref x), .val (.ref y)] [(.ref s2), (.ref s1)]))
      refine W6.callV hx (y := (⟨"java/lang/String", "equals", "(Ljava/lang/Object;)Z"⟩ : MethodName)) (C := "java/lang/String") (ww hw (i := 58) rfl) (ww hw (i := 59) rfl) (ww hw (i := 61) rfl) (ww hw (i := 60) rfl) (by decide) (payQ (Wd := 0) hw U1 U2 S0 hz (by decide) (by decide)) (U1).exa (g := (mkF m 22 #[.val (.ref x), .val (.ref y)] [(.ref s2), (.ref s1)])) rfl (by rw [hml]; rfl) (argsL := [(.ref s2)]) (rest := []) (lenOf pd_2 rfl) rfl rfl (Nat.le_of_ble_eq_true rfl) (hb hby d_prog_24_method_3_code_22) (by decide) (by decide) (fun v7 T7 h7 W7 sz7 q7 => ?_)
      obtain ⟨⟨r7, rfl, hr7⟩, rfl⟩ := q7
      change Fi _ _ _ _ _ _ _ _ _ _ (T7.setTop (mkF m 25 #[.val (.ref x), .val (.ref y)] [(.int r7)]))
      by_cases hc25_8 : r7 = (0 : Int32)
      · refine Fi.by' (st' := T7.setTop (mkF m 33 #[.val (.ref x), .val (.ref y)] [(.int (0 : Int32))])) (fun t k => ?_) ?_
        · refine XS.ifYes W7.here hx rfl (pc0 := 25) (pc' := 32) rfl (hb hby d_prog_24_method_3_code_25) rfl ((if0 _ _).trans (teq hc25_8).1) (by decide) (by decide) ?_
          refine iconstZ W7.here hx rfl (hb hby d_prog_24_method_3_code_32) (z := (0 : Int32)) rfl ?_
          exact k
        exact W7.iret hx hlk hret (by simp) rfl (hb hby d_prog_24_method_3_code_33) ⟨_, rfl, Or.inr ⟨rfl, fun q => hr7.elim (fun u => absurd (u.1.symm.trans hc25_8) (by decide)) (fun u => u.2 q.2.2)⟩, rfl⟩ (by decide) (by decide)
      · refine Fi.by' (st' := T7.setTop (mkF m 33 #[.val (.ref x), .val (.ref y)] [(.int (1 : Int32))])) (fun t k => ?_) ?_
        · refine XS.ifNo W7.here hx rfl (hb hby d_prog_24_method_3_code_25) rfl ((if0 _ _).trans (feq hc25_8).1) ?_
          refine iconstZ W7.here hx rfl (hb hby d_prog_24_method_3_code_28) (z := (1 : Int32)) rfl ?_
          refine XS.goto W7.here hx rfl (pc0 := 29) (pc' := 33) rfl (hb hby d_prog_24_method_3_code_29) (by decide) (by decide) ?_
          exact k
        exact W7.iret hx hlk hret (by simp) rfl (hb hby d_prog_24_method_3_code_33) ⟨_, rfl, Or.inl ⟨rfl, hc4_2, hc11_4, hr7.elim (fun u => u.2) (fun u => absurd u.1 hc25_8)⟩, rfl⟩ (by decide) (by decide)
    · refine Fi.by' (st' := T3.setTop (mkF m 33 #[.val (.ref x), .val (.ref y)] [(.int (0 : Int32))])) (fun t k => ?_) ?_
      · refine XS.ifYes W3.here hx rfl (pc0 := 11) (pc' := 32) rfl (hb hby d_prog_24_method_3_code_11) rfl ((if0 _ _).trans (feq hc11_4).2) (by decide) (by decide) ?_
        refine iconstZ W3.here hx rfl (hb hby d_prog_24_method_3_code_32) (z := (0 : Int32)) rfl ?_
        exact k
      exact W3.iret hx hlk hret (by simp) rfl (hb hby d_prog_24_method_3_code_33) ⟨_, rfl, Or.inr ⟨rfl, fun q => hc11_4 q.2.1⟩, rfl⟩ (by decide) (by decide)
  · refine Fi.by' (st' := T1.setTop (mkF m 33 #[.val (.ref x), .val (.ref y)] [(.int (0 : Int32))])) (fun t k => ?_) ?_
    · refine XS.ifYes W1.here hx rfl (pc0 := 4) (pc' := 32) rfl (hb hby d_prog_24_method_3_code_4) rfl ((if0 _ _).trans (feq hc4_2).2) (by decide) (by decide) ?_
      refine iconstZ W1.here hx rfl (hb hby d_prog_24_method_3_code_32) (z := (0 : Int32)) rfl ?_
      exact k
    exact W1.iret hx hlk hret (by simp) rfl (hb hby d_prog_24_method_3_code_33) ⟨_, rfl, Or.inr ⟨rfl, fun q => hc4_2 q.1⟩, rfl⟩ (by decide) (by decide)
theorem plain_m1 {l1 l2 c0 c1 v1 v3 v9 v11 v19 v21 r29 : Int32} (h1 : l1 = 0 ∨ l1 = 1 ∨ l1 = 2) (h2 : l2 = 0 ∨ l2 = 1 ∨ l2 = 2) (hs : ((l1 = l2) ∧ (l1 < (1 : Int32)) ∧ (l1 < (2 : Int32)) ∧ (v19 = (1 : Int32))) ∨ ((l1 = l2) ∧ (l1 < (1 : Int32)) ∧ (¬ (l1 < (2 : Int32))) ∧ (c1 = v11) ∧ (v19 = (1 : Int32))) ∨ ((l1 = l2) ∧ (l1 < (1 : Int32)) ∧ (¬ (l1 < (2 : Int32))) ∧ (¬ (c1 = v11)) ∧ (v19 = (0 : Int32))) ∨ ((l1 = l2) ∧ (¬ (l1 < (1 : Int32))) ∧ (c0 = v9) ∧ (l1 < (2 : Int32)) ∧ (v19 = (1 : Int32))) ∨ ((l1 = l2) ∧ (¬ (l1 < (1 : Int32))) ∧ (c0 = v9) ∧ (¬ (l1 < (2 : Int32))) ∧ (c1 = v11) ∧ (v19 = (1 : Int32))) ∨ ((l1 = l2) ∧ (¬ (l1 < (1 : Int32))) ∧ (c0 = v9) ∧ (¬ (l1 < (2 : Int32))) ∧ (¬ (c1 = v11)) ∧ (v19 = (0 : Int32))) ∨ ((l1 = l2) ∧ (¬ (l1 < (1 : Int32))) ∧ (¬ (c0 = v9)) ∧ (v19 = (0 : Int32))) ∨ ((¬ (l1 = l2)) ∧ (v19 = (0 : Int32)))) (he : ((v1 = (0 : Int32)) ∧ (v3 = (0 : Int32)) ∧ (v19 = (0 : Int32)) ∧ (v21 = (0 : Int32))) ∨ ((v1 = (0 : Int32)) ∧ (v3 = (0 : Int32)) ∧ (¬ (v19 = (0 : Int32))) ∧ (v21 = (1 : Int32))) ∨ ((v1 = (0 : Int32)) ∧ (¬ (v3 = (0 : Int32))) ∧ (v21 = (0 : Int32))) ∨ ((¬ (v1 = (0 : Int32))) ∧ (v21 = (0 : Int32)))) (hr : (r29 = 1 ∧ v1 = 0 ∧ v3 = 0 ∧ drawn_make l1 c0 c1 = drawn_make l2 v9 v11) ∨ (r29 = 0 ∧ ¬ (v1 = 0 ∧ v3 = 0 ∧ drawn_make l1 c0 c1 = drawn_make l2 v9 v11))) : r29 = v21 := by
  rcases h1 with rfl | rfl | rfl <;> rcases h2 with rfl | rfl | rfl <;> simp [drawn_make] at hs he hr ⊢ <;> (rcases hr with ⟨q1, q2, q3, q4⟩ | ⟨q1, q2⟩ <;> rcases he with he | he | he | he <;> simp_all)
def Q_law (Z : State) (p0 p1 p2 zc : Int32) (h0 : Heap) (v : Option Value) (h : Heap) : Prop := v = some (.int 1)
set_option maxRecDepth 65536 in
set_option maxHeartbeats 40000000 in
theorem rm_law (l : Launch) (Z : State) (a0 : Array Value) (hw : ∀ d ∈ tables_1, d.before a0 Z = true) (p0 p1 p2 zc : Int32) (h0 : Heap) (n0 : Nat) (Z0 : n0 ≤ h0.size) (S0 : Sta Z h0 "java/lang/String" "COMPACT_STRINGS" "Z" (.int zc)) (hz : ¬ zc = 0) :
    Con l Z EL x code maxLocals ret tables_1 room_1 #[(.int p0), (.int p1), (.int p2)] h0 n0 (Q_law Z p0 p1 p2 zc h0) := by
  refine Con.intro (own := "com/example/record_hold/recordhold/text/EntityTagMatchesStronglyPinLaw") rfl (plainFor_of_name plain_com_example_record_hold_recordhold_text_EntityTagMatchesStronglyPinLaw) (hEL hw) ?_
  intro p e s m below meth c s₁ hx hby hml hret hlk hnm W0
  refine Fi.cast (show entryFrame m #[(.int p0), (.int p1), (.int p2)] maxLocals = (mkF m 0 #[.val (.int p0), .val (.int p1), .val (.int p2), .unset, .unset, .unset, .unset, .unset, .unset, .unset, .unset, .unset, .unset, .unset, .unset, .unset, .unset, .unset, .unset] []) from by first | (simp [entryFrame, mkF, argsToLocals, Value.category, maxLocals]; done) | rfl) ?_
  refine Fi.by' (st' := s₁.setTop (mkF m 3 #[.val (.int p0), .val (.int p1), .val (.int p2), .unset, .unset, .unset, .unset, .unset, .unset, .unset, .unset, .unset, .unset, .unset, .unset, .unset, .unset, .unset, .unset] [(.int (p2 &&& (1 : Int32)))])) (fun t k => ?_) ?_
  · refine XS.iloadN W0.here hx rfl (hb hby at_0) rfl ?_
    refine iconstZ W0.here hx rfl (hb hby at_1) (z := (1 : Int32)) rfl ?_
    refine XS.iand W0.here hx rfl (hb hby at_2) rfl ?_
    exact k
  have J3_2 : ∀ (v1 : Int32), ((((p2 &&& (1 : Int32)) = (0 : Int32)) ∧ (v1 = (0 : Int32))) ∨ ((¬ ((p2 &&& (1 : Int32)) = (0 : Int32))) ∧ (v1 = (1 : Int32)))) → Fi p e below s Z EL n0 (Q_law Z p0 p1 p2 zc h0) room_1.cells room_1.slots (s₁.setTop (mkF m 11 #[.val (.int p0), .val (.int p1), .val (.int p2), .unset, .unset, .unset, .unset, .unset, .unset, .unset, .unset, .unset, .unset, .unset, .unset, .unset, .unset, .unset, .unset] [(.int v1)])) := by
    intro v1 hv1
    have b_v1 := b01 hv1
    refine Fi.by' (st' := s₁.setTop (mkF m 15 #[.val (.int p0), .val (.int p1), .val (.int p2), .val (.int v1), .unset, .unset, .unset, .unset, .unset, .unset, .unset, .unset, .unset, .unset, .unset, .unset, .unset, .unset, .unset] [(.int (p2 &&& (2 : Int32)))])) (fun t k => ?_) ?_
    · refine XS.istoreN W0.here hx rfl (hb hby at_11) rfl (l' := #[.val (.int p0), .val (.int p1), .val (.int p2), .val (.int v1), .unset, .unset, .unset, .unset, .unset, .unset, .unset, .unset, .unset, .unset, .unset, .unset, .unset, .unset, .unset]) rfl ?_
      refine XS.iloadN W0.here hx rfl (hb hby at_12) rfl ?_
      refine iconstZ W0.here hx rfl (hb hby at_13) (z := (2 : Int32)) rfl ?_
      refine XS.iand W0.here hx rfl (hb hby at_14) rfl ?_
      exact k
    have J15_4 : ∀ (v3 : Int32), ((((p2 &&& (2 : Int32)) = (0 : Int32)) ∧ (v3 = (0 : Int32))) ∨ ((¬ ((p2 &&& (2 : Int32)) = (0 : Int32))) ∧ (v3 = (1 : Int32)))) → Fi p e below s Z EL n0 (Q_law Z p0 p1 p2 zc h0) room_1.cells room_1.slots (s₁.setTop (mkF m 23 #[.val (.int p0), .val (.int p1), .val (.int p2), .val (.int v1), .unset, .unset, .unset, .unset, .unset, .unset, .unset, .unset, .unset, .unset, .unset, .unset, .unset, .unset, .unset] [(.int v3)])) := by
      intro v3 hv3
      have b_v3 := b01 hv3
      refine Fi.by' (st' := s₁.setTop (mkF m 32 #[.val (.int p0), .val (.int p1), .val (.int p2), .val (.int v1), .val (.int v3), .unset, .unset, .unset, .unset, .unset, .unset, .unset, .unset, .unset, .unset, .unset, .unset, .unset, .unset] [(.int ((((p2.toUInt32 >>> ((2 : Int32) &&& 31).toUInt32).toInt32) &&& (3 : Int32)) - ((((p2.toUInt32 >>> ((2 : Int32) &&& 31).toUInt32).toInt32) &&& (3 : Int32)) / (3 : Int32)) * (3 : Int32)))])) (fun t k => ?_) ?_
      · refine XS.istore W0.here hx rfl (hb hby at_23) rfl (l' := #[.val (.int p0), .val (.int p1), .val (.int p2), .val (.int v1), .val (.int v3), .unset, .unset, .unset, .unset, .unset, .unset, .unset, .unset, .unset, .unset, .unset, .unset, .unset, .unset]) rfl ?_
        refine XS.iloadN W0.here hx rfl (hb hby at_25) rfl ?_
        refine iconstZ W0.here hx rfl (hb hby at_26) (z := (2 : Int32)) rfl ?_
        refine XS.iushr W0.here hx rfl (hb hby at_27) rfl ?_
        refine iconstZ W0.here hx rfl (hb hby at_28) (z := (3 : Int32)) rfl ?_
        refine XS.iand W0.here hx rfl (hb hby at_29) rfl ?_
        refine iconstZ W0.here hx rfl (hb hby at_30) (z := (3 : Int32)) rfl ?_
        refine XS.irem W0.here hx rfl (hb hby at_31) rfl (by decide) ?_
        exact k
      obtain ⟨l1, hl1⟩ : ∃ z : Int32, z = ((((p2.toUInt32 >>> ((2 : Int32) &&& 31).toUInt32).toInt32) &&& (3 : Int32)) - ((((p2.toUInt32 >>> ((2 : Int32) &&& 31).toUInt32).toInt32) &&& (3 : Int32)) / (3 : Int32)) * (3 : Int32)) := ⟨_, rfl⟩
      rw [← hl1]
      refine Fi.by' (st' := s₁.setTop (mkF m 41 #[.val (.int p0), .val (.int p1), .val (.int p2), .val (.int v1), .val (.int v3), .val (.int l1), .unset, .unset, .unset, .unset, .unset, .unset, .unset, .unset, .unset, .unset, .unset, .unset, .unset] [(.int ((((p2.toUInt32 >>> ((4 : Int32) &&& 31).toUInt32).toInt32) &&& (3 : Int32)) - ((((p2.toUInt32 >>> ((4 : Int32) &&& 31).toUInt32).toInt32) &&& (3 : Int32)) / (3 : Int32)) * (3 : Int32)))])) (fun t k => ?_) ?_
      · refine XS.istore W0.here hx rfl (hb hby at_32) rfl (l' := #[.val (.int p0), .val (.int p1), .val (.int p2), .val (.int v1), .val (.int v3), .val (.int l1), .unset, .unset, .unset, .unset, .unset, .unset, .unset, .unset, .unset, .unset, .unset, .unset, .unset]) rfl ?_
        refine XS.iloadN W0.here hx rfl (hb hby at_34) rfl ?_
        refine iconstZ W0.here hx rfl (hb hby at_35) (z := (4 : Int32)) rfl ?_
        refine XS.iushr W0.here hx rfl (hb hby at_36) rfl ?_
        refine iconstZ W0.here hx rfl (hb hby at_37) (z := (3 : Int32)) rfl ?_
        refine XS.iand W0.here hx rfl (hb hby at_38) rfl ?_
        refine iconstZ W0.here hx rfl (hb hby at_39) (z := (3 : Int32)) rfl ?_
        refine XS.irem W0.here hx rfl (hb hby at_40) rfl (by decide) ?_
        exact k
      obtain ⟨l2, hl2⟩ : ∃ z : Int32, z = ((((p2.toUInt32 >>> ((4 : Int32) &&& 31).toUInt32).toInt32) &&& (3 : Int32)) - ((((p2.toUInt32 >>> ((4 : Int32) &&& 31).toUInt32).toInt32) &&& (3 : Int32)) / (3 : Int32)) * (3 : Int32)) := ⟨_, rfl⟩
      rw [← hl2]
      refine Fi.by' (st' := s₁.setTop (mkF m 47 #[.val (.int p0), .val (.int p1), .val (.int p2), .val (.int v1), .val (.int v3), .val (.int l1), .val (.int l2), .unset, .unset, .unset, .unset, .unset, .unset, .unset, .unset, .unset, .unset, .unset, .unset] [(.int (p2 &&& (64 : Int32)))])) (fun t k => ?_) ?_
      · refine XS.istore W0.here hx rfl (hb hby at_41) rfl (l' := #[.val (.int p0), .val (.int p1), .val (.int p2), .val (.int v1), .val (.int v3), .val (.int l1), .val (.int l2), .unset, .unset, .unset, .unset, .unset, .unset, .unset, .unset, .unset, .unset, .unset, .unset]) rfl ?_
        refine XS.iloadN W0.here hx rfl (hb hby at_43) rfl ?_
        refine bipushZ W0.here hx rfl (hb hby at_44) (z := (64 : Int32)) rfl ?_
        refine XS.iand W0.here hx rfl (hb hby at_46) rfl ?_
        exact k
      have J47_6 : ∀ (v5 : Int32), ((((p2 &&& (64 : Int32)) = (0 : Int32)) ∧ (v5 = (0 : Int32))) ∨ ((¬ ((p2 &&& (64 : Int32)) = (0 : Int32))) ∧ (v5 = (1 : Int32)))) → Fi p e below s Z EL n0 (Q_law Z p0 p1 p2 zc h0) room_1.cells room_1.slots (s₁.setTop (mkF m 55 #[.val (.int p0), .val (.int p1), .val (.int p2), .val (.int v1), .val (.int v3), .val (.int l1), .val (.int l2), .unset, .unset, .unset, .unset, .unset, .unset, .unset, .unset, .unset, .unset, .unset, .unset] [(.int v5)])) := by
        intro v5 hv5
        have b_v5 := b01 hv5
        refine Fi.by' (st' := s₁.setTop (mkF m 62 #[.val (.int p0), .val (.int p1), .val (.int p2), .val (.int v1), .val (.int v3), .val (.int l1), .val (.int l2), .val (.int v5), .unset, .unset, .unset, .unset, .unset, .unset, .unset, .unset, .unset, .unset, .unset] [(.int (p2 &&& (128 : Int32)))])) (fun t k => ?_) ?_
        · refine XS.istore W0.here hx rfl (hb hby at_55) rfl (l' := #[.val (.int p0), .val (.int p1), .val (.int p2), .val (.int v1), .val (.int v3), .val (.int l1), .val (.int l2), .val (.int v5), .unset, .unset, .unset, .unset, .unset, .unset, .unset, .unset, .unset, .unset, .unset]) rfl ?_
          refine XS.iloadN W0.here hx rfl (hb hby at_57) rfl ?_
          refine sipushZ W0.here hx rfl (hb hby at_58) (z := (128 : Int32)) rfl ?_
          refine XS.iand W0.here hx rfl (hb hby at_61) rfl ?_
          exact k
        have J62_8 : ∀ (v7 : Int32), ((((p2 &&& (128 : Int32)) = (0 : Int32)) ∧ (v7 = (0 : Int32))) ∨ ((¬ ((p2 &&& (128 : Int32)) = (0 : Int32))) ∧ (v7 = (1 : Int32)))) → Fi p e below s Z EL n0 (Q_law Z p0 p1 p2 zc h0) room_1.cells room_1.slots (s₁.setTop (mkF m 70 #[.val (.int p0), .val (.int p1), .val (.int p2), .val (.int v1), .val (.int v3), .val (.int l1), .val (.int l2), .val (.int v5), .unset, .unset, .unset, .unset, .unset, .unset, .unset, .unset, .unset, .unset, .unset] [(.int v7)])) := by
          intro v7 hv7
          have b_v7 := b01 hv7
          refine Fi.by' (st' := s₁.setTop (mkF m 78 #[.val (.int p0), .val (.int p1), .val (.int p2), .val (.int v1), .val (.int v3), .val (.int l1), .val (.int l2), .val (.int v5), .val (.int v7), .unset, .unset, .unset, .unset, .unset, .unset, .unset, .unset, .unset, .unset] [(.int (p0 &&& (255 : Int32)))])) (fun t k => ?_) ?_
          · refine XS.istore W0.here hx rfl (hb hby at_70) rfl (l' := #[.val (.int p0), .val (.int p1), .val (.int p2), .val (.int v1), .val (.int v3), .val (.int l1), .val (.int l2), .val (.int v5), .val (.int v7), .unset, .unset, .unset, .unset, .unset, .unset, .unset, .unset, .unset, .unset]) rfl ?_
            refine XS.iloadN W0.here hx rfl (hb hby at_72) rfl ?_
            refine sipushZ W0.here hx rfl (hb hby at_73) (z := (255 : Int32)) rfl ?_
            refine XS.iand W0.here hx rfl (hb hby at_76) rfl ?_
            refine i2cZ W0.here hx rfl (hb hby at_77) rfl (z := (p0 &&& (255 : Int32))) (i2c_mask _) ?_
            exact k
          obtain ⟨c0, hc0⟩ : ∃ z : Int32, z = (p0 &&& (255 : Int32)) := ⟨_, rfl⟩
          rw [← hc0]
          refine Fi.by' (st' := s₁.setTop (mkF m 89 #[.val (.int p0), .val (.int p1), .val (.int p2), .val (.int v1), .val (.int v3), .val (.int l1), .val (.int l2), .val (.int v5), .val (.int v7), .val (.int c0), .unset, .unset, .unset, .unset, .unset, .unset, .unset, .unset, .unset] [(.int (((p0.toUInt32 >>> ((8 : Int32) &&& 31).toUInt32).toInt32) &&& (255 : Int32)))])) (fun t k => ?_) ?_
          · refine XS.istore W0.here hx rfl (hb hby at_78) rfl (l' := #[.val (.int p0), .val (.int p1), .val (.int p2), .val (.int v1), .val (.int v3), .val (.int l1), .val (.int l2), .val (.int v5), .val (.int v7), .val (.int c0), .unset, .unset, .unset, .unset, .unset, .unset, .unset, .unset, .unset]) rfl ?_
            refine XS.iloadN W0.here hx rfl (hb hby at_80) rfl ?_
            refine bipushZ W0.here hx rfl (hb hby at_81) (z := (8 : Int32)) rfl ?_
            refine XS.iushr W0.here hx rfl (hb hby at_83) rfl ?_
            refine sipushZ W0.here hx rfl (hb hby at_84) (z := (255 : Int32)) rfl ?_
            refine XS.iand W0.here hx rfl (hb hby at_87) rfl ?_
            refine i2cZ W0.here hx rfl (hb hby at_88) rfl (z := (((p0.toUInt32 >>> ((8 : Int32) &&& 31).toUInt32).toInt32) &&& (255 : Int32))) (i2c_mask _) ?_
            exact k
          obtain ⟨c1, hc1⟩ : ∃ z : Int32, z = (((p0.toUInt32 >>> ((8 : Int32) &&& 31).toUInt32).toInt32) &&& (255 : Int32)) := ⟨_, rfl⟩
          rw [← hc1]
          refine Fi.by' (st' := s₁.setTop (mkF m 93 #[.val (.int p0), .val (.int p1), .val (.int p2), .val (.int v1), .val (.int v3), .val (.int l1), .val (.int l2), .val (.int v5), .val (.int v7), .val (.int c0), .val (.int c1), .unset, .unset, .unset, .unset, .unset, .unset, .unset, .unset] [(.int v5)])) (fun t k => ?_) ?_
          · refine XS.istore W0.here hx rfl (hb hby at_89) rfl (l' := #[.val (.int p0), .val (.int p1), .val (.int p2), .val (.int v1), .val (.int v3), .val (.int l1), .val (.int l2), .val (.int v5), .val (.int v7), .val (.int c0), .val (.int c1), .unset, .unset, .unset, .unset, .unset, .unset, .unset, .unset]) rfl ?_
            refine XS.iload W0.here hx rfl (hb hby at_91) rfl ?_
            exact k
          have J93_10 : ∀ (v9 : Int32), (((v5 = (0 : Int32)) ∧ (v9 = (p1 &&& (255 : Int32)))) ∨ ((¬ (v5 = (0 : Int32))) ∧ (v9 = c0))) → Fi p e below s Z EL n0 (Q_law Z p0 p1 p2 zc h0) room_1.cells room_1.slots (s₁.setTop (mkF m 107 #[.val (.int p0), .val (.int p1), .val (.int p2), .val (.int v1), .val (.int v3), .val (.int l1), .val (.int l2), .val (.int v5), .val (.int v7), .val (.int c0), .val (.int c1), .unset, .unset, .unset, .unset, .unset, .unset, .unset, .unset] [(.int v9)])) := by
            intro v9 hv9
            have P_v9 : ¬ v9 < 0 ∧ ¬ (255 : Int32) < v9 := by rcases hv9 with q | q <;> rw [q.2] <;> first | exact and255 _ | (rw [hc0]; exact and255 _) | (rw [hc1]; exact and255 _)
            refine Fi.by' (st' := s₁.setTop (mkF m 111 #[.val (.int p0), .val (.int p1), .val (.int p2), .val (.int v1), .val (.int v3), .val (.int l1), .val (.int l2), .val (.int v5), .val (.int v7), .val (.int c0), .val (.int c1), .val (.int v9), .unset, .unset, .unset, .unset, .unset, .unset, .unset] [(.int v7)])) (fun t k => ?_) ?_
            · refine XS.istore W0.here hx rfl (hb hby at_107) rfl (l' := #[.val (.int p0), .val (.int p1), .val (.int p2), .val (.int v1), .val (.int v3), .val (.int l1), .val (.int l2), .val (.int v5), .val (.int v7), .val (.int c0), .val (.int c1), .val (.int v9), .unset, .unset, .unset, .unset, .unset, .unset, .unset]) rfl ?_
              refine XS.iload W0.here hx rfl (hb hby at_109) rfl ?_
              exact k
            have J111_12 : ∀ (v11 : Int32), (((v7 = (0 : Int32)) ∧ (v11 = (((p1.toUInt32 >>> ((8 : Int32) &&& 31).toUInt32).toInt32) &&& (255 : Int32)))) ∨ ((¬ (v7 = (0 : Int32))) ∧ (v11 = c1))) → Fi p e below s Z EL n0 (Q_law Z p0 p1 p2 zc h0) room_1.cells room_1.slots (s₁.setTop (mkF m 128 #[.val (.int p0), .val (.int p1), .val (.int p2), .val (.int v1), .val (.int v3), .val (.int l1), .val (.int l2), .val (.int v5), .val (.int v7), .val (.int c0), .val (.int c1), .val (.int v9), .unset, .unset, .unset, .unset, .unset, .unset, .unset] [(.int v11)])) := by
              intro v11 hv11
              have P_v11 : ¬ v11 < 0 ∧ ¬ (255 : Int32) < v11 := by rcases hv11 with q | q <;> rw [q.2] <;> first | exact and255 _ | (rw [hc0]; exact and255 _) | (rw [hc1]; exact and255 _)
              refine Fi.by' (st' := s₁.setTop (mkF m 136 #[.val (.int p0), .val (.int p1), .val (.int p2), .val (.int v1), .val (.int v3), .val (.int l1), .val (.int l2), .val (.int v5), .val (.int v7), .val (.int c0), .val (.int c1), .val (.int v9), .val (.int v11), .unset, .unset, .unset, .unset, .unset, .unset] [(.int c1), (.int c0), (.int l1)])) (fun t k => ?_) ?_
              · refine XS.istore W0.here hx rfl (hb hby at_128) rfl (l' := #[.val (.int p0), .val (.int p1), .val (.int p2), .val (.int v1), .val (.int v3), .val (.int l1), .val (.int l2), .val (.int v5), .val (.int v7), .val (.int c0), .val (.int c1), .val (.int v9), .val (.int v11), .unset, .unset, .unset, .unset, .unset, .unset]) rfl ?_
                refine XS.iload W0.here hx rfl (hb hby at_130) rfl ?_
                refine XS.iload W0.here hx rfl (hb hby at_132) rfl ?_
                refine XS.iload W0.here hx rfl (hb hby at_134) rfl ?_
                exact k
              refine W0.callS hx (y := (⟨"com/example/record_hold/recordhold/text/EntityTagMatchesStronglyPinLaw", "make", "(ICC)Ljava/lang/String;"⟩ : MethodName)) (ww hw (i := 0) rfl) (ww hw (i := 1) rfl) (ww hw (i := 2) rfl) (ww hw (i := 3) rfl) (by decide) (Pay.of_con (Wd := 0) (rm_make l Z a0 hw zc l1 c0 c1 h0 n0 (by omega) S0 hz (by rw [hc0]; exact and255 _) (by rw [hc1]; exact and255 _)) (ww hw (i := 3) rfl) (ww hw (i := 2) rfl) (hEL hw) (by decide) (by decide)) (g := (mkF m 136 #[.val (.int p0), .val (.int p1), .val (.int p2), .val (.int v1), .val (.int v3), .val (.int l1), .val (.int l2), .val (.int v5), .val (.int v7), .val (.int c0), .val (.int c1), .val (.int v9), .val (.int v11), .unset, .unset, .unset, .unset, .unset, .unset] [(.int c1), (.int c0), (.int l1)])) rfl (by rw [hml]; rfl) (argsL := [(.int l1), (.int c0), (.int c1)]) (rest := []) (lenOf pd_3 rfl) rfl rfl (Nat.le_of_ble_eq_true rfl) (hb hby at_136) (by decide) (by decide) (fun v13 T13 h13 W13 sz13 q13 => ?_)
              obtain ⟨a13, rfl, E13, g13, F13⟩ := q13
              change Fi _ _ _ _ _ _ _ _ _ _ (T13.setTop (mkF m 139 #[.val (.int p0), .val (.int p1), .val (.int p2), .val (.int v1), .val (.int v3), .val (.int l1), .val (.int l2), .val (.int v5), .val (.int v7), .val (.int c0), .val (.int c1), .val (.int v9), .val (.int v11), .unset, .unset, .unset, .unset, .unset, .unset] [(.ref a13)]))
              refine Fi.by' (st' := T13.setTop (mkF m 147 #[.val (.int p0), .val (.int p1), .val (.int p2), .val (.int v1), .val (.int v3), .val (.int l1), .val (.int l2), .val (.int v5), .val (.int v7), .val (.int c0), .val (.int c1), .val (.int v9), .val (.int v11), .val (.ref a13), .unset, .unset, .unset, .unset, .unset] [(.int v11), (.int v9), (.int l2)])) (fun t k => ?_) ?_
              · refine XS.astore W13.here hx rfl (hb hby at_139) rfl rfl (l' := #[.val (.int p0), .val (.int p1), .val (.int p2), .val (.int v1), .val (.int v3), .val (.int l1), .val (.int l2), .val (.int v5), .val (.int v7), .val (.int c0), .val (.int c1), .val (.int v9), .val (.int v11), .val (.ref a13), .unset, .unset, .unset, .unset, .unset]) rfl ?_
                refine XS.iload W13.here hx rfl (hb hby at_141) rfl ?_
                refine XS.iload W13.here hx rfl (hb hby at_143) rfl ?_
                refine XS.iload W13.here hx rfl (hb hby at_145) rfl ?_
                exact k
              refine W13.callS hx (y := (⟨"com/example/record_hold/recordhold/text/EntityTagMatchesStronglyPinLaw", "make", "(ICC)Ljava/lang/String;"⟩ : MethodName)) (ww hw (i := 0) rfl) (ww hw (i := 1) rfl) (ww hw (i := 2) rfl) (ww hw (i := 3) rfl) (by decide) (Pay.of_con (Wd := 0) (rm_make l Z a0 hw zc l2 v9 v11 h13 n0 (by omega) (Sta.ext E13 S0) hz P_v9 P_v11) (ww hw (i := 3) rfl) (ww hw (i := 2) rfl) (hEL hw) (by decide) (by decide)) (g := (mkF m 147 #[.val (.int p0), .val (.int p1), .val (.int p2), .val (.int v1), .val (.int v3), .val (.int l1), .val (.int l2), .val (.int v5), .val (.int v7), .val (.int c0), .val (.int c1), .val (.int v9), .val (.int v11), .val (.ref a13), .unset, .unset, .unset, .unset, .unset] [(.int v11), (.int v9), (.int l2)])) rfl (by rw [hml]; rfl) (argsL := [(.int l2), (.int v9), (.int v11)]) (rest := []) (lenOf pd_3 rfl) rfl rfl (Nat.le_of_ble_eq_true rfl) (hb hby at_147) (by decide) (by decide) (fun v14 T14 h14 W14 sz14 q14 => ?_)
              obtain ⟨a14, rfl, E14, g14, F14⟩ := q14
              change Fi _ _ _ _ _ _ _ _ _ _ (T14.setTop (mkF m 150 #[.val (.int p0), .val (.int p1), .val (.int p2), .val (.int v1), .val (.int v3), .val (.int l1), .val (.int l2), .val (.int v5), .val (.int v7), .val (.int c0), .val (.int c1), .val (.int v9), .val (.int v11), .val (.ref a13), .unset, .unset, .unset, .unset, .unset] [(.ref a14)]))
              refine Fi.by' (st' := T14.setTop (mkF m 152 #[.val (.int p0), .val (.int p1), .val (.int p2), .val (.int v1), .val (.int v3), .val (.int l1), .val (.int l2), .val (.int v5), .val (.int v7), .val (.int c0), .val (.int c1), .val (.int v9), .val (.int v11), .val (.ref a13), .val (.ref a14), .unset, .unset, .unset, .unset] [])) (fun t k => ?_) ?_
              · refine XS.astore W14.here hx rfl (hb hby at_150) rfl rfl (l' := #[.val (.int p0), .val (.int p1), .val (.int p2), .val (.int v1), .val (.int v3), .val (.int l1), .val (.int l2), .val (.int v5), .val (.int v7), .val (.int c0), .val (.int c1), .val (.int v9), .val (.int v11), .val (.ref a13), .val (.ref a14), .unset, .unset, .unset, .unset]) rfl ?_
                exact k
              refine W14.new hx (ww hw (i := 26) rfl) (ww hw (i := 27) rfl) (ww hw (i := 28) rfl) (g := (mkF m 152 #[.val (.int p0), .val (.int p1), .val (.int p2), .val (.int v1), .val (.int v3), .val (.int l1), .val (.int l2), .val (.int v5), .val (.int v7), .val (.int c0), .val (.int c1), .val (.int v9), .val (.int v11), .val (.ref a13), .val (.ref a14), .unset, .unset, .unset, .unset] [])) rfl (hb hby at_152) (by decide) (by decide) (fun T15 h15 a15 ha15 W15 E15 A15 D15 => ?_)
              change Fi _ _ _ _ _ _ _ _ _ _ (T15.setTop (mkF m 155 #[.val (.int p0), .val (.int p1), .val (.int p2), .val (.int v1), .val (.int v3), .val (.int l1), .val (.int l2), .val (.int v5), .val (.int v7), .val (.int c0), .val (.int c1), .val (.int v9), .val (.int v11), .val (.ref a13), .val (.ref a14), .unset, .unset, .unset, .unset] [(.ref a15)]))
              have sz15 := E15.1
              refine Fi.by' (st' := T15.setTop (mkF m 159 #[.val (.int p0), .val (.int p1), .val (.int p2), .val (.int v1), .val (.int v3), .val (.int l1), .val (.int l2), .val (.int v5), .val (.int v7), .val (.int c0), .val (.int c1), .val (.int v9), .val (.int v11), .val (.ref a13), .val (.ref a14), .unset, .unset, .unset, .unset] [(.int v1), (.ref a13), (.ref a15), (.ref a15)])) (fun t k => ?_) ?_
              · refine XS.dup W15.here hx rfl (hb hby at_155) rfl rfl ?_
                refine XS.aload W15.here hx rfl (hb hby at_156) rfl rfl ?_
                refine XS.iloadN W15.here hx rfl (hb hby at_158) rfl ?_
                exact k
              refine W15.callI hx (y := (⟨"com/example/record_hold/recordhold/text/EntityTag", "<init>", "(Ljava/lang/String;Z)V"⟩ : MethodName)) rfl (ww hw (i := 29) rfl) (ww hw (i := 30) rfl) (ww hw (i := 31) rfl) (by decide) (Pay.of_con (Wd := 1) (rm_init l Z a0 hw a15 a13 v1 h15 n0 (by omega) (by omega) A15 (D15 (Or.inr (ww hw (i := 39) rfl)) (ty := (.object "java/lang/String")) (by decide)) (D15 (Or.inr (ww hw (i := 41) rfl)) (ty := .boolean) (by decide)) b_v1) (ww hw (i := 31) rfl) (ww hw (i := 28) rfl) (hEL hw) (by decide) (by decide)) (a := a15) (g := (mkF m 159 #[.val (.int p0), .val (.int p1), .val (.int p2), .val (.int v1), .val (.int v3), .val (.int l1), .val (.int l2), .val (.int v5), .val (.int v7), .val (.int c0), .val (.int c1), .val (.int v9), .val (.int v11), .val (.ref a13), .val (.ref a14), .unset, .unset, .unset, .unset] [(.int v1), (.ref a13), (.ref a15), (.ref a15)])) rfl (by rw [hml]; rfl) (argsL := [(.ref a13), (.int v1)]) (rest := [(.ref a15)]) (lenOf pd_4 rfl) rfl rfl (Nat.le_of_ble_eq_true rfl) (hb hby at_159) (by decide) (by decide) (fun v16 T16 h16 W16 sz16 q16 => ?_)
              obtain ⟨rfl, K16, A16, F16_opaque, F16_weak⟩ := q16
              change Fi _ _ _ _ _ _ _ _ _ _ (T16.setTop (mkF m 162 #[.val (.int p0), .val (.int p1), .val (.int p2), .val (.int v1), .val (.int v3), .val (.int l1), .val (.int l2), .val (.int v5), .val (.int v7), .val (.int c0), .val (.int c1), .val (.int v9), .val (.int v11), .val (.ref a13), .val (.ref a14), .unset, .unset, .unset, .unset] [(.ref a15)]))
              have x16k : Ext h14 h16 := ext_keep1 E15 K16 (by omega)
              refine Fi.by' (st' := T16.setTop (mkF m 164 #[.val (.int p0), .val (.int p1), .val (.int p2), .val (.int v1), .val (.int v3), .val (.int l1), .val (.int l2), .val (.int v5), .val (.int v7), .val (.int c0), .val (.int c1), .val (.int v9), .val (.int v11), .val (.ref a13), .val (.ref a14), .val (.ref a15), .unset, .unset, .unset] [])) (fun t k => ?_) ?_
              · refine XS.astore W16.here hx rfl (hb hby at_162) rfl rfl (l' := #[.val (.int p0), .val (.int p1), .val (.int p2), .val (.int v1), .val (.int v3), .val (.int l1), .val (.int l2), .val (.int v5), .val (.int v7), .val (.int c0), .val (.int c1), .val (.int v9), .val (.int v11), .val (.ref a13), .val (.ref a14), .val (.ref a15), .unset, .unset, .unset]) rfl ?_
                exact k
              refine W16.new hx (ww hw (i := 26) rfl) (ww hw (i := 27) rfl) (ww hw (i := 28) rfl) (g := (mkF m 164 #[.val (.int p0), .val (.int p1), .val (.int p2), .val (.int v1), .val (.int v3), .val (.int l1), .val (.int l2), .val (.int v5), .val (.int v7), .val (.int c0), .val (.int c1), .val (.int v9), .val (.int v11), .val (.ref a13), .val (.ref a14), .val (.ref a15), .unset, .unset, .unset] [])) rfl (hb hby at_164) (by decide) (by decide) (fun T17 h17 a17 ha17 W17 E17 A17 D17 => ?_)
              change Fi _ _ _ _ _ _ _ _ _ _ (T17.setTop (mkF m 167 #[.val (.int p0), .val (.int p1), .val (.int p2), .val (.int v1), .val (.int v3), .val (.int l1), .val (.int l2), .val (.int v5), .val (.int v7), .val (.int c0), .val (.int c1), .val (.int v9), .val (.int v11), .val (.ref a13), .val (.ref a14), .val (.ref a15), .unset, .unset, .unset] [(.ref a17)]))
              have sz17 := E17.1
              refine Fi.by' (st' := T17.setTop (mkF m 172 #[.val (.int p0), .val (.int p1), .val (.int p2), .val (.int v1), .val (.int v3), .val (.int l1), .val (.int l2), .val (.int v5), .val (.int v7), .val (.int c0), .val (.int c1), .val (.int v9), .val (.int v11), .val (.ref a13), .val (.ref a14), .val (.ref a15), .unset, .unset, .unset] [(.int v3), (.ref a14), (.ref a17), (.ref a17)])) (fun t k => ?_) ?_
              · refine XS.dup W17.here hx rfl (hb hby at_167) rfl rfl ?_
                refine XS.aload W17.here hx rfl (hb hby at_168) rfl rfl ?_
                refine XS.iload W17.here hx rfl (hb hby at_170) rfl ?_
                exact k
              refine W17.callI hx (y := (⟨"com/example/record_hold/recordhold/text/EntityTag", "<init>", "(Ljava/lang/String;Z)V"⟩ : MethodName)) rfl (ww hw (i := 29) rfl) (ww hw (i := 30) rfl) (ww hw (i := 31) rfl) (by decide) (Pay.of_con (Wd := 1) (rm_init l Z a0 hw a17 a14 v3 h17 n0 (by omega) (by omega) A17 (D17 (Or.inr (ww hw (i := 39) rfl)) (ty := (.object "java/lang/String")) (by decide)) (D17 (Or.inr (ww hw (i := 41) rfl)) (ty := .boolean) (by decide)) b_v3) (ww hw (i := 31) rfl) (ww hw (i := 28) rfl) (hEL hw) (by decide) (by decide)) (a := a17) (g := (mkF m 172 #[.val (.int p0), .val (.int p1), .val (.int p2), .val (.int v1), .val (.int v3), .val (.int l1), .val (.int l2), .val (.int v5), .val (.int v7), .val (.int c0), .val (.int c1), .val (.int v9), .val (.int v11), .val (.ref a13), .val (.ref a14), .val (.ref a15), .unset, .unset, .unset] [(.int v3), (.ref a14), (.ref a17), (.ref a17)])) rfl (by rw [hml]; rfl) (argsL := [(.ref a14), (.int v3)]) (rest := [(.ref a17)]) (lenOf pd_4 rfl) rfl rfl (Nat.le_of_ble_eq_true rfl) (hb hby at_172) (by decide) (by decide) (fun v18 T18 h18 W18 sz18 q18 => ?_)
              obtain ⟨rfl, K18, A18, F18_opaque, F18_weak⟩ := q18
              change Fi _ _ _ _ _ _ _ _ _ _ (T18.setTop (mkF m 175 #[.val (.int p0), .val (.int p1), .val (.int p2), .val (.int v1), .val (.int v3), .val (.int l1), .val (.int l2), .val (.int v5), .val (.int v7), .val (.int c0), .val (.int c1), .val (.int v9), .val (.int v11), .val (.ref a13), .val (.ref a14), .val (.ref a15), .unset, .unset, .unset] [(.ref a17)]))
              have x18k : Ext h16 h18 := ext_keep1 E17 K18 (by omega)
              refine Fi.by' (st' := T18.setTop (mkF m 181 #[.val (.int p0), .val (.int p1), .val (.int p2), .val (.int v1), .val (.int v3), .val (.int l1), .val (.int l2), .val (.int v5), .val (.int v7), .val (.int c0), .val (.int c1), .val (.int v9), .val (.int v11), .val (.ref a13), .val (.ref a14), .val (.ref a15), .val (.ref a17), .unset, .unset] [(.int l2), (.int l1)])) (fun t k => ?_) ?_
              · refine XS.astore W18.here hx rfl (hb hby at_175) rfl rfl (l' := #[.val (.int p0), .val (.int p1), .val (.int p2), .val (.int v1), .val (.int v3), .val (.int l1), .val (.int l2), .val (.int v5), .val (.int v7), .val (.int c0), .val (.int c1), .val (.int v9), .val (.int v11), .val (.ref a13), .val (.ref a14), .val (.ref a15), .val (.ref a17), .unset, .unset]) rfl ?_
                refine XS.iload W18.here hx rfl (hb hby at_177) rfl ?_
                refine XS.iload W18.here hx rfl (hb hby at_179) rfl ?_
                exact k
              have J181_20 : ∀ (v19 : Int32), (((l1 = l2) ∧ (l1 < (1 : Int32)) ∧ (l1 < (2 : Int32)) ∧ (v19 = (1 : Int32))) ∨ ((l1 = l2) ∧ (l1 < (1 : Int32)) ∧ (¬ (l1 < (2 : Int32))) ∧ (c1 = v11) ∧ (v19 = (1 : Int32))) ∨ ((l1 = l2) ∧ (l1 < (1 : Int32)) ∧ (¬ (l1 < (2 : Int32))) ∧ (¬ (c1 = v11)) ∧ (v19 = (0 : Int32))) ∨ ((l1 = l2) ∧ (¬ (l1 < (1 : Int32))) ∧ (c0 = v9) ∧ (l1 < (2 : Int32)) ∧ (v19 = (1 : Int32))) ∨ ((l1 = l2) ∧ (¬ (l1 < (1 : Int32))) ∧ (c0 = v9) ∧ (¬ (l1 < (2 : Int32))) ∧ (c1 = v11) ∧ (v19 = (1 : Int32))) ∨ ((l1 = l2) ∧ (¬ (l1 < (1 : Int32))) ∧ (c0 = v9) ∧ (¬ (l1 < (2 : Int32))) ∧ (¬ (c1 = v11)) ∧ (v19 = (0 : Int32))) ∨ ((l1 = l2) ∧ (¬ (l1 < (1 : Int32))) ∧ (¬ (c0 = v9)) ∧ (v19 = (0 : Int32))) ∨ ((¬ (l1 = l2)) ∧ (v19 = (0 : Int32)))) → Fi p e below s Z EL n0 (Q_law Z p0 p1 p2 zc h0) room_1.cells room_1.slots (T18.setTop (mkF m 215 #[.val (.int p0), .val (.int p1), .val (.int p2), .val (.int v1), .val (.int v3), .val (.int l1), .val (.int l2), .val (.int v5), .val (.int v7), .val (.int c0), .val (.int c1), .val (.int v9), .val (.int v11), .val (.ref a13), .val (.ref a14), .val (.ref a15), .val (.ref a17), .unset, .unset] [(.int v19)])) := by
                intro v19 hv19
                refine Fi.by' (st' := T18.setTop (mkF m 218 #[.val (.int p0), .val (.int p1), .val (.int p2), .val (.int v1), .val (.int v3), .val (.int l1), .val (.int l2), .val (.int v5), .val (.int v7), .val (.int c0), .val (.int c1), .val (.int v9), .val (.int v11), .val (.ref a13), .val (.ref a14), .val (.ref a15), .val (.ref a17), .val (.int v19), .unset] [(.int v1)])) (fun t k => ?_) ?_
                · refine XS.istore W18.here hx rfl (hb hby at_215) rfl (l' := #[.val (.int p0), .val (.int p1), .val (.int p2), .val (.int v1), .val (.int v3), .val (.int l1), .val (.int l2), .val (.int v5), .val (.int v7), .val (.int c0), .val (.int c1), .val (.int v9), .val (.int v11), .val (.ref a13), .val (.ref a14), .val (.ref a15), .val (.ref a17), .val (.int v19), .unset]) rfl ?_
                  refine XS.iloadN W18.here hx rfl (hb hby at_217) rfl ?_
                  exact k
                have J218_22 : ∀ (v21 : Int32), (((v1 = (0 : Int32)) ∧ (v3 = (0 : Int32)) ∧ (v19 = (0 : Int32)) ∧ (v21 = (0 : Int32))) ∨ ((v1 = (0 : Int32)) ∧ (v3 = (0 : Int32)) ∧ (¬ (v19 = (0 : Int32))) ∧ (v21 = (1 : Int32))) ∨ ((v1 = (0 : Int32)) ∧ (¬ (v3 = (0 : Int32))) ∧ (v21 = (0 : Int32))) ∨ ((¬ (v1 = (0 : Int32))) ∧ (v21 = (0 : Int32)))) → Fi p e below s Z EL n0 (Q_law Z p0 p1 p2 zc h0) room_1.cells room_1.slots (T18.setTop (mkF m 236 #[.val (.int p0), .val (.int p1), .val (.int p2), .val (.int v1), .val (.int v3), .val (.int l1), .val (.int l2), .val (.int v5), .val (.int v7), .val (.int c0), .val (.int c1), .val (.int v9), .val (.int v11), .val (.ref a13), .val (.ref a14), .val (.ref a15), .val (.ref a17), .val (.int v19), .unset] [(.int v21)])) := by
                  intro v21 hv21
                  refine Fi.by' (st' := T18.setTop (mkF m 242 #[.val (.int p0), .val (.int p1), .val (.int p2), .val (.int v1), .val (.int v3), .val (.int l1), .val (.int l2), .val (.int v5), .val (.int v7), .val (.int c0), .val (.int c1), .val (.int v9), .val (.int v11), .val (.ref a13), .val (.ref a14), .val (.ref a15), .val (.ref a17), .val (.int v19), .val (.int v21)] [(.ref a17), (.ref a15)])) (fun t k => ?_) ?_
                  · refine XS.istore W18.here hx rfl (hb hby at_236) rfl (l' := #[.val (.int p0), .val (.int p1), .val (.int p2), .val (.int v1), .val (.int v3), .val (.int l1), .val (.int l2), .val (.int v5), .val (.int v7), .val (.int c0), .val (.int c1), .val (.int v9), .val (.int v11), .val (.ref a13), .val (.ref a14), .val (.ref a15), .val (.ref a17), .val (.int v19), .val (.int v21)]) rfl ?_
                    refine XS.aload W18.here hx rfl (hb hby at_238) rfl rfl ?_
                    refine XS.aload W18.here hx rfl (hb hby at_240) rfl rfl ?_
                    exact k
                  have x23 : Ext h0 h14 := ext_trans E13 E14
                  have x24 : Ext h0 h16 := ext_trans x23 x16k
                  have x25 : Ext h0 h18 := ext_trans x24 x18k
                  have x26 : Ext h13 h16 := ext_trans E14 x16k
                  have x27 : Ext h13 h18 := ext_trans x26 x18k
                  have x28 : Ext h14 h18 := ext_trans x16k x18k
                  refine W18.callV hx (y := (⟨"com/example/record_hold/recordhold/text/EntityTag", "matchesStrongly", "(Lcom/example/record_hold/recordhold/text/EntityTag;)Z"⟩ : MethodName)) (C := "com/example/record_hold/recordhold/text/EntityTag") (ww hw (i := 42) rfl) (ww hw (i := 43) rfl) (ww hw (i := 45) rfl) (ww hw (i := 44) rfl) (by decide) (Pay.of_con (Wd := 0) (rm_strong l Z a0 hw a15 a17 a13 a14 v1 v3 zc (drawn_make l1 c0 c1) (drawn_make l2 v9 v11) h18 n0 (by omega) (Sta.ext x25 S0) hz (Fld.ext x18k F16_weak) F18_weak (Fld.ext x18k F16_opaque) F18_opaque (F13.ext x27) (F14.ext x28)) (ww hw (i := 46) rfl) (ww hw (i := 28) rfl) (hEL hw) (by decide) (by decide)) (Exa.ext x18k A16) (g := (mkF m 242 #[.val (.int p0), .val (.int p1), .val (.int p2), .val (.int v1), .val (.int v3), .val (.int l1), .val (.int l2), .val (.int v5), .val (.int v7), .val (.int c0), .val (.int c1), .val (.int v9), .val (.int v11), .val (.ref a13), .val (.ref a14), .val (.ref a15), .val (.ref a17), .val (.int v19), .val (.int v21)] [(.ref a17), (.ref a15)])) rfl (by rw [hml]; rfl) (argsL := [(.ref a17)]) (rest := []) (lenOf pd_5 rfl) rfl rfl (Nat.le_of_ble_eq_true rfl) (hb hby at_242) (by decide) (by decide) (fun v29 T29 h29 W29 sz29 q29 => ?_)
                  obtain ⟨r29, rfl, hr29, rfl⟩ := q29
                  change Fi _ _ _ _ _ _ _ _ _ _ (T29.setTop (mkF m 245 #[.val (.int p0), .val (.int p1), .val (.int p2), .val (.int v1), .val (.int v3), .val (.int l1), .val (.int l2), .val (.int v5), .val (.int v7), .val (.int c0), .val (.int c1), .val (.int v9), .val (.int v11), .val (.ref a13), .val (.ref a14), .val (.ref a15), .val (.ref a17), .val (.int v19), .val (.int v21)] [(.int r29)]))
                  refine Fi.by' (st' := T29.setTop (mkF m 247 #[.val (.int p0), .val (.int p1), .val (.int p2), .val (.int v1), .val (.int v3), .val (.int l1), .val (.int l2), .val (.int v5), .val (.int v7), .val (.int c0), .val (.int c1), .val (.int v9), .val (.int v11), .val (.ref a13), .val (.ref a14), .val (.ref a15), .val (.ref a17), .val (.int v19), .val (.int v21)] [(.int v21), (.int r29)])) (fun t k => ?_) ?_
                  · refine XS.iload W29.here hx rfl (hb hby at_245) rfl ?_
                    exact k
                  have heq : r29 = v21 := plain_m1 (rem3 hl1) (rem3 hl2) hv19 hv21 hr29
                  refine Fi.by' (st' := T29.setTop (mkF m 255 #[.val (.int p0), .val (.int p1), .val (.int p2), .val (.int v1), .val (.int v3), .val (.int l1), .val (.int l2), .val (.int v5), .val (.int v7), .val (.int c0), .val (.int c1), .val (.int v9), .val (.int v11), .val (.ref a13), .val (.ref a14), .val (.ref a15), .val (.ref a17), .val (.int v19), .val (.int v21)] [(.int (1 : Int32))])) (fun t k => ?_) ?_
                  · refine XS.icmpNo W29.here hx rfl (hb hby at_247) rfl (teq heq).2 ?_
                    refine iconstZ W29.here hx rfl (hb hby at_250) (z := (1 : Int32)) rfl ?_
                    refine XS.goto W29.here hx rfl (pc0 := 251) (pc' := 255) rfl (hb hby at_251) (by decide) (by decide) ?_
                    exact k
                  exact W29.iret hx hlk hret (by simp) rfl (hb hby at_255) rfl (by decide) (by decide)
                by_cases hc218_30 : v1 = (0 : Int32)
                · refine Fi.by' (st' := T18.setTop (mkF m 223 #[.val (.int p0), .val (.int p1), .val (.int p2), .val (.int v1), .val (.int v3), .val (.int l1), .val (.int l2), .val (.int v5), .val (.int v7), .val (.int c0), .val (.int c1), .val (.int v9), .val (.int v11), .val (.ref a13), .val (.ref a14), .val (.ref a15), .val (.ref a17), .val (.int v19), .unset] [(.int v3)])) (fun t k => ?_) ?_
                  · refine XS.ifNo W18.here hx rfl (hb hby at_218) rfl ((if0 _ _).trans (teq hc218_30).2) ?_
                    refine XS.iload W18.here hx rfl (hb hby at_221) rfl ?_
                    exact k
                  by_cases hc223_31 : v3 = (0 : Int32)
                  · refine Fi.by' (st' := T18.setTop (mkF m 228 #[.val (.int p0), .val (.int p1), .val (.int p2), .val (.int v1), .val (.int v3), .val (.int l1), .val (.int l2), .val (.int v5), .val (.int v7), .val (.int c0), .val (.int c1), .val (.int v9), .val (.int v11), .val (.ref a13), .val (.ref a14), .val (.ref a15), .val (.ref a17), .val (.int v19), .unset] [(.int v19)])) (fun t k => ?_) ?_
                    · refine XS.ifNo W18.here hx rfl (hb hby at_223) rfl ((if0 _ _).trans (teq hc223_31).2) ?_
                      refine XS.iload W18.here hx rfl (hb hby at_226) rfl ?_
                      exact k
                    by_cases hc228_32 : v19 = (0 : Int32)
                    · refine Fi.by' (st' := T18.setTop (mkF m 236 #[.val (.int p0), .val (.int p1), .val (.int p2), .val (.int v1), .val (.int v3), .val (.int l1), .val (.int l2), .val (.int v5), .val (.int v7), .val (.int c0), .val (.int c1), .val (.int v9), .val (.int v11), .val (.ref a13), .val (.ref a14), .val (.ref a15), .val (.ref a17), .val (.int v19), .unset] [(.int (0 : Int32))])) (fun t k => ?_) ?_
                      · refine XS.ifYes W18.here hx rfl (pc0 := 228) (pc' := 235) rfl (hb hby at_228) rfl ((if0 _ _).trans (teq hc228_32).1) (by decide) (by decide) ?_
                        refine iconstZ W18.here hx rfl (hb hby at_235) (z := (0 : Int32)) rfl ?_
                        exact k
                      exact J218_22 _ (Or.inl ⟨hc218_30, hc223_31, hc228_32, rfl⟩)
                    · refine Fi.by' (st' := T18.setTop (mkF m 236 #[.val (.int p0), .val (.int p1), .val (.int p2), .val (.int v1), .val (.int v3), .val (.int l1), .val (.int l2), .val (.int v5), .val (.int v7), .val (.int c0), .val (.int c1), .val (.int v9), .val (.int v11), .val (.ref a13), .val (.ref a14), .val (.ref a15), .val (.ref a17), .val (.int v19), .unset] [(.int (1 : Int32))])) (fun t k => ?_) ?_
                      · refine XS.ifNo W18.here hx rfl (hb hby at_228) rfl ((if0 _ _).trans (feq hc228_32).1) ?_
                        refine iconstZ W18.here hx rfl (hb hby at_231) (z := (1 : Int32)) rfl ?_
                        refine XS.goto W18.here hx rfl (pc0 := 232) (pc' := 236) rfl (hb hby at_232) (by decide) (by decide) ?_
                        exact k
                      exact J218_22 _ (Or.inr (Or.inl ⟨hc218_30, hc223_31, hc228_32, rfl⟩))
                  · refine Fi.by' (st' := T18.setTop (mkF m 236 #[.val (.int p0), .val (.int p1), .val (.int p2), .val (.int v1), .val (.int v3), .val (.int l1), .val (.int l2), .val (.int v5), .val (.int v7), .val (.int c0), .val (.int c1), .val (.int v9), .val (.int v11), .val (.ref a13), .val (.ref a14), .val (.ref a15), .val (.ref a17), .val (.int v19), .unset] [(.int (0 : Int32))])) (fun t k => ?_) ?_
                    · refine XS.ifYes W18.here hx rfl (pc0 := 223) (pc' := 235) rfl (hb hby at_223) rfl ((if0 _ _).trans (feq hc223_31).2) (by decide) (by decide) ?_
                      refine iconstZ W18.here hx rfl (hb hby at_235) (z := (0 : Int32)) rfl ?_
                      exact k
                    exact J218_22 _ (Or.inr (Or.inr (Or.inl ⟨hc218_30, hc223_31, rfl⟩)))
                · refine Fi.by' (st' := T18.setTop (mkF m 236 #[.val (.int p0), .val (.int p1), .val (.int p2), .val (.int v1), .val (.int v3), .val (.int l1), .val (.int l2), .val (.int v5), .val (.int v7), .val (.int c0), .val (.int c1), .val (.int v9), .val (.int v11), .val (.ref a13), .val (.ref a14), .val (.ref a15), .val (.ref a17), .val (.int v19), .unset] [(.int (0 : Int32))])) (fun t k => ?_) ?_
                  · refine XS.ifYes W18.here hx rfl (pc0 := 218) (pc' := 235) rfl (hb hby at_218) rfl ((if0 _ _).trans (feq hc218_30).2) (by decide) (by decide) ?_
                    refine iconstZ W18.here hx rfl (hb hby at_235) (z := (0 : Int32)) rfl ?_
                    exact k
                  exact J218_22 _ (Or.inr (Or.inr (Or.inr (⟨hc218_30, rfl⟩))))
              by_cases hc181_33 : l1 = l2
              · refine Fi.by' (st' := T18.setTop (mkF m 187 #[.val (.int p0), .val (.int p1), .val (.int p2), .val (.int v1), .val (.int v3), .val (.int l1), .val (.int l2), .val (.int v5), .val (.int v7), .val (.int c0), .val (.int c1), .val (.int v9), .val (.int v11), .val (.ref a13), .val (.ref a14), .val (.ref a15), .val (.ref a17), .unset, .unset] [(.int (1 : Int32)), (.int l1)])) (fun t k => ?_) ?_
                · refine XS.icmpNo W18.here hx rfl (hb hby at_181) rfl (teq hc181_33).2 ?_
                  refine XS.iload W18.here hx rfl (hb hby at_184) rfl ?_
                  refine iconstZ W18.here hx rfl (hb hby at_186) (z := (1 : Int32)) rfl ?_
                  exact k
                by_cases hc187_34 : l1 < (1 : Int32)
                · refine Fi.by' (st' := T18.setTop (mkF m 200 #[.val (.int p0), .val (.int p1), .val (.int p2), .val (.int v1), .val (.int v3), .val (.int l1), .val (.int l2), .val (.int v5), .val (.int v7), .val (.int c0), .val (.int c1), .val (.int v9), .val (.int v11), .val (.ref a13), .val (.ref a14), .val (.ref a15), .val (.ref a17), .unset, .unset] [(.int (2 : Int32)), (.int l1)])) (fun t k => ?_) ?_
                  · refine XS.icmpYes W18.here hx rfl (pc0 := 187) (pc' := 197) rfl (hb hby at_187) rfl (tlt hc187_34).1 (by decide) (by decide) ?_
                    refine XS.iload W18.here hx rfl (hb hby at_197) rfl ?_
                    refine iconstZ W18.here hx rfl (hb hby at_199) (z := (2 : Int32)) rfl ?_
                    exact k
                  by_cases hc200_35 : l1 < (2 : Int32)
                  · refine Fi.by' (st' := T18.setTop (mkF m 215 #[.val (.int p0), .val (.int p1), .val (.int p2), .val (.int v1), .val (.int v3), .val (.int l1), .val (.int l2), .val (.int v5), .val (.int v7), .val (.int c0), .val (.int c1), .val (.int v9), .val (.int v11), .val (.ref a13), .val (.ref a14), .val (.ref a15), .val (.ref a17), .unset, .unset] [(.int (1 : Int32))])) (fun t k => ?_) ?_
                    · refine XS.icmpYes W18.here hx rfl (pc0 := 200) (pc' := 210) rfl (hb hby at_200) rfl (tlt hc200_35).1 (by decide) (by decide) ?_
                      refine iconstZ W18.here hx rfl (hb hby at_210) (z := (1 : Int32)) rfl ?_
                      refine XS.goto W18.here hx rfl (pc0 := 211) (pc' := 215) rfl (hb hby at_211) (by decide) (by decide) ?_
                      exact k
                    exact J181_20 _ (Or.inl ⟨hc181_33, hc187_34, hc200_35, rfl⟩)
                  · refine Fi.by' (st' := T18.setTop (mkF m 207 #[.val (.int p0), .val (.int p1), .val (.int p2), .val (.int v1), .val (.int v3), .val (.int l1), .val (.int l2), .val (.int v5), .val (.int v7), .val (.int c0), .val (.int c1), .val (.int v9), .val (.int v11), .val (.ref a13), .val (.ref a14), .val (.ref a15), .val (.ref a17), .unset, .unset] [(.int v11), (.int c1)])) (fun t k => ?_) ?_
                    · refine XS.icmpNo W18.here hx rfl (hb hby at_200) rfl (flt hc200_35).1 ?_
                      refine XS.iload W18.here hx rfl (hb hby at_203) rfl ?_
                      refine XS.iload W18.here hx rfl (hb hby at_205) rfl ?_
                      exact k
                    by_cases hc207_36 : c1 = v11
                    · refine Fi.by' (st' := T18.setTop (mkF m 215 #[.val (.int p0), .val (.int p1), .val (.int p2), .val (.int v1), .val (.int v3), .val (.int l1), .val (.int l2), .val (.int v5), .val (.int v7), .val (.int c0), .val (.int c1), .val (.int v9), .val (.int v11), .val (.ref a13), .val (.ref a14), .val (.ref a15), .val (.ref a17), .unset, .unset] [(.int (1 : Int32))])) (fun t k => ?_) ?_
                      · refine XS.icmpNo W18.here hx rfl (hb hby at_207) rfl (teq hc207_36).2 ?_
                        refine iconstZ W18.here hx rfl (hb hby at_210) (z := (1 : Int32)) rfl ?_
                        refine XS.goto W18.here hx rfl (pc0 := 211) (pc' := 215) rfl (hb hby at_211) (by decide) (by decide) ?_
                        exact k
                      exact J181_20 _ (Or.inr (Or.inl ⟨hc181_33, hc187_34, hc200_35, hc207_36, rfl⟩))
                    · refine Fi.by' (st' := T18.setTop (mkF m 215 #[.val (.int p0), .val (.int p1), .val (.int p2), .val (.int v1), .val (.int v3), .val (.int l1), .val (.int l2), .val (.int v5), .val (.int v7), .val (.int c0), .val (.int c1), .val (.int v9), .val (.int v11), .val (.ref a13), .val (.ref a14), .val (.ref a15), .val (.ref a17), .unset, .unset] [(.int (0 : Int32))])) (fun t k => ?_) ?_
                      · refine XS.icmpYes W18.here hx rfl (pc0 := 207) (pc' := 214) rfl (hb hby at_207) rfl (feq hc207_36).2 (by decide) (by decide) ?_
                        refine iconstZ W18.here hx rfl (hb hby at_214) (z := (0 : Int32)) rfl ?_
                        exact k
                      exact J181_20 _ (Or.inr (Or.inr (Or.inl ⟨hc181_33, hc187_34, hc200_35, hc207_36, rfl⟩)))
                · refine Fi.by' (st' := T18.setTop (mkF m 194 #[.val (.int p0), .val (.int p1), .val (.int p2), .val (.int v1), .val (.int v3), .val (.int l1), .val (.int l2), .val (.int v5), .val (.int v7), .val (.int c0), .val (.int c1), .val (.int v9), .val (.int v11), .val (.ref a13), .val (.ref a14), .val (.ref a15), .val (.ref a17), .unset, .unset] [(.int v9), (.int c0)])) (fun t k => ?_) ?_
                  · refine XS.icmpNo W18.here hx rfl (hb hby at_187) rfl (flt hc187_34).1 ?_
                    refine XS.iload W18.here hx rfl (hb hby at_190) rfl ?_
                    refine XS.iload W18.here hx rfl (hb hby at_192) rfl ?_
                    exact k
                  by_cases hc194_37 : c0 = v9
                  · refine Fi.by' (st' := T18.setTop (mkF m 200 #[.val (.int p0), .val (.int p1), .val (.int p2), .val (.int v1), .val (.int v3), .val (.int l1), .val (.int l2), .val (.int v5), .val (.int v7), .val (.int c0), .val (.int c1), .val (.int v9), .val (.int v11), .val (.ref a13), .val (.ref a14), .val (.ref a15), .val (.ref a17), .unset, .unset] [(.int (2 : Int32)), (.int l1)])) (fun t k => ?_) ?_
                    · refine XS.icmpNo W18.here hx rfl (hb hby at_194) rfl (teq hc194_37).2 ?_
                      refine XS.iload W18.here hx rfl (hb hby at_197) rfl ?_
                      refine iconstZ W18.here hx rfl (hb hby at_199) (z := (2 : Int32)) rfl ?_
                      exact k
                    by_cases hc200_38 : l1 < (2 : Int32)
                    · refine Fi.by' (st' := T18.setTop (mkF m 215 #[.val (.int p0), .val (.int p1), .val (.int p2), .val (.int v1), .val (.int v3), .val (.int l1), .val (.int l2), .val (.int v5), .val (.int v7), .val (.int c0), .val (.int c1), .val (.int v9), .val (.int v11), .val (.ref a13), .val (.ref a14), .val (.ref a15), .val (.ref a17), .unset, .unset] [(.int (1 : Int32))])) (fun t k => ?_) ?_
                      · refine XS.icmpYes W18.here hx rfl (pc0 := 200) (pc' := 210) rfl (hb hby at_200) rfl (tlt hc200_38).1 (by decide) (by decide) ?_
                        refine iconstZ W18.here hx rfl (hb hby at_210) (z := (1 : Int32)) rfl ?_
                        refine XS.goto W18.here hx rfl (pc0 := 211) (pc' := 215) rfl (hb hby at_211) (by decide) (by decide) ?_
                        exact k
                      exact J181_20 _ (Or.inr (Or.inr (Or.inr (Or.inl ⟨hc181_33, hc187_34, hc194_37, hc200_38, rfl⟩))))
                    · refine Fi.by' (st' := T18.setTop (mkF m 207 #[.val (.int p0), .val (.int p1), .val (.int p2), .val (.int v1), .val (.int v3), .val (.int l1), .val (.int l2), .val (.int v5), .val (.int v7), .val (.int c0), .val (.int c1), .val (.int v9), .val (.int v11), .val (.ref a13), .val (.ref a14), .val (.ref a15), .val (.ref a17), .unset, .unset] [(.int v11), (.int c1)])) (fun t k => ?_) ?_
                      · refine XS.icmpNo W18.here hx rfl (hb hby at_200) rfl (flt hc200_38).1 ?_
                        refine XS.iload W18.here hx rfl (hb hby at_203) rfl ?_
                        refine XS.iload W18.here hx rfl (hb hby at_205) rfl ?_
                        exact k
                      by_cases hc207_39 : c1 = v11
                      · refine Fi.by' (st' := T18.setTop (mkF m 215 #[.val (.int p0), .val (.int p1), .val (.int p2), .val (.int v1), .val (.int v3), .val (.int l1), .val (.int l2), .val (.int v5), .val (.int v7), .val (.int c0), .val (.int c1), .val (.int v9), .val (.int v11), .val (.ref a13), .val (.ref a14), .val (.ref a15), .val (.ref a17), .unset, .unset] [(.int (1 : Int32))])) (fun t k => ?_) ?_
                        · refine XS.icmpNo W18.here hx rfl (hb hby at_207) rfl (teq hc207_39).2 ?_
                          refine iconstZ W18.here hx rfl (hb hby at_210) (z := (1 : Int32)) rfl ?_
                          refine XS.goto W18.here hx rfl (pc0 := 211) (pc' := 215) rfl (hb hby at_211) (by decide) (by decide) ?_
                          exact k
                        exact J181_20 _ (Or.inr (Or.inr (Or.inr (Or.inr (Or.inl ⟨hc181_33, hc187_34, hc194_37, hc200_38, hc207_39, rfl⟩)))))
                      · refine Fi.by' (st' := T18.setTop (mkF m 215 #[.val (.int p0), .val (.int p1), .val (.int p2), .val (.int v1), .val (.int v3), .val (.int l1), .val (.int l2), .val (.int v5), .val (.int v7), .val (.int c0), .val (.int c1), .val (.int v9), .val (.int v11), .val (.ref a13), .val (.ref a14), .val (.ref a15), .val (.ref a17), .unset, .unset] [(.int (0 : Int32))])) (fun t k => ?_) ?_
                        · refine XS.icmpYes W18.here hx rfl (pc0 := 207) (pc' := 214) rfl (hb hby at_207) rfl (feq hc207_39).2 (by decide) (by decide) ?_
                          refine iconstZ W18.here hx rfl (hb hby at_214) (z := (0 : Int32)) rfl ?_
                          exact k
                        exact J181_20 _ (Or.inr (Or.inr (Or.inr (Or.inr (Or.inr (Or.inl ⟨hc181_33, hc187_34, hc194_37, hc200_38, hc207_39, rfl⟩))))))
                  · refine Fi.by' (st' := T18.setTop (mkF m 215 #[.val (.int p0), .val (.int p1), .val (.int p2), .val (.int v1), .val (.int v3), .val (.int l1), .val (.int l2), .val (.int v5), .val (.int v7), .val (.int c0), .val (.int c1), .val (.int v9), .val (.int v11), .val (.ref a13), .val (.ref a14), .val (.ref a15), .val (.ref a17), .unset, .unset] [(.int (0 : Int32))])) (fun t k => ?_) ?_
                    · refine XS.icmpYes W18.here hx rfl (pc0 := 194) (pc' := 214) rfl (hb hby at_194) rfl (feq hc194_37).2 (by decide) (by decide) ?_
                      refine iconstZ W18.here hx rfl (hb hby at_214) (z := (0 : Int32)) rfl ?_
                      exact k
                    exact J181_20 _ (Or.inr (Or.inr (Or.inr (Or.inr (Or.inr (Or.inr (Or.inl ⟨hc181_33, hc187_34, hc194_37, rfl⟩)))))))
              · refine Fi.by' (st' := T18.setTop (mkF m 215 #[.val (.int p0), .val (.int p1), .val (.int p2), .val (.int v1), .val (.int v3), .val (.int l1), .val (.int l2), .val (.int v5), .val (.int v7), .val (.int c0), .val (.int c1), .val (.int v9), .val (.int v11), .val (.ref a13), .val (.ref a14), .val (.ref a15), .val (.ref a17), .unset, .unset] [(.int (0 : Int32))])) (fun t k => ?_) ?_
                · refine XS.icmpYes W18.here hx rfl (pc0 := 181) (pc' := 214) rfl (hb hby at_181) rfl (feq hc181_33).2 (by decide) (by decide) ?_
                  refine iconstZ W18.here hx rfl (hb hby at_214) (z := (0 : Int32)) rfl ?_
                  exact k
                exact J181_20 _ (Or.inr (Or.inr (Or.inr (Or.inr (Or.inr (Or.inr (Or.inr (⟨hc181_33, rfl⟩))))))))
            by_cases hc111_40 : v7 = (0 : Int32)
            · refine Fi.by' (st' := s₁.setTop (mkF m 128 #[.val (.int p0), .val (.int p1), .val (.int p2), .val (.int v1), .val (.int v3), .val (.int l1), .val (.int l2), .val (.int v5), .val (.int v7), .val (.int c0), .val (.int c1), .val (.int v9), .unset, .unset, .unset, .unset, .unset, .unset, .unset] [(.int (((p1.toUInt32 >>> ((8 : Int32) &&& 31).toUInt32).toInt32) &&& (255 : Int32)))])) (fun t k => ?_) ?_
              · refine XS.ifYes W0.here hx rfl (pc0 := 111) (pc' := 119) rfl (hb hby at_111) rfl ((if0 _ _).trans (teq hc111_40).1) (by decide) (by decide) ?_
                refine XS.iloadN W0.here hx rfl (hb hby at_119) rfl ?_
                refine bipushZ W0.here hx rfl (hb hby at_120) (z := (8 : Int32)) rfl ?_
                refine XS.iushr W0.here hx rfl (hb hby at_122) rfl ?_
                refine sipushZ W0.here hx rfl (hb hby at_123) (z := (255 : Int32)) rfl ?_
                refine XS.iand W0.here hx rfl (hb hby at_126) rfl ?_
                refine i2cZ W0.here hx rfl (hb hby at_127) rfl (z := (((p1.toUInt32 >>> ((8 : Int32) &&& 31).toUInt32).toInt32) &&& (255 : Int32))) (i2c_mask _) ?_
                exact k
              exact J111_12 _ (Or.inl ⟨hc111_40, rfl⟩)
            · refine Fi.by' (st' := s₁.setTop (mkF m 128 #[.val (.int p0), .val (.int p1), .val (.int p2), .val (.int v1), .val (.int v3), .val (.int l1), .val (.int l2), .val (.int v5), .val (.int v7), .val (.int c0), .val (.int c1), .val (.int v9), .unset, .unset, .unset, .unset, .unset, .unset, .unset] [(.int c1)])) (fun t k => ?_) ?_
              · refine XS.ifNo W0.here hx rfl (hb hby at_111) rfl ((if0 _ _).trans (feq hc111_40).1) ?_
                refine XS.iload W0.here hx rfl (hb hby at_114) rfl ?_
                refine XS.goto W0.here hx rfl (pc0 := 116) (pc' := 128) rfl (hb hby at_116) (by decide) (by decide) ?_
                exact k
              exact J111_12 _ (Or.inr (⟨hc111_40, rfl⟩))
          by_cases hc93_41 : v5 = (0 : Int32)
          · refine Fi.by' (st' := s₁.setTop (mkF m 107 #[.val (.int p0), .val (.int p1), .val (.int p2), .val (.int v1), .val (.int v3), .val (.int l1), .val (.int l2), .val (.int v5), .val (.int v7), .val (.int c0), .val (.int c1), .unset, .unset, .unset, .unset, .unset, .unset, .unset, .unset] [(.int (p1 &&& (255 : Int32)))])) (fun t k => ?_) ?_
            · refine XS.ifYes W0.here hx rfl (pc0 := 93) (pc' := 101) rfl (hb hby at_93) rfl ((if0 _ _).trans (teq hc93_41).1) (by decide) (by decide) ?_
              refine XS.iloadN W0.here hx rfl (hb hby at_101) rfl ?_
              refine sipushZ W0.here hx rfl (hb hby at_102) (z := (255 : Int32)) rfl ?_
              refine XS.iand W0.here hx rfl (hb hby at_105) rfl ?_
              refine i2cZ W0.here hx rfl (hb hby at_106) rfl (z := (p1 &&& (255 : Int32))) (i2c_mask _) ?_
              exact k
            exact J93_10 _ (Or.inl ⟨hc93_41, rfl⟩)
          · refine Fi.by' (st' := s₁.setTop (mkF m 107 #[.val (.int p0), .val (.int p1), .val (.int p2), .val (.int v1), .val (.int v3), .val (.int l1), .val (.int l2), .val (.int v5), .val (.int v7), .val (.int c0), .val (.int c1), .unset, .unset, .unset, .unset, .unset, .unset, .unset, .unset] [(.int c0)])) (fun t k => ?_) ?_
            · refine XS.ifNo W0.here hx rfl (hb hby at_93) rfl ((if0 _ _).trans (feq hc93_41).1) ?_
              refine XS.iload W0.here hx rfl (hb hby at_96) rfl ?_
              refine XS.goto W0.here hx rfl (pc0 := 98) (pc' := 107) rfl (hb hby at_98) (by decide) (by decide) ?_
              exact k
            exact J93_10 _ (Or.inr (⟨hc93_41, rfl⟩))
        by_cases hc62_42 : (p2 &&& (128 : Int32)) = (0 : Int32)
        · refine Fi.by' (st' := s₁.setTop (mkF m 70 #[.val (.int p0), .val (.int p1), .val (.int p2), .val (.int v1), .val (.int v3), .val (.int l1), .val (.int l2), .val (.int v5), .unset, .unset, .unset, .unset, .unset, .unset, .unset, .unset, .unset, .unset, .unset] [(.int (0 : Int32))])) (fun t k => ?_) ?_
          · refine XS.ifYes W0.here hx rfl (pc0 := 62) (pc' := 69) rfl (hb hby at_62) rfl ((if0 _ _).trans (teq hc62_42).1) (by decide) (by decide) ?_
            refine iconstZ W0.here hx rfl (hb hby at_69) (z := (0 : Int32)) rfl ?_
            exact k
          exact J62_8 _ (Or.inl ⟨hc62_42, rfl⟩)
        · refine Fi.by' (st' := s₁.setTop (mkF m 70 #[.val (.int p0), .val (.int p1), .val (.int p2), .val (.int v1), .val (.int v3), .val (.int l1), .val (.int l2), .val (.int v5), .unset, .unset, .unset, .unset, .unset, .unset, .unset, .unset, .unset, .unset, .unset] [(.int (1 : Int32))])) (fun t k => ?_) ?_
          · refine XS.ifNo W0.here hx rfl (hb hby at_62) rfl ((if0 _ _).trans (feq hc62_42).1) ?_
            refine iconstZ W0.here hx rfl (hb hby at_65) (z := (1 : Int32)) rfl ?_
            refine XS.goto W0.here hx rfl (pc0 := 66) (pc' := 70) rfl (hb hby at_66) (by decide) (by decide) ?_
            exact k
          exact J62_8 _ (Or.inr (⟨hc62_42, rfl⟩))
      by_cases hc47_43 : (p2 &&& (64 : Int32)) = (0 : Int32)
      · refine Fi.by' (st' := s₁.setTop (mkF m 55 #[.val (.int p0), .val (.int p1), .val (.int p2), .val (.int v1), .val (.int v3), .val (.int l1), .val (.int l2), .unset, .unset, .unset, .unset, .unset, .unset, .unset, .unset, .unset, .unset, .unset, .unset] [(.int (0 : Int32))])) (fun t k => ?_) ?_
        · refine XS.ifYes W0.here hx rfl (pc0 := 47) (pc' := 54) rfl (hb hby at_47) rfl ((if0 _ _).trans (teq hc47_43).1) (by decide) (by decide) ?_
          refine iconstZ W0.here hx rfl (hb hby at_54) (z := (0 : Int32)) rfl ?_
          exact k
        exact J47_6 _ (Or.inl ⟨hc47_43, rfl⟩)
      · refine Fi.by' (st' := s₁.setTop (mkF m 55 #[.val (.int p0), .val (.int p1), .val (.int p2), .val (.int v1), .val (.int v3), .val (.int l1), .val (.int l2), .unset, .unset, .unset, .unset, .unset, .unset, .unset, .unset, .unset, .unset, .unset, .unset] [(.int (1 : Int32))])) (fun t k => ?_) ?_
        · refine XS.ifNo W0.here hx rfl (hb hby at_47) rfl ((if0 _ _).trans (feq hc47_43).1) ?_
          refine iconstZ W0.here hx rfl (hb hby at_50) (z := (1 : Int32)) rfl ?_
          refine XS.goto W0.here hx rfl (pc0 := 51) (pc' := 55) rfl (hb hby at_51) (by decide) (by decide) ?_
          exact k
        exact J47_6 _ (Or.inr (⟨hc47_43, rfl⟩))
    by_cases hc15_44 : (p2 &&& (2 : Int32)) = (0 : Int32)
    · refine Fi.by' (st' := s₁.setTop (mkF m 23 #[.val (.int p0), .val (.int p1), .val (.int p2), .val (.int v1), .unset, .unset, .unset, .unset, .unset, .unset, .unset, .unset, .unset, .unset, .unset, .unset, .unset, .unset, .unset] [(.int (0 : Int32))])) (fun t k => ?_) ?_
      · refine XS.ifYes W0.here hx rfl (pc0 := 15) (pc' := 22) rfl (hb hby at_15) rfl ((if0 _ _).trans (teq hc15_44).1) (by decide) (by decide) ?_
        refine iconstZ W0.here hx rfl (hb hby at_22) (z := (0 : Int32)) rfl ?_
        exact k
      exact J15_4 _ (Or.inl ⟨hc15_44, rfl⟩)
    · refine Fi.by' (st' := s₁.setTop (mkF m 23 #[.val (.int p0), .val (.int p1), .val (.int p2), .val (.int v1), .unset, .unset, .unset, .unset, .unset, .unset, .unset, .unset, .unset, .unset, .unset, .unset, .unset, .unset, .unset] [(.int (1 : Int32))])) (fun t k => ?_) ?_
      · refine XS.ifNo W0.here hx rfl (hb hby at_15) rfl ((if0 _ _).trans (feq hc15_44).1) ?_
        refine iconstZ W0.here hx rfl (hb hby at_18) (z := (1 : Int32)) rfl ?_
        refine XS.goto W0.here hx rfl (pc0 := 19) (pc' := 23) rfl (hb hby at_19) (by decide) (by decide) ?_
        exact k
      exact J15_4 _ (Or.inr (⟨hc15_44, rfl⟩))
  by_cases hc3_45 : (p2 &&& (1 : Int32)) = (0 : Int32)
  · refine Fi.by' (st' := s₁.setTop (mkF m 11 #[.val (.int p0), .val (.int p1), .val (.int p2), .unset, .unset, .unset, .unset, .unset, .unset, .unset, .unset, .unset, .unset, .unset, .unset, .unset, .unset, .unset, .unset] [(.int (0 : Int32))])) (fun t k => ?_) ?_
    · refine XS.ifYes W0.here hx rfl (pc0 := 3) (pc' := 10) rfl (hb hby at_3) rfl ((if0 _ _).trans (teq hc3_45).1) (by decide) (by decide) ?_
      refine iconstZ W0.here hx rfl (hb hby at_10) (z := (0 : Int32)) rfl ?_
      exact k
    exact J3_2 _ (Or.inl ⟨hc3_45, rfl⟩)
  · refine Fi.by' (st' := s₁.setTop (mkF m 11 #[.val (.int p0), .val (.int p1), .val (.int p2), .unset, .unset, .unset, .unset, .unset, .unset, .unset, .unset, .unset, .unset, .unset, .unset, .unset, .unset, .unset, .unset] [(.int (1 : Int32))])) (fun t k => ?_) ?_
    · refine XS.ifNo W0.here hx rfl (hb hby at_3) rfl ((if0 _ _).trans (feq hc3_45).1) ?_
      refine iconstZ W0.here hx rfl (hb hby at_6) (z := (1 : Int32)) rfl ?_
      refine XS.goto W0.here hx rfl (pc0 := 7) (pc' := 11) rfl (hb hby at_7) (by decide) (by decide) ?_
      exact k
    exact J3_2 _ (Or.inr (⟨hc3_45, rfl⟩))
set_option maxRecDepth 65536 in
set_option maxHeartbeats 40000000 in
theorem comes_1 {Post : Tables → Env → Array Value → State → Outcome → State → Prop} (hpost : ∀ tb e args s v u, (limb_1_1.after args s (.returned v) u = true ∧ limb_1_2.after args s (.returned v) u = true ∧ True) → ReturnedEndW s (.returned v) u (Jvm.fieldLocs frame_1_writes args s ++ Jvm.arrayLocs frame_1_arrays args s ++ Jvm.staticLocs frame_1_statics s) 32 1152 → Post tb e args s (.returned v) u) :
    ArmFor flags0 classFile x code maxLocals ret World_1 tables_1 room_1 Calls_1 rest_1 Pre_1 Post := by
  intro l hfl _ _ p e ha hc hk s m args below hf hA hF happ hP
  obtain ⟨hcalls, hrest, hpre⟩ := hP
  obtain ⟨-, -, -, hnamed, -, -, -, hat⟩ := (Spec.applies_iff hf).mp happ
  obtain ⟨hg, hn⟩ := and_e (Cond.before_iff.mp (show (Jvm.Cond.and given_1 narrow_1).before args s = true from hpre))
  obtain ⟨g0a, g0b⟩ := and_e hg
  obtain ⟨g1a, g1b⟩ := and_e g0b
  obtain ⟨g2a, g2b⟩ := and_e g1b
  obtain ⟨w0, w1, w2, rfl⟩ : ∃ w0 w1 w2 : Value, args = #[w0, w1, w2] := by
    have hs : args.size = 3 := by simpa [Cond.value, given_1] using g0a
    obtain ⟨L⟩ := args
    match L, hs with
    | [w0, w1, w2], _ => exact ⟨w0, w1, w2, rfl⟩
  have hw := fun d (hd : d ∈ tables_1) => atoms_spec (ws := Jvm.Cond.code x code maxLocals ret :: tables_1) hat d (List.mem_cons_of_mem _ hd)
  have hfit : Fit s := fun {y c} hc i hi => by
    obtain ⟨ha, rfl⟩ := Array.getElem?_eq_some_iff.mp hc
    have q := List.all_eq_true.mp ((Array.all_eq_true_iff_forall_mem.mp hF) _ (Array.getElem_mem ha)) i (List.mem_range.mpr hi)
    simpa [Array.getElem?_eq_getElem hi] using q
  obtain ⟨hsets, hown0⟩ := atoms_of _ (rest_1_c_eq ▸ (show rest_1_c.before _ s = true from hrest))
  obtain ⟨i0, ei0⟩ := is_v g1a
  obtain rfl : w0 = (.int i0) := Option.some.inj ei0
  obtain ⟨i1, ei1⟩ := is_v g2a
  obtain rfl : w1 = (.int i1) := Option.some.inj ei1
  obtain ⟨i2, ei2⟩ := is_v g2b
  obtain rfl : w2 = (.int i2) := Option.some.inj ei2
  obtain ⟨zc, ezc⟩ := is_v (Cond.before_iff.mp (hsets _ (List.mem_of_getElem? (i := 1) rfl)))
  have S0 : Sta s s.heap "java/lang/String" "COMPACT_STRINGS" "Z" (.int zc) := Sta.start ezc (Or.inl (hsets _ (List.mem_of_getElem? (i := 0) rfl)))
  have hz : ¬ zc = 0 := fun q => by
    have q1 := not_v (Cond.before_iff.mp (hsets _ (List.mem_of_getElem? (i := 2) rfl)))
    have q2 := eq_i ezc (Term.int_eval (0)) (by rw [q] : (Value.int zc) = .int 0)
    rw [q2] at q1; cases q1
  have hcw : Jvm.Lit.compactW.before _ s = true := hsets _ (List.mem_of_getElem? (i := 2) rfl)
  have H0 : CHv s EL s.vm s.heap := CHv.start (hEL hw) (fun q hq => hcalls.1 q hq) hcw (ww hw (i := 19) rfl) (ww hw (i := 5) rfl)
  obtain ⟨n, o, h1, h2, h3, _, L, rfl, ⟨N, hv⟩, -, hq⟩ := rm_law l s _ hw i0 i1 i2 zc s.heap s.heap.size (Nat.le_refl _) S0 hz p e ha hc hk s m _ below hf ((Spec.applies_iff_loose hf).mp happ).1 ⟨rfl, State.Warmed39.refl s, rfl, H0⟩ trivial
  obtain rfl := hv
  exact ⟨n, _, h1, h2, h3, hpost _ _ _ _ _ _ ⟨Cond.after_iff.mpr rfl, Cond.after_iff.mpr (eq_i res_at (Term.int_eval (1)) rfl), trivial⟩ ⟨hq.1, hq.2.1, hq.2.2.1, (hq.2.2.2.sift fun y hy => Or.inr (N y hy)).mono (by decide) (by decide)⟩⟩
theorem main_1_1 : Claimed_1_1 := comes_1 fun _ _ _ _ _ _ h hF => ⟨h.1, hF⟩
theorem main_1_2 : Claimed_1_2 := comes_1 fun _ _ _ _ _ _ h hF => ⟨h.2.1, hF⟩
end Jvm.Pilot.@@N@@
namespace Jvm.Pilot.@@N@@
open Jvm Jvm.ClassFile Sem Op Lib Jvm.Free Jvm.Stand Jvm.Pilot.@@N@@.Jvm.D
/-! MADE BY PROGRAM (witnessworld.py) out of the Statement's table words and the real class files: 21 classes; the members and pool entries that the words name. The judged class is class 1, her method 2. -/
namespace start1
open Jvm.ClassFile
def u (s : String) : CpInfo := .utf8 (stringToUtf16 s)
/-- a pool by its gaps: so many unusable entries, then the entry; so many at the end -/
def gap : Nat → List CpInfo → List CpInfo
  | 0, r => r
  | n + 1, r => .unusable :: gap n r
def poolList (es : List (Nat × CpInfo)) (last : Nat) : List CpInfo := es.foldr (fun e r => gap e.1 (e.2 :: r)) (gap last [])
def pool (es : List (Nat × CpInfo)) (last : Nat) : Array CpInfo := ⟨poolList es last⟩
def fileOf (pool : Array CpInfo) (this : Nat) (attrs : Array Attribute := #[]) (ms : Array MethodInfo := #[]) (fl : Nat := 33) (sup : Nat := 0) (ifs : Array Nat := #[]) (fds : Array FieldInfo := #[]) : ClassFile where
  minorVersion := 0
  majorVersion := 65
  constantPool := pool
  accessFlags := fl
  thisClass := this
  superClass := sup
  interfaces := ifs
  fields := fds
  methods := ms
  attributes := attrs
def plain (name : String) (sup : Option ClassId) : Class where
  name := name
  kind := .ordinary
  loader := none
  accessFlags := 33
  super := sup
  interfaces := #[]
  cf := none
  fields := #[]
  methods := #[]
  instanceTypes := #[]
  staticTypes := #[]
  resolved := #[]
  callSites := []
  init := .initialized
  statics := none
  mirror := none

def pool0 : Array CpInfo := pool [(5, u "<init>"), (0, u "()V"), (1, .class_ 10), (1, u "java/lang/Object")] 113

def k0c0 : Code := { maxStack := 0, maxLocals := 1, code := object_method_1_code, exceptionTable := #[], attributes := #[] }
def k0m0 : Method := { name := "<init>", desc := "()V", sig := { parameters := [], returnType := none }, accessFlags := 1, code := some k0c0 }
/-- java/lang/Object -/
def k0 : Class := { plain "java/lang/Object" none with
  accessFlags := 33
  interfaces := #[]
  cf := some (fileOf pool0 8 #[] #[{ accessFlags := 1, nameIndex := 5, descriptorIndex := 6, attributes := #[] }] 33 0 #[] #[])
  fields := #[]
  methods := #[k0m0]
  instanceTypes := #[]
  staticTypes := #[]
  resolved := Array.replicate 124 none
  statics := none }

def pool1 : Array CpInfo := pool [(2, .class_ 4), (1, u "java/lang/Object"), (0, u "<init>"), (0, u "()V"), (0, .class_ 8), (0, u "java/lang/String"), (0, .methodref 7 10), (0, .nameAndType 5 11), (0, u "([C)V"), (0, .methodref 13 14), (0, .class_ 15), (0, .nameAndType 16 17), (0, u "com/example/record_hold/recordhold/text/EntityTagMatchesStronglyPinLaw"), (0, u "make"), (0, u "(ICC)Ljava/lang/String;"), (0, .class_ 19), (0, u "com/example/record_hold/recordhold/text/EntityTag"), (0, .methodref 18 21), (0, .nameAndType 5 22), (0, u "(Ljava/lang/String;Z)V"), (0, .methodref 18 24), (0, .nameAndType 25 26), (0, u "matchesStrongly"), (0, u "(Lcom/example/record_hold/recordhold/text/EntityTag;)Z"), (3, u "law"), (0, u "(III)Z")] 2

def k1m0 : Method := { name := "<init>", desc := "()V", sig := { parameters := [], returnType := none }, accessFlags := 1, code := none }
def k1c1 : Code := { maxStack := 3, maxLocals := 4, code := method_2_code, exceptionTable := #[], attributes := #[] }
def k1m1 : Method := { name := "make", desc := "(ICC)Ljava/lang/String;", sig := { parameters := [.int, .char, .char], returnType := some (.object "java/lang/String") }, accessFlags := 10, code := some k1c1 }
def k1c2 : Code := { maxStack := 4, maxLocals := 19, code := code, exceptionTable := #[], attributes := #[] }
def k1m2 : Method := { name := "law", desc := "(III)Z", sig := { parameters := [.int, .int, .int], returnType := some .boolean }, accessFlags := 9, code := some k1c2 }
/-- com/example/record_hold/recordhold/text/EntityTagMatchesStronglyPinLaw -/
def k1 : Class := { plain "com/example/record_hold/recordhold/text/EntityTagMatchesStronglyPinLaw" (some 0) with
  accessFlags := 49
  interfaces := #[]
  cf := some (fileOf pool1 13 #[] #[{ accessFlags := 1, nameIndex := 5, descriptorIndex := 6, attributes := #[] }, { accessFlags := 10, nameIndex := 16, descriptorIndex := 17, attributes := #[] }, { accessFlags := 9, nameIndex := 30, descriptorIndex := 31, attributes := #[] }] 49 2 #[] #[])
  fields := #[]
  methods := #[k1m0, k1m1, k1m2]
  instanceTypes := #[]
  staticTypes := #[]
  resolved := Array.replicate 34 none
  statics := none }

def pool2 : Array CpInfo := pool [(1, .class_ 2), (0, u "java/io/Serializable"), (0, .class_ 4), (0, u "java/lang/Object")] 2

/-- java/io/Serializable -/
def k2 : Class := { plain "java/io/Serializable" (some 0) with
  accessFlags := 1537
  interfaces := #[]
  cf := some (fileOf pool2 1 #[] #[] 1537 3 #[] #[])
  fields := #[]
  methods := #[]
  instanceTypes := #[]
  staticTypes := #[]
  resolved := Array.replicate 7 none
  statics := none }

def pool3 : Array CpInfo := pool [(1, .class_ 2), (0, u "java/lang/Comparable"), (0, .class_ 4), (0, u "java/lang/Object")] 7

/-- java/lang/Comparable -/
def k3 : Class := { plain "java/lang/Comparable" (some 0) with
  accessFlags := 1537
  interfaces := #[]
  cf := some (fileOf pool3 1 #[] #[] 1537 3 #[] #[])
  fields := #[]
  methods := #[]
  instanceTypes := #[]
  staticTypes := #[]
  resolved := Array.replicate 12 none
  statics := none }

def pool4 : Array CpInfo := pool [(2, .class_ 4), (1, u "java/lang/CharSequence"), (42, .class_ 48), (0, u "java/lang/CharSequence$1CodePointIterator"), (10, .class_ 60), (0, u "java/lang/CharSequence$1CharIterator"), (5, .class_ 67), (0, u "java/lang/Object")] 63

/-- java/lang/CharSequence -/
def k4 : Class := { plain "java/lang/CharSequence" (some 0) with
  accessFlags := 1537
  interfaces := #[]
  cf := some (fileOf pool4 2 #[.nestMembers #[47, 59]] #[] 1537 66 #[] #[])
  fields := #[]
  methods := #[]
  instanceTypes := #[]
  staticTypes := #[]
  resolved := Array.replicate 131 none
  statics := none }

def pool5 : Array CpInfo := pool [(1, .class_ 2), (0, u "java/lang/constant/Constable"), (0, .class_ 4), (0, u "java/lang/Object")] 6

/-- java/lang/constant/Constable -/
def k5 : Class := { plain "java/lang/constant/Constable" (some 0) with
  accessFlags := 1537
  interfaces := #[]
  cf := some (fileOf pool5 1 #[] #[] 1537 3 #[] #[])
  fields := #[]
  methods := #[]
  instanceTypes := #[]
  staticTypes := #[]
  resolved := Array.replicate 11 none
  statics := none }

def pool6 : Array CpInfo := pool [(1, .class_ 2), (0, u "java/lang/constant/ConstantDesc"), (0, .class_ 4), (0, u "java/lang/Object")] 32

/-- java/lang/constant/ConstantDesc -/
def k6 : Class := { plain "java/lang/constant/ConstantDesc" (some 0) with
  accessFlags := 1537
  interfaces := #[]
  cf := some (fileOf pool6 1 #[] #[] 1537 3 #[] #[])
  fields := #[]
  methods := #[]
  instanceTypes := #[]
  staticTypes := #[]
  resolved := Array.replicate 37 none
  statics := none }

def pool7 : Array CpInfo := pool [(1, .methodref 2 3), (0, .class_ 4), (0, .nameAndType 5 6), (0, u "java/lang/Object"), (0, u "<init>"), (0, u "()V"), (0, .string 8), (0, u ""), (0, .fieldref 10 11), (0, .class_ 12), (0, .nameAndType 13 14), (0, u "java/lang/String"), (0, u "value"), (0, u "[B"), (0, .fieldref 10 16), (0, .nameAndType 17 18), (0, u "coder"), (0, u "B"), (2, u "hash"), (0, u "I"), (2, u "hashIsZero"), (0, u "Z"), (0, .methodref 10 28), (0, .nameAndType 5 29), (0, u "([CIILjava/lang/Void;)V"), (8, .fieldref 10 39), (0, .nameAndType 40 26), (0, u "COMPACT_STRINGS"), (1, .class_ 44), (1, u "java/lang/StringUTF16"), (0, u "compress"), (1, .methodref 42 48), (0, .nameAndType 49 50), (0, u "coderFromArrayLen"), (0, u "([BI)B"), (56, .class_ 109), (1, u "java/lang/StringLatin1"), (67, .methodref 42 178), (0, .nameAndType 45 179), (0, u "([CII)[B"), (361, .methodref 107 542), (0, .nameAndType 543 544), (0, u "equals"), (0, u "([B[B)Z"), (28, u "(Ljava/lang/Object;)Z"), (1, .class_ 576), (0, u "java/lang/CharSequence"), (22, u "CASE_INSENSITIVE_ORDER"), (0, u "Ljava/util/Comparator;"), (409, u "([C)V"), (90, u "serialPersistentFields"), (0, u "[Ljava/io/ObjectStreamField;"), (0, .class_ 1104), (0, u "java/lang/String$CaseInsensitiveComparator"), (1, .class_ 1107), (0, u "java/io/Serializable"), (0, .class_ 1109), (0, u "java/lang/Comparable"), (0, .class_ 1111), (0, u "java/lang/constant/Constable"), (0, .class_ 1113), (0, u "java/lang/constant/ConstantDesc"), (2, u "serialVersionUID"), (0, u "J"), (3, u "REPL"), (0, u "C"), (2, u "LATIN1"), (1, u "UTF16")] 323

def k7m0 : Method := { name := "<init>", desc := "()V", sig := { parameters := [], returnType := none }, accessFlags := 1, code := none }
def k7c1 : Code := { maxStack := 5, maxLocals := 2, code := jdk_42_method_3_code, exceptionTable := #[], attributes := #[] }
def k7m1 : Method := { name := "<init>", desc := "([C)V", sig := { parameters := [(.array .char)], returnType := none }, accessFlags := 1, code := some k7c1 }
def k7c2 : Code := { maxStack := 2, maxLocals := 3, code := jdk_42_method_66_code, exceptionTable := #[], attributes := #[] }
def k7m2 : Method := { name := "equals", desc := "(Ljava/lang/Object;)Z", sig := { parameters := [(.object "java/lang/Object")], returnType := some .boolean }, accessFlags := 1, code := some k7c2 }
def k7c3 : Code := { maxStack := 4, maxLocals := 6, code := jdk_42_method_149_code, exceptionTable := #[], attributes := #[] }
def k7m3 : Method := { name := "<init>", desc := "([CIILjava/lang/Void;)V", sig := { parameters := [(.array .char), .int, .int, (.object "java/lang/Void")], returnType := none }, accessFlags := 2, code := some k7c3 }
/-- java/lang/String -/
def k7 : Class := { plain "java/lang/String" (some 0) with
  accessFlags := 49
  interfaces := #[2, 3, 4, 5, 6]
  cf := some (fileOf pool7 10 #[.nestMembers #[1103]] #[{ accessFlags := 1, nameIndex := 5, descriptorIndex := 6, attributes := #[] }, { accessFlags := 1, nameIndex := 5, descriptorIndex := 1010, attributes := #[] }, { accessFlags := 1, nameIndex := 543, descriptorIndex := 573, attributes := #[] }, { accessFlags := 2, nameIndex := 5, descriptorIndex := 29, attributes := #[] }] 49 2 #[1106, 1108, 575, 1110, 1112] #[{ accessFlags := 18, nameIndex := 13, descriptorIndex := 14, attributes := #[] }, { accessFlags := 18, nameIndex := 17, descriptorIndex := 18, attributes := #[] }, { accessFlags := 2, nameIndex := 21, descriptorIndex := 22, attributes := #[] }, { accessFlags := 2, nameIndex := 25, descriptorIndex := 26, attributes := #[] }, { accessFlags := 26, nameIndex := 1116, descriptorIndex := 1117, attributes := #[] }, { accessFlags := 24, nameIndex := 40, descriptorIndex := 26, attributes := #[] }, { accessFlags := 26, nameIndex := 1101, descriptorIndex := 1102, attributes := #[] }, { accessFlags := 26, nameIndex := 1121, descriptorIndex := 1122, attributes := #[] }, { accessFlags := 25, nameIndex := 599, descriptorIndex := 600, attributes := #[] }, { accessFlags := 24, nameIndex := 1125, descriptorIndex := 18, attributes := #[] }, { accessFlags := 24, nameIndex := 1127, descriptorIndex := 18, attributes := #[] }])
  fields := #[{ name := "value", type := (.array .byte), accessFlags := 18, slot := 0, constantValue := 0 }, { name := "coder", type := .byte, accessFlags := 18, slot := 1, constantValue := 0 }, { name := "hash", type := .int, accessFlags := 2, slot := 2, constantValue := 0 }, { name := "hashIsZero", type := .boolean, accessFlags := 2, slot := 3, constantValue := 0 }, { name := "serialVersionUID", type := .long, accessFlags := 26, slot := 0, constantValue := 0 }, { name := "COMPACT_STRINGS", type := .boolean, accessFlags := 24, slot := 1, constantValue := 0 }, { name := "serialPersistentFields", type := (.array (.object "java/io/ObjectStreamField")), accessFlags := 26, slot := 2, constantValue := 0 }, { name := "REPL", type := .char, accessFlags := 26, slot := 3, constantValue := 0 }, { name := "CASE_INSENSITIVE_ORDER", type := (.object "java/util/Comparator"), accessFlags := 25, slot := 4, constantValue := 0 }, { name := "LATIN1", type := .byte, accessFlags := 24, slot := 5, constantValue := 0 }, { name := "UTF16", type := .byte, accessFlags := 24, slot := 6, constantValue := 0 }]
  methods := #[k7m0, k7m1, k7m2, k7m3]
  instanceTypes := #[(.array .byte), .byte, .int, .boolean]
  staticTypes := #[.long, .boolean, (.array (.object "java/io/ObjectStreamField")), .char, (.object "java/util/Comparator"), .byte, .byte]
  resolved := Array.replicate 1451 none
  statics := some 0 }

def pool8 : Array CpInfo := pool [(1, .methodref 2 3), (0, .class_ 4), (0, .nameAndType 5 6), (0, u "java/lang/Object"), (0, u "<init>"), (0, u "()V"), (0, .class_ 8), (0, u "java/lang/Record")] 13

def k8c0 : Code := { maxStack := 1, maxLocals := 1, code := jdk_30_method_1_code, exceptionTable := #[], attributes := #[] }
def k8m0 : Method := { name := "<init>", desc := "()V", sig := { parameters := [], returnType := none }, accessFlags := 4, code := some k8c0 }
/-- java/lang/Record -/
def k8 : Class := { plain "java/lang/Record" (some 0) with
  accessFlags := 1057
  interfaces := #[]
  cf := some (fileOf pool8 7 #[] #[{ accessFlags := 4, nameIndex := 5, descriptorIndex := 6, attributes := #[] }] 1057 2 #[] #[])
  fields := #[]
  methods := #[k8m0]
  instanceTypes := #[]
  staticTypes := #[]
  resolved := Array.replicate 22 none
  statics := none }

def pool9 : Array CpInfo := pool [(1, .methodref 2 3), (0, .class_ 4), (0, .nameAndType 5 6), (0, u "java/lang/Record"), (0, u "<init>"), (0, u "()V"), (0, .fieldref 8 9), (0, .class_ 10), (0, .nameAndType 11 12), (0, u "com/example/record_hold/recordhold/text/EntityTag"), (0, u "opaque"), (0, u "Ljava/lang/String;"), (0, .fieldref 8 14), (0, .nameAndType 15 16), (0, u "weak"), (0, u "Z"), (4, .class_ 23), (1, u "java/lang/String"), (38, u "(Ljava/lang/String;Z)V"), (5, u "(Ljava/lang/Object;)Z"), (0, .methodref 21 70), (0, .nameAndType 71 68), (0, u "equals"), (23, u "matchesStrongly"), (0, u "(Lcom/example/record_hold/recordhold/text/EntityTag;)Z")] 43

def k9c0 : Code := { maxStack := 2, maxLocals := 3, code := prog_24_method_1_code, exceptionTable := #[], attributes := #[] }
def k9m0 : Method := { name := "<init>", desc := "(Ljava/lang/String;Z)V", sig := { parameters := [(.object "java/lang/String"), .boolean], returnType := none }, accessFlags := 1, code := some k9c0 }
def k9c1 : Code := { maxStack := 2, maxLocals := 2, code := prog_24_method_3_code, exceptionTable := #[], attributes := #[] }
def k9m1 : Method := { name := "matchesStrongly", desc := "(Lcom/example/record_hold/recordhold/text/EntityTag;)Z", sig := { parameters := [(.object "com/example/record_hold/recordhold/text/EntityTag")], returnType := some .boolean }, accessFlags := 1, code := some k9c1 }
/-- com/example/record_hold/recordhold/text/EntityTag -/
def k9 : Class := { plain "com/example/record_hold/recordhold/text/EntityTag" (some 8) with
  accessFlags := 49
  interfaces := #[]
  cf := some (fileOf pool9 8 #[] #[{ accessFlags := 1, nameIndex := 5, descriptorIndex := 62, attributes := #[] }, { accessFlags := 1, nameIndex := 95, descriptorIndex := 96, attributes := #[] }] 49 2 #[] #[{ accessFlags := 18, nameIndex := 11, descriptorIndex := 12, attributes := #[] }, { accessFlags := 18, nameIndex := 15, descriptorIndex := 16, attributes := #[] }])
  fields := #[{ name := "opaque", type := (.object "java/lang/String"), accessFlags := 18, slot := 0, constantValue := 0 }, { name := "weak", type := .boolean, accessFlags := 18, slot := 1, constantValue := 0 }]
  methods := #[k9m0, k9m1]
  instanceTypes := #[(.object "java/lang/String"), .boolean]
  staticTypes := #[]
  resolved := Array.replicate 140 none
  statics := none }

def pool10 : Array CpInfo := pool [(6, .class_ 8), (1, u "java/lang/Object"), (0, u "<init>"), (0, u "()V"), (1, .class_ 14), (1, u "java/lang/StringUTF16"), (31, u "$assertionsDisabled"), (0, u "Z"), (13, u "HI_BYTE_SHIFT"), (0, u "I"), (2, u "LO_BYTE_SHIFT"), (49, .methodref 12 116), (0, .nameAndType 117 118), (0, u "compress"), (0, u "([CI[BII)I"), (3, u "([CII)[B"), (138, u "coderFromArrayLen"), (0, u "([BI)B"), (106, .class_ 371), (1, u "java/lang/StringUTF16$LinesSpliterator"), (58, u "MAX_LENGTH"), (196, .class_ 628), (0, u "java/lang/StringUTF16$CodePointsSpliterator"), (0, .class_ 630), (0, u "java/lang/StringUTF16$CharsSpliterator")] 4

def k10m0 : Method := { name := "<init>", desc := "()V", sig := { parameters := [], returnType := none }, accessFlags := 0, code := none }
def k10c1 : Code := { maxStack := 2, maxLocals := 2, code := jdk_52_method_15_code, exceptionTable := #[], attributes := #[] }
def k10m1 : Method := { name := "coderFromArrayLen", desc := "([BI)B", sig := { parameters := [(.array .byte), .int], returnType := some .byte }, accessFlags := 8, code := some k10c1 }
def k10c2 : Code := { maxStack := 5, maxLocals := 6, code := jdk_52_method_16_code, exceptionTable := #[], attributes := #[] }
def k10m2 : Method := { name := "compress", desc := "([CII)[B", sig := { parameters := [(.array .char), .int, .int], returnType := some (.array .byte) }, accessFlags := 9, code := some k10c2 }
def k10c3 : Code := { maxStack := 3, maxLocals := 7, code := jdk_52_method_21_code, exceptionTable := #[], attributes := #[] }
def k10m3 : Method := { name := "compress", desc := "([CI[BII)I", sig := { parameters := [(.array .char), .int, (.array .byte), .int, .int], returnType := some .int }, accessFlags := 9, code := some k10c3 }
/-- java/lang/StringUTF16 -/
def k10 : Class := { plain "java/lang/StringUTF16" (some 0) with
  accessFlags := 48
  interfaces := #[]
  cf := some (fileOf pool10 12 #[.nestMembers #[627, 629, 369]] #[{ accessFlags := 0, nameIndex := 9, descriptorIndex := 10, attributes := #[] }, { accessFlags := 8, nameIndex := 261, descriptorIndex := 262, attributes := #[] }, { accessFlags := 9, nameIndex := 117, descriptorIndex := 122, attributes := #[] }, { accessFlags := 9, nameIndex := 117, descriptorIndex := 118, attributes := #[] }] 48 6 #[] #[{ accessFlags := 26, nameIndex := 61, descriptorIndex := 62, attributes := #[] }, { accessFlags := 26, nameIndex := 65, descriptorIndex := 62, attributes := #[] }, { accessFlags := 24, nameIndex := 430, descriptorIndex := 62, attributes := #[] }, { accessFlags := 4120, nameIndex := 46, descriptorIndex := 47, attributes := #[] }])
  fields := #[{ name := "HI_BYTE_SHIFT", type := .int, accessFlags := 26, slot := 0, constantValue := 0 }, { name := "LO_BYTE_SHIFT", type := .int, accessFlags := 26, slot := 1, constantValue := 0 }, { name := "MAX_LENGTH", type := .int, accessFlags := 24, slot := 2, constantValue := 0 }, { name := "$assertionsDisabled", type := .boolean, accessFlags := 4120, slot := 3, constantValue := 0 }]
  methods := #[k10m0, k10m1, k10m2, k10m3]
  instanceTypes := #[]
  staticTypes := #[.int, .int, .int, .boolean]
  resolved := Array.replicate 635 none
  statics := none }

def pool11 : Array CpInfo := pool [(4, .class_ 6), (1, u "java/lang/Object"), (0, u "<init>"), (0, u "()V"), (5, .class_ 16), (1, u "java/lang/StringLatin1"), (104, u "$assertionsDisabled"), (0, u "Z"), (98, .class_ 223), (1, u "java/lang/StringLatin1$LinesSpliterator"), (57, u "equals"), (0, u "([B[B)Z"), (107, .class_ 391), (0, u "java/lang/StringLatin1$CharsSpliterator")] 3

def k11m0 : Method := { name := "<init>", desc := "()V", sig := { parameters := [], returnType := none }, accessFlags := 0, code := none }
def k11c1 : Code := { maxStack := 3, maxLocals := 3, code := jdk_43_method_13_code, exceptionTable := #[], attributes := #[] }
def k11m1 : Method := { name := "equals", desc := "([B[B)Z", sig := { parameters := [(.array .byte), (.array .byte)], returnType := some .boolean }, accessFlags := 9, code := some k11c1 }
/-- java/lang/StringLatin1 -/
def k11 : Class := { plain "java/lang/StringLatin1" (some 0) with
  accessFlags := 48
  interfaces := #[]
  cf := some (fileOf pool11 14 #[.nestMembers #[390, 221]] #[{ accessFlags := 0, nameIndex := 7, descriptorIndex := 8, attributes := #[] }, { accessFlags := 9, nameIndex := 281, descriptorIndex := 282, attributes := #[] }] 48 4 #[] #[{ accessFlags := 4120, nameIndex := 121, descriptorIndex := 122, attributes := #[] }])
  fields := #[{ name := "$assertionsDisabled", type := .boolean, accessFlags := 4120, slot := 0, constantValue := 0 }]
  methods := #[k11m0, k11m1]
  instanceTypes := #[]
  staticTypes := #[.boolean]
  resolved := Array.replicate 395 none
  statics := none }

def pool12 : Array CpInfo := pool [(2, .class_ 4), (1, u "java/lang/Object"), (0, u "<init>"), (0, u "()V"), (17, .class_ 26), (1, u "jdk/internal/util/Preconditions"), (28, .class_ 56), (0, u "jdk/internal/util/Preconditions$4"), (57, .class_ 115), (0, u "jdk/internal/util/Preconditions$1"), (7, u "SIOOBE_FORMATTER"), (0, u "Ljava/util/function/BiFunction;"), (0, .class_ 126), (0, u "jdk/internal/util/Preconditions$2"), (3, u "AIOOBE_FORMATTER"), (0, .class_ 132), (0, u "jdk/internal/util/Preconditions$3"), (3, u "IOOBE_FORMATTER")] 57

def k12m0 : Method := { name := "<init>", desc := "()V", sig := { parameters := [], returnType := none }, accessFlags := 1, code := none }
/-- jdk/internal/util/Preconditions -/
def k12 : Class := { plain "jdk/internal/util/Preconditions" (some 0) with
  accessFlags := 33
  interfaces := #[]
  cf := some (fileOf pool12 24 #[.nestMembers #[55, 131, 125, 114]] #[{ accessFlags := 1, nameIndex := 5, descriptorIndex := 6, attributes := #[] }] 33 2 #[] #[{ accessFlags := 25, nameIndex := 123, descriptorIndex := 124, attributes := #[] }, { accessFlags := 25, nameIndex := 130, descriptorIndex := 124, attributes := #[] }, { accessFlags := 25, nameIndex := 136, descriptorIndex := 124, attributes := #[] }])
  fields := #[{ name := "SIOOBE_FORMATTER", type := (.object "java/util/function/BiFunction"), accessFlags := 25, slot := 0, constantValue := 0 }, { name := "AIOOBE_FORMATTER", type := (.object "java/util/function/BiFunction"), accessFlags := 25, slot := 1, constantValue := 0 }, { name := "IOOBE_FORMATTER", type := (.object "java/util/function/BiFunction"), accessFlags := 25, slot := 2, constantValue := 0 }]
  methods := #[k12m0]
  instanceTypes := #[]
  staticTypes := #[(.object "java/util/function/BiFunction"), (.object "java/util/function/BiFunction"), (.object "java/util/function/BiFunction")]
  resolved := Array.replicate 194 none
  statics := some 1 }

def pool13 : Array CpInfo := pool [(9, u "<init>"), (6, .class_ 18), (1, u "java/lang/Object"), (0, u "()V"), (1, .class_ 23), (1, u "jdk/internal/util/ArraysSupport"), (0, u "LOG2_ARRAY_LONG_INDEX_SCALE"), (0, u "I"), (2, u "U"), (0, u "Ljdk/internal/misc/Unsafe;"), (8, u "BIG_ENDIAN"), (0, u "Z"), (8, u "LOG2_BYTE_BIT_SIZE"), (4, u "LOG2_ARRAY_INT_INDEX_SCALE"), (54, u "JLA"), (0, u "Ljdk/internal/access/JavaLangAccess;"), (11, u "LOG2_ARRAY_BOOLEAN_INDEX_SCALE"), (9, u "LOG2_ARRAY_BYTE_INDEX_SCALE"), (5, u "LOG2_ARRAY_CHAR_INDEX_SCALE"), (5, u "LOG2_ARRAY_SHORT_INDEX_SCALE"), (18, u "LOG2_ARRAY_FLOAT_INDEX_SCALE"), (24, u "LOG2_ARRAY_DOUBLE_INDEX_SCALE"), (89, u "T_BOOLEAN"), (2, u "T_CHAR"), (1, u "T_FLOAT"), (1, u "T_DOUBLE"), (1, u "T_BYTE"), (1, u "T_SHORT"), (1, u "T_INT"), (1, u "T_LONG"), (1, u "SOFT_MAX_ARRAY_LENGTH")] 83

def k13m0 : Method := { name := "<init>", desc := "()V", sig := { parameters := [], returnType := none }, accessFlags := 2, code := none }
/-- jdk/internal/util/ArraysSupport -/
def k13 : Class := { plain "jdk/internal/util/ArraysSupport" (some 0) with
  accessFlags := 33
  interfaces := #[]
  cf := some (fileOf pool13 21 #[] #[{ accessFlags := 2, nameIndex := 9, descriptorIndex := 19, attributes := #[] }] 33 16 #[] #[{ accessFlags := 24, nameIndex := 28, descriptorIndex := 29, attributes := #[] }, { accessFlags := 26, nameIndex := 38, descriptorIndex := 39, attributes := #[] }, { accessFlags := 25, nameIndex := 121, descriptorIndex := 25, attributes := #[] }, { accessFlags := 25, nameIndex := 131, descriptorIndex := 25, attributes := #[] }, { accessFlags := 25, nameIndex := 137, descriptorIndex := 25, attributes := #[] }, { accessFlags := 25, nameIndex := 143, descriptorIndex := 25, attributes := #[] }, { accessFlags := 25, nameIndex := 53, descriptorIndex := 25, attributes := #[] }, { accessFlags := 25, nameIndex := 24, descriptorIndex := 25, attributes := #[] }, { accessFlags := 25, nameIndex := 162, descriptorIndex := 25, attributes := #[] }, { accessFlags := 25, nameIndex := 187, descriptorIndex := 25, attributes := #[] }, { accessFlags := 26, nameIndex := 48, descriptorIndex := 25, attributes := #[] }, { accessFlags := 25, nameIndex := 277, descriptorIndex := 25, attributes := #[] }, { accessFlags := 25, nameIndex := 280, descriptorIndex := 25, attributes := #[] }, { accessFlags := 25, nameIndex := 282, descriptorIndex := 25, attributes := #[] }, { accessFlags := 25, nameIndex := 284, descriptorIndex := 25, attributes := #[] }, { accessFlags := 25, nameIndex := 286, descriptorIndex := 25, attributes := #[] }, { accessFlags := 25, nameIndex := 288, descriptorIndex := 25, attributes := #[] }, { accessFlags := 25, nameIndex := 290, descriptorIndex := 25, attributes := #[] }, { accessFlags := 25, nameIndex := 292, descriptorIndex := 25, attributes := #[] }, { accessFlags := 26, nameIndex := 108, descriptorIndex := 109, attributes := #[] }, { accessFlags := 25, nameIndex := 294, descriptorIndex := 25, attributes := #[] }])
  fields := #[{ name := "U", type := (.object "jdk/internal/misc/Unsafe"), accessFlags := 24, slot := 0, constantValue := 0 }, { name := "BIG_ENDIAN", type := .boolean, accessFlags := 26, slot := 1, constantValue := 0 }, { name := "LOG2_ARRAY_BOOLEAN_INDEX_SCALE", type := .int, accessFlags := 25, slot := 2, constantValue := 0 }, { name := "LOG2_ARRAY_BYTE_INDEX_SCALE", type := .int, accessFlags := 25, slot := 3, constantValue := 0 }, { name := "LOG2_ARRAY_CHAR_INDEX_SCALE", type := .int, accessFlags := 25, slot := 4, constantValue := 0 }, { name := "LOG2_ARRAY_SHORT_INDEX_SCALE", type := .int, accessFlags := 25, slot := 5, constantValue := 0 }, { name := "LOG2_ARRAY_INT_INDEX_SCALE", type := .int, accessFlags := 25, slot := 6, constantValue := 0 }, { name := "LOG2_ARRAY_LONG_INDEX_SCALE", type := .int, accessFlags := 25, slot := 7, constantValue := 0 }, { name := "LOG2_ARRAY_FLOAT_INDEX_SCALE", type := .int, accessFlags := 25, slot := 8, constantValue := 0 }, { name := "LOG2_ARRAY_DOUBLE_INDEX_SCALE", type := .int, accessFlags := 25, slot := 9, constantValue := 0 }, { name := "LOG2_BYTE_BIT_SIZE", type := .int, accessFlags := 26, slot := 10, constantValue := 0 }, { name := "T_BOOLEAN", type := .int, accessFlags := 25, slot := 11, constantValue := 0 }, { name := "T_CHAR", type := .int, accessFlags := 25, slot := 12, constantValue := 0 }, { name := "T_FLOAT", type := .int, accessFlags := 25, slot := 13, constantValue := 0 }, { name := "T_DOUBLE", type := .int, accessFlags := 25, slot := 14, constantValue := 0 }, { name := "T_BYTE", type := .int, accessFlags := 25, slot := 15, constantValue := 0 }, { name := "T_SHORT", type := .int, accessFlags := 25, slot := 16, constantValue := 0 }, { name := "T_INT", type := .int, accessFlags := 25, slot := 17, constantValue := 0 }, { name := "T_LONG", type := .int, accessFlags := 25, slot := 18, constantValue := 0 }, { name := "JLA", type := (.object "jdk/internal/access/JavaLangAccess"), accessFlags := 26, slot := 19, constantValue := 0 }, { name := "SOFT_MAX_ARRAY_LENGTH", type := .int, accessFlags := 25, slot := 20, constantValue := 0 }]
  methods := #[k13m0]
  instanceTypes := #[]
  staticTypes := #[(.object "jdk/internal/misc/Unsafe"), .boolean, .int, .int, .int, .int, .int, .int, .int, .int, .int, .int, .int, .int, .int, .int, .int, .int, .int, (.object "jdk/internal/access/JavaLangAccess"), .int]
  resolved := Array.replicate 378 none
  statics := none }

def pool14 : Array CpInfo := pool [(1, u "java/lang/Cloneable"), (0, .class_ 1), (0, u "java/lang/Object"), (0, .class_ 3)] 3

/-- java/lang/Cloneable -/
def k14 : Class := { plain "java/lang/Cloneable" (some 0) with
  accessFlags := 1537
  interfaces := #[]
  cf := some (fileOf pool14 2 #[] #[] 1537 4 #[] #[])
  fields := #[]
  methods := #[]
  instanceTypes := #[]
  staticTypes := #[]
  resolved := Array.replicate 8 none
  statics := none }

/-- the primitive byte -/
def k15 : Class := { plain "byte" none with kind := .primitive 'B', accessFlags := 0x411 }
/-- [B -/
def k16 : Class := { plain "[B" (some 0) with kind := .array 15 .byte, interfaces := #[14, 2], accessFlags := 1041 }

/-- the primitive char -/
def k17 : Class := { plain "char" none with kind := .primitive 'C', accessFlags := 0x411 }
/-- [C -/
def k18 : Class := { plain "[C" (some 0) with kind := .array 17 .char, interfaces := #[14, 2], accessFlags := 1041 }

/-- the primitive int -/
def k19 : Class := { plain "int" none with kind := .primitive 'I', accessFlags := 0x411 }
/-- [I -/
def k20 : Class := { plain "[I" (some 0) with kind := .array 19 .int, interfaces := #[14, 2], accessFlags := 1041 }

def heap : Heap := #[{ cls := 7, slots := #[.long 0, .int 1, .null, .int 0, .null, .int 0, .int 0], vm := .statics 7 },
  { cls := 12, slots := #[.null, .null, .null], vm := .statics 12 }]
def classes : Array Class := #[k0, k1, k2, k3, k4, k5, k6, k7, k8, k9, k10, k11, k12, k13, k14, k15, k16, k17, k18, k19, k20]
def interned : List (Array UInt16 × Addr) := []
def slotsUsed : Nat := 10
def theMethod : MethodId := ⟨1, 2⟩
def args0 : Array Value := #[.int 5, .int 65, .int 66]
def aboutOver (below : List Frame) : State where
  vm := { classes := classes, interned := interned.toArray }
  heap := heap
  slotsUsed := slotsUsed
  threads := #[{ frames := .invoking theMethod args0 :: below }]
def below0 : List Frame := [.native { method := ⟨0, 0⟩, args := #[] }]
def about1 : State := aboutOver below0
def p0 : Program := .bare "" "" ""
def e0 : Env := launch0.env 0 0 0
theorem w_frames : about1.frames = Frame.invoking theMethod args0 :: below0 := rfl
set_option maxRecDepth 65536 in
theorem w_args : argsFit about1.vm theMethod args0 = true := by decide +kernel
set_option maxRecDepth 65536 in
theorem w_heap : heapFits about1 = true := by decide +kernel
set_option maxRecDepth 65536 in
theorem w_runnable : about1.curStatus? = some .runnable := by decide +kernel
set_option maxRecDepth 65536 in
theorem w_alone : about1.alone = true := by decide +kernel
set_option maxRecDepth 65536 in
theorem w_named : about1.methodNamed? x = some theMethod := by decide +kernel
set_option maxRecDepth 65536 in
theorem w_hears : about1.hears theMethod below0 = true := by decide +kernel
set_option maxRecDepth 65536 in
theorem w_ripe : about1.ripe theMethod args0 below0 = true := by decide +kernel
theorem w_running : about1.status = .running := rfl
set_option maxRecDepth 65536 in
theorem w_room : about1.hasRoom e0.platform room_1 = true :=
  launch0.hasRoom_least _ room_1 (by decide +kernel) (by decide +kernel) (by decide +kernel) (by decide +kernel) (by decide +kernel) (by decide +kernel)
theorem allAtoms_all (ts : List Jvm.Cond) (a : Array Jvm.Value) (st : Jvm.State) : (allAtoms ts).before a st = ts.all (fun c => c.before a st) := by
  induction ts with
  | nil => rfl
  | cons c t ih =>
    show (Jvm.Cond.and c (allAtoms t)).before a st = _
    rw [Jvm.Cond.before_and, ih, List.all_cons]
def words1 : List Jvm.Cond := Jvm.Cond.code x code maxLocals ret :: tables_1
/-- a 'code' word, met by the world's own term for the bytes: nothing is compared byte by byte -/
theorem code_word {y : MethodName} {bytes : ByteArray} {mx : Nat} {rt : Option FieldType} {a : Array Value} {s : State} {m : MethodId} {meth : Method} {c : Code} (h1 : s.methodNamed? y = some m) (h2 : s.vm.method? m = some meth) (h3 : meth.code = some c) (h4 : c.code = bytes)
    (h5 : (c.maxLocals == mx && c.exceptionTable.isEmpty && decide (c.maxStack ≤ mostOperands) && decide (meth.sig.returnType = rt) && !meth.locks && decide (parseMethodDescriptor y.desc = some meth.sig)) = true) : (Jvm.Cond.code y bytes mx rt).before a s = true := by
  simp only [Bool.and_eq_true, beq_iff_eq, Bool.not_eq_true', decide_eq_true_eq] at h5
  obtain ⟨⟨⟨⟨⟨g1, g2⟩, g3⟩, g4⟩, g5⟩, g6⟩ := h5
  simp [Cond.before, Cond.holds, Cond.value, h1, h2, h3, h4, g1, g2, g3, g4, g5, g6]
def isCode : Jvm.Cond → Bool
  | .code _ _ _ _ => true
  | _ => false
theorem all_split {L : List Jvm.Cond} {P : Jvm.Cond → Bool} (h1 : L.all (fun c => isCode c || P c) = true) (h2 : ∀ c ∈ L.filter isCode, P c = true) : L.all P = true := by
  refine List.all_eq_true.mpr fun c hc => ?_
  have h := List.all_eq_true.mp h1 c hc
  rcases Bool.eq_false_or_eq_true (isCode c) with hi | hi
  · exact h2 c (List.mem_filter.mpr ⟨hc, hi⟩)
  · simpa [hi] using h
set_option maxRecDepth 65536 in
theorem w_c0 : (Jvm.Cond.code x code maxLocals ret).before args0 about1 = true := code_word (m := ⟨1, 2⟩) (meth := k1m2) (c := k1c2) (by decide +kernel) rfl rfl rfl (by decide +kernel)
set_option maxRecDepth 65536 in
theorem w_c1 : (Jvm.Cond.code ({ cls := "com/example/record_hold/recordhold/text/EntityTagMatchesStronglyPinLaw", name := "make", desc := "(ICC)Ljava/lang/String;" } : Jvm.MethodName) method_2_code (4 : Nat) (Option.some (Jvm.ClassFile.FieldType.object "java/lang/String"))).before args0 about1 = true := code_word (m := ⟨1, 1⟩) (meth := k1m1) (c := k1c1) (by decide +kernel) rfl rfl rfl (by decide +kernel)
set_option maxRecDepth 65536 in
theorem w_c2 : (Jvm.Cond.code ({ cls := "java/lang/String", name := "<init>", desc := "([C)V" } : Jvm.MethodName) jdk_42_method_3_code (2 : Nat) (Option.none : Option Jvm.ClassFile.FieldType)).before args0 about1 = true := code_word (m := ⟨7, 1⟩) (meth := k7m1) (c := k7c1) (by decide +kernel) rfl rfl rfl (by decide +kernel)
set_option maxRecDepth 65536 in
theorem w_c3 : (Jvm.Cond.code ({ cls := "java/lang/String", name := "<init>", desc := "([CIILjava/lang/Void;)V" } : Jvm.MethodName) jdk_42_method_149_code (6 : Nat) (Option.none : Option Jvm.ClassFile.FieldType)).before args0 about1 = true := code_word (m := ⟨7, 3⟩) (meth := k7m3) (c := k7c3) (by decide +kernel) rfl rfl rfl (by decide +kernel)
set_option maxRecDepth 65536 in
theorem w_c4 : (Jvm.Cond.code ({ cls := "java/lang/Object", name := "<init>", desc := "()V" } : Jvm.MethodName) object_method_1_code (1 : Nat) (Option.none : Option Jvm.ClassFile.FieldType)).before args0 about1 = true := code_word (m := ⟨0, 0⟩) (meth := k0m0) (c := k0c0) (by decide +kernel) rfl rfl rfl (by decide +kernel)
set_option maxRecDepth 65536 in
theorem w_c5 : (Jvm.Cond.code ({ cls := "com/example/record_hold/recordhold/text/EntityTag", name := "<init>", desc := "(Ljava/lang/String;Z)V" } : Jvm.MethodName) prog_24_method_1_code (3 : Nat) (Option.none : Option Jvm.ClassFile.FieldType)).before args0 about1 = true := code_word (m := ⟨9, 0⟩) (meth := k9m0) (c := k9c0) (by decide +kernel) rfl rfl rfl (by decide +kernel)
set_option maxRecDepth 65536 in
theorem w_c6 : (Jvm.Cond.code ({ cls := "java/lang/Record", name := "<init>", desc := "()V" } : Jvm.MethodName) jdk_30_method_1_code (1 : Nat) (Option.none : Option Jvm.ClassFile.FieldType)).before args0 about1 = true := code_word (m := ⟨8, 0⟩) (meth := k8m0) (c := k8c0) (by decide +kernel) rfl rfl rfl (by decide +kernel)
set_option maxRecDepth 65536 in
theorem w_c7 : (Jvm.Cond.code ({ cls := "com/example/record_hold/recordhold/text/EntityTag", name := "matchesStrongly", desc := "(Lcom/example/record_hold/recordhold/text/EntityTag;)Z" } : Jvm.MethodName) prog_24_method_3_code (2 : Nat) (Option.some Jvm.ClassFile.FieldType.boolean)).before args0 about1 = true := code_word (m := ⟨9, 1⟩) (meth := k9m1) (c := k9c1) (by decide +kernel) rfl rfl rfl (by decide +kernel)
set_option maxRecDepth 65536 in
theorem w_c8 : (Jvm.Cond.code ({ cls := "java/lang/StringUTF16", name := "compress", desc := "([CII)[B" } : Jvm.MethodName) jdk_52_method_16_code (6 : Nat) (Option.some (Jvm.ClassFile.FieldType.array Jvm.ClassFile.FieldType.byte))).before args0 about1 = true := code_word (m := ⟨10, 2⟩) (meth := k10m2) (c := k10c2) (by decide +kernel) rfl rfl rfl (by decide +kernel)
set_option maxRecDepth 65536 in
theorem w_c9 : (Jvm.Cond.code ({ cls := "java/lang/StringUTF16", name := "compress", desc := "([CI[BII)I" } : Jvm.MethodName) jdk_52_method_21_code (7 : Nat) (Option.some Jvm.ClassFile.FieldType.int)).before args0 about1 = true := code_word (m := ⟨10, 3⟩) (meth := k10m3) (c := k10c3) (by decide +kernel) rfl rfl rfl (by decide +kernel)
set_option maxRecDepth 65536 in
theorem w_c10 : (Jvm.Cond.code ({ cls := "java/lang/StringUTF16", name := "coderFromArrayLen", desc := "([BI)B" } : Jvm.MethodName) jdk_52_method_15_code (2 : Nat) (Option.some Jvm.ClassFile.FieldType.byte)).before args0 about1 = true := code_word (m := ⟨10, 1⟩) (meth := k10m1) (c := k10c1) (by decide +kernel) rfl rfl rfl (by decide +kernel)
set_option maxRecDepth 65536 in
theorem w_c11 : (Jvm.Cond.code ({ cls := "java/lang/String", name := "equals", desc := "(Ljava/lang/Object;)Z" } : Jvm.MethodName) jdk_42_method_66_code (3 : Nat) (Option.some Jvm.ClassFile.FieldType.boolean)).before args0 about1 = true := code_word (m := ⟨7, 2⟩) (meth := k7m2) (c := k7c2) (by decide +kernel) rfl rfl rfl (by decide +kernel)
set_option maxRecDepth 65536 in
theorem w_c12 : (Jvm.Cond.code ({ cls := "java/lang/StringLatin1", name := "equals", desc := "([B[B)Z" } : Jvm.MethodName) jdk_43_method_13_code (3 : Nat) (Option.some Jvm.ClassFile.FieldType.boolean)).before args0 about1 = true := code_word (m := ⟨11, 1⟩) (meth := k11m1) (c := k11c1) (by decide +kernel) rfl rfl rfl (by decide +kernel)
def codes1 : List Jvm.Cond := [Jvm.Cond.code x code maxLocals ret, Jvm.Cond.code ({ cls := "com/example/record_hold/recordhold/text/EntityTagMatchesStronglyPinLaw", name := "make", desc := "(ICC)Ljava/lang/String;" } : Jvm.MethodName) method_2_code (4 : Nat) (Option.some (Jvm.ClassFile.FieldType.object "java/lang/String")), Jvm.Cond.code ({ cls := "java/lang/String", name := "<init>", desc := "([C)V" } : Jvm.MethodName) jdk_42_method_3_code (2 : Nat) (Option.none : Option Jvm.ClassFile.FieldType), Jvm.Cond.code ({ cls := "java/lang/String", name := "<init>", desc := "([CIILjava/lang/Void;)V" } : Jvm.MethodName) jdk_42_method_149_code (6 : Nat) (Option.none : Option Jvm.ClassFile.FieldType), Jvm.Cond.code ({ cls := "java/lang/Object", name := "<init>", desc := "()V" } : Jvm.MethodName) object_method_1_code (1 : Nat) (Option.none : Option Jvm.ClassFile.FieldType), Jvm.Cond.code ({ cls := "com/example/record_hold/recordhold/text/EntityTag", name := "<init>", desc := "(Ljava/lang/String;Z)V" } : Jvm.MethodName) prog_24_method_1_code (3 : Nat) (Option.none : Option Jvm.ClassFile.FieldType), Jvm.Cond.code ({ cls := "java/lang/Record", name := "<init>", desc := "()V" } : Jvm.MethodName) jdk_30_method_1_code (1 : Nat) (Option.none : Option Jvm.ClassFile.FieldType), Jvm.Cond.code ({ cls := "com/example/record_hold/recordhold/text/EntityTag", name := "matchesStrongly", desc := "(Lcom/example/record_hold/recordhold/text/EntityTag;)Z" } : Jvm.MethodName) prog_24_method_3_code (2 : Nat) (Option.some Jvm.ClassFile.FieldType.boolean), Jvm.Cond.code ({ cls := "java/lang/StringUTF16", name := "compress", desc := "([CII)[B" } : Jvm.MethodName) jdk_52_method_16_code (6 : Nat) (Option.some (Jvm.ClassFile.FieldType.array Jvm.ClassFile.FieldType.byte)), Jvm.Cond.code ({ cls := "java/lang/StringUTF16", name := "compress", desc := "([CI[BII)I" } : Jvm.MethodName) jdk_52_method_21_code (7 : Nat) (Option.some Jvm.ClassFile.FieldType.int), Jvm.Cond.code ({ cls := "java/lang/StringUTF16", name := "coderFromArrayLen", desc := "([BI)B" } : Jvm.MethodName) jdk_52_method_15_code (2 : Nat) (Option.some Jvm.ClassFile.FieldType.byte), Jvm.Cond.code ({ cls := "java/lang/String", name := "equals", desc := "(Ljava/lang/Object;)Z" } : Jvm.MethodName) jdk_42_method_66_code (3 : Nat) (Option.some Jvm.ClassFile.FieldType.boolean), Jvm.Cond.code ({ cls := "java/lang/StringLatin1", name := "equals", desc := "([B[B)Z" } : Jvm.MethodName) jdk_43_method_13_code (3 : Nat) (Option.some Jvm.ClassFile.FieldType.boolean)]
set_option maxRecDepth 65536 in
theorem codes_eq : words1.filter isCode = codes1 := rfl
theorem w_codes : ∀ c ∈ words1.filter isCode, c.before args0 about1 = true := by
  rw [codes_eq]
  intro c hc
  simp only [codes1, List.mem_cons, List.not_mem_nil, or_false] at hc
  rcases hc with rfl | rfl | rfl | rfl | rfl | rfl | rfl | rfl | rfl | rfl | rfl | rfl | rfl
  · exact w_c0
  · exact w_c1
  · exact w_c2
  · exact w_c3
  · exact w_c4
  · exact w_c5
  · exact w_c6
  · exact w_c7
  · exact w_c8
  · exact w_c9
  · exact w_c10
  · exact w_c11
  · exact w_c12
set_option maxRecDepth 65536 in
theorem w_t1 : (words1.take 24).all (fun c => isCode c || c.before args0 about1) = true := by decide +kernel
set_option maxRecDepth 65536 in
theorem w_t2 : ((words1.drop 24).take 24).all (fun c => isCode c || c.before args0 about1) = true := by decide +kernel
set_option maxRecDepth 65536 in
theorem w_t3 : ((words1.drop 24).drop 24).all (fun c => isCode c || c.before args0 about1) = true := by decide +kernel
theorem w_tables : (allAtoms (Jvm.Cond.code x code maxLocals ret :: tables_1)).before args0 about1 = true := by
  rw [allAtoms_all]
  show words1.all (fun c => c.before args0 about1) = true
  refine all_split ?_ w_codes
  rw [← List.take_append_drop 24 words1, List.all_append, w_t1, ← List.take_append_drop 24 (words1.drop 24), List.all_append, w_t2, w_t3]
  rfl
set_option maxRecDepth 65536 in
theorem w_rest : rest_1_c.before args0 about1 = true := by decide +kernel
set_option maxRecDepth 65536 in
theorem w_case : (Jvm.Cond.and given_1 narrow_1).before args0 about1 = true := by decide +kernel
set_option maxRecDepth 65536 in
theorem w_consts : constsHeld consts_1 about1 := Jvm.Lit.constsHeldB_iff.mp (by decide +kernel)
theorem w_applies : (headSpec (Jvm.Cond.code x code maxLocals ret :: tables_1) room_1).applies x e0.platform about1 = true :=
  (Spec.applies_iff w_frames).mpr ⟨w_running, w_runnable, w_alone, w_named, w_hears, w_ripe, w_room, w_tables⟩
theorem atStart : AtStart classFile x code maxLocals ret World_1 tables_1 room_1 Calls_1 rest_1 Pre_1 launch0 p0 e0 about1 theMethod args0 below0 :=
  ⟨lists_1, trivial, launch0.admits_env _ _ _, launch0.least_env, fairChoices_fair.cas, fairChoices_fair.clock, w_frames, w_args, w_heap, w_applies, ⟨w_consts, trivial⟩, w_rest, w_case⟩
end start1
theorem witness_1 : WitnessClaimed_1 := ⟨start1.p0, start1.e0, start1.about1, start1.theMethod, start1.args0, start1.below0, start1.atStart⟩
end Jvm.Pilot.@@N@@
