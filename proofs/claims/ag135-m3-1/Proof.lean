import JvmDerived
import JvmDerived.Pilot.@@N@@Statement
import JvmDerived.Pilot.@@N@@Code
set_option linter.unusedVariables false
set_option linter.unusedSimpArgs false
set_option maxRecDepth 65536
set_option maxHeartbeats 40000000
/- laws to paste: Road.backV, Road.eqW, Road.codOf (cut by pick.py; bodies as the Statement names them) -/
namespace Jvm.Pilot.@@N@@
namespace StrChars
open Jvm Sem ClassFile Op Lib Jvm.Stand Jvm.Free.XT Jvm.Free.ALB Jvm.Free.JM Jvm.Free
open Jvm.Lib.Cold (StaticIs)
/-- a char array whose places are chars -/
def Ch (a : Addr) (A : Cell) (U : State) : Prop := Arr .char a A U ∧ Typed .char A
theorem Ch.mv {a : Addr} {A : Cell} {U U' : State} (h : Ch a A U) (hal : U.vm.Alike U'.vm) (hh : U'.heap = U.heap) : Ch a A U' := ⟨h.1.mv hal hh, h.2⟩
theorem Ch.keep {a : Addr} {A : Cell} {U U' : State} (h : Ch a A U) (hal : U.vm.Alike U'.vm) (hk : U'.heap[a]? = some A) : Ch a A U' := ⟨h.1.keep hal hk, h.2⟩
/-- what place i of a char[]'s cell holds -/
def cv (A : Cell) (i : Nat) : Int32 := match A.slots[i]? with | some (.int x) => x | _ => 0
theorem Ch.get {a : Addr} {A : Cell} {U : State} (h : Ch a A U) {i : Nat} (hi : i < A.slots.size) : A.slots[i]? = some (.int (cv A i)) := by
  have e := Array.getElem?_eq_getElem hi
  have f := h.2 i _ e
  unfold cv; rw [e]
  generalize A.slots[i] = v at f
  cases v <;> simp [fits] at f ⊢
/-- the byte that i2b leaves of a char -/
def lo8 (x : Int32) : Int32 := x.toInt8.toInt32
theorem fits_lo8 (y : Int32) : fits .byte (.int (lo8 y)) = true := by
  have h1 := y.toInt8.le_toInt
  have h2 := y.toInt8.toInt_lt
  simp only [lo8, fits, Bool.and_eq_true, decide_eq_true_eq, Int32.le_iff_toInt_le, Int8.toInt_toInt32, show (-128 : Int32).toInt = -128 from by decide, show (127 : Int32).toInt = 127 from by decide]
  omega
/-- A' is A but that each place j of lo .. hi - 1 holds f j -/
def Laid (A A' : Cell) (lo hi : Nat) (f : Nat → Value) : Prop := A'.cls = A.cls ∧ A'.vm = A.vm ∧ A'.slots.size = A.slots.size ∧ ∀ i, A'.slots[i]? = if lo ≤ i ∧ i < hi then some (f i) else A.slots[i]?
theorem Laid.zero (A : Cell) (lo : Nat) (f : Nat → Value) : Laid A A lo (lo + 0) f := ⟨rfl, rfl, rfl, fun i => by rw [if_neg (by omega)]⟩
theorem Laid.step {A Ak : Cell} {lo k : Nat} {f : Nat → Value} {v : Value} (h : Laid A Ak lo k f) (hlo : lo ≤ k) (hk : k < Ak.slots.size) (hv : v = f k) : Laid A (Ak.setSlot k v) lo (k + 1) f := by
  refine ⟨h.1, h.2.1, by simpa [Cell.setSlot] using h.2.2.1, fun i => ?_⟩
  by_cases e : k = i
  · subst e; rw [Cell.slots_setSlot_self v hk, if_pos (by omega), hv]
  · rw [Cell.slots_setSlot_ne v e, h.2.2.2 i]
    by_cases q : lo ≤ i ∧ i < k
    · rw [if_pos q, if_pos (by omega)]
    · rw [if_neg q, if_neg (by omega)]
def U16 : String := "java/lang/StringUTF16"
namespace Cmp5
def yN : MethodName := ⟨"java/lang/StringUTF16", "compress", "([CI[BII)I"⟩
abbrev yB : ByteArray := jdk_52_method_21_code
theorem d0 : decode yB 0 = .ok (.iconst 0, 1) := by decide +kernel
theorem d1 : decode yB 1 = .ok (.istore 5, 2) := by decide +kernel
theorem d3 : decode yB 3 = .ok (.iload 5, 2) := by decide +kernel
theorem d5 : decode yB 5 = .ok (.iload 4, 2) := by decide +kernel
theorem d7 : decode yB 7 = .ok (.if_icmp (.ge) 37, 3) := by decide +kernel
theorem d10 : decode yB 10 = .ok (.aload_n 0, 1) := by decide +kernel
theorem d11 : decode yB 11 = .ok (.iload_n 1, 1) := by decide +kernel
theorem d12 : decode yB 12 = .ok (.caload, 1) := by decide +kernel
theorem d13 : decode yB 13 = .ok (.istore 6, 2) := by decide +kernel
theorem d15 : decode yB 15 = .ok (.iload 6, 2) := by decide +kernel
theorem d17 : decode yB 17 = .ok (.sipush 255, 3) := by decide +kernel
theorem d20 : decode yB 20 = .ok (.if_icmp (.le) 6, 3) := by decide +kernel
theorem d26 : decode yB 26 = .ok (.aload_n 2, 1) := by decide +kernel
theorem d27 : decode yB 27 = .ok (.iload_n 3, 1) := by decide +kernel
theorem d28 : decode yB 28 = .ok (.iload 6, 2) := by decide +kernel
theorem d30 : decode yB 30 = .ok (.i2b, 1) := by decide +kernel
theorem d31 : decode yB 31 = .ok (.bastore, 1) := by decide +kernel
theorem d32 : decode yB 32 = .ok (.iinc 1 1, 3) := by decide +kernel
theorem d35 : decode yB 35 = .ok (.iinc 3 1, 3) := by decide +kernel
theorem d38 : decode yB 38 = .ok (.iinc 5 1, 3) := by decide +kernel
theorem d41 : decode yB 41 = .ok (.goto (-38), 3) := by decide +kernel
theorem d44 : decode yB 44 = .ok (.iload 4, 2) := by decide +kernel
theorem d46 : decode yB 46 = .ok (.ireturn, 1) := by decide +kernel
def site : List Cond := []
def tab : Cond := tabOf yN yB 7 (some .int) site
def P (b : Addr) (A : Cell) (d : Addr) (B : Cell) (o q len : Nat) (args : Array Value) (s : State) : Prop := args = #[.ref b, .int (Int32.ofNat o), .ref d, .int (Int32.ofNat q), .int (Int32.ofNat len)] ∧ Ch b A s ∧ Arr .byte d B s ∧ b ≠ d ∧ o + len ≤ A.slots.size ∧ q + len ≤ B.slots.size ∧ ∀ i, i < len → ¬ 255 < cv A (o + i)
def E (b : Addr) (A : Cell) (d : Addr) (B : Cell) (o q len : Nat) (r : Option Value) (s u : State) : Prop := r = some (.int (Int32.ofNat len)) ∧ ∃ B', Put d B' s u ∧ Laid B B' q (q + len) (fun j => Value.int (lo8 (cv A (o + (j - q)))))
/-- no char of the range above 255: len; the places written hold each char's low byte -/
theorem law (l : Launch) (b : Addr) (A : Cell) (d : Addr) (B : Cell) (o q len : Nat) : Law l yN 5 5 0 0 yB 7 (some .int) site (P b A d B o q len) (E b A d B o q len) (copyLocs d q len) 0 0 := by
  refine Law.of_walk (plainFor_of_name (by decide +kernel)) (by decide +kernel) (by decide +kernel) (by decide) (fun _ _ h => by rw [h.1]; rfl) (fun _ U U' hal hh h => ⟨h.1, h.2.1.mv hal hh, h.2.2.1.mv hal hh, h.2.2.2⟩) (fun r U U' V V' h1 hal h2 h => ⟨h.1, h.2.elim fun B' q => ⟨B', q.1.mv h1 h2, q.2⟩⟩) ?_
  intro p e s m args below meth c s₁ X0 hexec hbytes hml hret hlk hnm hown hh0 W hP
  obtain ⟨rfl, hA, hB, hne, l1, l2, hp⟩ := hP
  have c1 : Steps p.tables e below (s₁.setTop (entryFrame m #[.ref b, .int (Int32.ofNat o), .ref d, .int (Int32.ofNat q), .int (Int32.ofNat len)] 7)) (s₁.setTop (mkF m 0 #[.val (.ref b), .val (.int (Int32.ofNat o)), .val (.ref d), .val (.int (Int32.ofNat q)), .val (.int (Int32.ofNat len)), .unset, .unset] [])) := entry rfl
  have hA0 := hA.1.mv X0.warmed.alike hh0
  have hB0 := hB.mv X0.warmed.alike hh0
  have a31 := hA.1.2.2.2
  have c2 : Steps p.tables e below (s₁.setTop (entryFrame m #[.ref b, .int (Int32.ofNat o), .ref d, .int (Int32.ofNat q), .int (Int32.ofNat len)] 7)) (s₁.setTop (mkF m 3 #[.val (.ref b), .val (.int (Int32.ofNat o)), .val (.ref d), .val (.int (Int32.ofNat q)), .val (.int (Int32.ofNat len)), .val (.int 0), .unset] [])) := c1.trans (by
    refine iconstV X0.here hexec rfl 0 (hb hbytes d0) (by decide) ?_
    refine XS.istore X0.here hexec rfl (hb hbytes d1) rfl rfl ?_
    exact Steps.refl _)
  have loop : ∀ (r i : Nat), i + r = len → ∀ (z : Slot), (z = .unset ∨ ∃ w, z = .val w ∧ w.category = 1) → ∀ (Tl : State) (Bk : Cell), Stand p l e { frames := 0, locals := 0, cells := 0, slots := 0 } s m #[.ref b, .int (Int32.ofNat o), .ref d, .int (Int32.ofNat q), .int (Int32.ofNat len)] below meth c Tl ([] ++ copyLocs d q i) 0 0 → Put d Bk s₁ Tl → Laid B Bk q (q + i) (fun j => Value.int (lo8 (cv A (o + (j - q))))) →
      Steps p.tables e below (s₁.setTop (entryFrame m #[.ref b, .int (Int32.ofNat o), .ref d, .int (Int32.ofNat q), .int (Int32.ofNat len)] 7)) (Tl.setTop (mkF m 3 #[.val (.ref b), .val (.int (Int32.ofNat (o + i))), .val (.ref d), .val (.int (Int32.ofNat (q + i))), .val (.int (Int32.ofNat len)), .val (.int (Int32.ofNat i)), z] [])) → ∃ (T' : State) (B' : Cell) (z' : Slot), Stand p l e { frames := 0, locals := 0, cells := 0, slots := 0 } s m #[.ref b, .int (Int32.ofNat o), .ref d, .int (Int32.ofNat q), .int (Int32.ofNat len)] below meth c T' ([] ++ copyLocs d q len) 0 0 ∧ Put d B' s₁ T' ∧ Laid B B' q (q + len) (fun j => Value.int (lo8 (cv A (o + (j - q))))) ∧
      Steps p.tables e below (s₁.setTop (entryFrame m #[.ref b, .int (Int32.ofNat o), .ref d, .int (Int32.ofNat q), .int (Int32.ofNat len)] 7)) (T'.setTop (mkF m 3 #[.val (.ref b), .val (.int (Int32.ofNat (o + len))), .val (.ref d), .val (.int (Int32.ofNat (q + len))), .val (.int (Int32.ofNat len)), .val (.int (Int32.ofNat len)), z'] [])) := by
    intro r
    induction r with
    | zero =>
      intro i hi z hz Tl Bk Xl pl fl cl
      have hil : i = len := by omega
      rw [hil] at Xl fl cl
      exact ⟨Tl, Bk, z, Xl, pl, fl, cl⟩
    | succ r ih =>
      intro i hi z hz Tl Bk Xl pl fl cl
      have all := X0.warmed.alike.symm.trans Xl.warmed.alike
      have hAl := hA0.keep all (pl.other hne hA0.1)
      have hBk := hB0.like all pl.1 fl.1 fl.2.1 fl.2.2.1
      have hlt : q + i < Bk.slots.size := by rw [fl.2.2.1]; omega
      have c3 : Steps p.tables e below (s₁.setTop (entryFrame m #[.ref b, .int (Int32.ofNat o), .ref d, .int (Int32.ofNat q), .int (Int32.ofNat len)] 7)) (Tl.setTop (mkF m 12 #[.val (.ref b), .val (.int (Int32.ofNat (o + i))), .val (.ref d), .val (.int (Int32.ofNat (q + i))), .val (.int (Int32.ofNat len)), .val (.int (Int32.ofNat i)), z] [.int (Int32.ofNat (o + i)), .ref b])) := cl.trans (by
        refine XS.iload Xl.here hexec rfl (hb hbytes d3) rfl ?_
        refine XS.iload Xl.here hexec rfl (hb hbytes d5) rfl ?_
        refine XS.icmpNo Xl.here hexec rfl (hb hbytes d7) rfl (ii_ge_f (lt32 (by omega) (by omega))) ?_
        refine XS.aloadN Xl.here hexec rfl (hb hbytes d10) rfl rfl ?_
        refine XS.iloadN Xl.here hexec rfl (hb hbytes d11) rfl ?_
        exact Steps.refl _)
      have c4 : Steps p.tables e below (s₁.setTop (entryFrame m #[.ref b, .int (Int32.ofNat o), .ref d, .int (Int32.ofNat q), .int (Int32.ofNat len)] 7)) (Tl.setTop (mkF m 13 #[.val (.ref b), .val (.int (Int32.ofNat (o + i))), .val (.ref d), .val (.int (Int32.ofNat (q + i))), .val (.int (Int32.ofNat len)), .val (.int (Int32.ofNat i)), z] [.int (cv A (o + i))])) := c3.trans (by
        refine Xl.aget hexec hAl rfl (hA.get (i := o + i) (by omega)) rfl rfl (hb hbytes d12) ?_
        exact Steps.refl _)
      have c5 : Steps p.tables e below (s₁.setTop (entryFrame m #[.ref b, .int (Int32.ofNat o), .ref d, .int (Int32.ofNat q), .int (Int32.ofNat len)] 7)) (Tl.setTop (mkF m 15 #[.val (.ref b), .val (.int (Int32.ofNat (o + i))), .val (.ref d), .val (.int (Int32.ofNat (q + i))), .val (.int (Int32.ofNat len)), .val (.int (Int32.ofNat i)), .val (.int (cv A (o + i)))] [])) := c4.trans (by
        refine XS.istoreS Xl.here hexec rfl (hb hbytes d13) rfl rfl hz ?_
        exact Steps.refl _)
      have c6 : Steps p.tables e below (s₁.setTop (entryFrame m #[.ref b, .int (Int32.ofNat o), .ref d, .int (Int32.ofNat q), .int (Int32.ofNat len)] 7)) (Tl.setTop (mkF m 31 #[.val (.ref b), .val (.int (Int32.ofNat (o + i))), .val (.ref d), .val (.int (Int32.ofNat (q + i))), .val (.int (Int32.ofNat len)), .val (.int (Int32.ofNat i)), .val (.int (cv A (o + i)))] [.int (lo8 (cv A (o + i))), .int (Int32.ofNat (q + i)), .ref d])) := c5.trans (by
        refine XS.iload Xl.here hexec rfl (hb hbytes d15) rfl ?_
        refine sipushV Xl.here hexec rfl 255 (hb hbytes d17) (by decide) ?_
        refine XS.icmpYes Xl.here hexec rfl (pc0 := 20) rfl (hb hbytes d20) rfl (ii_le_t (hp i (by omega))) (by decide) rfl ?_
        refine XS.aloadN Xl.here hexec rfl (hb hbytes d26) rfl rfl ?_
        refine XS.iloadN Xl.here hexec rfl (hb hbytes d27) rfl ?_
        refine XS.iload Xl.here hexec rfl (hb hbytes d28) rfl ?_
        refine i2b Xl.here hexec rfl (hb hbytes d30) rfl ?_
        exact Steps.refl _)
      obtain ⟨T7, X7, p7, st7⟩ := Xl.aput hexec hBk rfl hlt rfl (fits_lo8 (cv A (o + i))) (g := (mkF m 31 #[.val (.ref b), .val (.int (Int32.ofNat (o + i))), .val (.ref d), .val (.int (Int32.ofNat (q + i))), .val (.int (Int32.ofNat len)), .val (.int (Int32.ofNat i)), .val (.int (cv A (o + i)))] [.int (lo8 (cv A (o + i))), .int (Int32.ofNat (q + i)), .ref d])) rfl (rest := []) rfl (hb hbytes d31)
      have c8 : Steps p.tables e below (s₁.setTop (entryFrame m #[.ref b, .int (Int32.ofNat o), .ref d, .int (Int32.ofNat q), .int (Int32.ofNat len)] 7)) (T7.setTop (mkF m 32 #[.val (.ref b), .val (.int (Int32.ofNat (o + i))), .val (.ref d), .val (.int (Int32.ofNat (q + i))), .val (.int (Int32.ofNat len)), .val (.int (Int32.ofNat i)), .val (.int (cv A (o + i)))] [])) := c6.trans (st7 _ (Steps.refl _))
      have c9 : Steps p.tables e below (s₁.setTop (entryFrame m #[.ref b, .int (Int32.ofNat o), .ref d, .int (Int32.ofNat q), .int (Int32.ofNat len)] 7)) (T7.setTop (mkF m 3 #[.val (.ref b), .val (.int (Int32.ofNat (o + i) + 1)), .val (.ref d), .val (.int (Int32.ofNat (q + i) + 1)), .val (.int (Int32.ofNat len)), .val (.int (Int32.ofNat i + 1)), .val (.int (cv A (o + i)))] [])) := c8.trans (by
        refine iincV X7.here hexec rfl 1 (hb hbytes d32) (by decide) rfl rfl ?_
        refine iincV X7.here hexec rfl 1 (hb hbytes d35) (by decide) rfl rfl ?_
        refine iincV X7.here hexec rfl 1 (hb hbytes d38) (by decide) rfl rfl ?_
        refine XS.goto X7.here hexec rfl (pc0 := 41) rfl (hb hbytes d41) (by decide) rfl ?_
        exact Steps.refl _)
      have c10 : Steps p.tables e below (s₁.setTop (entryFrame m #[.ref b, .int (Int32.ofNat o), .ref d, .int (Int32.ofNat q), .int (Int32.ofNat len)] 7)) (T7.setTop (mkF m 3 #[.val (.ref b), .val (.int (Int32.ofNat (o + (i + 1)))), .val (.ref d), .val (.int (Int32.ofNat (q + (i + 1)))), .val (.int (Int32.ofNat len)), .val (.int (Int32.ofNat (i + 1))), .val (.int (cv A (o + i)))] [])) := by
        have := c9
        rw [succ32, succ32, succ32] at this
        exact this
      exact ih (i + 1) (by omega) _ (Or.inr ⟨_, rfl, rfl⟩) T7 _ (by rw [copyLocs_step, ← List.append_assoc]; exact X7) (pl.trans p7) (fl.step (by omega) hlt (by simp)) c10
  obtain ⟨T9, B9, z9, X9, p9, f9, g9⟩ := loop len 0 (by omega) .unset (Or.inl rfl) s₁ B (by simpa [copyLocs] using X0) ⟨hB0.1, fun _ _ => rfl, rfl⟩ (Laid.zero _ _ _) c2
  have c11 : Steps p.tables e below (s₁.setTop (entryFrame m #[.ref b, .int (Int32.ofNat o), .ref d, .int (Int32.ofNat q), .int (Int32.ofNat len)] 7)) (T9.setTop (mkF m 46 #[.val (.ref b), .val (.int (Int32.ofNat (o + len))), .val (.ref d), .val (.int (Int32.ofNat (q + len))), .val (.int (Int32.ofNat len)), .val (.int (Int32.ofNat len)), z9] [.int (Int32.ofNat len)])) := g9.trans (by
    refine XS.iload X9.here hexec rfl (hb hbytes d3) rfl ?_
    refine XS.iload X9.here hexec rfl (hb hbytes d5) rfl ?_
    refine XS.icmpYes X9.here hexec rfl (pc0 := 7) rfl (hb hbytes d7) rfl (ii_ge_t (nlt32 (by omega) (Nat.le_refl _))) (by decide) rfl ?_
    refine XS.iload X9.here hexec rfl (hb hbytes d44) rfl ?_
    exact Steps.refl _)
  exact ⟨T9, some (.int (Int32.ofNat len)), _, _, _, X9, by simp, rfl, rfl, (fun h => by cases h), ⟨rfl, B9, p9.from hh0, f9⟩, fun fs hl => c11.trans (X9.ireturnOut hexec hret rfl (Or.inl rfl) (hb hbytes d46) hl)⟩
end Cmp5
namespace Cmp3
def yN : MethodName := ⟨"java/lang/StringUTF16", "compress", "([CII)[B"⟩
abbrev yB : ByteArray := jdk_52_method_16_code
theorem d0 : decode yB 0 = .ok (.iload_n 2, 1) := by decide +kernel
theorem d1 : decode yB 1 = .ok (.newarray .byte, 2) := by decide +kernel
theorem d3 : decode yB 3 = .ok (.astore_n 3, 1) := by decide +kernel
theorem d4 : decode yB 4 = .ok (.aload_n 0, 1) := by decide +kernel
theorem d5 : decode yB 5 = .ok (.iload_n 1, 1) := by decide +kernel
theorem d6 : decode yB 6 = .ok (.aload_n 3, 1) := by decide +kernel
theorem d7 : decode yB 7 = .ok (.iconst 0, 1) := by decide +kernel
theorem d8 : decode yB 8 = .ok (.iload_n 2, 1) := by decide +kernel
theorem d9 : decode yB 9 = .ok (.invokestatic 115, 3) := by decide +kernel
theorem d12 : decode yB 12 = .ok (.istore 4, 2) := by decide +kernel
theorem d14 : decode yB 14 = .ok (.iload 4, 2) := by decide +kernel
theorem d16 : decode yB 16 = .ok (.iload_n 2, 1) := by decide +kernel
theorem d17 : decode yB 17 = .ok (.if_icmp (.eq) 40, 3) := by decide +kernel
theorem d57 : decode yB 57 = .ok (.aload_n 3, 1) := by decide +kernel
theorem d58 : decode yB 58 = .ok (.areturn, 1) := by decide +kernel
def site : List Cond := [.arrayClass .byte, Cmp5.tab] ++ staticW U16 115 Cmp5.yN
def tab : Cond := tabOf yN yB 6 (some (.array .byte)) site
def P (b : Addr) (A : Cell) (o len : Nat) (args : Array Value) (s : State) : Prop := args = #[.ref b, .int (Int32.ofNat o), .int (Int32.ofNat len)] ∧ Ch b A s ∧ o + len ≤ A.slots.size ∧ len ≤ 536870912 ∧ ∀ i, i < len → ¬ 255 < cv A (o + i)
def E (b : Addr) (A : Cell) (o len : Nat) (r : Option Value) (s u : State) : Prop := NewArr .byte "[B" len (fun j => .int (lo8 (cv A (o + j)))) r s u ∧ u.heap.size = s.heap.size + 1
/-- no char of the range above 255: a new byte[] of their low bytes -/
theorem law (l : Launch) (b : Addr) (A : Cell) (o len : Nat) : Law l yN 3 3 1 18 yB 6 (some (.array .byte)) site (P b A o len) (E b A o len) [] 1 len := by
  refine Law.of_walk (plainFor_of_name (by decide +kernel)) (by decide +kernel) (by decide +kernel) (by decide) (fun _ _ h => by rw [h.1]; rfl) (fun _ U U' hal hh h => ⟨h.1, h.2.1.mv hal hh, h.2.2⟩) (fun r U U' V V' h1 hal h2 h => ⟨NewArr.mv r U U' V V' h1 hal h2 h.1, by rw [h1, h2]; exact h.2⟩) ?_
  intro p e s m args below meth c s₁ X0 hexec hbytes hml hret hlk hnm hown hh0 W hP
  obtain ⟨rfl, hA, l1, l2, hp⟩ := hP
  have a31 := hA.1.2.2.2
  have c1 : Steps p.tables e below (s₁.setTop (entryFrame m #[.ref b, .int (Int32.ofNat o), .int (Int32.ofNat len)] 6)) (s₁.setTop (mkF m 0 #[.val (.ref b), .val (.int (Int32.ofNat o)), .val (.int (Int32.ofNat len)), .unset, .unset, .unset] [])) := entry rfl
  have c2 : Steps p.tables e below (s₁.setTop (entryFrame m #[.ref b, .int (Int32.ofNat o), .int (Int32.ofNat len)] 6)) (s₁.setTop (mkF m 1 #[.val (.ref b), .val (.int (Int32.ofNat o)), .val (.int (Int32.ofNat len)), .unset, .unset, .unset] [.int (Int32.ofNat len)])) := c1.trans (by
    refine XS.iloadN X0.here hexec rfl (hb hbytes d0) rfl ?_
    exact Steps.refl _)
  obtain ⟨T3, B3, X3, ba3, bs3, bv3, bh3, bf3, st3⟩ := X0.anew hexec (atype := .byte) (wk W (.arrayClass .byte)) rfl (by show len * 1 ≤ _; omega) (by omega) (g := (mkF m 1 #[.val (.ref b), .val (.int (Int32.ofNat o)), .val (.int (Int32.ofNat len)), .unset, .unset, .unset] [.int (Int32.ofNat len)])) rfl (hb hbytes d1) (rest := []) rfl (Nat.le_refl _) (by show 0 + len ≤ len; omega)
  rw [hh0] at ba3 st3
  have kp3 : XT.Kept s T3 := (XT.Kept.of_eq hh0).push bh3
  have hA3 := hA.keep X3.warmed.alike (kp3 _ _ hA.1.1)
  have hne : b ≠ s.heap.size := hA.1.ne
  have c4 : Steps p.tables e below (s₁.setTop (entryFrame m #[.ref b, .int (Int32.ofNat o), .int (Int32.ofNat len)] 6)) (T3.setTop (mkF m 3 #[.val (.ref b), .val (.int (Int32.ofNat o)), .val (.int (Int32.ofNat len)), .unset, .unset, .unset] [.ref s.heap.size])) := c2.trans (st3 _ (Steps.refl _))
  have c5 : Steps p.tables e below (s₁.setTop (entryFrame m #[.ref b, .int (Int32.ofNat o), .int (Int32.ofNat len)] 6)) (T3.setTop (mkF m 9 #[.val (.ref b), .val (.int (Int32.ofNat o)), .val (.int (Int32.ofNat len)), .val (.ref s.heap.size), .unset, .unset] [.int (Int32.ofNat len), .int 0, .ref s.heap.size, .int (Int32.ofNat o), .ref b])) := c4.trans (by
    refine XS.astoreN X3.here hexec rfl (hb hbytes d3) rfl rfl rfl ?_
    refine XS.aloadN X3.here hexec rfl (hb hbytes d4) rfl rfl ?_
    refine XS.iloadN X3.here hexec rfl (hb hbytes d5) rfl ?_
    refine XS.aloadN X3.here hexec rfl (hb hbytes d6) rfl rfl ?_
    refine iconstV X3.here hexec rfl 0 (hb hbytes d7) (by decide) ?_
    refine XS.iloadN X3.here hexec rfl (hb hbytes d8) rfl ?_
    exact Steps.refl _)
  obtain ⟨v6, T6, X6, E6, g6⟩ := X3.callS hexec (Cmp5.law l b A s.heap.size B3 o 0 len) hown (wks W (staticW U16 115 Cmp5.yN)) (wk W Cmp5.tab) (W := 0) (Nat.le_of_ble_eq_true rfl) (Nat.le_of_ble_eq_true rfl) (Nat.le_refl _) (by show 0 + len + 0 ≤ len; omega) (g := (mkF m 9 #[.val (.ref b), .val (.int (Int32.ofNat o)), .val (.int (Int32.ofNat len)), .val (.ref s.heap.size), .unset, .unset] [.int (Int32.ofNat len), .int (Int32.ofNat 0), .ref s.heap.size, .int (Int32.ofNat o), .ref b])) rfl (by rw [hml]; rfl) c5 (argsL := [.ref b, .int (Int32.ofNat o), .ref s.heap.size, .int (Int32.ofNat 0), .int (Int32.ofNat len)]) (rest := []) rfl rfl (by show 2 * 0 + 0 ≤ _; decide) (hb hbytes d9) (⟨rfl, hA3, ba3, hne, l1, by rw [bs3]; simp, hp⟩)
  obtain ⟨rfl, B6, p6, f6⟩ := E6
  have c7 : Steps p.tables e below (s₁.setTop (entryFrame m #[.ref b, .int (Int32.ofNat o), .int (Int32.ofNat len)] 6)) (T6.setTop (mkF m 12 #[.val (.ref b), .val (.int (Int32.ofNat o)), .val (.int (Int32.ofNat len)), .val (.ref s.heap.size), .unset, .unset] [.int (Int32.ofNat len)])) := g6
  have c8 : Steps p.tables e below (s₁.setTop (entryFrame m #[.ref b, .int (Int32.ofNat o), .int (Int32.ofNat len)] 6)) (T6.setTop (mkF m 58 #[.val (.ref b), .val (.int (Int32.ofNat o)), .val (.int (Int32.ofNat len)), .val (.ref s.heap.size), .val (.int (Int32.ofNat len)), .unset] [.ref s.heap.size])) := c7.trans (by
    refine XS.istore X6.here hexec rfl (hb hbytes d12) rfl rfl ?_
    refine XS.iload X6.here hexec rfl (hb hbytes d14) rfl ?_
    refine XS.iloadN X6.here hexec rfl (hb hbytes d16) rfl ?_
    refine XS.icmpYes X6.here hexec rfl (pc0 := 17) rfl (hb hbytes d17) rfl (ii_eq_t rfl) (by decide) rfl ?_
    refine XS.aloadN X6.here hexec rfl (hb hbytes d57) rfl rfl ?_
    exact Steps.refl _)
  have X8 := X6.wide (L' := []) (cells' := 1) (slots' := len) (fun x hx hlt => by
    simp only [List.nil_append, copyLocs, List.mem_map, List.mem_range] at hx
    obtain ⟨i, -, rfl⟩ := hx
    exact absurd hlt (Nat.lt_irrefl _)) (Nat.le_refl _) (by omega)
  exact ⟨T6, some (.ref s.heap.size), _, _, _, X8, rfl, rfl, rfl, (fun h => by cases h), ⟨⟨rfl, B6, ba3.like (X3.warmed.alike.symm.trans X6.warmed.alike) p6.1 f6.1 f6.2.1 f6.2.2.1, f6.2.1.trans bv3, by rw [X6.warmed.alike.findClass, f6.1]; exact bf3, by rw [f6.2.2.1, bs3]; simp, fun j hj => by rw [f6.2.2.2 j, if_pos (by omega)]; rfl, kp3.put p6 (Nat.le_refl _)⟩, by rw [p6.2.2, bh3, hh0]; simp⟩, fun fs hl => c8.trans (X8.areturnOut hexec rfl hret rfl (hb hbytes d58) hl)⟩
end Cmp3
namespace CodL
def yN : MethodName := ⟨"java/lang/StringUTF16", "coderFromArrayLen", "([BI)B"⟩
abbrev yB : ByteArray := jdk_52_method_15_code
theorem d0 : decode yB 0 = .ok (.iload_n 1, 1) := by decide +kernel
theorem d1 : decode yB 1 = .ok (.aload_n 0, 1) := by decide +kernel
theorem d2 : decode yB 2 = .ok (.arraylength, 1) := by decide +kernel
theorem d3 : decode yB 3 = .ok (.isub, 1) := by decide +kernel
theorem d4 : decode yB 4 = .ok (.bipush 31, 2) := by decide +kernel
theorem d6 : decode yB 6 = .ok (.iushr, 1) := by decide +kernel
theorem d7 : decode yB 7 = .ok (.i2b, 1) := by decide +kernel
theorem d8 : decode yB 8 = .ok (.ireturn, 1) := by decide +kernel
def site : List Cond := []
def tab : Cond := tabOf yN yB 2 (some .byte) site
def P (d : Addr) (B : Cell) (args : Array Value) (s : State) : Prop := args = #[.ref d, .int (Int32.ofNat B.slots.size)] ∧ Arr .byte d B s
def E (r : Option Value) (s u : State) : Prop := XT.PureE (some (.int 0)) r s u
/-- an array as long as the number of chars: LATIN1 -/
theorem law (l : Launch) (d : Addr) (B : Cell) : Law l yN 2 2 0 0 yB 2 (some .byte) site (P d B) E [] 0 0 := by
  refine Law.of_walk (plainFor_of_name (by decide +kernel)) (by decide +kernel) (by decide +kernel) (by decide) (fun _ _ h => by rw [h.1]; rfl) (fun _ U U' hal hh h => ⟨h.1, h.2.mv hal hh⟩) (fun r U U' V V' h1 hal h2 h => XT.PureE.mv r U U' V V' h1 hal h2 h) ?_
  intro p e s m args below meth c s₁ X0 hexec hbytes hml hret hlk hnm hown hh0 W hP
  obtain ⟨rfl, hB⟩ := hP
  have hB0 := hB.mv X0.warmed.alike hh0
  have c1 : Steps p.tables e below (s₁.setTop (entryFrame m #[.ref d, .int (Int32.ofNat B.slots.size)] 2)) (s₁.setTop (mkF m 0 #[.val (.ref d), .val (.int (Int32.ofNat B.slots.size))] [])) := entry rfl
  have c2 : Steps p.tables e below (s₁.setTop (entryFrame m #[.ref d, .int (Int32.ofNat B.slots.size)] 2)) (s₁.setTop (mkF m 2 #[.val (.ref d), .val (.int (Int32.ofNat B.slots.size))] [.ref d, .int (Int32.ofNat B.slots.size)])) := c1.trans (by
    refine XS.iloadN X0.here hexec rfl (hb hbytes d0) rfl ?_
    refine XS.aloadN X0.here hexec rfl (hb hbytes d1) rfl rfl ?_
    exact Steps.refl _)
  have c3 : Steps p.tables e below (s₁.setTop (entryFrame m #[.ref d, .int (Int32.ofNat B.slots.size)] 2)) (s₁.setTop (mkF m 8 #[.val (.ref d), .val (.int (Int32.ofNat B.slots.size))] [.int (lo8 (ushr (Int32.ofNat B.slots.size - Int32.ofNat B.slots.size) 31))])) := c2.trans (by
    refine X0.alen hexec hB0 rfl rfl (hb hbytes d2) ?_
    refine XS.isub X0.here hexec rfl (hb hbytes d3) rfl ?_
    refine bipushV X0.here hexec rfl 31 (hb hbytes d4) (by decide) ?_
    refine iushr X0.here hexec rfl (hb hbytes d6) rfl ?_
    refine i2b X0.here hexec rfl (hb hbytes d7) rfl ?_
    exact Steps.refl _)
  have e0 : lo8 (ushr (Int32.ofNat B.slots.size - Int32.ofNat B.slots.size) 31) = 0 := by rw [Int32.sub_self]; decide
  rw [e0] at c3
  exact ⟨s₁, some (.int 0), _, _, _, X0, rfl, rfl, rfl, (fun h => by cases h), ⟨rfl, hh0⟩, fun fs hl => c3.trans (X0.ireturnOut hexec hret rfl (Or.inr (Or.inr (Or.inl rfl))) (hb hbytes d8) hl)⟩
end CodL
/-- the String at a is Latin-1 over a new byte[] (the heap's one new cell): the low bytes of the len chars of A from o on; every cell but a is kept -/
def Got (a : Addr) (D : Cell) (fV fC : Field) (A : Cell) (o len : Nat) (r : Option Value) (s u : State) : Prop := r = none ∧ ∃ D' V : Cell, Blank "java/lang/String" a D' u ∧ Same D D' [fV.slot, fC.slot] ∧ D'.slots[fV.slot]? = some (.ref s.heap.size) ∧ D'.slots[fC.slot]? = some (.int 0) ∧ Arr .byte s.heap.size V u ∧ V.vm = .none ∧ u.vm.findClass "[B" = some V.cls ∧ V.slots.size = len ∧ (∀ j, j < len → V.slots[j]? = some (.int (lo8 (cv A (o + j))))) ∧ (∀ (y : Addr) (c : Cell), y ≠ a → s.heap[y]? = some c → u.heap[y]? = some c) ∧ u.heap.size = s.heap.size + 1
theorem Got.mv {a : Addr} {D A : Cell} {fV fC : Field} {o len : Nat} : ∀ r (U U' V V' : State), U'.heap = U.heap → V.vm.Alike V'.vm → V'.heap = V.heap → Got a D fV fC A o len r U V → Got a D fV fC A o len r U' V' :=
  fun r U U' V V' h1 hal h2 ⟨e0, D', X, a1, a2, a3, a4, a5, a6, a7, a8, a9, a10, a11⟩ => ⟨e0, D', X, a1.mv hal h2, a2, by rw [h1]; exact a3, a4, by rw [h1]; exact a5.mv hal h2, a6, by rw [hal.findClass]; exact a7, a8, a9, by rw [h1, h2]; exact a10, by rw [h1, h2]; exact a11⟩
namespace New4
def yN : MethodName := ⟨"java/lang/String", "<init>", "([CIILjava/lang/Void;)V"⟩
abbrev yB : ByteArray := jdk_42_method_149_code
theorem d0 : decode yB 0 = .ok (.aload_n 0, 1) := by decide +kernel
theorem d1 : decode yB 1 = .ok (.invokespecial 1, 3) := by decide +kernel
theorem d4 : decode yB 4 = .ok (.iload_n 3, 1) := by decide +kernel
theorem d5 : decode yB 5 = .ok (.ifCond (.ne) 22, 3) := by decide +kernel
theorem d27 : decode yB 27 = .ok (.getstatic 38, 3) := by decide +kernel
theorem d30 : decode yB 30 = .ok (.ifCond (.eq) 28, 3) := by decide +kernel
theorem d33 : decode yB 33 = .ok (.aload_n 1, 1) := by decide +kernel
theorem d34 : decode yB 34 = .ok (.iload_n 2, 1) := by decide +kernel
theorem d35 : decode yB 35 = .ok (.iload_n 3, 1) := by decide +kernel
theorem d36 : decode yB 36 = .ok (.invokestatic 177, 3) := by decide +kernel
theorem d39 : decode yB 39 = .ok (.astore 5, 2) := by decide +kernel
theorem d41 : decode yB 41 = .ok (.aload_n 0, 1) := by decide +kernel
theorem d42 : decode yB 42 = .ok (.aload 5, 2) := by decide +kernel
theorem d44 : decode yB 44 = .ok (.iload_n 3, 1) := by decide +kernel
theorem d45 : decode yB 45 = .ok (.invokestatic 47, 3) := by decide +kernel
theorem d48 : decode yB 48 = .ok (.putfield 15, 3) := by decide +kernel
theorem d51 : decode yB 51 = .ok (.aload_n 0, 1) := by decide +kernel
theorem d52 : decode yB 52 = .ok (.aload 5, 2) := by decide +kernel
theorem d54 : decode yB 54 = .ok (.putfield 9, 3) := by decide +kernel
theorem d57 : decode yB 57 = .ok (.return_, 1) := by decide +kernel
def site : List Cond := [.fieldLink "java/lang/String" 38 "java/lang/String" "COMPACT_STRINGS" "Z", Cmp3.tab, CodL.tab, .laysFinal "java/lang/String" "java/lang/String" "value" "[B", .fieldLink "java/lang/String" 9 "java/lang/String" "value" "[B", .laysFinal "java/lang/String" "java/lang/String" "coder" "B", .fieldLink "java/lang/String" 15 "java/lang/String" "coder" "B"] ++ objW "java/lang/String" 1 ++ staticW "java/lang/String" 177 Cmp3.yN ++ staticW "java/lang/String" 47 CodL.yN
def tab : Cond := tabOf yN yB 6 none site
def P (a : Addr) (D : Cell) (fV fC : Field) (b : Addr) (A : Cell) (z : Int32) (o len : Nat) (args : Array Value) (s : State) : Prop := args = #[.ref a, .ref b, .int (Int32.ofNat o), .int (Int32.ofNat len), .null] ∧ Blank "java/lang/String" a D s ∧ Found "java/lang/String" "value" "[B" fV s ∧ Found "java/lang/String" "coder" "B" fC s ∧ Ch b A s ∧ StaticIs s "java/lang/String" "COMPACT_STRINGS" "Z" (.int z) ∧ ¬ z = 0 ∧ 0 < len ∧ o + len ≤ A.slots.size ∧ len ≤ 536870912 ∧ ∀ i, i < len → ¬ 255 < cv A (o + i)
def E (a : Addr) (D : Cell) (fV fC : Field) (A : Cell) (o len : Nat) (r : Option Value) (s u : State) : Prop := Got a D fV fC A o len r s u
/-- len > 0, no char of the range above 255: a Latin-1 String of their low bytes -/
theorem law (l : Launch) (a : Addr) (D : Cell) (fV fC : Field) (b : Addr) (A : Cell) (z : Int32) (o len : Nat) : Law l yN 5 4 2 35 yB 6 none site (P a D fV fC b A z o len) (E a D fV fC A o len) [⟨a, fC.slot⟩, ⟨a, fV.slot⟩] 1 len := by
  refine Law.of_walk (plainFor_of_name (by decide +kernel)) (by decide +kernel) (by decide +kernel) (by decide) (fun _ _ h => by rw [h.1]; rfl) (fun _ U U' hal hh h => ⟨h.1, h.2.1.mv hal hh, h.2.2.1.al hal, h.2.2.2.1.al hal, h.2.2.2.2.1.mv hal hh, h.2.2.2.2.2.1.there hal hh, h.2.2.2.2.2.2⟩) (fun r U U' V V' h1 hal h2 h => Got.mv r U U' V V' h1 hal h2 h) ?_
  intro p e s m args below meth c s₁ X0 hexec hbytes hml hret hlk hnm hown hh0 W hP
  obtain ⟨rfl, hB, f1, f2, hA, s1, hz, l0, l1, l2, hp⟩ := hP
  have a31 := hA.1.2.2.2
  have c1 : Steps p.tables e below (s₁.setTop (entryFrame m #[.ref a, .ref b, .int (Int32.ofNat o), .int (Int32.ofNat len), .null] 6)) (s₁.setTop (mkF m 0 #[.val (.ref a), .val (.ref b), .val (.int (Int32.ofNat o)), .val (.int (Int32.ofNat len)), .val .null, .unset] [])) := entry rfl
  have c2 : Steps p.tables e below (s₁.setTop (entryFrame m #[.ref a, .ref b, .int (Int32.ofNat o), .int (Int32.ofNat len), .null] 6)) (s₁.setTop (mkF m 1 #[.val (.ref a), .val (.ref b), .val (.int (Int32.ofNat o)), .val (.int (Int32.ofNat len)), .val .null, .unset] [.ref a])) := c1.trans (by
    refine XS.aloadN X0.here hexec rfl (hb hbytes d0) rfl rfl ?_
    exact Steps.refl _)
  obtain ⟨T3, X3, q3, st3⟩ := X0.oinit hexec hown (wks W (objW "java/lang/String" 1)) (g := (mkF m 1 #[.val (.ref a), .val (.ref b), .val (.int (Int32.ofNat o)), .val (.int (Int32.ofNat len)), .val .null, .unset] [.ref a])) rfl (by rw [hml]; rfl) (rest := []) rfl (hb hbytes d1) (W := 0) (by show 2 * 0 + 0 ≤ _; decide) (Nat.le_of_ble_eq_true rfl) (Nat.le_of_ble_eq_true rfl)
  have hh3 := q3.trans hh0
  have c4 : Steps p.tables e below (s₁.setTop (entryFrame m #[.ref a, .ref b, .int (Int32.ofNat o), .int (Int32.ofNat len), .null] 6)) (T3.setTop (mkF m 27 #[.val (.ref a), .val (.ref b), .val (.int (Int32.ofNat o)), .val (.int (Int32.ofNat len)), .val .null, .unset] [])) := (c2.trans (st3 _ (Steps.refl _))).trans (by
    refine XS.iloadN X3.here hexec rfl (hb hbytes d4) rfl ?_
    refine XS.ifYes X3.here hexec rfl (pc0 := 5) rfl (hb hbytes d5) rfl (i0_ne_t (nz32 (by omega) l0)) (by decide) rfl ?_
    exact Steps.refl _)
  obtain ⟨T5, X5, q5, st5⟩ := X3.sget hexec hown (wk W (.fieldLink "java/lang/String" 38 "java/lang/String" "COMPACT_STRINGS" "Z")) s1 (fun _ _ h => by rw [hh3]; exact h) (g := (mkF m 27 #[.val (.ref a), .val (.ref b), .val (.int (Int32.ofNat o)), .val (.int (Int32.ofNat len)), .val .null, .unset] [])) rfl (hb hbytes d27)
  have hh5 := q5.trans hh3
  have c6 : Steps p.tables e below (s₁.setTop (entryFrame m #[.ref a, .ref b, .int (Int32.ofNat o), .int (Int32.ofNat len), .null] 6)) (T5.setTop (mkF m 30 #[.val (.ref a), .val (.ref b), .val (.int (Int32.ofNat o)), .val (.int (Int32.ofNat len)), .val .null, .unset] [.int z])) := c4.trans (st5 _ (Steps.refl _))
  have c7 : Steps p.tables e below (s₁.setTop (entryFrame m #[.ref a, .ref b, .int (Int32.ofNat o), .int (Int32.ofNat len), .null] 6)) (T5.setTop (mkF m 36 #[.val (.ref a), .val (.ref b), .val (.int (Int32.ofNat o)), .val (.int (Int32.ofNat len)), .val .null, .unset] [.int (Int32.ofNat len), .int (Int32.ofNat o), .ref b])) := c6.trans (by
    refine XS.ifNo X5.here hexec rfl (hb hbytes d30) rfl (i0_eq_f hz) ?_
    refine XS.aloadN X5.here hexec rfl (hb hbytes d33) rfl rfl ?_
    refine XS.iloadN X5.here hexec rfl (hb hbytes d34) rfl ?_
    refine XS.iloadN X5.here hexec rfl (hb hbytes d35) rfl ?_
    exact Steps.refl _)
  obtain ⟨v8, T8, X8, E8, g8⟩ := X5.callS hexec (Cmp3.law l b A o len) hown (wks W (staticW "java/lang/String" 177 Cmp3.yN)) (wk W Cmp3.tab) (W := 0) (Nat.le_of_ble_eq_true rfl) (Nat.le_of_ble_eq_true rfl) (Nat.le_refl _) (by show 0 + len ≤ len; omega) (g := (mkF m 36 #[.val (.ref a), .val (.ref b), .val (.int (Int32.ofNat o)), .val (.int (Int32.ofNat len)), .val .null, .unset] [.int (Int32.ofNat len), .int (Int32.ofNat o), .ref b])) rfl (by rw [hml]; rfl) c7 (argsL := [.ref b, .int (Int32.ofNat o), .int (Int32.ofNat len)]) (rest := []) rfl rfl (by show 2 * 0 + 0 ≤ _; decide) (hb hbytes d36) (⟨rfl, hA.mv X5.warmed.alike hh5, l1, l2, hp⟩)
  obtain ⟨e8, z8⟩ := E8
  obtain ⟨rfl, N, n1, n2, n3, n4, n5, n6⟩ := NewArr.mv _ T5 s _ _ hh5.symm (Vm.Alike.refl _) rfl e8
  rw [hh5] at z8
  have hB1 := hB.keep X8.warmed.alike (n6 _ _ hB.1)
  have hne : s.heap.size ≠ a := (Nat.ne_of_lt (Array.getElem?_eq_some_iff.mp hB.1).1).symm
  have c9 : Steps p.tables e below (s₁.setTop (entryFrame m #[.ref a, .ref b, .int (Int32.ofNat o), .int (Int32.ofNat len), .null] 6)) (T8.setTop (mkF m 39 #[.val (.ref a), .val (.ref b), .val (.int (Int32.ofNat o)), .val (.int (Int32.ofNat len)), .val .null, .unset] [.ref s.heap.size])) := g8
  have c10 : Steps p.tables e below (s₁.setTop (entryFrame m #[.ref a, .ref b, .int (Int32.ofNat o), .int (Int32.ofNat len), .null] 6)) (T8.setTop (mkF m 45 #[.val (.ref a), .val (.ref b), .val (.int (Int32.ofNat o)), .val (.int (Int32.ofNat len)), .val .null, .val (.ref s.heap.size)] [.int (Int32.ofNat N.slots.size), .ref s.heap.size, .ref a])) := by
    have hc : Steps p.tables e below (s₁.setTop (entryFrame m #[.ref a, .ref b, .int (Int32.ofNat o), .int (Int32.ofNat len), .null] 6)) (T8.setTop (mkF m 45 #[.val (.ref a), .val (.ref b), .val (.int (Int32.ofNat o)), .val (.int (Int32.ofNat len)), .val .null, .val (.ref s.heap.size)] [.int (Int32.ofNat len), .ref s.heap.size, .ref a])) := c9.trans (by
      refine XS.astore X8.here hexec rfl (hb hbytes d39) rfl rfl rfl ?_
      refine XS.aloadN X8.here hexec rfl (hb hbytes d41) rfl rfl ?_
      refine XS.aload X8.here hexec rfl (hb hbytes d42) rfl rfl ?_
      refine XS.iloadN X8.here hexec rfl (hb hbytes d44) rfl ?_
      exact Steps.refl _)
    rw [n4]; exact hc
  obtain ⟨v11, T11, X11, E11, g11⟩ := X8.callS hexec (CodL.law l s.heap.size N) hown (wks W (staticW "java/lang/String" 47 CodL.yN)) (wk W CodL.tab) (W := 1) (Nat.le_of_ble_eq_true rfl) (Nat.le_of_ble_eq_true rfl) (Nat.le_refl _) (by show 0 + len + 0 ≤ len; omega) (g := (mkF m 45 #[.val (.ref a), .val (.ref b), .val (.int (Int32.ofNat o)), .val (.int (Int32.ofNat len)), .val .null, .val (.ref s.heap.size)] [.int (Int32.ofNat N.slots.size), .ref s.heap.size, .ref a])) rfl (by rw [hml]; rfl) c10 (argsL := [.ref s.heap.size, .int (Int32.ofNat N.slots.size)]) (rest := [.ref a]) rfl rfl (by show 2 * 0 + (1 + 0) ≤ _; decide) (hb hbytes d45) (⟨rfl, n1⟩)
  obtain ⟨rfl, q11⟩ := E11
  have hB11 := hB1.mv (X8.warmed.alike.symm.trans X11.warmed.alike) q11
  have c12 : Steps p.tables e below (s₁.setTop (entryFrame m #[.ref a, .ref b, .int (Int32.ofNat o), .int (Int32.ofNat len), .null] 6)) (T11.setTop (mkF m 48 #[.val (.ref a), .val (.ref b), .val (.int (Int32.ofNat o)), .val (.int (Int32.ofNat len)), .val .null, .val (.ref s.heap.size)] [.int 0, .ref a])) := g11
  obtain ⟨T13, X13, p13, bl13, sl13, st13⟩ := X11.finit hexec hown (wk W (.fieldLink "java/lang/String" 15 "java/lang/String" "coder" "B")) (Or.inr ⟨_, (wk W (.laysFinal "java/lang/String" "java/lang/String" "coder" "B"))⟩) (Or.inl ⟨rfl, hnm⟩) f2 (Or.inl rfl) hB11 (t := .byte) (by decide +kernel) rfl (g := (mkF m 48 #[.val (.ref a), .val (.ref b), .val (.int (Int32.ofNat o)), .val (.int (Int32.ofNat len)), .val .null, .val (.ref s.heap.size)] [.int 0, .ref a])) rfl (rest := []) rfl (hb hbytes d48)
  have c14 : Steps p.tables e below (s₁.setTop (entryFrame m #[.ref a, .ref b, .int (Int32.ofNat o), .int (Int32.ofNat len), .null] 6)) (T13.setTop (mkF m 54 #[.val (.ref a), .val (.ref b), .val (.int (Int32.ofNat o)), .val (.int (Int32.ofNat len)), .val .null, .val (.ref s.heap.size)] [.ref s.heap.size, .ref a])) := (c12.trans (st13 _ (Steps.refl _))).trans (by
    refine XS.aloadN X13.here hexec rfl (hb hbytes d51) rfl rfl ?_
    refine XS.aload X13.here hexec rfl (hb hbytes d52) rfl rfl ?_
    exact Steps.refl _)
  obtain ⟨T15, X15, p15, bl15, sl15, st15⟩ := X13.finit hexec hown (wk W (.fieldLink "java/lang/String" 9 "java/lang/String" "value" "[B")) (Or.inr ⟨_, (wk W (.laysFinal "java/lang/String" "java/lang/String" "value" "[B"))⟩) (Or.inl ⟨rfl, hnm⟩) f1 (Or.inl rfl) bl13 (t := (.array .byte)) (by decide +kernel) rfl (g := (mkF m 54 #[.val (.ref a), .val (.ref b), .val (.int (Int32.ofNat o)), .val (.int (Int32.ofNat len)), .val .null, .val (.ref s.heap.size)] [.ref s.heap.size, .ref a])) rfl (rest := []) rfl (hb hbytes d54)
  have c16 : Steps p.tables e below (s₁.setTop (entryFrame m #[.ref a, .ref b, .int (Int32.ofNat o), .int (Int32.ofNat len), .null] 6)) (T15.setTop (mkF m 57 #[.val (.ref a), .val (.ref b), .val (.int (Int32.ofNat o)), .val (.int (Int32.ofNat len)), .val .null, .val (.ref s.heap.size)] [])) := c14.trans (st15 _ (Steps.refl _))
  have ap := apart (Or.inr ⟨_, (wk W (.laysFinal "java/lang/String" "java/lang/String" "value" "[B"))⟩) (Or.inr ⟨_, (wk W (.laysFinal "java/lang/String" "java/lang/String" "coder" "B"))⟩) f1 f2 (t₁ := .array .byte) (t₂ := .byte) (by decide +kernel) (by decide +kernel) (by decide)
  have al := X8.warmed.alike.symm.trans X15.warmed.alike
  have n7 : T11.heap[s.heap.size]? = some N := by rw [q11]; exact n1.1
  exact ⟨T15, none, _, _, _, X15, by simp, rfl, by omega, (fun _ => rfl), ⟨rfl, _, N, bl15, ((Same.refl D _).set _ (by simp)).set _ (by simp), sl15, (Cell.slots_setSlot_ne _ ap).trans sl13, n1.keep al (p15.other hne (p13.other hne n7)), n2, by rw [al.findClass]; exact n3, n4, n5, fun y c h1 h2 => p15.other h1 (p13.other h1 (by rw [q11]; exact n6 y c h2)), by rw [p15.2.2, p13.2.2, q11]; exact z8⟩, fun fs hl => c16.trans (X15.returnOut hexec hret (hb hbytes d57) hl)⟩
end New4
namespace New1
def yN : MethodName := ⟨"java/lang/String", "<init>", "([C)V"⟩
abbrev yB : ByteArray := jdk_42_method_3_code
theorem d0 : decode yB 0 = .ok (.aload_n 0, 1) := by decide +kernel
theorem d1 : decode yB 1 = .ok (.aload_n 1, 1) := by decide +kernel
theorem d2 : decode yB 2 = .ok (.iconst 0, 1) := by decide +kernel
theorem d3 : decode yB 3 = .ok (.aload_n 1, 1) := by decide +kernel
theorem d4 : decode yB 4 = .ok (.arraylength, 1) := by decide +kernel
theorem d5 : decode yB 5 = .ok (.aconst_null, 1) := by decide +kernel
theorem d6 : decode yB 6 = .ok (.invokespecial 27, 3) := by decide +kernel
theorem d9 : decode yB 9 = .ok (.return_, 1) := by decide +kernel
def site : List Cond := [New4.tab] ++ initW "java/lang/String" 27 New4.yN
def tab : Cond := tabOf yN yB 2 none site
def P (a : Addr) (D : Cell) (fV fC : Field) (b : Addr) (A : Cell) (z : Int32) (args : Array Value) (s : State) : Prop := args = #[.ref a, .ref b] ∧ Blank "java/lang/String" a D s ∧ Found "java/lang/String" "value" "[B" fV s ∧ Found "java/lang/String" "coder" "B" fC s ∧ Ch b A s ∧ StaticIs s "java/lang/String" "COMPACT_STRINGS" "Z" (.int z) ∧ ¬ z = 0 ∧ 0 < A.slots.size ∧ A.slots.size ≤ 536870912 ∧ ∀ i, i < A.slots.size → ¬ 255 < cv A i
def E (a : Addr) (D : Cell) (fV fC : Field) (A : Cell) (r : Option Value) (s u : State) : Prop := Got a D fV fC A 0 A.slots.size r s u
/-- new String(chars), not empty, no char above 255: a Latin-1 String of their low bytes -/
theorem law (l : Launch) (a : Addr) (D : Cell) (fV fC : Field) (b : Addr) (A : Cell) (z : Int32) : Law l yN 2 1 3 52 yB 2 none site (P a D fV fC b A z) (E a D fV fC A) [⟨a, fC.slot⟩, ⟨a, fV.slot⟩] 1 A.slots.size := by
  refine Law.of_walk (plainFor_of_name (by decide +kernel)) (by decide +kernel) (by decide +kernel) (by decide) (fun _ _ h => by rw [h.1]; rfl) (fun _ U U' hal hh h => ⟨h.1, h.2.1.mv hal hh, h.2.2.1.al hal, h.2.2.2.1.al hal, h.2.2.2.2.1.mv hal hh, h.2.2.2.2.2.1.there hal hh, h.2.2.2.2.2.2⟩) (fun r U U' V V' h1 hal h2 h => Got.mv r U U' V V' h1 hal h2 h) ?_
  intro p e s m args below meth c s₁ X0 hexec hbytes hml hret hlk hnm hown hh0 W hP
  obtain ⟨rfl, hB, f1, f2, hA, s1, hz, l0, l2, hp⟩ := hP
  have c1 : Steps p.tables e below (s₁.setTop (entryFrame m #[.ref a, .ref b] 2)) (s₁.setTop (mkF m 0 #[.val (.ref a), .val (.ref b)] [])) := entry rfl
  have c2 : Steps p.tables e below (s₁.setTop (entryFrame m #[.ref a, .ref b] 2)) (s₁.setTop (mkF m 6 #[.val (.ref a), .val (.ref b)] [.null, .int (Int32.ofNat A.slots.size), .int 0, .ref b, .ref a])) := c1.trans (by
    refine XS.aloadN X0.here hexec rfl (hb hbytes d0) rfl rfl ?_
    refine XS.aloadN X0.here hexec rfl (hb hbytes d1) rfl rfl ?_
    refine iconstV X0.here hexec rfl 0 (hb hbytes d2) (by decide) ?_
    refine XS.aloadN X0.here hexec rfl (hb hbytes d3) rfl rfl ?_
    refine X0.alen hexec (hA.1.mv X0.warmed.alike hh0) rfl rfl (hb hbytes d4) ?_
    refine XS.aconstNull X0.here hexec rfl (hb hbytes d5) ?_
    exact Steps.refl _)
  obtain ⟨v3, T3, X3, E3, g3⟩ := X0.callN hexec (New4.law l a D fV fC b A z 0 A.slots.size) rfl hown (wks W (initW "java/lang/String" 27 New4.yN)) (W New4.tab (by simp only [site, List.mem_cons, List.mem_append, true_or, or_true])) (W := 0) (Nat.le_of_ble_eq_true rfl) (Nat.le_of_ble_eq_true rfl) (Nat.le_refl _) (by show 0 + A.slots.size ≤ A.slots.size; omega) (g := (mkF m 6 #[.val (.ref a), .val (.ref b)] [.null, .int (Int32.ofNat A.slots.size), .int (Int32.ofNat 0), .ref b, .ref a])) rfl (by rw [hml]; rfl) c2 (argsL := [.ref b, .int (Int32.ofNat 0), .int (Int32.ofNat A.slots.size), .null]) (rest := []) rfl rfl (by show 2 * 0 + 0 ≤ _; decide) (hb hbytes d6) (⟨rfl, hB.mv X0.warmed.alike hh0, f1.al X0.warmed.alike, f2.al X0.warmed.alike, hA.mv X0.warmed.alike hh0, s1.there X0.warmed.alike hh0, hz, l0, by omega, l2, fun i hi => by rw [Nat.zero_add]; exact hp i hi⟩)
  have e0 := Got.mv _ s₁ s _ _ hh0.symm (Vm.Alike.refl _) rfl E3
  obtain rfl := e0.1
  have c4 : Steps p.tables e below (s₁.setTop (entryFrame m #[.ref a, .ref b] 2)) (T3.setTop (mkF m 9 #[.val (.ref a), .val (.ref b)] [])) := g3
  exact ⟨T3, none, _, _, _, X3, by simp, rfl, by omega, (fun _ => rfl), e0, fun fs hl => c4.trans (X3.returnOut hexec hret (hb hbytes d9) hl)⟩
theorem pays {l : Launch} {R : Room} {p : Program} {e : Env} {below : List Frame} {s : State} {sargs : Array Value} {len W : Nat} (a : Addr) (D : Cell) (fV fC : Field) (b : Addr) (A : Cell) (z : Int32) (htab : tab.before sargs s = true) (hfr : 4 ≤ R.frames) (hlo : W + 65 ≤ R.locals) :
    Back l R p e below s sargs yN len W (fun A₁ a₁ => A₁.cells + 1 ≤ R.cells ∧ A₁.slots + A.slots.size ≤ R.slots ∧ P a D fV fC b A z a₁ A₁.U) (fun A₁ _ v₁ B₁ => E a D fV fC A v₁ A₁.U B₁.U ∧ B₁.locs = A₁.locs ++ [⟨a, fC.slot⟩, ⟨a, fV.slot⟩] ∧ B₁.cells = A₁.cells + 1 ∧ B₁.slots = A₁.slots + A.slots.size) :=
  (law l a D fV fC b A z).pays htab hfr (by omega)
end New1
/-- the byte, read back as charAt reads it, is the char -/
theorem lo8_mask {x : Int32} (h0 : ¬ x < 0) (h1 : ¬ 255 < x) : lo8 x &&& 255 = x := by
  have t : ∀ k : Fin 256, lo8 (Int32.ofNat k.val) &&& 255 = Int32.ofNat k.val := by decide +kernel
  rw [Int32.lt_iff_toInt_lt] at h0 h1
  have e0 : (0 : Int32).toInt = 0 := rfl
  have e1 : (255 : Int32).toInt = 255 := rfl
  obtain ⟨k, hk⟩ : ∃ k : Nat, x.toInt = k := ⟨x.toInt.toNat, by omega⟩
  have hx : x = Int32.ofNat k := Int32.toInt_inj.mp (by rw [hk, Int32.toInt_ofNat_small (by omega)])
  rw [hx]
  exact t ⟨k, by omega⟩
end StrChars
namespace StrChars.Road
open Jvm Sem ClassFile Op Lib Jvm.Stand Jvm.Free Jvm.Free.XT
open Jvm.Lib.Cold (StaticIs)
abbrev ST : String := "java/lang/String"
/-- every table word that New1's law asks, flat -/
abbrev words : List Jvm.Cond := [.code New1.yN New1.yB 2 none, .initialized ST, .methodLink ST 27 New4.yN, .instanceMethod New4.yN,
  .code New4.yN New4.yB 6 none, .fieldLink ST 38 ST "COMPACT_STRINGS" "Z", .laysFinal ST ST "value" "[B", .fieldLink ST 9 ST "value" "[B", .laysFinal ST ST "coder" "B", .fieldLink ST 15 ST "coder" "B",
  .methodLink ST 1 Lib.objectInit, .instanceMethod Lib.objectInit, .code Lib.objectInit ⟨#[0xb1]⟩ 1 none, .methodLink ST 177 Cmp3.yN, .static Cmp3.yN, .methodLink ST 47 CodL.yN, .static CodL.yN,
  .code Cmp3.yN Cmp3.yB 6 (some (.array .byte)), .initialized U16, .arrayClass .byte, .methodLink U16 115 Cmp5.yN, .static Cmp5.yN, .code Cmp5.yN Cmp5.yB 7 (some .int), .code CodL.yN CodL.yB 2 (some .byte)]
theorem tab_of {a : Array Value} {s : State} (h : ∀ w ∈ words, w.before a s = true) : New1.tab.before a s = true := by
  have h5 : Cmp5.tab.before a s = true := unparts (wk h (.code Cmp5.yN Cmp5.yB 7 (some .int))) (wks h (.initialized Cmp5.yN.cls :: Cmp5.site))
  have hc : CodL.tab.before a s = true := unparts (wk h (.code CodL.yN CodL.yB 2 (some .byte))) (wks h (.initialized CodL.yN.cls :: CodL.site))
  have q5 : ∀ w ∈ Cmp5.tab :: words, w.before a s = true := fun w hw => (List.mem_cons.mp hw).elim (fun e => e ▸ h5) (h w)
  have h3 : Cmp3.tab.before a s = true := unparts (wk q5 (.code Cmp3.yN Cmp3.yB 6 (some (.array .byte)))) (wks q5 (.initialized Cmp3.yN.cls :: Cmp3.site))
  have q3 : ∀ w ∈ Cmp3.tab :: CodL.tab :: words, w.before a s = true := fun w hw => (List.mem_cons.mp hw).elim (fun e => e ▸ h3) fun hw => (List.mem_cons.mp hw).elim (fun e => e ▸ hc) (h w)
  have h4 : New4.tab.before a s = true := unparts (wk q3 (.code New4.yN New4.yB 6 none)) (wks q3 (.initialized New4.yN.cls :: New4.site))
  have q4 : ∀ w ∈ New4.tab :: words, w.before a s = true := fun w hw => (List.mem_cons.mp hw).elim (fun e => e ▸ h4) (h w)
  exact unparts (wk q4 (.code New1.yN New1.yB 2 none)) (wks q4 (.initialized New1.yN.cls :: New1.site))
/-- the words ride from the start Z to the walk's own state -/
theorem moved {Z s : State} {a0 args : Array Value} (hZ : Z.Warmed39 s.vm) (hw : ∀ d ∈ words, d.before a0 Z = true) : ∀ d ∈ words, d.before args s = true := fun d hd => by
  have q := hw d hd
  have t : ∀ d ∈ words, d = .arrayClass .byte ∨ (d.onTables && d.keepsFace) = true := by decide +kernel
  rcases t d hd with rfl | t
  · exact RoadKit.mvA hZ q
  · exact RoadKit.mv hZ q t
/-- WHAT COMES BACK, over the tables of the start Z: h the heap at the call, h' behind it -/
def Q (Z : State) (x : Addr) (A : Cell) (h : Heap) (v : Option Value) (h' : Heap) (L : List Loc) : Prop := v = none ∧ (∀ y ∈ L, y.base = x) ∧ RoadKit.Keep h h' [x] ∧ h'.size = h.size + 1 ∧ RoadKit.Exa Z h' x ST ∧ RoadKit.Fld Z h' x ST "value" "[B" (.ref h.size) ∧ RoadKit.Fld Z h' x ST "coder" "B" (.int 0) ∧
  (∃ V : Cell, RoadKit.Arr Z h' h.size V .byte ∧ V.vm = .none ∧ Z.vm.findClass "[B" = some V.cls ∧ V.slots.size = A.slots.size ∧ ∀ j, j < A.slots.size → V.slots[j]? = some (.int (lo8 (cv A j)))) ∧
  ∀ (O n d : String) (w : Value), RoadKit.Fld Z h x O n d w → RoadKit.slotOf Z O n d ≠ RoadKit.slotOf Z ST "value" "[B" → RoadKit.slotOf Z O n d ≠ RoadKit.slotOf Z ST "coder" "B" → RoadKit.Fld Z h' x O n d w
/-- **new String(chars) AT A CALL, IN THE ROAD'S FORM**: for specialBack behind newO: x the fresh String, b the char[] with the cell A -/
theorem back {p : Program} {l : Launch} {e : Env} {R : Room} {s : State} {args : Array Value} {below : List Frame} {len W : Nat} {Z : State} {a0 : Array Value} {h : Heap} (hZ : Z.Warmed39 s.vm) (hw : ∀ d ∈ words, d.before a0 Z = true) {kI : Nat} (wi : (Jvm.Cond.instantiable ST kI).before a0 Z = true)
    {x b : Addr} {A : Cell} {z : Int32} {v0 c0 : Value} (E : RoadKit.Exa Z h x ST) (V : RoadKit.Fld Z h x ST "value" "[B" v0) (C : RoadKit.Fld Z h x ST "coder" "B" c0) (K : RoadKit.Arr Z h b A .char) (hty : Typed .char A) (S : RoadKit.Sta Z h ST "COMPACT_STRINGS" "Z" (.int z)) (hz : ¬ z = 0)
    (l0 : 0 < A.slots.size) (l2 : A.slots.size ≤ 536870912) (hp : ∀ i, i < A.slots.size → ¬ 255 < cv A i) (hfr : 4 ≤ R.frames) (hlo : W + 65 ≤ R.locals) :
    Back l R p e below s args New1.yN len W (fun P a => a = #[.ref x, .ref b] ∧ P.U.heap = h ∧ P.cells + 1 ≤ R.cells ∧ P.slots + A.slots.size ≤ R.slots)
      (fun P _ v B => ∃ L, Q Z x A h v B.U.heap L ∧ B.locs = P.locs ++ L ∧ B.cells = P.cells + 1 ∧ B.slots = P.slots + A.slots.size) := by
  intro m meth c P g ig mk a X hg hsize hdg hW hn hp'
  obtain ⟨rfl, rfl, r1, r2⟩ := hp'
  have al : Z.vm.Alike P.U.vm := hZ.alike.trans X.warmed.alike
  obtain ⟨D, cfV, kV, iV, fV, hD, gV, stV, knV, obV, asV, slV⟩ := id V
  obtain ⟨D', cfC, kC, iC, fC, hD', gC, stC, -, -, asC, slC⟩ := id C
  cases hD.symm.trans hD'
  obtain ⟨D2, kD, e1, e2, e3, e4, e5⟩ := id E
  cases hD.symm.trans e1
  obtain ⟨c2, k2, i1, i2, i3, -⟩ := Cond.instantiable_spec wi
  cases e2.symm.trans i1
  cases e3.symm.trans i2
  obtain ⟨kU, u1, u2⟩ := al.2.2 _ _ e3
  have hB : Blank ST x D P.U := ⟨hD, ⟨knV, fun q hq => by rw [hq] at obV; cases obV⟩, by rw [al.findClass]; exact e2, kU, u1, by rw [u2]; exact i3, by rw [u2]; exact e5 i3⟩
  have F1 : Found ST "value" "[B" fV P.U := ⟨SBG.found_only al ⟨cfV, kV, iV, gV⟩, stV⟩
  have F2 : Found ST "coder" "B" fC P.U := ⟨SBG.found_only al ⟨cfC, kC, iC, gC⟩, stC⟩
  have hA : Ch b A P.U := ⟨⟨K.1, State.isArrayOf_alike al K.2.1, K.2.2, by omega⟩, hty⟩
  have hS : StaticIs P.U ST "COMPACT_STRINGS" "Z" (.int z) := by
    obtain ⟨cfS, iS, kS, fS, st, cS, t1, t2, t3, t4, t5, t6, t7⟩ := S
    exact StaticIs.there (s := { Z with heap := P.U.heap }) ⟨cfS, iS, kS, fS, st, cS, t1, t2, t3, t4, t5, (fun q => by rw [q] at t6; cases t6), t7⟩ al rfl
  obtain ⟨v, B, X', ⟨⟨hv, E', V', q1, q2, q3, q4, q5, q6, q7, q8, q9, q10, q11⟩, hl, hc, hs⟩, st⟩ := New1.pays x D fV fC b A z (tab_of (moved hZ hw)) hfr hlo m meth c P g ig mk _ X hg hsize hdg hW hn ⟨r1, r2, rfl, hB, F1, F2, hA, hS, hz, l0, l2, hp⟩
  have al' : Z.vm.Alike B.U.vm := hZ.alike.trans X'.warmed.alike
  have hsz : E'.slots.size = D.slots.size := by
    obtain ⟨-, -, -, kB, w1, w2, w3⟩ := q1
    obtain ⟨kB', y1, y2⟩ := al'.2.2 _ _ e3
    rw [q2.2.1] at w1
    cases w1.symm.trans y1
    rw [w3, e5 i3, y2]
  refine ⟨v, B, X', ⟨_, ⟨hv, ?_, ⟨by omega, fun y cy hy hn' => q10 y cy (by simpa using hn') hy, fun y cy hy => ?_⟩, q11, ⟨E', _, q1.1, by rw [q2.2.1]; exact e2, by rw [q2.2.1]; exact e3, by rw [q2.1]; exact obV, fun _ => by rw [hsz]; exact e5 i3⟩,
    ⟨E', cfV, kV, iV, fV, q1.1, gV, stV, by rw [q2.1]; exact knV, by rw [q2.1]; exact obV, by rw [q2.2.1]; exact asV, q3⟩, ⟨E', cfC, kC, iC, fC, q1.1, gC, stC, by rw [q2.1]; exact knV, by rw [q2.1]; exact obV, by rw [q2.2.1]; exact asC, q4⟩,
    ⟨V', ⟨q5.1, State.isArrayOf_alike al'.symm q5.2.1, q5.2.2.1⟩, q6, by rw [← al'.findClass]; exact q7, q8, fun j hj => by have := q9 j hj; rwa [Nat.zero_add] at this⟩, fun O n d w F n1 n2 => ?_⟩, hl, hc, hs⟩, st⟩
  · intro y hy
    simp only [List.mem_cons, List.not_mem_nil, or_false] at hy
    rcases hy with rfl | rfl <;> rfl
  · by_cases q : y = x
    · subst q
      cases hD.symm.trans hy
      exact ⟨E', q1.1, q2.2.1, q2.1, hsz⟩
    · exact ⟨cy, q10 y cy q hy, rfl, rfl, rfl⟩
  · obtain ⟨D3, cf, k, i, f, g1, g2, g3, g4, g5, g6, g7⟩ := F
    cases hD.symm.trans g1
    simp only [RoadKit.slotOf, g2, gV, gC, Option.map_some, Option.getD_some] at n1 n2
    exact ⟨E', cf, k, i, f, q1.1, g2, g3, by rw [q2.1]; exact g4, by rw [q2.1]; exact g5, by rw [q2.2.1]; exact g6, by rw [q2.2.2 f.slot (by simp [n1, n2])]; exact g7⟩
end StrChars.Road
namespace StrChars.Road
open Jvm Sem ClassFile Op Lib Jvm.Stand Jvm.Free Jvm.Free.XT
/-- WHAT COMES BACK, the byte[] as a list of values -/
def QA (Z : State) (x : Addr) (zn : Int32) (cs : List Int32) (h : Heap) (v : Option Value) (h' : Heap) (L : List Loc) : Prop := v = none ∧ (∀ y ∈ L, y.base = x) ∧ RoadKit.Keep h h' [x] ∧ h'.size = h.size + 1 ∧ RoadKit.Exa Z h' x ST ∧ RoadKit.Fld Z h' x ST "value" "[B" (.ref h.size) ∧ RoadKit.Fld Z h' x ST "coder" "B" (.int 0) ∧
  (∃ kb, Z.vm.findClass "[B" = some kb ∧ RoadKit.Arv Z h' h.size kb .byte zn (cs.map fun c => .int (lo8 c)) (.int 0)) ∧
  ∀ (O n d : String) (w : Value), RoadKit.Fld Z h x O n d w → RoadKit.slotOf Z O n d ≠ RoadKit.slotOf Z ST "value" "[B" → RoadKit.slotOf Z O n d ≠ RoadKit.slotOf Z ST "coder" "B" → RoadKit.Fld Z h' x O n d w
/-- **new String(chars) AT A CALL, THE ARRAYS AS LISTS**: the char[] at b holds cs, not empty, no char above 255 -/
theorem backArv {p : Program} {l : Launch} {e : Env} {R : Room} {s : State} {args : Array Value} {below : List Frame} {len W : Nat} {Z : State} {a0 : Array Value} {h : Heap} (hZ : Z.Warmed39 s.vm) (hw : ∀ d ∈ words, d.before a0 Z = true) {kI : Nat} (wi : (Jvm.Cond.instantiable ST kI).before a0 Z = true)
    {x b : Addr} {k : ClassId} {zn z : Int32} {cs : List Int32} {dv v0 c0 : Value} (E : RoadKit.Exa Z h x ST) (V : RoadKit.Fld Z h x ST "value" "[B" v0) (C : RoadKit.Fld Z h x ST "coder" "B" c0) (K : RoadKit.Arv Z h b k .char zn (cs.map Value.int) dv) (S : RoadKit.Sta Z h ST "COMPACT_STRINGS" "Z" (.int z)) (hz : ¬ z = 0)
    (hlen : zn.toNatClampNeg = cs.length) (h0 : 0 < cs.length) (hbig : cs.length ≤ 536870912) (hall : ∀ c ∈ cs, ¬ 255 < c) (hfr : 4 ≤ R.frames) (hlo : W + 65 ≤ R.locals) :
    Back l R p e below s args New1.yN len W (fun P a => a = #[.ref x, .ref b] ∧ P.U.heap = h ∧ P.cells + 1 ≤ R.cells ∧ P.slots + cs.length ≤ R.slots)
      (fun P _ v B => ∃ L, QA Z x zn cs h v B.U.heap L ∧ B.locs = P.locs ++ L ∧ B.cells = P.cells + 1 ∧ B.slots = P.slots + cs.length) := by
  obtain ⟨A, K1, K2, K3, K4, K5, K6⟩ := K
  have e : A.slots.size = cs.length := K3.trans hlen
  have hat : ∀ (i : Nat) (hi : i < cs.length), A.slots[i]? = some (.int cs[i]) := fun i hi => by rw [K5 i (by omega)]; simp [List.getD_eq_getElem?_getD, hi]
  have hcv : ∀ (i : Nat) (hi : i < cs.length), cv A i = cs[i] := fun i hi => by unfold cv; rw [hat i hi]
  have hty : Typed .char A := fun i v hv => by
    have hi : i < A.slots.size := (Array.getElem?_eq_some_iff.mp hv).1
    have q := K5 i hi
    rw [hv] at q
    rw [Option.some.inj q]
    exact K6 i hi
  refine Back.mono (back hZ hw wi E V C K1 hty S hz (by omega) (by omega) (fun i hi => by rw [hcv i (by omega)]; exact hall _ (List.getElem_mem _)) hfr hlo) (fun P a hp => ⟨hp.1, hp.2.1, hp.2.2.1, by rw [e]; exact hp.2.2.2⟩) (fun P a v B hp hq => ?_)
  obtain ⟨L, ⟨q1, q2, q3, q4, q5, q6, q7, ⟨V', v1, v2, v3, v4, v5⟩, q9⟩, hl, hc, hs⟩ := hq
  refine ⟨L, ⟨q1, q2, q3, q4, q5, q6, q7, ⟨V'.cls, v3, V', v1, rfl, by rw [v4, e, hlen], K4, fun i hi => ?_, fun i hi => ?_⟩, q9⟩, hl, hc, by rw [hs, e]⟩
  · have hi' : i < cs.length := by omega
    rw [v5 i (by omega), hcv i hi']; simp [List.getD_eq_getElem?_getD, hi']
  · have hi' : i < cs.length := by omega
    simp only [List.getD_eq_getElem?_getD, List.getElem?_map, List.getElem?_eq_getElem hi', Option.map_some, Option.getD_some]
    exact fits_lo8 _
end StrChars.Road
namespace StrChars.Road
open Jvm Sem ClassFile Op Lib Jvm.Stand Jvm.Free Jvm.Free.XT
/-- WHAT COMES BACK, in the writer's own shape -/
def QV (Z : State) (x : Addr) (N : Int32) (bs : List Int32) (h : Heap) (n0 : Nat) (v : Option Value) (h' : Heap) (L : List Loc) : Prop := v = none ∧ RoadKit.Fr n0 L ∧ RoadKit.Keep h h' [x] ∧ RoadKit.Exa Z h' x ST ∧ RoadKit.Fld Z h' x ST "coder" "B" (.int 0) ∧
  ∃ (t : Addr) (kb : ClassId), n0 ≤ t ∧ h.size ≤ t ∧ ¬ t = x ∧ RoadKit.Fld Z h' x ST "value" "[B" (.ref t) ∧ RoadKit.Arv Z h' t kb .byte N (bs.map Value.int) (.int 0)
/-- **new String(chars) AT A CALL, FOR THE WRITER**: a char[] of n known ints, each 0 to 255 -/
theorem backV {p : Program} {l : Launch} {e : Env} {R : Room} {s : State} {args : Array Value} {below : List Frame} {len W : Nat} {Z : State} {a0 : Array Value} {h : Heap} (hZ : Z.Warmed39 s.vm) (hw : ∀ d ∈ words, d.before a0 Z = true) {kI : Nat} (wi : (Jvm.Cond.instantiable ST kI).before a0 Z = true)
    {x b : Addr} {kC : ClassId} {cs bs : List Int32} {d v0 c0 : Value} {z N : Int32} {n n0 : Nat} (hx0 : n0 ≤ x) (hh0 : n0 ≤ h.size) (E : RoadKit.Exa Z h x ST) (V : RoadKit.Fld Z h x ST "value" "[B" v0) (C : RoadKit.Fld Z h x ST "coder" "B" c0) (K : RoadKit.Arv Z h b kC .char N (cs.map Value.int) d) (S : RoadKit.Sta Z h ST "COMPACT_STRINGS" "Z" (.int z)) (hz : ¬ z = 0)
    (hn : cs.length = n) (hN : N = Int32.ofNat n) (l0 : 0 < n) (l2 : n ≤ 4000) (hp : ∀ c ∈ cs, ¬ c < 0 ∧ ¬ (255 : Int32) < c) (hb : bs = cs.map (fun c => c.toInt8.toInt32)) (hfr : 4 ≤ R.frames) (hlo : W + 65 ≤ R.locals) :
    Back l R p e below s args (⟨"java/lang/String", "<init>", "([C)V"⟩ : MethodName) len W (fun P a => a = #[.ref x, .ref b] ∧ P.U.heap = h ∧ P.cells + 1 ≤ R.cells ∧ P.slots + n ≤ R.slots)
      (fun P _ v B => ∃ L, QV Z x N bs h n0 v B.U.heap L ∧ B.locs = P.locs ++ L ∧ B.cells = P.cells + 1 ∧ B.slots = P.slots + n) := by
  subst hn hN hb
  refine Back.mono (backArv hZ hw wi E V C K S hz (n32 (by omega)) l0 (by omega) (fun c hc => (hp c hc).2) hfr hlo) (fun P a hp => hp) (fun P a v B hp hq => ?_)
  obtain ⟨L, ⟨q1, q2, q3, q4, q5, q6, q7, ⟨kb, v1, v2⟩, q9⟩, hl, hc, hs⟩ := hq
  exact ⟨L, ⟨q1, fun y hy => by rw [q2 y hy]; exact hx0, q3, q5, q7, h.size, kb, hh0, Nat.le_refl _, Nat.ne_of_gt E.lt, q6, by rw [List.map_map]; exact v2⟩, hl, hc, hs⟩
end StrChars.Road
namespace StrChars
open Jvm Sem ClassFile Op Lib Jvm.Stand Jvm.Free.XT Jvm.Free.ALB Jvm.Free.JM Jvm.Free
open Jvm.Lib.Cold (StaticIs)
def hi8 (x : Int32) : Int32 := lo8 (x >>> ((8 : Int32) &&& 31))
/-- what StringUTF16.getChar makes of two bytes -/
def pairCh (u v : Int32) : Int32 := (((u &&& 255) <<< ((0 : Int32) &&& 31)) ||| ((v &&& 255) <<< ((8 : Int32) &&& 31))).toUInt32.toUInt16.toUInt32.toInt32
theorem lo8_and (x : Int32) : (lo8 x &&& 255).toBitVec.toNat = x.toBitVec.toNat % 256 := by
  have h : (lo8 x).toBitVec = (x.toBitVec.signExtend 8).signExtend 32 := by rw [lo8, Int8.toBitVec_toInt32, Int32.toBitVec_toInt8]
  rw [Int32.toBitVec_and, BitVec.toNat_and, h]
  have e : ((x.toBitVec.signExtend 8).signExtend 32).toNat % 256 = x.toBitVec.toNat % 256 := by
    rw [BitVec.toNat_signExtend]
    have hlt := x.toBitVec.isLt
    simp only [BitVec.toNat_setWidth, BitVec.toNat_signExtend]
    split <;> split <;> omega
  rw [← e]
  exact Nat.and_two_pow_sub_one_eq_mod _ 8
theorem pair_says {c : Int32} (h0 : ¬ c < 0) (h1 : ¬ 65535 < c) : pairCh (lo8 c) (hi8 c) = c := by
  rw [Int32.lt_iff_toInt_lt] at h0 h1
  have e0 : (0 : Int32).toInt = 0 := rfl
  have e1 : (65535 : Int32).toInt = 65535 := rfl
  have hc : c.toInt = c.toBitVec.toNat := by
    have := c.toBitVec.isLt
    have e : c.toInt = c.toBitVec.toInt := rfl
    rw [e] at h0 h1
    rw [e]
    rw [BitVec.toInt_eq_toNat_cond] at h0 h1 ⊢
    split at h0 <;> split <;> omega
  have hn : c.toBitVec.toNat < 65536 := by omega
  have a1 := lo8_and c
  have a2 : (hi8 c &&& 255).toBitVec.toNat = c.toBitVec.toNat / 256 := by
    rw [hi8, lo8_and]
    have e : ((8 : Int32) &&& 31) = 8 := by decide
    rw [e, Int32.toBitVec_shiftRight]
    have e2 : ((8 : Int32).toBitVec.smod 32) = 8#32 := by decide
    rw [e2, BitVec.sshiftRight_eq', BitVec.toNat_sshiftRight_of_msb_false (by rw [BitVec.msb_eq_false_iff_two_mul_lt]; omega)]
    show c.toBitVec.toNat >>> 8 % 256 = _
    rw [Nat.shiftRight_eq_div_pow]
    omega
  unfold pairCh
  apply Int32.toBitVec_inj.mp
  apply BitVec.eq_of_toNat_eq
  have f0 : ((0 : Int32) &&& 31) = 0 := by decide
  have f8 : ((8 : Int32) &&& 31) = 8 := by decide
  rw [f0, f8]
  have g : (((lo8 c &&& 255) <<< (0 : Int32)) ||| ((hi8 c &&& 255) <<< (8 : Int32))).toBitVec.toNat = c.toBitVec.toNat := by
    rw [Int32.toBitVec_or, Int32.toBitVec_shiftLeft, Int32.toBitVec_shiftLeft]
    have s0 : ((0 : Int32).toBitVec.smod 32) = 0#32 := by decide
    have s8 : ((8 : Int32).toBitVec.smod 32) = 8#32 := by decide
    rw [s0, s8, BitVec.toNat_or]
    simp only [BitVec.shiftLeft_eq', BitVec.toNat_shiftLeft, a1, a2]
    show (c.toBitVec.toNat % 256) <<< 0 % 2 ^ 32 ||| (c.toBitVec.toNat / 256) <<< 8 % 2 ^ 32 = _
    rw [Nat.shiftLeft_zero, Nat.mod_eq_of_lt (show c.toBitVec.toNat % 256 < 2 ^ 32 by omega), Nat.mod_eq_of_lt (show (c.toBitVec.toNat / 256) <<< 8 < 2 ^ 32 by rw [Nat.shiftLeft_eq]; omega), Nat.or_comm, ← Nat.shiftLeft_add_eq_or_of_lt (by omega), Nat.shiftLeft_eq]
    omega
  show BitVec.toNat (((((lo8 c &&& 255) <<< (0 : Int32)) ||| ((hi8 c &&& 255) <<< (8 : Int32))).toBitVec.setWidth 16).setWidth 32) = _
  rw [BitVec.toNat_setWidth, BitVec.toNat_setWidth, g]
  omega
end StrChars
namespace StrChars
open Jvm Sem ClassFile Op Lib Jvm.Stand Jvm.Free.XT Jvm.Free.ALB Jvm.Free.JM Jvm.Free
open Jvm.Lib.Cold (StaticIs)
/-- the array's cell V codes the n chars f 0 .. f (n - 1) by the coder cd, as the JDK does: coder 1 just where some char is above 255 -/
def Cod (cd : Int32) (n : Nat) (f : Nat → Int32) (V : Cell) : Prop := (cd = 0 ∧ V.slots.size = n ∧ ∀ j, j < n → V.slots[j]? = some (.int (lo8 (f j))) ∧ ¬ 255 < f j) ∨ (cd = 1 ∧ V.slots.size = 2 * n ∧ (∀ j, j < n → V.slots[2 * j]? = some (.int (lo8 (f j))) ∧ V.slots[2 * j + 1]? = some (.int (hi8 (f j)))) ∧ ∃ j, j < n ∧ 255 < f j)
/-- **x is a String of the n chars f 0 .. f (n - 1)**, Latin-1 or UTF-16; its array at t has the cell V -/
def Txt (x t : Addr) (V : Cell) (cd : Int32) (n : Nat) (f : Nat → Int32) (U : State) : Prop := Exact "java/lang/String" x U ∧ Has x "java/lang/String" "value" "[B" (.ref t) U ∧ Has x "java/lang/String" "coder" "B" (.int cd) U ∧ XT.Arr .byte t V U ∧ Cod cd n f V ∧ ∀ j, j < n → ¬ f j < 0 ∧ ¬ 65535 < f j
theorem Txt.mv {x t : Addr} {V : Cell} {cd : Int32} {n : Nat} {f : Nat → Int32} {U U' : State} (h : Txt x t V cd n f U) (hal : U.vm.Alike U'.vm) (hh : U'.heap = U.heap) : Txt x t V cd n f U' := ⟨h.1.mv hal hh, h.2.1.mv hal hh, h.2.2.1.mv hal hh, h.2.2.2.1.mv hal hh, h.2.2.2.2⟩
end StrChars
namespace StrChars.Road
open Jvm Sem ClassFile Op Lib Jvm.Stand Jvm.Free Jvm.Free.XT
open Jvm.Lib.Cold (StaticIs)
theorem consq {a : Array Value} {s : State} {c : Jvm.Cond} {L : List Jvm.Cond} (h0 : c.before a s = true) (h : ∀ w ∈ L, w.before a s = true) : ∀ w ∈ c :: L, w.before a s = true := fun w hw => (List.mem_cons.mp hw).elim (fun e => e ▸ h0) (h w)
/-- the bytes of the chars cs, low before high -/
def wideBytes : List Int32 → List Value
  | [] => []
  | c :: cs => .int (lo8 c) :: .int (hi8 c) :: wideBytes cs
theorem wide_lo (d : Value) : ∀ (cs : List Int32) (j : Nat), j < cs.length → (wideBytes cs).getD (2 * j) d = .int (lo8 (cs.getD j 0))
  | [], j, h => absurd h (Nat.not_lt_zero j)
  | c :: cs, 0, _ => rfl
  | c :: cs, j + 1, h => by
    have q := wide_lo d cs j (by simpa using h)
    rw [show 2 * (j + 1) = 2 * j + 1 + 1 from by omega]
    simpa [wideBytes] using q
theorem wide_hi (d : Value) : ∀ (cs : List Int32) (j : Nat), j < cs.length → (wideBytes cs).getD (2 * j + 1) d = .int (hi8 (cs.getD j 0))
  | [], j, h => absurd h (Nat.not_lt_zero j)
  | c :: cs, 0, _ => rfl
  | c :: cs, j + 1, h => by
    have q := wide_hi d cs j (by simpa using h)
    rw [show 2 * (j + 1) + 1 = 2 * j + 1 + 1 + 1 from by omega]
    simpa [wideBytes] using q
theorem low_at (d : Value) (cs : List Int32) (j : Nat) (h : j < cs.length) : (cs.map fun c => Value.int (lo8 c)).getD j d = .int (lo8 (cs.getD j 0)) := by
  simp [List.getD_eq_getElem?_getD, h]
/-- an array of N2 bytes vs codes the chars cs by the coder cd -/
def CodA (cs : List Int32) (cd N2 : Int32) (vs : List Value) : Prop := (cd = 0 ∧ N2 = Int32.ofNat cs.length ∧ vs = (cs.map fun c => Value.int (lo8 c)) ∧ ∀ c ∈ cs, ¬ 255 < c) ∨ (cd = 1 ∧ N2 = Int32.ofNat (2 * cs.length) ∧ vs = wideBytes cs ∧ ∃ c ∈ cs, 255 < c)
theorem CodA.cod {cs : List Int32} {cd N2 : Int32} {vs : List Value} {V : Cell} (h : CodA cs cd N2 vs) (hn : 2 * cs.length < 2 ^ 31) (hs : V.slots.size = N2.toNatClampNeg) (hv : RoadKit.Has V vs (.int 0)) : Cod cd cs.length (fun j => cs.getD j 0) V := by
  rcases h with ⟨rfl, rfl, rfl, h⟩ | ⟨rfl, rfl, rfl, c, hc, hw⟩
  · rw [n32 (by omega)] at hs
    exact Or.inl ⟨rfl, hs, fun j hj => ⟨by rw [hv j (by omega), low_at _ _ _ hj], by
      have e : cs.getD j 0 = cs[j] := by simp [List.getD_eq_getElem?_getD, hj]
      show ¬ 255 < cs.getD j 0
      rw [e]; exact h _ (List.getElem_mem _)⟩⟩
  · rw [n32 (by omega)] at hs
    obtain ⟨j, hj, rfl⟩ := List.getElem_of_mem hc
    exact Or.inr ⟨rfl, hs, fun j hj => ⟨by rw [hv _ (by omega), wide_lo _ _ _ hj], by rw [hv _ (by omega), wide_hi _ _ _ hj]⟩, j, hj, by
      have e : cs.getD j 0 = cs[j] := by simp [List.getD_eq_getElem?_getD, hj]
      show 255 < cs.getD j 0
      rw [e]; exact hw⟩
/-- an object of exactly java/lang/String, its two fields found: as the laws ask it -/
theorem strObj {Z U : State} {a0 : Array Value} {kI : Nat} (wi : (Jvm.Cond.instantiable ST kI).before a0 Z = true) (al : Z.vm.Alike U.vm) {x : Addr} {v0 c0 : Value} (E : RoadKit.Exa Z U.heap x ST) (V : RoadKit.Fld Z U.heap x ST "value" "[B" v0) (C : RoadKit.Fld Z U.heap x ST "coder" "B" c0) :
    ∃ (D : Cell) (fV fC : Field), Blank ST x D U ∧ Found ST "value" "[B" fV U ∧ Found ST "coder" "B" fC U ∧ D.slots[fV.slot]? = some v0 ∧ D.slots[fC.slot]? = some c0 ∧ RoadKit.slotOf Z ST "value" "[B" = fV.slot ∧ RoadKit.slotOf Z ST "coder" "B" = fC.slot := by
  obtain ⟨D, cfV, kV, iV, fV, hD, gV, stV, knV, obV, asV, slV⟩ := V
  obtain ⟨D', cfC, kC, iC, fC, hD', gC, stC, -, -, asC, slC⟩ := C
  cases hD.symm.trans hD'
  obtain ⟨D2, kD, e1, e2, e3, e4, e5⟩ := E
  cases hD.symm.trans e1
  obtain ⟨c2, k2, i1, i2, i3, -⟩ := Cond.instantiable_spec wi
  cases e2.symm.trans i1
  cases e3.symm.trans i2
  obtain ⟨kU, u1, u2⟩ := al.2.2 _ _ e3
  exact ⟨D, fV, fC, ⟨hD, ⟨knV, fun q hq => by rw [hq] at obV; cases obV⟩, by rw [al.findClass]; exact e2, kU, u1, by rw [u2]; exact i3, by rw [u2]; exact e5 i3⟩, ⟨SBG.found_only al ⟨cfV, kV, iV, gV⟩, stV⟩, ⟨SBG.found_only al ⟨cfC, kC, iC, gC⟩, stC⟩, slV, slC, by simp [RoadKit.slotOf, gV], by simp [RoadKit.slotOf, gC]⟩
theorem sta_is {Z U : State} (al : Z.vm.Alike U.vm) {C n d : String} {v : Value} (S : RoadKit.Sta Z U.heap C n d v) : StaticIs U C n d v := by
  obtain ⟨cfS, iS, kS, fS, st, cS, t1, t2, t3, t4, t5, t6, t7⟩ := S
  exact StaticIs.there (s := { Z with heap := U.heap }) ⟨cfS, iS, kS, fS, st, cS, t1, t2, t3, t4, t5, (fun q => by rw [q] at t6; cases t6), t7⟩ al rfl
end StrChars.Road
namespace StrChars
open Jvm Sem ClassFile Op Lib Jvm.Stand Jvm.Free.XT Jvm.Free.ALB Jvm.Free.JM Jvm.Free
open Jvm.Lib.Cold (StaticIs)
/-- what place i of a byte[]'s cell holds -/
def yv (A : Cell) (i : Nat) : Int32 := match A.slots[i]? with | some (.int x) => x | _ => 0
theorem yv_get {a : Addr} {A : Cell} {U : State} (h : XT.Arr .byte a A U) (ht : Typed .byte A) {i : Nat} (hi : i < A.slots.size) : A.slots[i]? = some (.int (yv A i)) := by
  have e := Array.getElem?_eq_getElem hi
  have f := ht i _ e
  unfold yv; rw [e]
  generalize A.slots[i] = v at f
  cases v <;> simp [fits] at f ⊢
/-- the two arrays are equal, place for place -/
def EqC (A B : Cell) : Prop := A.slots.size = B.slots.size ∧ ∀ i, i < A.slots.size → yv A i = yv B i
/-- a boolean that says whether p -/
def Says01 (q : Prop) (r : Option Value) (s u : State) : Prop := ∃ v : Int32, r = some (.int v) ∧ u.heap = s.heap ∧ ((v = 1 ∧ q) ∨ (v = 0 ∧ ¬ q))
theorem Says01.mv {q : Prop} : ∀ r (U U' V V' : State), U'.heap = U.heap → V.vm.Alike V'.vm → V'.heap = V.heap → Says01 q r U V → Says01 q r U' V' :=
  fun r U U' V V' h1 _ h2 ⟨v, a, b, c⟩ => ⟨v, a, by rw [h1, h2]; exact b, c⟩
namespace LEq
def yN : MethodName := ⟨"java/lang/StringLatin1", "equals", "([B[B)Z"⟩
abbrev yB : ByteArray := jdk_43_method_13_code
theorem d0 : decode yB 0 = .ok (.aload_n 0, 1) := by decide +kernel
theorem d1 : decode yB 1 = .ok (.arraylength, 1) := by decide +kernel
theorem d2 : decode yB 2 = .ok (.aload_n 1, 1) := by decide +kernel
theorem d3 : decode yB 3 = .ok (.arraylength, 1) := by decide +kernel
theorem d4 : decode yB 4 = .ok (.if_icmp (.ne) 30, 3) := by decide +kernel
theorem d7 : decode yB 7 = .ok (.iconst 0, 1) := by decide +kernel
theorem d8 : decode yB 8 = .ok (.istore_n 2, 1) := by decide +kernel
theorem d9 : decode yB 9 = .ok (.iload_n 2, 1) := by decide +kernel
theorem d10 : decode yB 10 = .ok (.aload_n 0, 1) := by decide +kernel
theorem d11 : decode yB 11 = .ok (.arraylength, 1) := by decide +kernel
theorem d12 : decode yB 12 = .ok (.if_icmp (.ge) 20, 3) := by decide +kernel
theorem d15 : decode yB 15 = .ok (.aload_n 0, 1) := by decide +kernel
theorem d16 : decode yB 16 = .ok (.iload_n 2, 1) := by decide +kernel
theorem d17 : decode yB 17 = .ok (.baload, 1) := by decide +kernel
theorem d18 : decode yB 18 = .ok (.aload_n 1, 1) := by decide +kernel
theorem d19 : decode yB 19 = .ok (.iload_n 2, 1) := by decide +kernel
theorem d20 : decode yB 20 = .ok (.baload, 1) := by decide +kernel
theorem d21 : decode yB 21 = .ok (.if_icmp (.eq) 5, 3) := by decide +kernel
theorem d24 : decode yB 24 = .ok (.iconst 0, 1) := by decide +kernel
theorem d25 : decode yB 25 = .ok (.ireturn, 1) := by decide +kernel
theorem d26 : decode yB 26 = .ok (.iinc 2 1, 3) := by decide +kernel
theorem d29 : decode yB 29 = .ok (.goto (-20), 3) := by decide +kernel
theorem d32 : decode yB 32 = .ok (.iconst 1, 1) := by decide +kernel
theorem d33 : decode yB 33 = .ok (.ireturn, 1) := by decide +kernel
theorem d34 : decode yB 34 = .ok (.iconst 0, 1) := by decide +kernel
theorem d35 : decode yB 35 = .ok (.ireturn, 1) := by decide +kernel
def site : List Cond := []
def tab : Cond := tabOf yN yB 3 (some .boolean) site
def P (a : Addr) (A : Cell) (b : Addr) (B : Cell) (args : Array Value) (s : State) : Prop := args = #[.ref a, .ref b] ∧ XT.Arr .byte a A s ∧ Typed .byte A ∧ XT.Arr .byte b B s ∧ Typed .byte B
/-- whether two byte[] are equal, place for place -/
theorem law (l : Launch) (a : Addr) (A : Cell) (b : Addr) (B : Cell) : Law l yN 2 2 0 0 yB 3 (some .boolean) site (P a A b B) (Says01 (EqC A B)) [] 0 0 := by
  refine Law.of_walk (plainFor_of_name (by decide +kernel)) (by decide +kernel) (by decide +kernel) (by decide) (fun _ _ h => by rw [h.1]; rfl) (fun _ U U' hal hh h => ⟨h.1, h.2.1.mv hal hh, h.2.2.1, h.2.2.2.1.mv hal hh, h.2.2.2.2⟩) (fun r U U' V V' h1 hal h2 h => Says01.mv r U U' V V' h1 hal h2 h) ?_
  intro p e s m args below meth c s₁ X0 hexec hbytes hml hret hlk hnm hown hh0 W hP
  obtain ⟨rfl, hA, tA, hB, tB⟩ := hP
  have a31 := hA.2.2.2
  have b31 := hB.2.2.2
  have hA0 := hA.mv X0.warmed.alike hh0
  have hB0 := hB.mv X0.warmed.alike hh0
  have c1 : Steps p.tables e below (s₁.setTop (entryFrame m #[.ref a, .ref b] 3)) (s₁.setTop (mkF m 0 #[.val (.ref a), .val (.ref b), .unset] [])) := entry rfl
  have c2 : Steps p.tables e below (s₁.setTop (entryFrame m #[.ref a, .ref b] 3)) (s₁.setTop (mkF m 4 #[.val (.ref a), .val (.ref b), .unset] [.int (Int32.ofNat B.slots.size), .int (Int32.ofNat A.slots.size)])) := c1.trans (by
    refine XS.aloadN X0.here hexec rfl (hb hbytes d0) rfl rfl ?_
    refine X0.alen hexec hA0 rfl rfl (hb hbytes d1) ?_
    refine XS.aloadN X0.here hexec rfl (hb hbytes d2) rfl rfl ?_
    refine X0.alen hexec hB0 rfl rfl (hb hbytes d3) ?_
    exact Steps.refl _)
  by_cases hs : A.slots.size = B.slots.size
  · have c3 : Steps p.tables e below (s₁.setTop (entryFrame m #[.ref a, .ref b] 3)) (s₁.setTop (mkF m 9 #[.val (.ref a), .val (.ref b), .val (.int 0)] [])) := c2.trans (by
      refine XS.icmpNo X0.here hexec rfl (hb hbytes d4) rfl (ii_ne_f (by rw [hs])) ?_
      refine iconstV X0.here hexec rfl 0 (hb hbytes d7) (by decide) ?_
      refine XS.istoreN X0.here hexec rfl (hb hbytes d8) rfl rfl ?_
      exact Steps.refl _)
    have loop : ∀ (r i : Nat), i + r = A.slots.size → (∀ j, j < i → yv A j = yv B j) → Steps p.tables e below (s₁.setTop (entryFrame m #[.ref a, .ref b] 3)) (s₁.setTop (mkF m 9 #[.val (.ref a), .val (.ref b), .val (.int (Int32.ofNat i))] [])) → ∃ (pc : Nat) (Ls : Array Slot) (v : Int32), (pc = 25 ∨ pc = 33) ∧ ((v = 1 ∧ EqC A B) ∨ (v = 0 ∧ ¬ EqC A B)) ∧ Steps p.tables e below (s₁.setTop (entryFrame m #[.ref a, .ref b] 3)) (s₁.setTop (mkF m pc Ls [.int v])) := by
      intro r
      induction r with
      | zero =>
        intro i hi he cl
        exact ⟨33, _, 1, Or.inr rfl, Or.inl ⟨rfl, hs, fun j hj => he j (by omega)⟩, cl.trans (by
          refine XS.iloadN X0.here hexec rfl (hb hbytes d9) rfl ?_
          refine XS.aloadN X0.here hexec rfl (hb hbytes d10) rfl rfl ?_
          refine X0.alen hexec hA0 rfl rfl (hb hbytes d11) ?_
          refine XS.icmpYes X0.here hexec rfl (pc0 := 12) rfl (hb hbytes d12) rfl (ii_ge_t (nlt32 (by omega) (by omega))) (by decide) rfl ?_
          refine iconstV X0.here hexec rfl 1 (hb hbytes d32) (by decide) ?_
          exact Steps.refl _)⟩
      | succ r ih =>
        intro i hi he cl
        have c4 : Steps p.tables e below (s₁.setTop (entryFrame m #[.ref a, .ref b] 3)) (s₁.setTop (mkF m 21 #[.val (.ref a), .val (.ref b), .val (.int (Int32.ofNat i))] [.int (yv B i), .int (yv A i)])) := cl.trans (by
          refine XS.iloadN X0.here hexec rfl (hb hbytes d9) rfl ?_
          refine XS.aloadN X0.here hexec rfl (hb hbytes d10) rfl rfl ?_
          refine X0.alen hexec hA0 rfl rfl (hb hbytes d11) ?_
          refine XS.icmpNo X0.here hexec rfl (hb hbytes d12) rfl (ii_ge_f (lt32 (by omega) (by omega))) ?_
          refine XS.aloadN X0.here hexec rfl (hb hbytes d15) rfl rfl ?_
          refine XS.iloadN X0.here hexec rfl (hb hbytes d16) rfl ?_
          refine X0.aget hexec hA0 rfl (yv_get hA tA (i := i) (by omega)) rfl rfl (hb hbytes d17) ?_
          refine XS.aloadN X0.here hexec rfl (hb hbytes d18) rfl rfl ?_
          refine XS.iloadN X0.here hexec rfl (hb hbytes d19) rfl ?_
          refine X0.aget hexec hB0 rfl (yv_get hB tB (i := i) (by omega)) rfl rfl (hb hbytes d20) ?_
          exact Steps.refl _)
        by_cases hv : yv A i = yv B i
        · have c5 : Steps p.tables e below (s₁.setTop (entryFrame m #[.ref a, .ref b] 3)) (s₁.setTop (mkF m 9 #[.val (.ref a), .val (.ref b), .val (.int (Int32.ofNat i + 1))] [])) := c4.trans (by
            refine XS.icmpYes X0.here hexec rfl (pc0 := 21) rfl (hb hbytes d21) rfl (ii_eq_t hv) (by decide) rfl ?_
            refine iincV X0.here hexec rfl 1 (hb hbytes d26) (by decide) rfl rfl ?_
            refine XS.goto X0.here hexec rfl (pc0 := 29) rfl (hb hbytes d29) (by decide) rfl ?_
            exact Steps.refl _)
          rw [succ32] at c5
          exact ih (i + 1) (by omega) (fun j hj => by
            by_cases e : j = i
            · rw [e]; exact hv
            · exact he j (by omega)) c5
        · exact ⟨25, _, 0, Or.inl rfl, Or.inr ⟨rfl, fun q => hv (q.2 i (by omega))⟩, c4.trans (by
            refine XS.icmpNo X0.here hexec rfl (hb hbytes d21) rfl (ii_eq_f hv) ?_
            refine iconstV X0.here hexec rfl 0 (hb hbytes d24) (by decide) ?_
            exact Steps.refl _)⟩
    obtain ⟨pc, Ls, v, hpc, hv, cz⟩ := loop A.slots.size 0 (by omega) (fun j hj => absurd hj (Nat.not_lt_zero j)) c3
    have nv : narrow .boolean (.int v) = .int v := by rcases hv with ⟨rfl, -⟩ | ⟨rfl, -⟩ <;> rfl
    rcases hpc with rfl | rfl
    · exact ⟨s₁, some (.int v), _, _, _, X0, rfl, rfl, rfl, (fun h => by cases h), ⟨v, rfl, hh0, hv⟩, fun fs hl => cz.trans (X0.ireturnOut hexec hret nv (Or.inr (Or.inl rfl)) (hb hbytes d25) hl)⟩
    · exact ⟨s₁, some (.int v), _, _, _, X0, rfl, rfl, rfl, (fun h => by cases h), ⟨v, rfl, hh0, hv⟩, fun fs hl => cz.trans (X0.ireturnOut hexec hret nv (Or.inr (Or.inl rfl)) (hb hbytes d33) hl)⟩
  · have c3 : Steps p.tables e below (s₁.setTop (entryFrame m #[.ref a, .ref b] 3)) (s₁.setTop (mkF m 35 #[.val (.ref a), .val (.ref b), .unset] [.int 0])) := c2.trans (by
      refine XS.icmpYes X0.here hexec rfl (pc0 := 4) rfl (hb hbytes d4) rfl (ii_ne_t (ne32 a31 b31 hs)) (by decide) rfl ?_
      refine iconstV X0.here hexec rfl 0 (hb hbytes d34) (by decide) ?_
      exact Steps.refl _)
    exact ⟨s₁, some (.int 0), _, _, _, X0, rfl, rfl, rfl, (fun h => by cases h), ⟨0, rfl, hh0, Or.inr ⟨rfl, fun q => hs q.1⟩⟩, fun fs hl => c3.trans (X0.ireturnOut hexec hret rfl (Or.inr (Or.inl rfl)) (hb hbytes d35) hl)⟩
end LEq
theorem Cod.ty {cd : Int32} {n : Nat} {f : Nat → Int32} {V : Cell} (h : Cod cd n f V) : Typed .byte V := fun i v hv => by
  have hi : i < V.slots.size := (Array.getElem?_eq_some_iff.mp hv).1
  rcases h with ⟨-, k1, k2⟩ | ⟨-, k1, k2, -⟩
  · rw [(k2 i (by omega)).1] at hv; cases hv; exact fits_lo8 _
  · rcases Nat.mod_two_eq_zero_or_one i with e | e
    · obtain ⟨j, rfl⟩ : ∃ j, i = 2 * j := ⟨i / 2, by omega⟩
      rw [(k2 j (by omega)).1] at hv; cases hv; exact fits_lo8 _
    · obtain ⟨j, rfl⟩ : ∃ j, i = 2 * j + 1 := ⟨i / 2, by omega⟩
      rw [(k2 j (by omega)).2] at hv; cases hv; exact fits_lo8 _
/-- the same text -/
def SameT (n : Nat) (f : Nat → Int32) (k : Nat) (g : Nat → Int32) : Prop := n = k ∧ ∀ j, j < n → f j = g j
theorem lo8_inj {x y : Int32} (h0 : ¬ x < 0) (h1 : ¬ 255 < x) (k0 : ¬ y < 0) (k1 : ¬ 255 < y) (h : lo8 x = lo8 y) : x = y := by
  rw [← lo8_mask h0 h1, ← lo8_mask k0 k1, h]
/-- arrays coded by one coder are equal just where the texts are -/
theorem Cod.eqv {cd : Int32} {n k : Nat} {f g : Nat → Int32} {V V' : Cell} (h : Cod cd n f V) (h' : Cod cd k g V') (hf : ∀ j, j < n → ¬ f j < 0 ∧ ¬ 65535 < f j) (hg : ∀ j, j < k → ¬ g j < 0 ∧ ¬ 65535 < g j) : EqC V V' ↔ SameT n f k g := by
  have yvv : ∀ {W : Cell} {i : Nat} {x : Int32}, W.slots[i]? = some (.int x) → yv W i = x := fun q => by unfold yv; rw [q]
  rcases h with ⟨rfl, k1, k2⟩ | ⟨rfl, k1, k2, -⟩
  · rcases h' with ⟨-, m1, m2⟩ | ⟨e, -⟩
    · constructor
      · rintro ⟨e1, e2⟩
        refine ⟨by omega, fun j hj => ?_⟩
        have q := e2 j (by omega)
        rw [yvv (k2 j hj).1, yvv (m2 j (by omega)).1] at q
        exact lo8_inj (hf j hj).1 (k2 j hj).2 (hg j (by omega)).1 (m2 j (by omega)).2 q
      · rintro ⟨rfl, e2⟩
        refine ⟨by omega, fun j hj => ?_⟩
        rw [yvv (k2 j (by omega)).1, yvv (m2 j (by omega)).1, e2 j (by omega)]
    · exact absurd e (by decide)
  · rcases h' with ⟨e, -⟩ | ⟨-, m1, m2, -⟩
    · exact absurd e (by decide)
    · constructor
      · rintro ⟨e1, e2⟩
        refine ⟨by omega, fun j hj => ?_⟩
        have q1 := e2 (2 * j) (by omega)
        have q2 := e2 (2 * j + 1) (by omega)
        rw [yvv (k2 j hj).1, yvv (m2 j (by omega)).1] at q1
        rw [yvv (k2 j hj).2, yvv (m2 j (by omega)).2] at q2
        rw [← pair_says (hf j hj).1 (hf j hj).2, ← pair_says (hg j (by omega)).1 (hg j (by omega)).2, q1, q2]
      · rintro ⟨rfl, e2⟩
        refine ⟨by omega, fun i hi => ?_⟩
        rcases Nat.mod_two_eq_zero_or_one i with e | e
        · obtain ⟨j, rfl⟩ : ∃ j, i = 2 * j := ⟨i / 2, by omega⟩
          rw [yvv (k2 j (by omega)).1, yvv (m2 j (by omega)).1, e2 j (by omega)]
        · obtain ⟨j, rfl⟩ : ∃ j, i = 2 * j + 1 := ⟨i / 2, by omega⟩
          rw [yvv (k2 j (by omega)).2, yvv (m2 j (by omega)).2, e2 j (by omega)]
/-- two codings differ: so do the texts -/
theorem Cod.dif {cd cd' : Int32} {n k : Nat} {f g : Nat → Int32} {V V' : Cell} (h : Cod cd n f V) (h' : Cod cd' k g V') (hne : ¬ cd = cd') : ¬ SameT n f k g := by
  rintro ⟨rfl, e⟩
  rcases h with ⟨rfl, -, k2⟩ | ⟨rfl, -, -, j, hj, hw⟩
  · rcases h' with ⟨rfl, -⟩ | ⟨-, -, -, j, hj, hw⟩
    · exact hne rfl
    · exact (k2 j hj).2 (by rw [e j hj]; exact hw)
  · rcases h' with ⟨-, -, m2⟩ | ⟨rfl, -⟩
    · exact (m2 j hj).2 (by rw [← e j hj]; exact hw)
    · exact hne rfl
/-- an object of exactly C is an instance of C -/
theorem cinst {p : Program} {l : Launch} {e : Env} {R : Room} {s : State} {m : MethodId} {args : Array Value} {below : List Frame} {meth : Method} {c : Code} {T : State} {locs : List Loc} {cells slots : Nat} (X : Stand p l e R s m args below meth c T locs cells slots) (hexec : p.tables.exec = Jvm.exec) {own C : String} {index : Nat} (hown : s.vm.findClass own = some m.cls) (hlink : (Cond.classLink own index C).before args s = true) {a : Addr} (hE : Exact C a T)
    {g : JFrame} (hg : g.method = m) {rest : List Value} (hstack : g.stack = .ref a :: rest) (hdg : decode c.code g.pc = .ok (.instanceof index, 3)) :
    ∃ T', Stand p l e R s m args below meth c T' locs cells slots ∧ T'.heap = T.heap ∧ ∀ target, Steps p.tables e below (T'.setTop { g with pc := g.pc + 3, stack := .int 1 :: rest }) target → Steps p.tables e below (T.setTop g) target := by
  obtain ⟨cB, h1, D, h2, h3, h4⟩ := hE
  have h1' : s.vm.findClass C = some cB := by rw [← X.warmed.alike.findClass]; exact h1
  obtain ⟨vm', X', st⟩ := X.instanceofYes hexec hown hlink h2 h4 h1' (by rw [h3]; exact Jvm.Free.SB.assignable_self _ _) hg hstack hdg
  exact ⟨_, X', rfl, st⟩
theorem cself {p : Program} {l : Launch} {e : Env} {R : Room} {s : State} {m : MethodId} {args : Array Value} {below : List Frame} {meth : Method} {c : Code} {T : State} {locs : List Loc} {cells slots : Nat} (X : Stand p l e R s m args below meth c T locs cells slots) (hexec : p.tables.exec = Jvm.exec) {own C : String} {index : Nat} (hown : s.vm.findClass own = some m.cls) (hlink : (Cond.classLink own index C).before args s = true) {a : Addr} (hE : Exact C a T)
    {g : JFrame} (hg : g.method = m) {rest : List Value} (hstack : g.stack = .ref a :: rest) (hdg : decode c.code g.pc = .ok (.checkcast index, 3)) :
    ∃ T', Stand p l e R s m args below meth c T' locs cells slots ∧ T'.heap = T.heap ∧ ∀ target, Steps p.tables e below (T'.setTop { g with pc := g.pc + 3, stack := .ref a :: rest }) target → Steps p.tables e below (T.setTop g) target := by
  obtain ⟨cB, h1, D, h2, h3, h4⟩ := hE
  have h1' : s.vm.findClass C = some cB := by rw [← X.warmed.alike.findClass]; exact h1
  obtain ⟨vm', X', st⟩ := X.checkcastYes hexec hown hlink h2 h4 h1' (by rw [h3]; exact Jvm.Free.SB.assignable_self _ _) hg hstack hdg
  exact ⟨_, X', rfl, fun t h => st t (by rw [← hstack] at h; exact h)⟩
namespace SEq
def yN : MethodName := ⟨"java/lang/String", "equals", "(Ljava/lang/Object;)Z"⟩
abbrev yB : ByteArray := jdk_42_method_66_code
theorem d0 : decode yB 0 = .ok (.aload_n 0, 1) := by decide +kernel
theorem d1 : decode yB 1 = .ok (.aload_n 1, 1) := by decide +kernel
theorem d2 : decode yB 2 = .ok (.if_acmp (.ne) 5, 3) := by decide +kernel
theorem d5 : decode yB 5 = .ok (.iconst 1, 1) := by decide +kernel
theorem d6 : decode yB 6 = .ok (.ireturn, 1) := by decide +kernel
theorem d7 : decode yB 7 = .ok (.aload_n 1, 1) := by decide +kernel
theorem d8 : decode yB 8 = .ok (.instanceof 10, 3) := by decide +kernel
theorem d11 : decode yB 11 = .ok (.ifCond (.eq) 43, 3) := by decide +kernel
theorem d14 : decode yB 14 = .ok (.aload_n 1, 1) := by decide +kernel
theorem d15 : decode yB 15 = .ok (.checkcast 10, 3) := by decide +kernel
theorem d18 : decode yB 18 = .ok (.astore_n 2, 1) := by decide +kernel
theorem d19 : decode yB 19 = .ok (.getstatic 38, 3) := by decide +kernel
theorem d22 : decode yB 22 = .ok (.ifCond (.eq) 14, 3) := by decide +kernel
theorem d25 : decode yB 25 = .ok (.aload_n 0, 1) := by decide +kernel
theorem d26 : decode yB 26 = .ok (.getfield 15, 3) := by decide +kernel
theorem d29 : decode yB 29 = .ok (.aload_n 2, 1) := by decide +kernel
theorem d30 : decode yB 30 = .ok (.getfield 15, 3) := by decide +kernel
theorem d33 : decode yB 33 = .ok (.if_icmp (.ne) 21, 3) := by decide +kernel
theorem d36 : decode yB 36 = .ok (.aload_n 0, 1) := by decide +kernel
theorem d37 : decode yB 37 = .ok (.getfield 9, 3) := by decide +kernel
theorem d40 : decode yB 40 = .ok (.aload_n 2, 1) := by decide +kernel
theorem d41 : decode yB 41 = .ok (.getfield 9, 3) := by decide +kernel
theorem d44 : decode yB 44 = .ok (.invokestatic 541, 3) := by decide +kernel
theorem d47 : decode yB 47 = .ok (.ifCond (.eq) 7, 3) := by decide +kernel
theorem d50 : decode yB 50 = .ok (.iconst 1, 1) := by decide +kernel
theorem d51 : decode yB 51 = .ok (.goto 4, 3) := by decide +kernel
theorem d54 : decode yB 54 = .ok (.iconst 0, 1) := by decide +kernel
theorem d55 : decode yB 55 = .ok (.ireturn, 1) := by decide +kernel
def site : List Cond := [.classLink "java/lang/String" 10 "java/lang/String", .fieldLink "java/lang/String" 38 "java/lang/String" "COMPACT_STRINGS" "Z", .fieldLink "java/lang/String" 15 "java/lang/String" "coder" "B", .fieldLink "java/lang/String" 9 "java/lang/String" "value" "[B", LEq.tab] ++ staticW "java/lang/String" 541 LEq.yN
def tab : Cond := tabOf yN yB 3 (some .boolean) site
def P (x t : Addr) (V : Cell) (cd : Int32) (n : Nat) (f : Nat → Int32) (y t' : Addr) (V' : Cell) (cd' : Int32) (k : Nat) (g : Nat → Int32) (z : Int32) (args : Array Value) (s : State) : Prop := args = #[.ref x, .ref y] ∧ Txt x t V cd n f s ∧ Txt y t' V' cd' k g s ∧ StaticIs s "java/lang/String" "COMPACT_STRINGS" "Z" (.int z) ∧ ¬ z = 0
/-- equals(Object) of two Strings: whether the texts are the same -/
theorem law (l : Launch) (x t : Addr) (V : Cell) (cd : Int32) (n : Nat) (f : Nat → Int32) (y t' : Addr) (V' : Cell) (cd' : Int32) (k : Nat) (g : Nat → Int32) (z : Int32) : Law l yN 2 1 1 14 yB 3 (some .boolean) site (P x t V cd n f y t' V' cd' k g z) (Says01 (SameT n f k g)) [] 0 0 := by
  refine Law.of_walk (plainFor_of_name (by decide +kernel)) (by decide +kernel) (by decide +kernel) (by decide) (fun _ _ h => by rw [h.1]; rfl) (fun _ U U' hal hh h => ⟨h.1, h.2.1.mv hal hh, h.2.2.1.mv hal hh, h.2.2.2.1.there hal hh, h.2.2.2.2⟩) (fun r U U' V V' h1 hal h2 h => Says01.mv r U U' V V' h1 hal h2 h) ?_
  intro p e s m args below meth c s₁ X0 hexec hbytes hml hret hlk hnm hown hh0 W hP
  obtain ⟨rfl, hx, hy, s1, hz⟩ := hP
  have c1 : Steps p.tables e below (s₁.setTop (entryFrame m #[.ref x, .ref y] 3)) (s₁.setTop (mkF m 2 #[.val (.ref x), .val (.ref y), .unset] [.ref y, .ref x])) := Steps.trans (entry rfl) (by
    show Steps p.tables e below (s₁.setTop (mkF m 0 #[.val (.ref x), .val (.ref y), .unset] [])) _
    refine XS.aloadN X0.here hexec rfl (hb hbytes d0) rfl rfl ?_
    refine XS.aloadN X0.here hexec rfl (hb hbytes d1) rfl rfl ?_
    exact Steps.refl _)
  by_cases hxy : x = y
  · have c2 : Steps p.tables e below (s₁.setTop (entryFrame m #[.ref x, .ref y] 3)) (s₁.setTop (mkF m 6 #[.val (.ref x), .val (.ref y), .unset] [.int 1])) := c1.trans (by
      refine acmpNo X0.here hexec rfl (hb hbytes d2) rfl rfl rfl (by simp [acmp, hxy]) ?_
      refine iconstV X0.here hexec rfl 1 (hb hbytes d5) (by decide) ?_
      exact Steps.refl _)
    subst hxy
    have ec : cd = cd' := by
      obtain ⟨D, fd, a1, a2, a3⟩ := hx.2.2.1
      obtain ⟨D', fd', b1, b2, b3⟩ := hy.2.2.1
      cases a1.symm.trans b1
      obtain ⟨q1, q2, q3, q4⟩ := a2.1
      obtain ⟨r1, r2, r3, r4⟩ := b2.1
      cases q4.symm.trans r4
      cases a3.symm.trans b3; rfl
    have et : t = t' := by
      obtain ⟨D, fd, a1, a2, a3⟩ := hx.2.1
      obtain ⟨D', fd', b1, b2, b3⟩ := hy.2.1
      cases a1.symm.trans b1
      obtain ⟨q1, q2, q3, q4⟩ := a2.1
      obtain ⟨r1, r2, r3, r4⟩ := b2.1
      cases q4.symm.trans r4
      cases a3.symm.trans b3; rfl
    subst ec et
    have ev : V = V' := by cases hx.2.2.2.1.1.symm.trans hy.2.2.2.1.1; rfl
    subst ev
    have hs : SameT n f k g := (Cod.eqv hx.2.2.2.2.1 hy.2.2.2.2.1 hx.2.2.2.2.2 hy.2.2.2.2.2).mp ⟨rfl, fun _ _ => rfl⟩
    exact ⟨s₁, some (.int 1), _, _, _, X0, rfl, rfl, rfl, (fun h => by cases h), ⟨1, rfl, hh0, Or.inl ⟨rfl, hs⟩⟩, fun fs hl => c2.trans (X0.ireturnOut hexec hret rfl (Or.inr (Or.inl rfl)) (hb hbytes d6) hl)⟩
  · have c2 : Steps p.tables e below (s₁.setTop (entryFrame m #[.ref x, .ref y] 3)) (s₁.setTop (mkF m 8 #[.val (.ref x), .val (.ref y), .unset] [.ref y])) := c1.trans (by
      refine acmpYes X0.here hexec rfl (pc0 := 2) rfl (hb hbytes d2) rfl rfl rfl (by simp [acmp, hxy]) (by decide) rfl ?_
      refine XS.aloadN X0.here hexec rfl (hb hbytes d7) rfl rfl ?_
      exact Steps.refl _)
    obtain ⟨T3, X3, q3, st3⟩ := cinst X0 hexec hown (wk W (.classLink "java/lang/String" 10 "java/lang/String")) (hy.mv X0.warmed.alike hh0).1 (g := (mkF m 8 #[.val (.ref x), .val (.ref y), .unset] [.ref y])) rfl (rest := []) rfl (hb hbytes d8)
    have hh3 := q3.trans hh0
    have c4 : Steps p.tables e below (s₁.setTop (entryFrame m #[.ref x, .ref y] 3)) (T3.setTop (mkF m 15 #[.val (.ref x), .val (.ref y), .unset] [.ref y])) := (c2.trans (st3 _ (Steps.refl _))).trans (by
      refine XS.ifNo X3.here hexec rfl (hb hbytes d11) rfl (i0_eq_f (by decide)) ?_
      refine XS.aloadN X3.here hexec rfl (hb hbytes d14) rfl rfl ?_
      exact Steps.refl _)
    obtain ⟨T5, X5, q5, st5⟩ := cself X3 hexec hown (wk W (.classLink "java/lang/String" 10 "java/lang/String")) (hy.mv X3.warmed.alike hh3).1 (g := (mkF m 15 #[.val (.ref x), .val (.ref y), .unset] [.ref y])) rfl (rest := []) rfl (hb hbytes d15)
    have hh5 := q5.trans hh3
    have c6 : Steps p.tables e below (s₁.setTop (entryFrame m #[.ref x, .ref y] 3)) (T5.setTop (mkF m 19 #[.val (.ref x), .val (.ref y), .val (.ref y)] [])) := (c4.trans (st5 _ (Steps.refl _))).trans (by
      refine XS.astoreN X5.here hexec rfl (hb hbytes d18) rfl rfl rfl ?_
      exact Steps.refl _)
    obtain ⟨T7, X7, q7, st7⟩ := X5.sget hexec hown (wk W (.fieldLink "java/lang/String" 38 "java/lang/String" "COMPACT_STRINGS" "Z")) s1 (fun _ _ h => by rw [hh5]; exact h) (g := (mkF m 19 #[.val (.ref x), .val (.ref y), .val (.ref y)] [])) rfl (hb hbytes d19)
    have hh7 := q7.trans hh5
    have c8 : Steps p.tables e below (s₁.setTop (entryFrame m #[.ref x, .ref y] 3)) (T7.setTop (mkF m 26 #[.val (.ref x), .val (.ref y), .val (.ref y)] [.ref x])) := (c6.trans (st7 _ (Steps.refl _))).trans (by
      refine XS.ifNo X7.here hexec rfl (hb hbytes d22) rfl (i0_eq_f hz) ?_
      refine XS.aloadN X7.here hexec rfl (hb hbytes d25) rfl rfl ?_
      exact Steps.refl _)
    obtain ⟨T9, X9, q9, st9⟩ := X7.hget hexec hown (wk W (.fieldLink "java/lang/String" 15 "java/lang/String" "coder" "B")) (hx.mv X7.warmed.alike hh7).2.2.1 (g := (mkF m 26 #[.val (.ref x), .val (.ref y), .val (.ref y)] [.ref x])) rfl (rest := []) rfl (hb hbytes d26)
    have hh9 := q9.trans hh7
    have c10 : Steps p.tables e below (s₁.setTop (entryFrame m #[.ref x, .ref y] 3)) (T9.setTop (mkF m 30 #[.val (.ref x), .val (.ref y), .val (.ref y)] [.ref y, .int cd])) := (c8.trans (st9 _ (Steps.refl _))).trans (by
      refine XS.aloadN X9.here hexec rfl (hb hbytes d29) rfl rfl ?_
      exact Steps.refl _)
    obtain ⟨T11, X11, q11, st11⟩ := X9.hget hexec hown (wk W (.fieldLink "java/lang/String" 15 "java/lang/String" "coder" "B")) (hy.mv X9.warmed.alike hh9).2.2.1 (g := (mkF m 30 #[.val (.ref x), .val (.ref y), .val (.ref y)] [.ref y, .int cd])) rfl (rest := [.int cd]) rfl (hb hbytes d30)
    have hh11 := q11.trans hh9
    have c12 : Steps p.tables e below (s₁.setTop (entryFrame m #[.ref x, .ref y] 3)) (T11.setTop (mkF m 33 #[.val (.ref x), .val (.ref y), .val (.ref y)] [.int cd', .int cd])) := c10.trans (st11 _ (Steps.refl _))
    by_cases hcd : cd = cd'
    · subst hcd
      have c13 : Steps p.tables e below (s₁.setTop (entryFrame m #[.ref x, .ref y] 3)) (T11.setTop (mkF m 37 #[.val (.ref x), .val (.ref y), .val (.ref y)] [.ref x])) := c12.trans (by
        refine XS.icmpNo X11.here hexec rfl (hb hbytes d33) rfl (ii_ne_f rfl) ?_
        refine XS.aloadN X11.here hexec rfl (hb hbytes d36) rfl rfl ?_
        exact Steps.refl _)
      obtain ⟨T14, X14, q14, st14⟩ := X11.hget hexec hown (wk W (.fieldLink "java/lang/String" 9 "java/lang/String" "value" "[B")) (hx.mv X11.warmed.alike hh11).2.1 (g := (mkF m 37 #[.val (.ref x), .val (.ref y), .val (.ref y)] [.ref x])) rfl (rest := []) rfl (hb hbytes d37)
      have hh14 := q14.trans hh11
      have c15 : Steps p.tables e below (s₁.setTop (entryFrame m #[.ref x, .ref y] 3)) (T14.setTop (mkF m 41 #[.val (.ref x), .val (.ref y), .val (.ref y)] [.ref y, .ref t])) := (c13.trans (st14 _ (Steps.refl _))).trans (by
        refine XS.aloadN X14.here hexec rfl (hb hbytes d40) rfl rfl ?_
        exact Steps.refl _)
      obtain ⟨T16, X16, q16, st16⟩ := X14.hget hexec hown (wk W (.fieldLink "java/lang/String" 9 "java/lang/String" "value" "[B")) (hy.mv X14.warmed.alike hh14).2.1 (g := (mkF m 41 #[.val (.ref x), .val (.ref y), .val (.ref y)] [.ref y, .ref t])) rfl (rest := [.ref t]) rfl (hb hbytes d41)
      have hh16 := q16.trans hh14
      have c17 : Steps p.tables e below (s₁.setTop (entryFrame m #[.ref x, .ref y] 3)) (T16.setTop (mkF m 44 #[.val (.ref x), .val (.ref y), .val (.ref y)] [.ref t', .ref t])) := c15.trans (st16 _ (Steps.refl _))
      obtain ⟨v18, T18, X18, E18, g18⟩ := X16.callS hexec (LEq.law l t V t' V') hown (wks W (staticW "java/lang/String" 541 LEq.yN)) (wk W LEq.tab) (W := 0) (Nat.le_of_ble_eq_true rfl) (Nat.le_of_ble_eq_true rfl) (Nat.le_refl _) (Nat.le_refl _) (g := (mkF m 44 #[.val (.ref x), .val (.ref y), .val (.ref y)] [.ref t', .ref t])) rfl (by rw [hml]; rfl) c17 (argsL := [.ref t, .ref t']) (rest := []) rfl rfl (by show 2 * 0 + 0 ≤ _; decide) (hb hbytes d44) (⟨rfl, hx.2.2.2.1.mv X16.warmed.alike hh16, hx.2.2.2.2.1.ty, hy.2.2.2.1.mv X16.warmed.alike hh16, hy.2.2.2.2.1.ty⟩)
      obtain ⟨v, rfl, q18, hv⟩ := E18
      have iff := Cod.eqv hx.2.2.2.2.1 hy.2.2.2.2.1 hx.2.2.2.2.2 hy.2.2.2.2.2
      rcases hv with ⟨rfl, he⟩ | ⟨rfl, he⟩
      · have c19 : Steps p.tables e below (s₁.setTop (entryFrame m #[.ref x, .ref y] 3)) (T18.setTop (mkF m 55 #[.val (.ref x), .val (.ref y), .val (.ref y)] [.int 1])) := Steps.trans g18 (by
          refine XS.ifNo X18.here hexec rfl (hb hbytes d47) rfl (i0_eq_f (by decide)) ?_
          refine iconstV X18.here hexec rfl 1 (hb hbytes d50) (by decide) ?_
          refine XS.goto X18.here hexec rfl (pc0 := 51) rfl (hb hbytes d51) (by decide) rfl ?_
          exact Steps.refl _)
        exact ⟨T18, some (.int 1), _, _, _, X18, rfl, rfl, rfl, (fun h => by cases h), ⟨1, rfl, q18.trans hh16, Or.inl ⟨rfl, iff.mp he⟩⟩, fun fs hl => c19.trans (X18.ireturnOut hexec hret rfl (Or.inr (Or.inl rfl)) (hb hbytes d55) hl)⟩
      · have c19 : Steps p.tables e below (s₁.setTop (entryFrame m #[.ref x, .ref y] 3)) (T18.setTop (mkF m 55 #[.val (.ref x), .val (.ref y), .val (.ref y)] [.int 0])) := Steps.trans g18 (by
          refine XS.ifYes X18.here hexec rfl (pc0 := 47) rfl (hb hbytes d47) rfl (i0_eq_t rfl) (by decide) rfl ?_
          refine iconstV X18.here hexec rfl 0 (hb hbytes d54) (by decide) ?_
          exact Steps.refl _)
        exact ⟨T18, some (.int 0), _, _, _, X18, rfl, rfl, rfl, (fun h => by cases h), ⟨0, rfl, q18.trans hh16, Or.inr ⟨rfl, fun q => he (iff.mpr q)⟩⟩, fun fs hl => c19.trans (X18.ireturnOut hexec hret rfl (Or.inr (Or.inl rfl)) (hb hbytes d55) hl)⟩
    · have c13 : Steps p.tables e below (s₁.setTop (entryFrame m #[.ref x, .ref y] 3)) (T11.setTop (mkF m 55 #[.val (.ref x), .val (.ref y), .val (.ref y)] [.int 0])) := c12.trans (by
        refine XS.icmpYes X11.here hexec rfl (pc0 := 33) rfl (hb hbytes d33) rfl (ii_ne_t hcd) (by decide) rfl ?_
        refine iconstV X11.here hexec rfl 0 (hb hbytes d54) (by decide) ?_
        exact Steps.refl _)
      exact ⟨T11, some (.int 0), _, _, _, X11, rfl, rfl, rfl, (fun h => by cases h), ⟨0, rfl, hh11, Or.inr ⟨rfl, Cod.dif hx.2.2.2.2.1 hy.2.2.2.2.1 hcd⟩⟩, fun fs hl => c13.trans (X11.ireturnOut hexec hret rfl (Or.inr (Or.inl rfl)) (hb hbytes d55) hl)⟩
theorem pays {l : Launch} {R : Room} {p : Program} {e : Env} {below : List Frame} {s : State} {sargs : Array Value} {len W : Nat} (x t : Addr) (V : Cell) (cd : Int32) (n : Nat) (f : Nat → Int32) (y t' : Addr) (V' : Cell) (cd' : Int32) (k : Nat) (g : Nat → Int32) (z : Int32) (htab : tab.before sargs s = true) (hfr : 2 ≤ R.frames) (hlo : W + 28 ≤ R.locals) :
    Back l R p e below s sargs yN len W (fun A₁ a₁ => A₁.cells + 0 ≤ R.cells ∧ A₁.slots + 0 ≤ R.slots ∧ P x t V cd n f y t' V' cd' k g z a₁ A₁.U) (fun A₁ _ v₁ B₁ => Says01 (SameT n f k g) v₁ A₁.U B₁.U ∧ B₁.locs = A₁.locs ++ [] ∧ B₁.cells = A₁.cells + 0 ∧ B₁.slots = A₁.slots + 0) :=
  (law l x t V cd n f y t' V' cd' k g z).pays htab hfr (by omega)
end SEq
end StrChars
namespace StrChars.Road
open Jvm Sem ClassFile Op Lib Jvm.Stand Jvm.Free Jvm.Free.XT
open Jvm.Lib.Cold (StaticIs)
/-- the words of String.equals(Object) -/
abbrev wordsEq : List Jvm.Cond := [.code SEq.yN SEq.yB 3 (some .boolean), .initialized ST, .classLink ST 10 ST, .fieldLink ST 38 ST "COMPACT_STRINGS" "Z", .fieldLink ST 15 ST "coder" "B", .fieldLink ST 9 ST "value" "[B", .methodLink ST 541 LEq.yN, .static LEq.yN, .code LEq.yN LEq.yB 3 (some .boolean), .initialized "java/lang/StringLatin1"]
theorem tabEq_of {a : Array Value} {s : State} (h : ∀ w ∈ wordsEq, w.before a s = true) : SEq.tab.before a s = true := by
  have hl : LEq.tab.before a s = true := unparts (wk h (.code LEq.yN LEq.yB 3 (some .boolean))) (wks h (.initialized LEq.yN.cls :: LEq.site))
  have q := consq hl h
  exact unparts (wk q (.code SEq.yN SEq.yB 3 (some .boolean))) (wks q (.initialized SEq.yN.cls :: SEq.site))
theorem movedEq {Z s : State} {a0 args : Array Value} (hZ : Z.Warmed39 s.vm) (hw : ∀ d ∈ wordsEq, d.before a0 Z = true) : ∀ d ∈ wordsEq, d.before args s = true := fun d hd => by
  have t : ∀ d ∈ wordsEq, (d.onTables && d.keepsFace) = true := by decide +kernel
  exact RoadKit.mv hZ (hw d hd) (t d hd)
/-- the road's facts of a String, as the laws ask it -/
theorem txt_of {Z U : State} {a0 : Array Value} {kI : Nat} (wi : (Jvm.Cond.instantiable ST kI).before a0 Z = true) (al : Z.vm.Alike U.vm) {x t : Addr} {kb : ClassId} {cs : List Int32} {cd N2 : Int32} {vs : List Value} (E : RoadKit.Exa Z U.heap x ST) (V : RoadKit.Fld Z U.heap x ST "value" "[B" (.ref t)) (C : RoadKit.Fld Z U.heap x ST "coder" "B" (.int cd)) (K : RoadKit.Arv Z U.heap t kb .byte N2 vs (.int 0)) (hc : CodA cs cd N2 vs) (hb : ∀ c ∈ cs, ¬ c < 0 ∧ ¬ (65535 : Int32) < c) (l2 : cs.length ≤ 4000) :
    ∃ A, Txt x t A cd cs.length (fun j => cs.getD j 0) U := by
  obtain ⟨A, K1, K2, K3, K4, K5, K6⟩ := K
  have hcod := hc.cod (by omega) K3 K5
  obtain ⟨D, fV, fC, hB, F1, F2, g1, g2, -, -⟩ := strObj wi al E V C
  exact ⟨A, ⟨_, hB.2.2.1, D, hB.1, rfl, by cases q : D.vm <;> first | rfl | exact absurd q (hB.2.1.2 _)⟩, Has.of hB F1 g1, Has.of hB F2 g2, ⟨K1.1, State.isArrayOf_alike al K1.2.1, K1.2.2, by rcases hcod with ⟨-, q, -⟩ | ⟨-, q, -⟩ <;> omega⟩, hcod, fun j hj => by
    have e : cs.getD j 0 = cs[j] := by simp [List.getD_eq_getElem?_getD, hj]
    show ¬ cs.getD j 0 < 0 ∧ ¬ 65535 < cs.getD j 0
    rw [e]; exact hb _ (List.getElem_mem _)⟩
theorem same_list (cs ds : List Int32) : SameT cs.length (fun j => cs.getD j 0) ds.length (fun j => ds.getD j 0) ↔ cs = ds := by
  constructor
  · rintro ⟨e, q⟩
    refine List.ext_getElem e fun j h1 h2 => ?_
    have := q j h1
    simpa [List.getD_eq_getElem?_getD, h1, h2] using this
  · rintro rfl
    exact ⟨rfl, fun _ _ => rfl⟩
/-- **equals(Object) OF TWO SUCH STRINGS**: 1 just where the chars are the same -/
theorem eqW {p : Program} {l : Launch} {e : Env} {R : Room} {s : State} {args : Array Value} {below : List Frame} {len W : Nat} {Z : State} {a0 : Array Value} {h : Heap} (hZ : Z.Warmed39 s.vm) (hw : ∀ d ∈ wordsEq, d.before a0 Z = true) {kI : Nat} (wi : (Jvm.Cond.instantiable ST kI).before a0 Z = true)
    {x t : Addr} {kb : ClassId} {cs : List Int32} {cd N2 : Int32} {vs : List Value} (E : RoadKit.Exa Z h x ST) (V : RoadKit.Fld Z h x ST "value" "[B" (.ref t)) (C : RoadKit.Fld Z h x ST "coder" "B" (.int cd)) (K : RoadKit.Arv Z h t kb .byte N2 vs (.int 0)) (hc : CodA cs cd N2 vs) (hb : ∀ c ∈ cs, ¬ c < 0 ∧ ¬ (65535 : Int32) < c) (l2 : cs.length ≤ 4000)
    {y t' : Addr} {kb' : ClassId} {ds : List Int32} {cd' N2' : Int32} {vs' : List Value} (E' : RoadKit.Exa Z h y ST) (V' : RoadKit.Fld Z h y ST "value" "[B" (.ref t')) (C' : RoadKit.Fld Z h y ST "coder" "B" (.int cd')) (K' : RoadKit.Arv Z h t' kb' .byte N2' vs' (.int 0)) (hc' : CodA ds cd' N2' vs') (hb' : ∀ c ∈ ds, ¬ c < 0 ∧ ¬ (65535 : Int32) < c) (l2' : ds.length ≤ 4000)
    {z : Int32} (S : RoadKit.Sta Z h ST "COMPACT_STRINGS" "Z" (.int z)) (hz : ¬ z = 0) (hfr : 2 ≤ R.frames) (hlo : W + 28 ≤ R.locals) :
    Back l R p e below s args (⟨"java/lang/String", "equals", "(Ljava/lang/Object;)Z"⟩ : MethodName) len W (fun P a => a = #[.ref x, .ref y] ∧ P.U.heap = h ∧ P.cells + 0 ≤ R.cells ∧ P.slots + 0 ≤ R.slots)
      (fun P _ v B => ∃ L, (((v = some (.int 1) ∧ cs = ds) ∨ (v = some (.int 0) ∧ ¬ cs = ds)) ∧ L = [] ∧ B.U.heap = h) ∧ B.locs = P.locs ++ L ∧ B.cells = P.cells + 0 ∧ B.slots = P.slots + 0) := by
  intro m meth c P g ig mk a X hg hsize hdg hW hn hp'
  obtain ⟨rfl, rfl, r1, r2⟩ := hp'
  have al : Z.vm.Alike P.U.vm := hZ.alike.trans X.warmed.alike
  obtain ⟨A, hx⟩ := txt_of wi al E V C K hc hb l2
  obtain ⟨A', hy⟩ := txt_of wi al E' V' C' K' hc' hb' l2'
  obtain ⟨v, B, X', ⟨⟨w, hv, hh, hq⟩, hl, hk, hs⟩, st⟩ := SEq.pays x t A cd cs.length (fun j => cs.getD j 0) y t' A' cd' ds.length (fun j => ds.getD j 0) z (tabEq_of (movedEq hZ hw)) hfr hlo m meth c P g ig mk _ X hg hsize hdg hW hn ⟨r1, r2, rfl, hx, hy, sta_is al S, hz⟩
  refine ⟨v, B, X', ⟨[], ⟨?_, rfl, hh⟩, hl, hk, hs⟩, st⟩
  rcases hq with ⟨rfl, q⟩ | ⟨rfl, q⟩
  · exact Or.inl ⟨hv, (same_list cs ds).mp q⟩
  · exact Or.inr ⟨hv, fun e => q ((same_list cs ds).mpr e)⟩
end StrChars.Road
namespace StrChars.Road
open Jvm Sem ClassFile Op Lib Jvm.Stand Jvm.Free Jvm.Free.XT
open Jvm.Lib.Cold (StaticIs)
/-- what backV says of its String, as the contracts of this text ask it: cs's low bytes, coder 0 -/
theorem codOf {cs : List Int32} {n : Nat} (hn : cs.length = n) (hb : ∀ c ∈ cs, ¬ 255 < c) : CodA cs 0 (Int32.ofNat n) ((cs.map lo8).map Value.int) := Or.inl ⟨rfl, by rw [hn], by simp [List.map_map, Function.comp_def], hb⟩
end StrChars.Road
end Jvm.Pilot.@@N@@

namespace Jvm.OwnW
open Jvm Jvm.ClassFile Sem Op Lib Jvm.Free Jvm.Stand Jvm.LawKit Jvm.RoadKit Bundle
/-! OwnW: a walk told forwards. Wk: where the walk stands (tables that may have interned, fresh places alone written, the held constants kept). Fi: from here the body comes to its end as its contract says. One law a step: what is left to show is Fi of the next state. -/
def Wk (p : Program) (l : Launch) (e : Env) (R : Room) (s : State) (m : MethodId) (args : Array Value) (below : List Frame) (meth : Method) (c : Code) (Z : State) (a0 : Array Value) (EL : List (String × Nat)) (own : String) (n0 : Nat) (T : State) (h : Heap) (cells slots : Nat) : Prop :=
  ∃ (vm0 : Vm) (k0 : Nat) (locs : List Loc), Stand p l e R (s.setVm vm0) m args below meth c T locs cells slots ∧ T.heap = h ∧ s.Since vm0 k0 ∧ k0 ≤ h.size ∧ Z.Warmed39 vm0 ∧ vm0.findClass own = some m.cls ∧ Fr n0 locs ∧ CHr Z EL s.vm s.heap vm0 h ∧ EW Z a0 EL
def Fi (p : Program) (e : Env) (below : List Frame) (s : State) (Z : State) (EL : List (String × Nat)) (n0 : Nat) (Q : Option Value → Heap → Prop) (kc ks : Nat) (st : State) : Prop :=
  ∃ s₂ o, Steps p.tables e below st s₂ ∧ s₂.status = .running ∧ Ended s₂ below o ∧ ∃ v L, o = .returned v ∧ (Fr n0 L ∧ Q v s₂.heap) ∧ CHr Z EL s.vm s.heap s₂.vm s₂.heap ∧ ReturnedEndW s o s₂ L kc ks
/-- a body's contract: called with as' over the heap h0 -/
def Con (l : Launch) (Z : State) (EL : List (String × Nat)) (y : MethodName) (bytes : ByteArray) (maxL : Nat) (ret : Option FieldType) (ws : List Jvm.Cond) (rm : Room) (as' : Array Value) (h0 : Heap) (n0 : Nat) (Q : Option Value → Heap → Prop) : Prop :=
  MetFree l y (head1 (Jvm.Cond.code y bytes maxL ret :: ws) rm) (fun a U => a = as' ∧ Z.Warmed39 U.vm ∧ U.heap = h0 ∧ CHv Z EL U.vm h0) (fun _ _ _ _ _ => True)
    (fun _ U o U' => ∃ v L, o = .returned v ∧ (Fr n0 L ∧ Q v U'.heap) ∧ CHr Z EL U.vm U.heap U'.vm U'.heap ∧ ReturnedEndW U o U' L rm.cells rm.slots)
/-- a call that is paid for: by a contract, or by a law of the library -/
def Pay (l : Launch) (R : Room) (p : Program) (e : Env) (below : List Frame) (s : State) (args : Array Value) (Z : State) (EL : List (String × Nat)) (n0 : Nat) (y : MethodName) (Wd : Nat) (as' : Array Value) (h : Heap) (Q : Option Value → Heap → Prop) (k n : Nat) : Prop :=
  ∀ vm0 : Vm, Z.Warmed39 vm0 → CHv Z EL vm0 h →
    BackS l R p e below (s.setVm vm0) args y 3 Wd (fun A a => a = as' ∧ A.U.heap = h ∧ A.cells + k ≤ R.cells ∧ A.slots + n ≤ R.slots)
      (fun A _ v B => ∃ L, (Fr n0 L ∧ Q v B.U.heap) ∧ B.locs = A.locs ++ L ∧ B.cells = A.cells + k ∧ B.slots = A.slots + n ∧ CHr Z EL vm0 h B.U.vm B.U.heap)
section Base
variable {p : Program} {l : Launch} {e : Env} {R : Room} {s : State} {m : MethodId} {args : Array Value} {below : List Frame} {meth : Method} {c : Code} {Z : State} {a0 : Array Value} {EL EF : List (String × Nat)} {own : String} {n0 : Nat} {T : State} {h h' h1 h2 : Heap} {cells slots : Nat} {Q : Option Value → Heap → Prop} {kc ks : Nat}
theorem Fi.via {st st' : State} (f : Fi p e below s Z EF n0 Q kc ks st') (k : ∀ t, Steps p.tables e below st' t → Steps p.tables e below st t) : Fi p e below s Z EF n0 Q kc ks st := by
  obtain ⟨s₂, o, h1, r⟩ := f
  exact ⟨s₂, o, k _ h1, r⟩
theorem Fi.by' {st st' : State} (k : ∀ t, Steps p.tables e below st' t → Steps p.tables e below st t) (f : Fi p e below s Z EF n0 Q kc ks st') : Fi p e below s Z EF n0 Q kc ks st := f.via k
theorem Fi.cast {g g' : JFrame} (q : g = g') (f : Fi p e below s Z EF n0 Q kc ks (T.setTop g')) : Fi p e below s Z EF n0 Q kc ks (T.setTop g) := q ▸ f
theorem Wk.here (W : Wk p l e R s m args below meth c Z a0 EL own n0 T h cells slots) : At T m c below := by
  obtain ⟨_, _, _, X, -⟩ := W
  exact X.here
theorem Wk.mono (W : Wk p l e R s m args below meth c Z a0 EL own n0 T h cells slots) {k n : Nat} (h1 : cells ≤ k) (h2 : slots ≤ n) : Wk p l e R s m args below meth c Z a0 EL own n0 T h k n := by
  obtain ⟨vm0, k0, locs, X, r⟩ := W
  exact ⟨vm0, k0, locs, X.mono h1 h2, r⟩
theorem Con.intro {y : MethodName} {bytes : ByteArray} {maxL : Nat} {ret : Option FieldType} {ws : List Jvm.Cond} {rm : Room} {as' : Array Value} {h0 : Heap} (ho : y.cls = own) (hpl : plainFor y = true) (hEL : EW Z a0 EL)
    (body : ∀ (p : Program) (e : Env) (s : State) (m : MethodId) (below : List Frame) (meth : Method) (c : Code) (s₁ : State), p.tables.exec = Jvm.exec → c.code = bytes → c.maxLocals = maxL → meth.sig.returnType = ret → meth.locks = false → meth.name = y.name →
      Wk p l e rm s m as' below meth c Z a0 EL own n0 s₁ h0 0 0 → Fi p e below s Z EL n0 Q rm.cells rm.slots (s₁.setTop (entryFrame m as' maxL))) :
    Con l Z EL y bytes maxL ret ws rm as' h0 n0 Q := by
  refine MetFree.of_bodySF hpl hisR ?_
  intro p e s m args below meth c s₁ Bd hml0 hP hK
  obtain ⟨ha, hZ, hh, hC⟩ := hP
  subst ha
  have X0 : Stand p l e rm s m args below meth c s₁ [] 0 0 := Stand.of_body Bd
  have e0 : s₁.heap = h0 := by rw [← hh, Bd.state]; rfl
  have hown : s.vm.findClass own = some m.cls := by rw [← ho]; exact findClass_of_methodNamed Bd.named
  exact body p e s m below meth c s₁ Bd.exec Bd.bytes hml0 Bd.returns Bd.notSynchronized (name_of_methodNamed Bd.named Bd.method).1
    ⟨s.vm, 0, [], X0, e0, (State.WarmedH.refl s).since 0, Nat.zero_le _, hZ, hown, Fr.nil n0, by rw [hh]; exact CHr.refl hC, hEL⟩
theorem Wk.leave (W : Wk p l e R s m args below meth c Z a0 EL own n0 T h cells slots) (hlk : meth.locks = false) {v : Option Value} (hv : meth.sig.returnType = none → v = none) (hq : Q v h) (h1 : cells ≤ kc) (h2 : slots ≤ ks) {g : JFrame}
    (st : ∀ (vm0 : Vm) (locs : List Loc) (_ : Stand p l e R (s.setVm vm0) m args below meth c T locs cells slots) (fs : List Frame), (∀ (f : JFrame) (acts : List Action), f.method = m → f.locked = none → f.entered = [] → (doReturn e (T.setTop f) acts v).1 = T.setFrames fs) → Steps p.tables e below (T.setTop g) (T.setFrames fs)) :
    Fi p e below s Z EL n0 Q kc ks (T.setTop g) := by
  obtain ⟨vm0, k0, locs, X, eT, hS, hk, hZ, ho, N, C, hE⟩ := W
  obtain ⟨fs, hr, hrun, hended, hEnd⟩ := X.leaveW hS (by rw [eT]; exact hk) hv hlk
  have D := C.trans (CHv.at X hZ hE C.1)
  refine ⟨T.setFrames fs, _, st vm0 locs X fs hr, hrun, hended, v, locs, rfl, ⟨N, ?_⟩, ?_, ⟨hEnd.1, hEnd.2.1, hEnd.2.2.1, hEnd.2.2.2.mono h1 h2⟩⟩
  · show Q v T.heap
    rw [eT]; exact hq
  · show CHr Z EL s.vm s.heap T.vm T.heap
    rw [eT]; exact D
theorem Wk.aret (W : Wk p l e R s m args below meth c Z a0 EL own n0 T h cells slots) (hx : p.tables.exec = Jvm.exec) (hlk : meth.locks = false) {t : FieldType} (hret : meth.sig.returnType = some t) (ht : t.isReference = true) {pc : Nat} {Ls : Array Slot} {w : Value} (hw : w.isRef = true)
    (hd : decode c.code pc = .ok (.areturn, 1)) (hq : Q (some w) h) (h1 : cells ≤ kc) (h2 : slots ≤ ks) : Fi p e below s Z EL n0 Q kc ks (T.setTop (mkF m pc Ls [w])) :=
  W.leave hlk (fun q => by rw [hret] at q; cases q) hq h1 h2 fun vm0 locs X fs hl => X.areturnOut hx hw hret ht hd hl
theorem Wk.iret (W : Wk p l e R s m args below meth c Z a0 EL own n0 T h cells slots) (hx : p.tables.exec = Jvm.exec) (hlk : meth.locks = false) {t : FieldType} (hret : meth.sig.returnType = some t) (hti : t = .int ∨ t = .boolean ∨ t = .byte ∨ t = .char ∨ t = .short) {pc : Nat} {Ls : Array Slot} {w : Int32} (hn : narrow t (.int w) = .int w)
    (hd : decode c.code pc = .ok (.ireturn, 1)) (hq : Q (some (.int w)) h) (h1 : cells ≤ kc) (h2 : slots ≤ ks) : Fi p e below s Z EL n0 Q kc ks (T.setTop (mkF m pc Ls [.int w])) :=
  W.leave hlk (fun q => by rw [hret] at q; cases q) hq h1 h2 fun vm0 locs X fs hl => X.ireturnOut hx hret hn hti hd hl
theorem Wk.vret (W : Wk p l e R s m args below meth c Z a0 EL own n0 T h cells slots) (hx : p.tables.exec = Jvm.exec) (hlk : meth.locks = false) (hret : meth.sig.returnType = none) {pc : Nat} {Ls : Array Slot}
    (hd : decode c.code pc = .ok (.return_, 1)) (hq : Q none h) (h1 : cells ≤ kc) (h2 : slots ≤ ks) : Fi p e below s Z EL n0 Q kc ks (T.setTop (mkF m pc Ls [])) :=
  W.leave hlk (fun _ => rfl) hq h1 h2 fun vm0 locs X fs hl => X.returnOut hx hret hd hl
theorem Wk.new (W : Wk p l e R s m args below meth c Z a0 EL own n0 T h cells slots) (hx : p.tables.exec = Jvm.exec) {C : String} {index n : Nat} (w : (Jvm.Cond.classLink own index C).before a0 Z = true) (wi : (Jvm.Cond.instantiable C n).before a0 Z = true) (wz : (Jvm.Cond.initialized C).before a0 Z = true)
    {g : JFrame} (hg : g.method = m) (hd : decode c.code g.pc = .ok (.new index, 3)) (hc : cells + 1 ≤ R.cells) (hl : slots + n ≤ R.slots)
    (k : ∀ (T' : State) (h' : Heap) (a : Addr), @Eq Nat a h.size → Wk p l e R s m args below meth c Z a0 EL own n0 T' h' (cells + 1) (slots + n) → Ext h h' → Exa Z h' a C → (∀ {O nm d : String} {ty : FieldType}, Laid Z a0 C O nm d → parseFieldDescriptor d = some ty → Fld Z h' a O nm d (defaultValue ty)) →
      Fi p e below s Z EF n0 Q kc ks (T'.setTop { g with pc := g.pc + 3, stack := .ref a :: g.stack })) : Fi p e below s Z EF n0 Q kc ks (T.setTop g) := by
  obtain ⟨vm0, k0, locs, X, eT, hS, hk, hZ, ho, N, CC, hE⟩ := W
  obtain ⟨T', h', X', e', E, A, D, -, st⟩ := newO X hx hZ ho w wi wz eT hg hd hc hl
  exact (k T' h' _ rfl ⟨vm0, k0, locs, X', e', hS, Nat.le_trans hk E.1, hZ, ho, N, CC.trans (CHr.ext E CC.1), hE⟩ E A D).via st
theorem Wk.newP (W : Wk p l e R s m args below meth c Z a0 EL own n0 T h cells slots) (hx : p.tables.exec = Jvm.exec) {aty : ArrayType} (w : (Jvm.Cond.arrayClass (newarray.typeOf aty)).before a0 Z = true)
    {g : JFrame} (hg : g.method = m) (hd : decode c.code g.pc = .ok (.newarray aty, 2)) {n : Int32} {rest : List Value} (hs : g.stack = .int n :: rest) (hn : ¬ n < 0) {cap : Nat} (hcap : n.toNatClampNeg ≤ cap) (hb : cap * 8 ≤ 536870912) (hc : cells + 1 ≤ R.cells) (hl : slots + cap ≤ R.slots)
    (k : ∀ (T' : State) (h' : Heap) (a : Addr) (cA : ClassId), @Eq Nat a h.size → Wk p l e R s m args below meth c Z a0 EL own n0 T' h' (cells + 1) (slots + cap) → Ext h h' → Arv Z h' a cA (newarray.typeOf aty) n [] (defaultValue (newarray.typeOf aty)) →
      Fi p e below s Z EF n0 Q kc ks (T'.setTop { g with pc := g.pc + 2, stack := .ref a :: rest })) : Fi p e below s Z EF n0 Q kc ks (T.setTop g) := by
  obtain ⟨vm0, k0, locs, X, eT, hS, hk, hZ, ho, N, CC, hE⟩ := W
  obtain ⟨T', h', cA, X', e', E, A, st⟩ := Jvm.RoadKit.newP X hx hZ w eT hg hd hs hn hcap hb hc hl
  exact (k T' h' _ cA rfl ⟨vm0, k0, locs, X', e', hS, Nat.le_trans hk E.1, hZ, ho, N, CC.trans (CHr.ext E CC.1), hE⟩ E (Arv.new A hn)).via st
theorem Wk.getF (W : Wk p l e R s m args below meth c Z a0 EL own n0 T h cells slots) (hx : p.tables.exec = Jvm.exec) {O n d : String} {index : Nat} (w : (Jvm.Cond.fieldLink own index O n d).before a0 Z = true) {a : Addr} {v : Value} (F : Fld Z h a O n d v)
    {g : JFrame} (hg : g.method = m) {rest : List Value} (hs : g.stack = .ref a :: rest) (hd : decode c.code g.pc = .ok (.getfield index, 3))
    (k : ∀ T' : State, Wk p l e R s m args below meth c Z a0 EL own n0 T' h cells slots → Fi p e below s Z EF n0 Q kc ks (T'.setTop { g with pc := g.pc + 3, stack := v :: rest })) : Fi p e below s Z EF n0 Q kc ks (T.setTop g) := by
  obtain ⟨vm0, k0, locs, X, eT, hS, hk, hZ, ho, N, CC, hE⟩ := W
  obtain ⟨T', X', e', st⟩ := Jvm.RoadKit.getF X hx hZ ho (host := "") (Or.inl w) Via.refl eT F hg hs hd
  exact (k T' ⟨vm0, k0, locs, X', e', hS, hk, hZ, ho, N, CC, hE⟩).via st
theorem Wk.getS (W : Wk p l e R s m args below meth c Z a0 EL own n0 T h cells slots) (hx : p.tables.exec = Jvm.exec) {O n d : String} {index : Nat} (w : (Jvm.Cond.fieldLink own index O n d).before a0 Z = true) {v : Value} (F : Sta Z h O n d v)
    {g : JFrame} (hg : g.method = m) (hd : decode c.code g.pc = .ok (.getstatic index, 3))
    (k : ∀ T' : State, Wk p l e R s m args below meth c Z a0 EL own n0 T' h cells slots → Fi p e below s Z EF n0 Q kc ks (T'.setTop { g with pc := g.pc + 3, stack := v :: g.stack })) : Fi p e below s Z EF n0 Q kc ks (T.setTop g) := by
  obtain ⟨vm0, k0, locs, X, eT, hS, hk, hZ, ho, N, CC, hE⟩ := W
  obtain ⟨T', X', e', st⟩ := Jvm.RoadKit.getS (host := "") X hx hZ ho w Via.refl eT F hg hd
  exact (k T' ⟨vm0, k0, locs, X', e', hS, hk, hZ, ho, N, CC, hE⟩).via st
theorem Wk.putF (W : Wk p l e R s m args below meth c Z a0 EL own n0 T h cells slots) (hx : p.tables.exec = Jvm.exec) {O n d C : String} {index kk : Nat} {ty : FieldType} (w : (Jvm.Cond.fieldLink own index O n d).before a0 Z = true) {a : Addr} {v old : Value} (F : Fld Z h a O n d old) (E : Exa Z h a C)
    (L : (Jvm.Cond.lays C O n d).before a0 Z = true ∨ ((Jvm.Cond.laysFinal C O n d).before a0 Z = true ∧ own = O ∧ meth.name = "<init>")) (wi : (Jvm.Cond.instantiable C kk).before a0 Z = true) (hty : parseFieldDescriptor d = some ty) (hn : narrow ty v = v) (hf : fits ty v = true)
    {g : JFrame} (hg : g.method = m) {rest : List Value} (hs : g.stack = v :: .ref a :: rest) (hd : decode c.code g.pc = .ok (.putfield index, 3)) (ha : n0 ≤ a) (S : ∀ vm : Vm, Z.Warmed39 vm → CHv Z EL vm h → Safe Z EL vm h a)
    (k : ∀ (T' : State) (h' : Heap), Wk p l e R s m args below meth c Z a0 EL own n0 T' h' cells slots → Wr h h' a (Jvm.RoadKit.slotOf Z O n d) v → Fi p e below s Z EF n0 Q kc ks (T'.setTop { g with pc := g.pc + 3, stack := rest })) : Fi p e below s Z EF n0 Q kc ks (T.setTop g) := by
  obtain ⟨vm0, k0, locs, X, eT, hS, hk, hZ, ho, N, CC, hE⟩ := W
  obtain ⟨T', h', X', e', Wr', st⟩ := Jvm.RoadKit.putF X hx hZ ho (host := "") (Or.inl w) Via.refl eT F E L wi hty hn hf hg hs hd
  exact (k T' h' ⟨vm0, k0, _, X', e', hS, by rw [Wr'.size]; exact hk, hZ, ho, Fr.snoc X' N ha, CC.trans (CHr.wr Wr' (S vm0 hZ CC.1) CC.1), hE⟩ Wr').via st
theorem safe_exa {a : Addr} {C : String} (E : Exa Z h a C) (h1 : C ≠ "java/lang/String") (h2 : C ≠ "[B") : ∀ vm : Vm, Z.Warmed39 vm → CHv Z EL vm h → Safe Z EL vm h a := fun vm hZ _ => Safe.exa hZ.alike E h1 h2
theorem Wk.initO (W : Wk p l e R s m args below meth c Z a0 EL own n0 T h cells slots) (hx : p.tables.exec = Jvm.exec) {idx : Nat} (w1 : (Jvm.Cond.methodLink own idx Lib.objectInit).before a0 Z = true) (w2 : (Jvm.Cond.instanceMethod Lib.objectInit).before a0 Z = true) (w3 : (Jvm.Cond.code Lib.objectInit ⟨#[0xb1]⟩ 1 none).before a0 Z = true)
    {g : JFrame} (hg : g.method = m) (hsize : g.locals.size = c.maxLocals) {a : Addr} {rest : List Value} (hs : g.stack = .ref a :: rest) (hd : decode c.code g.pc = .ok (.invokespecial idx, 3)) (hf : 1 ≤ R.frames) {Wd : Nat} (hW : 2 * g.monitorRoom + (rest.map fun v => v.category).sum ≤ Wd) (hl : Wd + 12 ≤ R.locals)
    (k : ∀ T' : State, Wk p l e R s m args below meth c Z a0 EL own n0 T' h cells slots → Fi p e below s Z EF n0 Q kc ks (T'.setTop { g with pc := g.pc + 3, stack := rest })) : Fi p e below s Z EF n0 Q kc ks (T.setTop g) := by
  obtain ⟨vm0, k0, locs, X, eT, hS, hk, hZ, ho, N, CC, hE⟩ := W
  obtain ⟨T', X', e', st⟩ := Jvm.RoadKit.initO X hx hZ ho w1 w2 w3 eT hg hsize hs hd hf hW hl
  exact (k T' ⟨vm0, k0, locs, X', e', hS, hk, hZ, ho, N, CC, hE⟩).via st
/-! ## calls -/
theorem Pay.of_con {y : MethodName} {bytes : ByteArray} {maxL Wd : Nat} {ret : Option FieldType} {rm : Room} {as' : Array Value} (hM : Con l Z EL y bytes maxL ret [] rm as' h n0 Q) (wc : (Jvm.Cond.code y bytes maxL ret).before a0 Z = true) (wz : (Jvm.Cond.initialized y.cls).before a0 Z = true) (hEL : EW Z a0 EL)
    (hf : rm.frames + 1 ≤ R.frames) (hl : Wd + (maxL + 11) + rm.locals ≤ R.locals) : Pay l R p e below s args Z EL n0 y Wd as' h Q rm.cells rm.slots :=
  fun vm0 hZ hC => backOfSH (Q := fun v h L => Fr n0 L ∧ Q v h) hM hZ wc wz hf hl hEL hC
theorem Pay.of_back {y : MethodName} {Wd k n : Nat} {as' : Array Value} {ws : List Addr} (hEL : EW Z a0 EL)
    (hB : ∀ vm0 : Vm, Z.Warmed39 vm0 → Back l R p e below (s.setVm vm0) args y 3 Wd (fun A a => a = as' ∧ A.U.heap = h ∧ A.cells + k ≤ R.cells ∧ A.slots + n ≤ R.slots) (fun A _ v B => ∃ L, (Fr n0 L ∧ Keep h B.U.heap ws ∧ Q v B.U.heap) ∧ B.locs = A.locs ++ L ∧ B.cells = A.cells + k ∧ B.slots = A.slots + n))
    (S : ∀ vm : Vm, Z.Warmed39 vm → CHv Z EL vm h → ∀ x ∈ ws, Safe Z EL vm h x) : Pay l R p e below s args Z EL n0 y Wd as' h Q k n := by
  intro vm0 hZ hC m meth c A g ig mk a X hg hsize hdg hW hn hp
  obtain ⟨v, B, X', ⟨L, ⟨NL, K, hq⟩, l1, l2, l3⟩, hsteps⟩ := hB vm0 hZ m meth c A g ig mk a X hg hsize hdg hW hn hp
  have C1 := CHr.keep K (S vm0 hZ hC) hC
  exact ⟨v, B, X'.retabled X'.warmed.wide, X'.warmed.since _, by rw [hp.2.1]; exact K.1, ⟨L, ⟨NL, hq⟩, l1, l2, l3, C1.trans (CHv.at X' hZ hEL C1.1)⟩, hsteps⟩
theorem Wk.callS (W : Wk p l e R s m args below meth c Z a0 EL own n0 T h cells slots) (hx : p.tables.exec = Jvm.exec) {index : Nat} {y : MethodName} {bytes : ByteArray} {maxL : Nat} {ret : Option FieldType}
    (w1 : (Jvm.Cond.methodLink own index y).before a0 Z = true) (w2 : (Jvm.Cond.static y).before a0 Z = true) (w3 : (Jvm.Cond.initialized y.cls).before a0 Z = true) (w4 : (Jvm.Cond.code y bytes maxL ret).before a0 Z = true) (hy : y.cls ≠ "java/lang/invoke/MethodHandle" ∧ y.cls ≠ "java/lang/invoke/VarHandle")
    {Wd k n : Nat} {as' : Array Value} {Qy : Option Value → Heap → Prop} (P : Pay l R p e below s args Z EL n0 y Wd as' h Qy k n)
    {g : JFrame} (hg : g.method = m) (hsize : g.locals.size = c.maxLocals) {argsL rest : List Value} (hlen : ∀ sig, parseMethodDescriptor y.desc = some sig → argsL.length = sig.parameters.length) (hstack : g.stack = argsL.reverse ++ rest) (has : argsL.toArray = as') (hW : 2 * g.monitorRoom + (rest.map fun v => v.category).sum ≤ Wd)
    (hd : decode c.code g.pc = .ok (.invokestatic index, 3)) (hc : cells + k ≤ R.cells) (hl : slots + n ≤ R.slots)
    (kk : ∀ (v : Option Value) (T' : State) (h' : Heap), Wk p l e R s m args below meth c Z a0 EL own n0 T' h' (cells + k) (slots + n) → h.size ≤ h'.size → Qy v h' → Fi p e below s Z EF n0 Q kc ks (T'.setTop { g with pc := g.pc + 3, stack := v.toList ++ rest })) : Fi p e below s Z EF n0 Q kc ks (T.setTop g) := by
  obtain ⟨vm0, k0, locs, X, eT, hS, hk, hZ, ho, N, CC, hE⟩ := W
  obtain ⟨v, vm1, ⟨U, L', k', n'⟩, -, X', hS', hgr, ⟨L, ⟨NL, hq⟩, l1, l2, l3, hC⟩, st⟩ := callSS X hx ho (mvT hZ w1) (mvT hZ w2) (mvT hZ w3) (mvT hZ w4) hy (P vm0 hZ CC.1) hg hsize hlen hstack hW hd (fun _ _ => ⟨has, eT, hc, hl⟩)
  dsimp only [Pt.U, Pt.locs, Pt.cells, Pt.slots] at X' hS' hgr hq l1 l2 l3 hC st
  subst l1 l2 l3
  rw [eT] at hgr
  obtain ⟨Y1, Y2, Y3, Y4⟩ := rebS hS hk X' hS' hgr hZ ho
  exact (kk v U U.heap ⟨U.vm, _, _, Y1, rfl, Y2, Nat.le_refl _, Y3, Y4, N.app NL, CC.trans hC, hE⟩ hgr hq).via fun t ht => st.trans ht
theorem Wk.callI (W : Wk p l e R s m args below meth c Z a0 EL own n0 T h cells slots) (hx : p.tables.exec = Jvm.exec) {index : Nat} {y : MethodName} {bytes : ByteArray} {maxL : Nat} (hy1 : y.name = "<init>")
    (w1 : (Jvm.Cond.methodLink own index y).before a0 Z = true) (w2 : (Jvm.Cond.instanceMethod y).before a0 Z = true) (w4 : (Jvm.Cond.code y bytes maxL none).before a0 Z = true) (hy : y.cls ≠ "java/lang/invoke/MethodHandle" ∧ y.cls ≠ "java/lang/invoke/VarHandle")
    {Wd k n : Nat} {as' : Array Value} {Qy : Option Value → Heap → Prop} (P : Pay l R p e below s args Z EL n0 y Wd as' h Qy k n)
    {g : JFrame} (hg : g.method = m) (hsize : g.locals.size = c.maxLocals) {a : Addr} {argsL rest : List Value} (hlen : ∀ sig, parseMethodDescriptor y.desc = some sig → argsL.length = sig.parameters.length) (hstack : g.stack = argsL.reverse ++ .ref a :: rest) (has : (Value.ref a :: argsL).toArray = as') (hW : 2 * g.monitorRoom + (rest.map fun v => v.category).sum ≤ Wd)
    (hd : decode c.code g.pc = .ok (.invokespecial index, 3)) (hc : cells + k ≤ R.cells) (hl : slots + n ≤ R.slots)
    (kk : ∀ (v : Option Value) (T' : State) (h' : Heap), Wk p l e R s m args below meth c Z a0 EL own n0 T' h' (cells + k) (slots + n) → h.size ≤ h'.size → Qy v h' → Fi p e below s Z EF n0 Q kc ks (T'.setTop { g with pc := g.pc + 3, stack := v.toList ++ rest })) : Fi p e below s Z EF n0 Q kc ks (T.setTop g) := by
  obtain ⟨vm0, k0, locs, X, eT, hS, hk, hZ, ho, N, CC, hE⟩ := W
  obtain ⟨v, vm1, ⟨U, L', k', n'⟩, -, X', hS', hgr, ⟨L, ⟨NL, hq⟩, l1, l2, l3, hC⟩, st⟩ := X.specialBackS hx hy1 ho (mvT hZ w1) (mvT hZ w2) (mvT hZ w4) hy (P vm0 hZ CC.1) hg hsize (Steps.refl _) hlen hstack hW hd (fun _ _ => ⟨has, eT, hc, hl⟩)
  dsimp only [Pt.U, Pt.locs, Pt.cells, Pt.slots] at X' hS' hgr hq l1 l2 l3 hC st
  subst l1 l2 l3
  rw [eT] at hgr
  obtain ⟨Y1, Y2, Y3, Y4⟩ := rebS hS hk X' hS' hgr hZ ho
  exact (kk v U U.heap ⟨U.vm, _, _, Y1, rfl, Y2, Nat.le_refl _, Y3, Y4, N.app NL, CC.trans hC, hE⟩ hgr hq).via fun t ht => st.trans ht
theorem Wk.callV (W : Wk p l e R s m args below meth c Z a0 EL own n0 T h cells slots) (hx : p.tables.exec = Jvm.exec) {index : Nat} {y : MethodName} {C : String}
    (w1 : (Jvm.Cond.methodLink own index y).before a0 Z = true) (w2 : (Jvm.Cond.declares y).before a0 Z = true) (w3 : (Jvm.Cond.selects C y y).before a0 Z = true) (w4 : (Jvm.Cond.instanceMethod y).before a0 Z = true) (hy : y.cls ≠ "java/lang/invoke/MethodHandle" ∧ y.cls ≠ "java/lang/invoke/VarHandle")
    {Wd k n : Nat} {as' : Array Value} {Qy : Option Value → Heap → Prop} (P : Pay l R p e below s args Z EL n0 y Wd as' h Qy k n) {a : Addr} (E : Exa Z h a C)
    {g : JFrame} (hg : g.method = m) (hsize : g.locals.size = c.maxLocals) {argsL rest : List Value} (hlen : ∀ sig, parseMethodDescriptor y.desc = some sig → argsL.length = sig.parameters.length) (hstack : g.stack = argsL.reverse ++ .ref a :: rest) (has : (Value.ref a :: argsL).toArray = as') (hW : 2 * g.monitorRoom + (rest.map fun v => v.category).sum ≤ Wd)
    (hd : decode c.code g.pc = .ok (.invokevirtual index, 3)) (hc : cells + k ≤ R.cells) (hl : slots + n ≤ R.slots)
    (kk : ∀ (v : Option Value) (T' : State) (h' : Heap), Wk p l e R s m args below meth c Z a0 EL own n0 T' h' (cells + k) (slots + n) → h.size ≤ h'.size → Qy v h' → Fi p e below s Z EF n0 Q kc ks (T'.setTop { g with pc := g.pc + 3, stack := v.toList ++ rest })) : Fi p e below s Z EF n0 Q kc ks (T.setTop g) := by
  obtain ⟨vm0, k0, locs, X, eT, hS, hk, hZ, ho, N, CC, hE⟩ := W
  have hZ' : Z.Warmed39 (s.setVm vm0).vm := hZ
  obtain ⟨cq, kq, qa, qb, qc⟩ := isOf hZ' eT E
  obtain ⟨v, vm1, ⟨U, L', k', n'⟩, -, X', hS', hgr, ⟨L, ⟨NL, hq⟩, l1, l2, l3, hC⟩, st⟩ := X.virtualBackS hx ho (mvT hZ' w1) (mvT hZ' w2) (notFace_of_selects (args := #[]) (mvT hZ' w3)) (mvT hZ' w3) (mvT hZ' w4) hy (P vm0 hZ CC.1) qa qc hg hsize (Steps.refl _) hlen hstack hW hd (fun _ _ => ⟨has, eT, hc, hl⟩)
  dsimp only [Pt.U, Pt.locs, Pt.cells, Pt.slots] at X' hS' hgr hq l1 l2 l3 hC st
  subst l1 l2 l3
  rw [eT] at hgr
  obtain ⟨Y1, Y2, Y3, Y4⟩ := rebS hS hk X' hS' hgr hZ ho
  exact (kk v U U.heap ⟨U.vm, _, _, Y1, rfl, Y2, Nat.le_refl _, Y3, Y4, N.app NL, CC.trans hC, hE⟩ hgr hq).via fun t ht => st.trans ht
/-! ## heaps that grow -/
theorem ext_refl (h : Heap) : Ext h h := ⟨Nat.le_refl _, fun _ _ q => q⟩
theorem ext_trans (E : Ext h h1) (F : Ext h1 h2) : Ext h h2 := ⟨Nat.le_trans E.1 F.1, fun a c q => F.2 a c (E.2 a c q)⟩
theorem ext_keep (E : Ext h h1) {ws : List Addr} (K : Keep h1 h2 ws) (q : ∀ x ∈ ws, h.size ≤ x) : Ext h h2 := ⟨Nat.le_trans E.1 K.1, fun a c r => K.2.1 a c (E.2 a c r) fun z => absurd (Array.getElem?_eq_some_iff.mp r).1 (Nat.not_lt.mpr (q a z))⟩
theorem ext_keep1 (E : Ext h h1) {x : Addr} (K : Keep h1 h2 [x]) (q : h.size ≤ x) : Ext h h2 := ext_keep E K fun y hy => by cases List.mem_singleton.mp hy; exact q
theorem ext_wr (E : Ext h h1) {a : Addr} {sl : Nat} {v : Value} (W : Wr h1 h2 a sl v) (q : h.size ≤ a) : Ext h h2 := ext_keep1 E (Keep.of_wr W) q
/-! ## Strings of known chars below 256 -/
def low8 (x : Int32) : Int32 := x.toInt8.toInt32
def StrL (Z : State) (h : Heap) (x : Addr) (cs : List Int32) : Prop := ∃ (t : Addr) (kb : ClassId), Exa Z h x "java/lang/String" ∧ Fld Z h x "java/lang/String" "value" "[B" (.ref t) ∧ Fld Z h x "java/lang/String" "coder" "B" (.int 0) ∧ Arv Z h t kb .byte (Int32.ofNat cs.length) ((cs.map low8).map Value.int) (.int 0) ∧
  (∀ c ∈ cs, ¬ c < 0 ∧ ¬ (255 : Int32) < c) ∧ cs.length ≤ 4000
theorem StrL.ext {x : Addr} {cs : List Int32} (F : StrL Z h x cs) (E : Ext h h') : StrL Z h' x cs := by
  obtain ⟨t, kb, a1, a2, a3, a4, r⟩ := F
  exact ⟨t, kb, a1.ext E, a2.ext E, a3.ext E, a4.ext E, r⟩
theorem StrL.exa {x : Addr} {cs : List Int32} (F : StrL Z h x cs) : Exa Z h x "java/lang/String" := by
  obtain ⟨_, _, a1, -⟩ := F
  exact a1
theorem StrL.lt {x : Addr} {cs : List Int32} (F : StrL Z h x cs) : x < h.size := F.exa.lt
/-- a String whose value is still null is no booked one -/
theorem safe_null {x : Addr} (E : Exa Z h x "java/lang/String") (V : Fld Z h x "java/lang/String" "value" "[B" .null) {k : Nat} (wi : (Jvm.Cond.instantiable "java/lang/String" k).before a0 Z = true) : ∀ vm : Vm, Z.Warmed39 vm → CHv Z EL vm h → Safe Z EL vm h x := fun vm hZ _ B => by
  have hal : Z.vm.Alike vm := hZ.alike
  obtain ⟨p, -, u, a, -, q, -, F, hy⟩ := B
  obtain ⟨cS, ⟨⟨s1, s2, s3, ⟨cv, kv, iv, s4, s4'⟩, -, s6, s7, s8, s9, s10, s11, -⟩, hfS, hcS⟩, ⟨kS, k1, k2, k3⟩, hB, hbyt⟩ := F
  rcases hy with rfl | rfl
  · obtain ⟨cell, cf, k', i, f, h1, h2, h3, -, -, -, h7⟩ := V
    obtain ⟨k9, e9, -⟩ := State.fieldFound?_setVm (s := { Z with heap := h }) hal h2
    have e1 := (show (Wst Z vm h).fieldFound? "java/lang/String" "value" "[B" = _ from e9).symm.trans s4
    simp only [Option.some.injEq, Prod.mk.injEq] at e1
    have e2 : h[q.sa]? = some q.sC := s1
    cases h1.symm.trans e2
    rw [e1.2.2.2, s8] at h7
    cases h7
  · obtain ⟨cell, k', e1, e2, e3, -, -⟩ := E
    have e4 : h[q.sd]? = some q.SA := s10
    cases e1.symm.trans e4
    have e5 : vm.findClass "[B" = some q.SA.cls := hB
    rw [hal.findClass] at e5
    obtain ⟨k1', q1, q2⟩ := Vm.findClass_spec e5
    obtain ⟨k2', q3, q4⟩ := Vm.findClass_spec e2
    cases q1.symm.trans q3
    exact absurd (q2.symm.trans q4) (by decide)
theorem StrL.keep {x t : Addr} {cs : List Int32} {C : String} {k : Nat} (F : StrL Z h t cs) (K : Keep h h' [x]) (E : Exa Z h x C) (hC : C ≠ "java/lang/String") (wi : (Jvm.Cond.instantiable C k).before a0 Z = true) : StrL Z h' t cs := by
  obtain ⟨b, kb, a1, a2, a3, a4, r⟩ := F
  have n1 : t ∉ [x] := fun q => Exa.ne a1 E (Ne.symm hC) (List.mem_singleton.mp q)
  have n2 : b ∉ [x] := fun q => Exa.neArv E a4 wi (List.mem_singleton.mp q).symm
  exact ⟨b, kb, a1.keep K, a2.keep K n1, a3.keep K n1, a4.keep K n2, r⟩
theorem Wk.ldc (W : Wk p l e R s m args below meth c Z a0 EL own n0 T h cells slots) (hx : p.tables.exec = Jvm.exec) {text : String} {index : Nat} (w : (Jvm.Cond.stringLink own index text).before a0 Z = true) (wS : ∀ a ∈ Bundle.stringAtoms, a.before a0 Z = true) (hmem : (own, index) ∈ EL) (cs : List Int32)
    (ht' : (∀ c ∈ text.toList, c.toNat < 256) ∧ text.toList.map (fun c => Jvm.Lit.byteI c.toNat.toUInt16) = cs.map low8) (hcs : (∀ c ∈ cs, ¬ c < 0 ∧ ¬ (255 : Int32) < c) ∧ cs.length ≤ 4000)
    {g : JFrame} (hg : g.method = m) (hd : decode c.code g.pc = .ok (.ldc index, 2)) {n : Nat} (hn : 4 * text.toList.length ≤ n) (hbig : n ≤ 536870912) (hc : cells + 2 ≤ R.cells) (hl : slots + (n + 4) ≤ R.slots)
    (k : ∀ (T' : State) (h' : Heap) (a : Addr), Wk p l e R s m args below meth c Z a0 EL own n0 T' h' (cells + 2) (slots + (n + 4)) → Ext h h' → StrL Z h' a cs → Fi p e below s Z EF n0 Q kc ks (T'.setTop { g with pc := g.pc + 2, stack := .ref a :: g.stack })) : Fi p e below s Z EF n0 Q kc ks (T.setTop g) := by
  obtain ⟨vm0, k0, locs, X, eT, hS, hk, hZ, ho, N, CC, hE⟩ := W
  have ht : (∀ c ∈ text.toList, c.toNat < 256) ∧ text.toList.map (fun c => Value.int (Jvm.Lit.byteI c.toNat.toUInt16)) = (cs.map low8).map Value.int := ⟨ht'.1, by rw [← ht'.2, List.map_map]; rfl⟩
  have hz : (Int32.ofNat cs.length).toInt = cs.length := len_toInt (by have := hcs.2; omega)
  obtain ⟨a, T', h', k1, b, kb, X', e', E, hS', hk1, hZ', ho', A1, A2, A3, A4, -, -, hC, -, -, st⟩ := ldcCH X hx hZ ho w wS eT hS hk hE hmem CC.1 ht (z := Int32.ofNat cs.length) (by rw [Int32.lt_iff_toInt_lt, hz, show (0 : Int32).toInt = 0 from rfl]; omega) (by simp only [Int32.toNatClampNeg, hz, List.length_map]; omega) hg hd hn hbig hc hl
  exact (k T' h' a ⟨T'.vm, k1, locs, X', e', hS', hk1, hZ', ho', N, CC.trans hC, hE⟩ E ⟨b, kb, A1, A3, A2, A4, hcs.1, hcs.2⟩).via st
theorem all_nil {P : Int32 → Prop} : ∀ c ∈ ([] : List Int32), P c := fun _ q => (nomatch q)
theorem all_cons {P : Int32 → Prop} {a : Int32} {L : List Int32} (q : P a) (r : ∀ c ∈ L, P c) : ∀ c ∈ a :: L, P c := fun c hc => (List.mem_cons.mp hc).elim (fun e => e ▸ q) (r c)
theorem ch_ok {x : Int32} (q : ¬ x < 0 ∧ ¬ (255 : Int32) < x) : nar .char x = x ∧ fits .char (.int x) = true := by
  obtain ⟨h0, h1⟩ := q
  rw [Int32.lt_iff_toInt_lt] at h0 h1
  have e0 : (0 : Int32).toInt = 0 := rfl
  have e1 : (255 : Int32).toInt = 255 := rfl
  obtain ⟨k, hk⟩ : ∃ k : Nat, x.toInt = k := ⟨x.toInt.toNat, by omega⟩
  have hx : x = Int32.ofNat k := Int32.toInt_inj.mp (by rw [hk, Int32.toInt_ofNat_small (by omega)])
  have t : ∀ k : Fin 256, nar .char (Int32.ofNat k.val) = Int32.ofNat k.val ∧ fits .char (.int (Int32.ofNat k.val)) = true := by decide +kernel
  rw [hx]
  exact t ⟨k, by omega⟩
theorem big_ch {x : Int32} (q : ¬ (255 : Int32) < x) : ¬ (65535 : Int32) < x := by
  rw [Int32.lt_iff_toInt_lt] at q ⊢
  rw [show (255 : Int32).toInt = 255 from rfl] at q
  rw [show (65535 : Int32).toInt = 65535 from rfl]
  omega
theorem and255 (x : Int32) : ¬ (x &&& 255) < 0 ∧ ¬ (255 : Int32) < (x &&& 255) := by
  have h : (x &&& 255).toBitVec.toNat < 256 := by
    simp only [Int32.toBitVec_and, BitVec.toNat_and]
    exact Nat.lt_succ_of_le Nat.and_le_right
  have e : (x &&& 255).toInt = ((x &&& 255).toBitVec.toNat : Int) := by
    show (x &&& 255).toBitVec.toInt = _
    rw [BitVec.toInt_eq_toNat_cond]
    split <;> omega
  rw [Int32.lt_iff_toInt_lt, Int32.lt_iff_toInt_lt, e, show (0 : Int32).toInt = 0 from rfl, show (255 : Int32).toInt = 255 from rfl]
  omega
theorem and3 (y : Int32) : y &&& 3 = 0 ∨ y &&& 3 = 1 ∨ y &&& 3 = 2 ∨ y &&& 3 = 3 := by
  have h : (y &&& 3).toBitVec.toNat < 4 := by
    simp only [Int32.toBitVec_and, BitVec.toNat_and]
    exact Nat.lt_succ_of_le Nat.and_le_right
  obtain ⟨k, hk⟩ : ∃ k, k = (y &&& 3).toBitVec.toNat := ⟨_, rfl⟩
  rw [← hk] at h
  have e : y &&& 3 = Int32.ofNat k := by
    apply Int32.toBitVec_inj.mp
    apply BitVec.eq_of_toNat_eq
    rw [← hk]
    show k = (BitVec.ofNat 32 k).toNat
    rw [BitVec.toNat_ofNat, Nat.mod_eq_of_lt (by omega)]
  rw [e]
  have : k = 0 ∨ k = 1 ∨ k = 2 ∨ k = 3 := by omega
  rcases this with rfl | rfl | rfl | rfl <;> decide
theorem Wk.castore (W : Wk p l e R s m args below meth c Z a0 EL own n0 T h cells slots) (hx : p.tables.exec = Jvm.exec) {a : Addr} {k : ClassId} {N : Int32} {cs : List Int32} {d : Value} (A : Arv Z h a k .char N (cs.map Value.int) d) {i : Nat} (hi : i < cs.length) {j x : Int32} (hj : j.toNatClampNeg = i) (hj0 : ¬ j < 0) (hN : N.toNatClampNeg = cs.length) (hc : nar .char x = x ∧ fits .char (.int x) = true)
    {g : JFrame} (hg : g.method = m) {rest : List Value} (hs : g.stack = .int x :: .int j :: .ref a :: rest) (hd : decode c.code g.pc = .ok (.castore, 1)) (ha : n0 ≤ a)
    (kk : ∀ (T' : State) (h' : Heap), Wk p l e R s m args below meth c Z a0 EL own n0 T' h' cells slots → Wr h h' a j.toNatClampNeg (.int x) → Arv Z h' a k .char N ((cs.set i x).map Value.int) d → Fi p e below s Z EF n0 Q kc ks (T'.setTop { g with pc := g.pc + 1, stack := rest })) : Fi p e below s Z EF n0 Q kc ks (T.setTop g) := by
  obtain ⟨vm0, k0, locs, X, eT, hS, hk, hZ, ho, N0, CC, hE⟩ := W
  obtain ⟨cl, A1, A2, A3, A4, A5, A6⟩ := id A
  obtain ⟨T', h', X', e', Wr', st⟩ := stC X hx hZ eT A1 (j := j) (x := x) (by rw [A3, hN, hj]; exact fun q => q.elim hj0 (fun q => absurd hi (Nat.not_lt.mpr q))) hg hs hd
  rw [hc.1] at Wr'
  have V := Arv.set A1 A2 A3 A4 A5 A6 hc.2 Wr' i hj (by simpa using hi)
  refine (kk T' h' ⟨vm0, k0, _, X', e', hS, by rw [Wr'.size]; exact hk, hZ, ho, Fr.snoc X' N0 ha, CC.trans (CHr.wr Wr' (Safe.arr hZ.alike A1 (by decide)) CC.1), hE⟩ Wr' ?_).via st
  rw [List.map_set]; exact V
theorem Wk.alen (W : Wk p l e R s m args below meth c Z a0 EL own n0 T h cells slots) (hx : p.tables.exec = Jvm.exec) {a : Addr} {k : ClassId} {ty : FieldType} {N : Int32} {vs : List Value} {d : Value} (A : Arv Z h a k ty N vs d)
    {g : JFrame} (hg : g.method = m) {rest : List Value} (hs : g.stack = .ref a :: rest) (hd : decode c.code g.pc = .ok (.arraylength, 1)) (f : Fi p e below s Z EF n0 Q kc ks (T.setTop { g with pc := g.pc + 1, stack := .int N :: rest })) : Fi p e below s Z EF n0 Q kc ks (T.setTop g) := by
  obtain ⟨vm0, k0, locs, X, eT, hS, hk, hZ, ho, N0, CC, hE⟩ := W
  obtain ⟨cl, A1, A2, A3, A4, A5, A6⟩ := A
  exact f.via fun t ht => X.arraylength hx (by rw [eT]; exact A1.1) (State.isArrayOf_alike (s := Z) hZ.alike A1.2.1) hg hs hd t (by rw [len_of A3 A4]; exact ht)
theorem set_same {α : Type} {A : Array α} {i : Nat} {v : α} (q : A[i]? = some v) : A.setIfInBounds i v = A := by
  apply Array.ext_getElem?
  intro j
  rw [Array.getElem?_setIfInBounds]
  split
  · next e => subst e; rw [if_pos (Array.getElem?_eq_some_iff.mp q).1]; exact q.symm
  · rfl
/-- a field is written with what it holds already: the heap stays -/
theorem Wk.putSame (W : Wk p l e R s m args below meth c Z a0 EL own n0 T h cells slots) (hx : p.tables.exec = Jvm.exec) {O n d C : String} {index kk : Nat} {ty : FieldType} (w : (Jvm.Cond.fieldLink own index O n d).before a0 Z = true) {a : Addr} {v : Value} (F : Fld Z h a O n d v) (E : Exa Z h a C)
    (L : (Jvm.Cond.lays C O n d).before a0 Z = true ∨ ((Jvm.Cond.laysFinal C O n d).before a0 Z = true ∧ own = O ∧ meth.name = "<init>")) (wi : (Jvm.Cond.instantiable C kk).before a0 Z = true) (hty : parseFieldDescriptor d = some ty) (hn : narrow ty v = v) (hf : fits ty v = true)
    {g : JFrame} (hg : g.method = m) {rest : List Value} (hs : g.stack = v :: .ref a :: rest) (hd : decode c.code g.pc = .ok (.putfield index, 3)) (ha : n0 ≤ a)
    (k : ∀ (T' : State), Wk p l e R s m args below meth c Z a0 EL own n0 T' h cells slots → Fi p e below s Z EF n0 Q kc ks (T'.setTop { g with pc := g.pc + 3, stack := rest })) : Fi p e below s Z EF n0 Q kc ks (T.setTop g) := by
  obtain ⟨vm0, k0, locs, X, eT, hS, hk, hZ, ho, N, CC, hE⟩ := W
  obtain ⟨T', h', X', e', Wr', st⟩ := Jvm.RoadKit.putF X hx hZ ho (host := "") (Or.inl w) Via.refl eT F E L wi hty hn hf hg hs hd
  have eh : h' = h := by
    obtain ⟨cell, w1, w2, w3, rfl⟩ := Wr'
    obtain ⟨cell', cf, k', i, f, h1, h2, -, -, -, -, h7⟩ := F
    cases w1.symm.trans h1
    have es : Jvm.RoadKit.slotOf Z O n d = f.slot := by simp [Jvm.RoadKit.slotOf, h2]
    rw [es]
    have ec : cell.setSlot f.slot v = cell := by
      have hb := (Array.getElem?_eq_some_iff.mp h7)
      obtain ⟨hb1, hb2⟩ := hb
      have : cell.slots.setIfInBounds f.slot v = cell.slots := set_same h7
      simp [Cell.setSlot, this]
    rw [ec]
    exact set_same w1
  subst eh
  exact (k T' ⟨vm0, k0, _, X', e', hS, hk, hZ, ho, Fr.snoc X' N ha, CC, hE⟩).via st
end Base
/-! ## plain steps, the value said as it is wanted -/
section Plain
variable {tb : Tables} [Ours tb] {e : Env} {below : List Frame} {T target : State} {m : MethodId} {c : Code} {g : JFrame}
theorem iconstZ (h : At T m c below) (hx : tb.exec = Jvm.exec) (hg : g.method = m) {i : Int} {z : Int32} (hd : decode c.code g.pc = .ok (.iconst i, 1)) (q : Int32.ofInt i = z) (hr : Steps tb e below (T.setTop { g with pc := g.pc + 1, stack := .int z :: g.stack }) target) : Steps tb e below (T.setTop g) target := by
  subst q; exact XS.iconst h hx hg hd hr
theorem bipushZ (h : At T m c below) (hx : tb.exec = Jvm.exec) (hg : g.method = m) {i : Int} {z : Int32} (hd : decode c.code g.pc = .ok (.bipush i, 2)) (q : (Int8.ofInt i).toInt32 = z) (hr : Steps tb e below (T.setTop { g with pc := g.pc + 2, stack := .int z :: g.stack }) target) : Steps tb e below (T.setTop g) target := by
  subst q; exact XS.bipush h hx hg hd hr
theorem sipushZ (h : At T m c below) (hx : tb.exec = Jvm.exec) (hg : g.method = m) {i : Int} {z : Int32} (hd : decode c.code g.pc = .ok (.sipush i, 3)) (q : (Int16.ofInt i).toInt32 = z) (hr : Steps tb e below (T.setTop { g with pc := g.pc + 3, stack := .int z :: g.stack }) target) : Steps tb e below (T.setTop g) target := by
  subst q; exact XS.sipush h hx hg hd hr
theorem i2cZ (h : At T m c below) (hx : tb.exec = Jvm.exec) (hg : g.method = m) {v z : Int32} {rest : List Value} (hd : decode c.code g.pc = .ok (.i2c, 1)) (hs : g.stack = .int v :: rest) (q : v.toUInt32.toUInt16.toUInt32.toInt32 = z) (hr : Steps tb e below (T.setTop { g with pc := g.pc + 1, stack := .int z :: rest }) target) : Steps tb e below (T.setTop g) target := by
  subst q; exact XS.i2c h hx hg hd hs hr
theorem acmpTEq {a b : Addr} (q : a = b) : if_acmp.holds .eq (some a) (some b) = true := by subst q; simp [if_acmp.holds]
theorem acmpTNe {a b : Addr} (q : a = b) : if_acmp.holds .ne (some a) (some b) = false := by subst q; simp [if_acmp.holds]
theorem acmpFEq {a b : Addr} (q : ¬ a = b) : if_acmp.holds .eq (some a) (some b) = false := by simp [if_acmp.holds, q]
theorem acmpFNe {a b : Addr} (q : ¬ a = b) : if_acmp.holds .ne (some a) (some b) = true := by simp [if_acmp.holds, q]
end Plain
end Jvm.OwnW
namespace Jvm.OwnW
open Jvm Jvm.ClassFile Sem Op Lib Jvm.Free Jvm.Stand Jvm.LawKit Jvm.RoadKit Bundle
section Base2
variable {p : Program} {l : Launch} {e : Env} {R : Room} {s : State} {m : MethodId} {args : Array Value} {below : List Frame} {meth : Method} {c : Code} {Z : State} {a0 : Array Value} {EL EF : List (String × Nat)} {own : String} {n0 : Nat} {T : State} {h h' h1 h2 : Heap} {cells slots : Nat} {Q : Option Value → Heap → Prop} {kc ks : Nat}
/-- the walk stands here, and nothing that is held lies at x -/
def WkS (p : Program) (l : Launch) (e : Env) (R : Room) (s : State) (m : MethodId) (args : Array Value) (below : List Frame) (meth : Method) (c : Code) (Z : State) (a0 : Array Value) (EL : List (String × Nat)) (own : String) (n0 : Nat) (T : State) (h : Heap) (cells slots : Nat) (x : Addr) : Prop :=
  ∃ (vm0 : Vm) (k0 : Nat) (locs : List Loc), (Stand p l e R (s.setVm vm0) m args below meth c T locs cells slots ∧ T.heap = h ∧ s.Since vm0 k0 ∧ k0 ≤ h.size ∧ Z.Warmed39 vm0 ∧ vm0.findClass own = some m.cls ∧ Fr n0 locs ∧ CHr Z EL s.vm s.heap vm0 h ∧ EW Z a0 EL) ∧ Safe Z EL vm0 h x
theorem WkS.wk {x : Addr} (W : WkS p l e R s m args below meth c Z a0 EL own n0 T h cells slots x) : Wk p l e R s m args below meth c Z a0 EL own n0 T h cells slots := by
  obtain ⟨vm0, k0, locs, r, -⟩ := W
  exact ⟨vm0, k0, locs, r⟩
theorem Wk.newPS (W : Wk p l e R s m args below meth c Z a0 EL own n0 T h cells slots) (hx : p.tables.exec = Jvm.exec) {aty : ArrayType} (w : (Jvm.Cond.arrayClass (newarray.typeOf aty)).before a0 Z = true)
    {g : JFrame} (hg : g.method = m) (hd : decode c.code g.pc = .ok (.newarray aty, 2)) {n : Int32} {rest : List Value} (hs : g.stack = .int n :: rest) (hn : ¬ n < 0) {cap : Nat} (hcap : n.toNatClampNeg ≤ cap) (hb : cap * 8 ≤ 536870912) (hc : cells + 1 ≤ R.cells) (hl : slots + cap ≤ R.slots)
    (k : ∀ (T' : State) (h' : Heap) (a : Addr) (cA : ClassId), @Eq Nat a h.size → WkS p l e R s m args below meth c Z a0 EL own n0 T' h' (cells + 1) (slots + cap) a → Ext h h' → Arv Z h' a cA (newarray.typeOf aty) n [] (defaultValue (newarray.typeOf aty)) →
      Fi p e below s Z EF n0 Q kc ks (T'.setTop { g with pc := g.pc + 2, stack := .ref a :: rest })) : Fi p e below s Z EF n0 Q kc ks (T.setTop g) := by
  obtain ⟨vm0, k0, locs, X, eT, hS, hk, hZ, ho, N, CC, hE⟩ := W
  obtain ⟨T', h', cA, X', e', E, A, st⟩ := Jvm.RoadKit.newP X hx hZ w eT hg hd hs hn hcap hb hc hl
  exact (k T' h' _ cA rfl ⟨vm0, k0, locs, ⟨X', e', hS, Nat.le_trans hk E.1, hZ, ho, N, CC.trans (CHr.ext E CC.1), hE⟩, Safe.ext E CC.1 (Safe.new (Nat.le_refl _))⟩ E (Arv.new A hn)).via st
theorem WkS.bastore {a : Addr} (W : WkS p l e R s m args below meth c Z a0 EL own n0 T h cells slots a) (hx : p.tables.exec = Jvm.exec) {k : ClassId} {N : Int32} {cs : List Int32} {d : Value} (A : Arv Z h a k .byte N (cs.map Value.int) d) {i : Nat} (hi : i < cs.length) {j x : Int32} (hj : j.toNatClampNeg = i) (hj0 : ¬ j < 0) (hN : N.toNatClampNeg = cs.length) (hc : nar .byte x = x ∧ fits .byte (.int x) = true)
    {g : JFrame} (hg : g.method = m) {rest : List Value} (hs : g.stack = .int x :: .int j :: .ref a :: rest) (hd : decode c.code g.pc = .ok (.bastore, 1)) (ha : n0 ≤ a)
    (kk : ∀ (T' : State) (h' : Heap), WkS p l e R s m args below meth c Z a0 EL own n0 T' h' cells slots a → Wr h h' a j.toNatClampNeg (.int x) → Arv Z h' a k .byte N ((cs.set i x).map Value.int) d → Fi p e below s Z EF n0 Q kc ks (T'.setTop { g with pc := g.pc + 1, stack := rest })) : Fi p e below s Z EF n0 Q kc ks (T.setTop g) := by
  obtain ⟨vm0, k0, locs, ⟨X, eT, hS, hk, hZ, ho, N0, CC, hE⟩, SA⟩ := W
  obtain ⟨cl, A1, A2, A3, A4, A5, A6⟩ := id A
  obtain ⟨T', h', X', e', Wr', st⟩ := stB X hx hZ eT A1 (j := j) (x := x) (by rw [A3, hN, hj]; exact fun q => q.elim hj0 (fun q => absurd hi (Nat.not_lt.mpr q))) hg hs hd
  rw [hc.1] at Wr'
  have V := Arv.set A1 A2 A3 A4 A5 A6 hc.2 Wr' i hj (by simpa using hi)
  refine (kk T' h' ⟨vm0, k0, _, ⟨X', e', hS, by rw [Wr'.size]; exact hk, hZ, ho, Fr.snoc X' N0 ha, CC.trans (CHr.wr Wr' SA CC.1), hE⟩, Safe.wr Wr' SA CC.1 SA⟩ Wr' ?_).via st
  rw [List.map_set]; exact V
theorem low_ok (x : Int32) : nar .byte (low8 x) = low8 x ∧ fits .byte (.int (low8 x)) = true := by
  refine ⟨?_, ?_⟩
  · show x.toInt8.toInt32.toInt8.toInt32 = x.toInt8.toInt32
    simp
  · show (decide ((-128 : Int32) ≤ x.toInt8.toInt32) && decide (x.toInt8.toInt32 ≤ 127)) = true
    simp only [Bool.and_eq_true, decide_eq_true_eq, Int32.le_iff_toInt_le, Int8.toInt_toInt32, show (-128 : Int32).toInt = -128 from by decide, show (127 : Int32).toInt = 127 from by decide]
    have h1 := Int8.le_toInt x.toInt8
    have h2 := Int8.toInt_lt x.toInt8
    omega
/-- invokevirtual of a private method of the object's own class -/
theorem Wk.callP (W : Wk p l e R s m args below meth c Z a0 EL own n0 T h cells slots) (hx : p.tables.exec = Jvm.exec) {index : Nat} {y : MethodName} {bytes : ByteArray} {maxL nI : Nat} {ret : Option FieldType}
    (w1 : (Jvm.Cond.methodLink own index y).before a0 Z = true) (w2 : (Jvm.Cond.instanceMethod y).before a0 Z = true) (w3 : (Jvm.Cond.privateMethod y).before a0 Z = true) (w4 : (Jvm.Cond.code y bytes maxL ret).before a0 Z = true) (w5 : (Jvm.Cond.instantiable y.cls nI).before a0 Z = true) (hy : y.cls ≠ "java/lang/invoke/MethodHandle" ∧ y.cls ≠ "java/lang/invoke/VarHandle")
    {Wd k n : Nat} {as' : Array Value} {Qy : Option Value → Heap → Prop} (P : Pay l R p e below s args Z EL n0 y Wd as' h Qy k n) {a : Addr} {C : String} (E : Exa Z h a C)
    {g : JFrame} (hg : g.method = m) (hsize : g.locals.size = c.maxLocals) {argsL rest : List Value} (hlen : ∀ sig, parseMethodDescriptor y.desc = some sig → argsL.length = sig.parameters.length) (hstack : g.stack = argsL.reverse ++ .ref a :: rest) (has : (Value.ref a :: argsL).toArray = as') (hW : 2 * g.monitorRoom + (rest.map fun v => v.category).sum ≤ Wd)
    (hd : decode c.code g.pc = .ok (.invokevirtual index, 3)) (hc : cells + k ≤ R.cells) (hl : slots + n ≤ R.slots)
    (kk : ∀ (v : Option Value) (T' : State) (h' : Heap), Wk p l e R s m args below meth c Z a0 EL own n0 T' h' (cells + k) (slots + n) → h.size ≤ h'.size → Qy v h' → Fi p e below s Z EF n0 Q kc ks (T'.setTop { g with pc := g.pc + 3, stack := v.toList ++ rest })) : Fi p e below s Z EF n0 Q kc ks (T.setTop g) := by
  obtain ⟨vm0, k0, locs, X, eT, hS, hk, hZ, ho, N, CC, hE⟩ := W
  have hZ' : Z.Warmed39 (s.setVm vm0).vm := hZ
  obtain ⟨cell, hcell, hobj⟩ := E.cell
  obtain ⟨mk, methM, hnamed, hmethM, hstM, habM⟩ := Cond.instanceMethod_spec (mvT (args := args) hZ' w2)
  obtain ⟨methM', cM, hmethM', -, -, -, -, -, -, hsigM⟩ := Cond.code_spec hnamed (mvT (args := args) hZ' w4)
  cases hmethM.symm.trans hmethM'
  obtain ⟨cI, kI, i1, i2, i3, i4, -⟩ := Cond.instantiable_spec (mvT (args := args) hZ' w5)
  have hfc := findClass_of_methodNamed hnamed
  cases hfc.symm.trans i1
  have hni : kI.isInterface = false := by
    cases hq : kI.isInterface with
    | false => rfl
    | true => simp [hq] at i4
  have hselP : selectMethod e.platform (s.setVm vm0).vm cell.cls mk = .method mk := selectMethod_private hmethM (Cond.privateMethod_at (mvP (args := args) hZ' w3) mk methM hnamed hmethM)
  obtain ⟨vm₁, X₁, hstep₁⟩ := X.invokevirtual hx ho (mvT hZ' w1) hnamed hmethM hstM i2 hni hy (a := a) (cell := cell) (by rw [eT]; exact hcell) hobj hselP hmethM habM i2 hni (g := g) hg (argsL := argsL) (rest := rest) (hlen _ hsigM) hstack hd
  have hW₁ : (s.setVm vm0).WarmedH vm₁ := X₁.warmed
  obtain ⟨v, ⟨U, L', k', n'⟩, X', hS', hgr, ⟨L, ⟨NL, hq⟩, l1, l2, l3, hC⟩, hsteps⟩ := P vm0 hZ CC.1 m meth c ⟨T.setVm vm₁, locs, cells, slots⟩ { g with stack := rest } (.invokevirtual index) mk (.ref a :: argsL).toArray X₁ hg hsize hd hW (X₁.named hnamed) ⟨has, eT, hc, hl⟩
  dsimp only [Pt.U, Pt.locs, Pt.cells, Pt.slots] at X' hS' hgr hq l1 l2 l3 hC hsteps
  subst l1 l2 l3
  have hgr : h.size ≤ U.heap.size := by rw [← eT]; exact hgr
  obtain ⟨Y1, Y2, Y3, Y4⟩ := rebS hS hk X' hS' hgr hZ ho
  exact (kk v U U.heap ⟨U.vm, _, _, Y1, rfl, Y2, Nat.le_refl _, Y3, Y4, N.app NL, CC.trans hC, hE⟩ hgr hq).via fun t ht => ((hstep₁ _ fun acts => by rw [doInvoke_state]; exact Steps.refl _).trans hsteps).trans ht
end Base2
end Jvm.OwnW
namespace Jvm.OwnW
open Jvm Jvm.ClassFile Sem Op Lib Jvm.Free Jvm.Stand Jvm.LawKit Jvm.RoadKit Bundle Jvm.Free.Exc
section Exc
variable {p : Program} {l : Launch} {e : Env} {R : Room} {s : State} {m : MethodId} {args : Array Value} {below : List Frame} {meth : Method} {c : Code} {Z : State} {a0 : Array Value} {EL EF : List (String × Nat)} {own : String} {n0 : Nat} {T : State} {h h' h1 h2 : Heap} {cells slots : Nat} {Q : Option Value → Heap → Prop} {kc ks : Nat}
/-- Con, the tables' methods and the frames beneath known (a stack trace is filled in) -/
def ConK (l : Launch) (Z : State) (EL : List (String × Nat)) (y : MethodName) (bytes : ByteArray) (maxL : Nat) (ret : Option FieldType) (ws : List Jvm.Cond) (rm : Room) (as' : Array Value) (h0 : Heap) (n0 : Nat) (Q : Option Value → Heap → Prop) : Prop :=
  MetFree l y (head1 (Jvm.Cond.code y bytes maxL ret :: ws) rm) (fun a U => a = as' ∧ Z.Warmed39 U.vm ∧ U.heap = h0 ∧ CHv Z EL U.vm h0) (fun _ _ bl s _ => s.vm.MethodsKnown ∧ s.vm.FramesKnown bl)
    (fun _ U o U' => ∃ v L, o = .returned v ∧ (Fr n0 L ∧ Q v U'.heap) ∧ CHr Z EL U.vm U.heap U'.vm U'.heap ∧ ReturnedEndW U o U' L rm.cells rm.slots)
theorem ConK.intro {y : MethodName} {bytes : ByteArray} {maxL : Nat} {ret : Option FieldType} {ws : List Jvm.Cond} {rm : Room} {as' : Array Value} {h0 : Heap} (ho : y.cls = own) (hpl : plainFor y = true) (hEL : EW Z a0 EL)
    (body : ∀ (p : Program) (e : Env) (s : State) (m : MethodId) (below : List Frame) (meth : Method) (c : Code) (s₁ : State), p.tables.exec = Jvm.exec → c.code = bytes → c.maxLocals = maxL → meth.sig.returnType = ret → meth.locks = false → meth.name = y.name → Z.Warmed39 s.vm → s.heap = h0 → s.vm.FramesKnown below →
      Wk p l e rm s m as' below meth c Z a0 EL own n0 s₁ h0 0 0 → Fi p e below s Z EL n0 Q rm.cells rm.slots (s₁.setTop (entryFrame m as' maxL))) :
    ConK l Z EL y bytes maxL ret ws rm as' h0 n0 Q := by
  refine MetFree.of_bodySF hpl hisR ?_
  intro p e s m args below meth c s₁ Bd hml0 hP hK
  obtain ⟨ha, hZ, hh, hC⟩ := hP
  subst ha
  have X0 : Stand p l e rm s m args below meth c s₁ [] 0 0 := Stand.of_body Bd
  have e0 : s₁.heap = h0 := by rw [← hh, Bd.state]; rfl
  have hown : s.vm.findClass own = some m.cls := by rw [← ho]; exact findClass_of_methodNamed Bd.named
  exact body p e s m below meth c s₁ Bd.exec Bd.bytes hml0 Bd.returns Bd.notSynchronized (name_of_methodNamed Bd.named Bd.method).1 hZ hh hK.2
    ⟨s.vm, 0, [], X0, e0, (State.WarmedH.refl s).since 0, Nat.zero_le _, hZ, hown, Fr.nil n0, by rw [hh]; exact CHr.refl hC, hEL⟩
/-- invokevirtual through a subclass's entry of a method that its superclass declares -/
theorem Wk.callVU (W : Wk p l e R s m args below meth c Z a0 EL own n0 T h cells slots) (hx : p.tables.exec = Jvm.exec) {index : Nat} {x y : MethodName} {C owner : String}
    (w1 : (Jvm.Cond.methodLink own index x).before a0 Z = true) (w2 : (Jvm.Cond.sameMethod x.cls owner x.name x.desc).before a0 Z = true) (w3 : (Jvm.Cond.declares ⟨owner, x.name, x.desc⟩).before a0 Z = true) (hy : owner ≠ "java/lang/invoke/MethodHandle" ∧ owner ≠ "java/lang/invoke/VarHandle") (w4 : (Jvm.Cond.selects C x y).before a0 Z = true) (w5 : (Jvm.Cond.instanceMethod y).before a0 Z = true)
    {Wd k n : Nat} {as' : Array Value} {Qy : Option Value → Heap → Prop} (P : Pay l R p e below s args Z EL n0 y Wd as' h Qy k n) {a : Addr} (E : Exa Z h a C)
    {g : JFrame} (hg : g.method = m) (hsize : g.locals.size = c.maxLocals) {argsL rest : List Value} (hlen : ∀ sig, parseMethodDescriptor x.desc = some sig → argsL.length = sig.parameters.length) (hstack : g.stack = argsL.reverse ++ .ref a :: rest) (has : (Value.ref a :: argsL).toArray = as') (hW : 2 * g.monitorRoom + (rest.map fun v => v.category).sum ≤ Wd)
    (hd : decode c.code g.pc = .ok (.invokevirtual index, 3)) (hc : cells + k ≤ R.cells) (hl : slots + n ≤ R.slots)
    (kk : ∀ (v : Option Value) (T' : State) (h' : Heap), Wk p l e R s m args below meth c Z a0 EL own n0 T' h' (cells + k) (slots + n) → h.size ≤ h'.size → Qy v h' → Fi p e below s Z EF n0 Q kc ks (T'.setTop { g with pc := g.pc + 3, stack := v.toList ++ rest })) : Fi p e below s Z EF n0 Q kc ks (T.setTop g) := by
  obtain ⟨vm0, k0, locs, X, eT, hS, hk, hZ, ho, N, CC, hE⟩ := W
  have hZ' : Z.Warmed39 (s.setVm vm0).vm := hZ
  obtain ⟨cq, kq, qa, qb, qc⟩ := isOf hZ' eT E
  obtain ⟨v, vm1, ⟨U, L', k', n'⟩, -, X', hS', hgr, ⟨L, ⟨NL, hq⟩, l1, l2, l3, hC⟩, st⟩ := X.virtualBackUpS hx ho (mvT hZ' w1) (mvT hZ' w2) (mvT hZ' w3) hy (mvT hZ' w4) (mvT hZ' w5) (P vm0 hZ CC.1) qa qc hg hsize (Steps.refl _) hlen hstack hW hd (fun _ _ => ⟨has, eT, hc, hl⟩)
  dsimp only [Pt.U, Pt.locs, Pt.cells, Pt.slots] at X' hS' hgr hq l1 l2 l3 hC st
  subst l1 l2 l3
  rw [eT] at hgr
  obtain ⟨Y1, Y2, Y3, Y4⟩ := rebS hS hk X' hS' hgr hZ ho
  exact (kk v U U.heap ⟨U.vm, _, _, Y1, rfl, Y2, Nat.le_refl _, Y3, Y4, N.app NL, CC.trans hC, hE⟩ hgr hq).via fun t ht => st.trans ht
end Exc
end Jvm.OwnW
namespace Jvm.OwnW
open Jvm Jvm.ClassFile Sem Op Lib Jvm.Free Jvm.Stand Jvm.LawKit Jvm.RoadKit Bundle
section Base4
variable {p : Program} {l : Launch} {e : Env} {R : Room} {s : State} {m : MethodId} {args : Array Value} {below : List Frame} {meth : Method} {c : Code} {Z : State} {a0 : Array Value} {EL EF : List (String × Nat)} {own : String} {n0 : Nat} {T : State} {h h' h1 h2 : Heap} {cells slots : Nat} {Q : Option Value → Heap → Prop} {kc ks : Nat}
theorem Wk.castY (W : Wk p l e R s m args below meth c Z a0 EL own n0 T h cells slots) (hx : p.tables.exec = Jvm.exec) {K : String} {index : Nat} (w : (Jvm.Cond.classLink own index K).before a0 Z = true) {a : Addr} (F : Ins Z h a K true)
    {g : JFrame} (hg : g.method = m) {rest : List Value} (hs : g.stack = .ref a :: rest) (hd : decode c.code g.pc = .ok (.checkcast index, 3))
    (k : ∀ T' : State, Wk p l e R s m args below meth c Z a0 EL own n0 T' h cells slots → Fi p e below s Z EF n0 Q kc ks (T'.setTop { g with pc := g.pc + 3 })) : Fi p e below s Z EF n0 Q kc ks (T.setTop g) := by
  obtain ⟨vm0, k0, locs, X, eT, hS, hk, hZ, ho, N, CC, hE⟩ := W
  obtain ⟨T', X', e', st⟩ := Jvm.RoadKit.castY X hx hZ ho w eT F hg hs hd
  exact (k T' ⟨vm0, k0, locs, X', e', hS, hk, hZ, ho, N, CC, hE⟩).via st
theorem Wk.aaload (W : Wk p l e R s m args below meth c Z a0 EL own n0 T h cells slots) (hx : p.tables.exec = Jvm.exec) {a : Addr} {k : ClassId} {ty : FieldType} {N : Int32} {vs : List Value} {d : Value} (A : Arv Z h a k ty N vs d) (hty : ty.isReference = true) {j : Int32} {v : Value} (hj : ¬ j < 0 ∧ j < N) (hv : vs.getD j.toNatClampNeg d = v)
    {g : JFrame} (hg : g.method = m) {rest : List Value} (hs : g.stack = .int j :: .ref a :: rest) (hd : decode c.code g.pc = .ok (.aaload, 1)) (f : Fi p e below s Z EF n0 Q kc ks (T.setTop { g with pc := g.pc + 1, stack := v :: rest })) : Fi p e below s Z EF n0 Q kc ks (T.setTop g) := by
  obtain ⟨vm0, k0, locs, X, eT, hS, hk, hZ, ho, N0, CC, hE⟩ := W
  obtain ⟨cl, A1, A2, A3, A4, A5, A6⟩ := A
  have hin := inb_of A3 hj
  exact f.via fun t ht => X.aaload hx (by rw [eT]; exact A1.1) (State.isArrayOf_alike (s := Z) hZ.alike A1.2.1) hty A1.2.2 hin (Has.at A5 hin hv) hg hs hd t ht
/-- a char[] of which only the range of the chars is told -/
def CA (Z : State) (h : Heap) (a : Addr) (k : ClassId) (N : Int32) : Prop := ∃ cs : List Int32, cs.length = N.toNatClampNeg ∧ (∀ c ∈ cs, ¬ c < 0 ∧ ¬ (255 : Int32) < c) ∧ Arv Z h a k .char N (cs.map Value.int) (.int 0)
theorem CA.ext {a : Addr} {k : ClassId} {N : Int32} (F : CA Z h a k N) (E : Ext h h') : CA Z h' a k N := by
  obtain ⟨cs, q1, q2, q3⟩ := F
  exact ⟨cs, q1, q2, q3.ext E⟩
theorem CA.new {a : Addr} {k : ClassId} {N : Int32} (A : Arv Z h a k .char N [] (.int 0)) : CA Z h a k N := by
  refine ⟨List.replicate N.toNatClampNeg 0, by simp, fun c hc => by rw [List.eq_of_mem_replicate hc]; decide, ?_⟩
  rw [List.map_replicate]
  exact A.pad (pad_rep [] (.int (0 : Int32)) _)
end Base4
theorem eq_yes {r : Int32} {P : Prop} (h : (r = 1 ∧ P) ∨ (r = 0 ∧ ¬ P)) (q : ¬ r = 0) : P := h.elim (fun u => u.2) (fun u => absurd u.1 q)
theorem eq_no {r : Int32} {P : Prop} (h : (r = 1 ∧ P) ∨ (r = 0 ∧ ¬ P)) (q : r = 0) : ¬ P := h.elim (fun u => absurd (u.1.symm.trans q) (by decide)) (fun u => u.2)
/-! ## what the start's words say of arrays and Strings -/
section Start
variable {Z : State} {args : Array Value}
theorem eq_val {a b : Term} {v : Value} (h : (Jvm.Cond.eq a b).value args Z none Z [] = some true) (hb : b.eval args Z none [] Z = some v) (hk : (match v with | .int _ => true | .ref _ => true | .null => true | _ => false) = true := by rfl) : a.eval args Z none [] Z = some v := by
  cases ha : a.eval args Z none [] Z with
  | none => simp [Cond.value, ha] at h
  | some x => cases x <;> cases v <;> simp [Cond.value, ha, hb] at h hk ⊢ <;> exact h
theorem len_start {t : Term} {a : Addr} {cl : Cell} {ty : FieldType} {N : Int32} (A : Arr Z Z.heap a cl ty) (ev : t.eval args Z none [] Z = some (.ref a)) (hq : (Jvm.Cond.eq (.length t) (.int N)).value args Z none Z [] = some true) : cl.slots.size < 2 ^ 31 ∧ cl.slots.size.toInt32 = N := by
  have h := eq_val hq (Term.int_eval N)
  have ha := A.fin (U := Z) (Vm.Alike.refl _)
  simp only [Term.eval, ev, ha, Option.bind_eq_bind, Option.bind_some] at h
  split at h
  · rename_i q
    exact ⟨q, by simpa using h⟩
  · cases h
theorem el_start {t u : Term} {a : Addr} {cl : Cell} {ty : FieldType} {v : Value} {i : Nat} (A : Arr Z Z.heap a cl ty) (ev : t.eval args Z none [] Z = some (.ref a)) (hq : (Jvm.Cond.eq (.elem t (.int (Int32.ofNat i))) u).value args Z none Z [] = some true) (hu : u.eval args Z none [] Z = some v) (hi : (Int32.ofNat i).toNatClampNeg = i) (hk : (match v with | .int _ => true | .ref _ => true | .null => true | _ => false) = true := by rfl) : cl.slots[i]? = some v := by
  have h := (elem_in (eq_val hq hu hk) ev (Term.int_eval _) A.1).2
  rwa [hi] at h
def ElL (args : Array Value) (Z : State) (t : Term) : Nat → List Int32 → Prop
  | _, [] => True
  | i, v :: r => (Jvm.Cond.eq (.elem t (.int (Int32.ofNat i))) (.int v)).value args Z none Z [] = some true ∧ ElL args Z t (i + 1) r
theorem ElL.has {t : Term} {a : Addr} {cl : Cell} {ty : FieldType} (A : Arr Z Z.heap a cl ty) (ev : t.eval args Z none [] Z = some (.ref a)) : ∀ (L : List Int32) (i : Nat), i + L.length < 2 ^ 31 → ElL args Z t i L → HasL cl i (L.map Value.int)
  | [], _, _, _ => trivial
  | v :: r, i, hi, H => ⟨el_start A ev H.1 (Term.int_eval v) (by
      simp only [List.length_cons] at hi
      simp only [Int32.toNatClampNeg, show (Int32.ofNat i).toInt = i from len_toInt (by omega)]; rfl), ElL.has A ev r (i + 1) (by simp only [List.length_cons] at hi; omega) H.2⟩
end Start
end Jvm.OwnW
namespace Jvm.OwnW
open Jvm Jvm.ClassFile Sem Op Lib Jvm.Free Jvm.Stand Jvm.LawKit Jvm.RoadKit Bundle
section Base5
variable {p : Program} {l : Launch} {e : Env} {R : Room} {s : State} {m : MethodId} {args : Array Value} {below : List Frame} {meth : Method} {c : Code} {Z : State} {a0 : Array Value} {EL EF : List (String × Nat)} {own : String} {n0 : Nat} {T : State} {h h' h1 h2 : Heap} {cells slots : Nat} {Q : Option Value → Heap → Prop} {kc ks : Nat}
theorem Wk.baload (W : Wk p l e R s m args below meth c Z a0 EL own n0 T h cells slots) (hx : p.tables.exec = Jvm.exec) {a : Addr} {k : ClassId} {N : Int32} {vs : List Value} {d : Value} (A : Arv Z h a k .byte N vs d) {j : Int32} {v : Value} (hj : ¬ j < 0 ∧ j < N) (hv : vs.getD j.toNatClampNeg d = v)
    {g : JFrame} (hg : g.method = m) {rest : List Value} (hs : g.stack = .int j :: .ref a :: rest) (hd : decode c.code g.pc = .ok (.baload, 1)) (f : Fi p e below s Z EF n0 Q kc ks (T.setTop { g with pc := g.pc + 1, stack := v :: rest })) : Fi p e below s Z EF n0 Q kc ks (T.setTop g) := by
  obtain ⟨vm0, k0, locs, X, eT, hS, hk, hZ, ho, N0, CC, hE⟩ := W
  obtain ⟨cl, A1, A2, A3, A4, A5, A6⟩ := A
  have hin := inb_of A3 hj
  exact f.via fun t ht => X.baloadBytes hx (by rw [eT]; exact A1.1) (State.isArrayOf_alike (s := Z) hZ.alike A1.2.1) A1.2.2 hin (Has.at A5 hin hv) hg hs hd t ht
/-- where no constant is held, nothing that is written is held -/
theorem safeN {vm : Vm} {x : Addr} (hn : EL = []) : Safe Z EL vm h x := fun B => by
  obtain ⟨p, hp, -⟩ := B
  rw [hn] at hp
  cases hp
end Base5
/-! surrogates -/
/-! chars -/
end Jvm.OwnW
namespace Jvm.OwnW
open Jvm Jvm.ClassFile Sem Op Lib Jvm.Free Jvm.Stand Jvm.LawKit Jvm.RoadKit Bundle
section Base6
variable {p : Program} {l : Launch} {e : Env} {R : Room} {s : State} {m : MethodId} {args : Array Value} {below : List Frame} {meth : Method} {c : Code} {Z : State} {a0 : Array Value} {EL EF : List (String × Nat)} {own : String} {n0 : Nat} {T : State} {h h' h1 h2 : Heap} {cells slots : Nat} {Q : Option Value → Heap → Prop} {kc ks : Nat}
/-- what was held is let go -/
theorem Wk.drop (W : Wk p l e R s m args below meth c Z a0 EL own n0 T h cells slots) : Wk p l e R s m args below meth c Z a0 [] own n0 T h cells slots := by
  obtain ⟨vm0, k0, locs, X, eT, hS, hk, hZ, ho, N, CC, hE⟩ := W
  exact ⟨vm0, k0, locs, X, eT, hS, hk, hZ, ho, N, (show CHr Z [] s.vm s.heap vm0 h from ⟨fun _ hp => (nomatch hp), CC.2.1, fun y B => absurd B (safeN rfl)⟩), EW.nil⟩
/-- a body's contract, the constants EL held where it begins, EF where it ends -/
def ConE (l : Launch) (Z : State) (EL EF : List (String × Nat)) (y : MethodName) (bytes : ByteArray) (maxL : Nat) (ret : Option FieldType) (ws : List Jvm.Cond) (rm : Room) (as' : Array Value) (h0 : Heap) (n0 : Nat) (Q : Option Value → Heap → Prop) : Prop :=
  MetFree l y (head1 (Jvm.Cond.code y bytes maxL ret :: ws) rm) (fun a U => a = as' ∧ Z.Warmed39 U.vm ∧ U.heap = h0 ∧ CHv Z EL U.vm h0) (fun _ _ _ _ _ => True)
    (fun _ U o U' => ∃ v L, o = .returned v ∧ (Fr n0 L ∧ Q v U'.heap) ∧ CHr Z EF U.vm U.heap U'.vm U'.heap ∧ ReturnedEndW U o U' L rm.cells rm.slots)
theorem ConE.intro {y : MethodName} {bytes : ByteArray} {maxL : Nat} {ret : Option FieldType} {ws : List Jvm.Cond} {rm : Room} {as' : Array Value} {h0 : Heap} (ho : y.cls = own) (hpl : plainFor y = true) (hEL : EW Z a0 EL)
    (body : ∀ (p : Program) (e : Env) (s : State) (m : MethodId) (below : List Frame) (meth : Method) (c : Code) (s₁ : State), p.tables.exec = Jvm.exec → c.code = bytes → c.maxLocals = maxL → meth.sig.returnType = ret → meth.locks = false → meth.name = y.name →
      Wk p l e rm s m as' below meth c Z a0 EL own n0 s₁ h0 0 0 → Fi p e below s Z EF n0 Q rm.cells rm.slots (s₁.setTop (entryFrame m as' maxL))) :
    ConE l Z EL EF y bytes maxL ret ws rm as' h0 n0 Q := by
  refine MetFree.of_bodySF hpl hisR ?_
  intro p e s m args below meth c s₁ Bd hml0 hP hK
  obtain ⟨ha, hZ, hh, hC⟩ := hP
  subst ha
  have X0 : Stand p l e rm s m args below meth c s₁ [] 0 0 := Stand.of_body Bd
  have e0 : s₁.heap = h0 := by rw [← hh, Bd.state]; rfl
  have hown : s.vm.findClass own = some m.cls := by rw [← ho]; exact findClass_of_methodNamed Bd.named
  exact body p e s m below meth c s₁ Bd.exec Bd.bytes hml0 Bd.returns Bd.notSynchronized (name_of_methodNamed Bd.named Bd.method).1
    ⟨s.vm, 0, [], X0, e0, (State.WarmedH.refl s).since 0, Nat.zero_le _, hZ, hown, Fr.nil n0, by rw [hh]; exact CHr.refl hC, hEL⟩
/-- a paid call through an interface's entry -/
def Pay5 (l : Launch) (R : Room) (p : Program) (e : Env) (below : List Frame) (s : State) (args : Array Value) (Z : State) (EL : List (String × Nat)) (n0 : Nat) (y : MethodName) (Wd : Nat) (as' : Array Value) (h : Heap) (Q : Option Value → Heap → Prop) (k n : Nat) : Prop :=
  ∀ vm0 : Vm, Z.Warmed39 vm0 → CHv Z EL vm0 h →
    BackS l R p e below (s.setVm vm0) args y 5 Wd (fun A a => a = as' ∧ A.U.heap = h ∧ A.cells + k ≤ R.cells ∧ A.slots + n ≤ R.slots)
      (fun A _ v B => ∃ L, (Fr n0 L ∧ Q v B.U.heap) ∧ B.locs = A.locs ++ L ∧ B.cells = A.cells + k ∧ B.slots = A.slots + n ∧ CHr Z EL vm0 h B.U.vm B.U.heap)
theorem Pay5.of_con {y : MethodName} {bytes : ByteArray} {maxL Wd : Nat} {ret : Option FieldType} {rm : Room} {as' : Array Value} (hM : Con l Z EL y bytes maxL ret [] rm as' h n0 Q) (wc : (Jvm.Cond.code y bytes maxL ret).before a0 Z = true) (wz : (Jvm.Cond.initialized y.cls).before a0 Z = true) (hEL : EW Z a0 EL)
    (hf : rm.frames + 1 ≤ R.frames) (hl : Wd + (maxL + 11) + rm.locals ≤ R.locals) : Pay5 l R p e below s args Z EL n0 y Wd as' h Q rm.cells rm.slots :=
  fun vm0 hZ hC => backOfSH (Q := fun v h L => Fr n0 L ∧ Q v h) hM hZ wc wz hf hl hEL hC
theorem Pay5.of_back {y : MethodName} {Wd k n : Nat} {as' : Array Value} {ws : List Addr} (hEL : EW Z a0 EL)
    (hB : ∀ vm0 : Vm, Z.Warmed39 vm0 → Back l R p e below (s.setVm vm0) args y 5 Wd (fun A a => a = as' ∧ A.U.heap = h ∧ A.cells + k ≤ R.cells ∧ A.slots + n ≤ R.slots) (fun A _ v B => ∃ L, (Fr n0 L ∧ Keep h B.U.heap ws ∧ Q v B.U.heap) ∧ B.locs = A.locs ++ L ∧ B.cells = A.cells + k ∧ B.slots = A.slots + n))
    (S : ∀ vm : Vm, Z.Warmed39 vm → CHv Z EL vm h → ∀ x ∈ ws, Safe Z EL vm h x) : Pay5 l R p e below s args Z EL n0 y Wd as' h Q k n := by
  intro vm0 hZ hC m meth c A g ig mk a X hg hsize hdg hW hn hp
  obtain ⟨v, B, X', ⟨L, ⟨NL, K, hq⟩, l1, l2, l3⟩, hsteps⟩ := hB vm0 hZ m meth c A g ig mk a X hg hsize hdg hW hn hp
  have C1 := CHr.keep K (S vm0 hZ hC) hC
  exact ⟨v, B, X'.retabled X'.warmed.wide, X'.warmed.since _, by rw [hp.2.1]; exact K.1, ⟨L, ⟨NL, hq⟩, l1, l2, l3, C1.trans (CHv.at X' hZ hEL C1.1)⟩, hsteps⟩
theorem Wk.callF (W : Wk p l e R s m args below meth c Z a0 EL own n0 T h cells slots) (hx : p.tables.exec = Jvm.exec) {index count : Nat} {x y : MethodName} {C : String}
    (w1 : (Jvm.Cond.methodLink own index x).before a0 Z = true) (w2 : (Jvm.Cond.declares x).before a0 Z = true) (w3 : (Jvm.Cond.interfaceMethod x.cls x.cls x.name x.desc).before a0 Z = true) (hfa : ((Jvm.Cond.interfaceMethod x.cls x.cls x.name x.desc).onTables && (Jvm.Cond.interfaceMethod x.cls x.cls x.name x.desc).keepsFace) = true) (w4 : (Jvm.Cond.selects C x y).before a0 Z = true) (w5 : (Jvm.Cond.instanceMethod y).before a0 Z = true) (w6 : (Jvm.Cond.publicMethod y).before a0 Z = true) (w7 : (Jvm.Cond.unhidden C x.name x.desc).before a0 Z = true) (w8 : (Jvm.Cond.castable C x.cls).before a0 Z = true) (hy : x.cls ≠ "java/lang/invoke/MethodHandle" ∧ x.cls ≠ "java/lang/invoke/VarHandle")
    {Wd k n : Nat} {as' : Array Value} {Qy : Option Value → Heap → Prop} (P : Pay5 l R p e below s args Z EL n0 y Wd as' h Qy k n) {a : Addr} (E : Exa Z h a C)
    {g : JFrame} (hg : g.method = m) (hsize : g.locals.size = c.maxLocals) {argsL rest : List Value} (hlen : ∀ sig, parseMethodDescriptor x.desc = some sig → argsL.length = sig.parameters.length) (hstack : g.stack = argsL.reverse ++ .ref a :: rest) (has : (Value.ref a :: argsL).toArray = as') (hW : 2 * g.monitorRoom + (rest.map fun v => v.category).sum ≤ Wd)
    (hd : decode c.code g.pc = .ok (.invokeinterface index count, 5)) (hc : cells + k ≤ R.cells) (hl : slots + n ≤ R.slots)
    (kk : ∀ (v : Option Value) (T' : State) (h' : Heap), Wk p l e R s m args below meth c Z a0 EL own n0 T' h' (cells + k) (slots + n) → h.size ≤ h'.size → Qy v h' → Fi p e below s Z EF n0 Q kc ks (T'.setTop { g with pc := g.pc + 5, stack := v.toList ++ rest })) : Fi p e below s Z EF n0 Q kc ks (T.setTop g) := by
  obtain ⟨vm0, k0, locs, X, eT, hS, hk, hZ, ho, N, CC, hE⟩ := W
  have hZ' : Z.Warmed39 (s.setVm vm0).vm := hZ
  obtain ⟨cq, kq, qa, qb, qc⟩ := isOf hZ' eT E
  obtain ⟨v, vm1, ⟨U, L', k', n'⟩, -, X', hS', hgr, ⟨L, ⟨NL, hq⟩, l1, l2, l3, hC⟩, st⟩ := X.interfaceBackS hx ho (mvT hZ' w1) (mvT hZ' w2) (mvT hZ' w3 hfa) (mvT hZ' w4) (mvT hZ' w5) (mvT hZ' w6) (mvT hZ' w7) (mvT hZ' w8) hy (P vm0 hZ CC.1) qa qb qc hg hsize (Steps.refl _) hlen hstack hW hd (fun _ _ => ⟨has, eT, hc, hl⟩)
  dsimp only [Pt.U, Pt.locs, Pt.cells, Pt.slots] at X' hS' hgr hq l1 l2 l3 hC st
  subst l1 l2 l3
  rw [eT] at hgr
  obtain ⟨Y1, Y2, Y3, Y4⟩ := rebS hS hk X' hS' hgr hZ ho
  exact (kk v U U.heap ⟨U.vm, _, _, Y1, rfl, Y2, Nat.le_refl _, Y3, Y4, N.app NL, CC.trans hC, hE⟩ hgr hq).via fun t ht => st.trans ht
/-- invokevirtual of a method that Object declares -/
theorem Wk.callW (W : Wk p l e R s m args below meth c Z a0 EL own n0 T h cells slots) (hx : p.tables.exec = Jvm.exec) {index : Nat} {x y : MethodName} {C : String}
    (w1 : (Jvm.Cond.methodLink own index x).before a0 Z = true) (w2 : (Jvm.Cond.declares x).before a0 Z = true) (w0 : (Jvm.Cond.noSuperclass x.cls).before a0 Z = true) (w3 : (Jvm.Cond.selects C x y).before a0 Z = true) (w4 : (Jvm.Cond.instanceMethod y).before a0 Z = true) (hy : x.cls ≠ "java/lang/invoke/MethodHandle" ∧ x.cls ≠ "java/lang/invoke/VarHandle")
    {Wd k n : Nat} {as' : Array Value} {Qy : Option Value → Heap → Prop} (P : Pay l R p e below s args Z EL n0 y Wd as' h Qy k n) {a : Addr} (E : Exa Z h a C)
    {g : JFrame} (hg : g.method = m) (hsize : g.locals.size = c.maxLocals) {argsL rest : List Value} (hlen : ∀ sig, parseMethodDescriptor x.desc = some sig → argsL.length = sig.parameters.length) (hstack : g.stack = argsL.reverse ++ .ref a :: rest) (has : (Value.ref a :: argsL).toArray = as') (hW : 2 * g.monitorRoom + (rest.map fun v => v.category).sum ≤ Wd)
    (hd : decode c.code g.pc = .ok (.invokevirtual index, 3)) (hc : cells + k ≤ R.cells) (hl : slots + n ≤ R.slots)
    (kk : ∀ (v : Option Value) (T' : State) (h' : Heap), Wk p l e R s m args below meth c Z a0 EL own n0 T' h' (cells + k) (slots + n) → h.size ≤ h'.size → Qy v h' → Fi p e below s Z EF n0 Q kc ks (T'.setTop { g with pc := g.pc + 3, stack := v.toList ++ rest })) : Fi p e below s Z EF n0 Q kc ks (T.setTop g) := by
  obtain ⟨vm0, k0, locs, X, eT, hS, hk, hZ, ho, N, CC, hE⟩ := W
  have hZ' : Z.Warmed39 (s.setVm vm0).vm := hZ
  obtain ⟨cq, kq, qa, qb, qc⟩ := isOf hZ' eT E
  obtain ⟨v, vm1, ⟨U, L', k', n'⟩, -, X', hS', hgr, ⟨L, ⟨NL, hq⟩, l1, l2, l3, hC⟩, st⟩ := X.virtualBackS hx ho (mvT hZ' w1) (mvT hZ' w2) (nf_top (args := #[]) (mvT hZ' w0)) (mvT hZ' w3) (mvT hZ' w4) hy (P vm0 hZ CC.1) qa qc hg hsize (Steps.refl _) hlen hstack hW hd (fun _ _ => ⟨has, eT, hc, hl⟩)
  dsimp only [Pt.U, Pt.locs, Pt.cells, Pt.slots] at X' hS' hgr hq l1 l2 l3 hC st
  subst l1 l2 l3
  rw [eT] at hgr
  obtain ⟨Y1, Y2, Y3, Y4⟩ := rebS hS hk X' hS' hgr hZ ho
  exact (kk v U U.heap ⟨U.vm, _, _, Y1, rfl, Y2, Nat.le_refl _, Y3, Y4, N.app NL, CC.trans hC, hE⟩ hgr hq).via fun t ht => st.trans ht
theorem Wk.callIN (W : Wk p l e R s m args below meth c Z a0 EL own n0 T h cells slots) (hx : p.tables.exec = Jvm.exec) {index : Nat} {y : MethodName} {host : String} {bytes : ByteArray} {maxL : Nat} (hy1 : y.name = "<init>")
    (w1 : (Jvm.Cond.methodLinkNest own index y host).before a0 Z = true) (w2 : (Jvm.Cond.instanceMethod y).before a0 Z = true) (w4 : (Jvm.Cond.code y bytes maxL none).before a0 Z = true) (hy : y.cls ≠ "java/lang/invoke/MethodHandle" ∧ y.cls ≠ "java/lang/invoke/VarHandle")
    {Wd k n : Nat} {as' : Array Value} {Qy : Option Value → Heap → Prop} (P : Pay l R p e below s args Z EL n0 y Wd as' h Qy k n)
    {g : JFrame} (hg : g.method = m) (hsize : g.locals.size = c.maxLocals) {a : Addr} {argsL rest : List Value} (hlen : ∀ sig, parseMethodDescriptor y.desc = some sig → argsL.length = sig.parameters.length) (hstack : g.stack = argsL.reverse ++ .ref a :: rest) (has : (Value.ref a :: argsL).toArray = as') (hW : 2 * g.monitorRoom + (rest.map fun v => v.category).sum ≤ Wd)
    (hd : decode c.code g.pc = .ok (.invokespecial index, 3)) (hc : cells + k ≤ R.cells) (hl : slots + n ≤ R.slots)
    (kk : ∀ (v : Option Value) (T' : State) (h' : Heap), Wk p l e R s m args below meth c Z a0 EL own n0 T' h' (cells + k) (slots + n) → h.size ≤ h'.size → Qy v h' → Fi p e below s Z EF n0 Q kc ks (T'.setTop { g with pc := g.pc + 3, stack := v.toList ++ rest })) : Fi p e below s Z EF n0 Q kc ks (T.setTop g) := by
  obtain ⟨vm0, k0, locs, X, eT, hS, hk, hZ, ho, N, CC, hE⟩ := W
  have hZ' : Z.Warmed39 (s.setVm vm0).vm := hZ
  obtain ⟨v, vm1, ⟨U, L', k', n'⟩, -, X', hS', hgr, ⟨L, ⟨NL, hq⟩, l1, l2, l3, hC⟩, st⟩ := X.specialBackNestS hx hy1 ho ((Cond.methodLinkNest_wide hZ w1 :) : (Jvm.Cond.methodLinkNest own index y host).before args (s.setVm vm0) = true) (mvT hZ' w2) (mvT hZ' w4) hy (P vm0 hZ CC.1) hg hsize (Steps.refl _) hlen hstack hW hd (fun _ _ => ⟨has, eT, hc, hl⟩)
  dsimp only [Pt.U, Pt.locs, Pt.cells, Pt.slots] at X' hS' hgr hq l1 l2 l3 hC st
  subst l1 l2 l3
  rw [eT] at hgr
  obtain ⟨Y1, Y2, Y3, Y4⟩ := rebS hS hk X' hS' hgr hZ ho
  exact (kk v U U.heap ⟨U.vm, _, _, Y1, rfl, Y2, Nat.le_refl _, Y3, Y4, N.app NL, CC.trans hC, hE⟩ hgr hq).via fun t ht => st.trans ht
/-! ## arrays of references -/
theorem Wk.newR (W : Wk p l e R s m args below meth c Z a0 EL own n0 T h cells slots) (hx : p.tables.exec = Jvm.exec) {C ad : String} {index : Nat} (w1 : (Jvm.Cond.classLink own index C).before a0 Z = true) (w2 : (Jvm.Cond.arrayOver (.object C)).before a0 Z = true) (had : "[" ++ (FieldType.object C).toString = ad)
    {g : JFrame} (hg : g.method = m) (hd : decode c.code g.pc = .ok (.anewarray index, 3)) {n : Int32} {rest : List Value} (hs : g.stack = .int n :: rest) (hn : ¬ n < 0) {cap : Nat} (hcap : n.toNatClampNeg ≤ cap) (hb : cap * 8 ≤ 536870912) (hc : cells + 1 ≤ R.cells) (hl : slots + cap ≤ R.slots)
    (k : ∀ (T' : State) (h' : Heap) (a : Addr) (cA : ClassId), @Eq Nat a h.size → Wk p l e R s m args below meth c Z a0 EL own n0 T' h' (cells + 1) (slots + cap) → Ext h h' → Arv Z h' a cA (.object C) n [] .null → Exa Z h' a ad → Ovr Z cA C →
      Fi p e below s Z EF n0 Q kc ks (T'.setTop { g with pc := g.pc + 3, stack := .ref a :: rest })) : Fi p e below s Z EF n0 Q kc ks (T.setTop g) := by
  obtain ⟨vm0, k0, locs, X, eT, hS, hk, hZ, ho, N, CC, hE⟩ := W
  obtain ⟨T', h', cA, X', e', E, A, Ex, O, st⟩ := newRE X hx hZ ho w1 w2 eT hg hd hs hn hcap hb hc hl had
  exact (k T' h' _ cA rfl ⟨vm0, k0, locs, X', e', hS, Nat.le_trans hk E.1, hZ, ho, N, CC.trans (CHr.ext E CC.1), hE⟩ E (Arv.new A hn) Ex O).via st
theorem Wk.aastore (W : Wk p l e R s m args below meth c Z a0 EL own n0 T h cells slots) (hx : p.tables.exec = Jvm.exec) {a : Addr} {k : ClassId} {C : String} {N : Int32} {vs : List Value} {d : Value} (A : Arv Z h a k (.object C) N vs d) (O : Ovr Z k C) {y : Addr} (I : Ins Z h y C true) {i : Nat} (hi : i < vs.length) {j : Int32} (hj : j.toNatClampNeg = i) (hjN : ¬ j < 0 ∧ j < N)
    {g : JFrame} (hg : g.method = m) {rest : List Value} (hs : g.stack = .ref y :: .int j :: .ref a :: rest) (hd : decode c.code g.pc = .ok (.aastore, 1)) (ha : n0 ≤ a)
    (kk : ∀ (T' : State) (h' : Heap), Wk p l e R s m args below meth c Z a0 EL own n0 T' h' cells slots → Wr h h' a j.toNatClampNeg (.ref y) → Arv Z h' a k (.object C) N (vs.set i (.ref y)) d → Fi p e below s Z EF n0 Q kc ks (T'.setTop { g with pc := g.pc + 1, stack := rest })) : Fi p e below s Z EF n0 Q kc ks (T.setTop g) := by
  obtain ⟨vm0, k0, locs, X, eT, hS, hk, hZ, ho, N0, CC, hE⟩ := W
  obtain ⟨cl, A1, A2, A3, A4, A5, A6⟩ := id A
  obtain ⟨T', h', X', e', Wr', st⟩ := stR X hx hZ eT A1 (j := j) (inb_of A3 hjN) rfl (Sto.ofV A1 A2 O I) hg hs hd
  have V := Arv.set A1 A2 A3 A4 A5 A6 (show fits (.object C) (.ref y) = true from rfl) Wr' i hj hi
  exact (kk T' h' ⟨vm0, k0, _, X', e', hS, by rw [Wr'.size]; exact hk, hZ, ho, Fr.snoc X' N0 ha, CC.trans (CHr.wr Wr' (Safe.arr hZ.alike A1 (by simp)) CC.1), hE⟩ Wr' V).via st
theorem Wk.instY (W : Wk p l e R s m args below meth c Z a0 EL own n0 T h cells slots) (hx : p.tables.exec = Jvm.exec) {K : String} {index : Nat} (w : (Jvm.Cond.classLink own index K).before a0 Z = true) {a : Addr} (F : Ins Z h a K true)
    {g : JFrame} (hg : g.method = m) {rest : List Value} (hs : g.stack = .ref a :: rest) (hd : decode c.code g.pc = .ok (.instanceof index, 3))
    (k : ∀ T' : State, Wk p l e R s m args below meth c Z a0 EL own n0 T' h cells slots → Fi p e below s Z EF n0 Q kc ks (T'.setTop { g with pc := g.pc + 3, stack := .int 1 :: rest })) : Fi p e below s Z EF n0 Q kc ks (T.setTop g) := by
  obtain ⟨vm0, k0, locs, X, eT, hS, hk, hZ, ho, N, CC, hE⟩ := W
  obtain ⟨T', X', e', st⟩ := Jvm.RoadKit.instY X hx hZ ho w eT F hg hs hd
  exact (k T' ⟨vm0, k0, locs, X', e', hS, hk, hZ, ho, N, CC, hE⟩).via st
theorem Wk.instN (W : Wk p l e R s m args below meth c Z a0 EL own n0 T h cells slots) (hx : p.tables.exec = Jvm.exec) {K C : String} {index : Nat} (w : (Jvm.Cond.classLink own index K).before a0 Z = true) {a : Addr} (E : Exa Z h a C) (F : ∃ c t, Z.vm.findClass C = some c ∧ Z.vm.findClass K = some t ∧ Z.vm.assignable c t = false)
    {g : JFrame} (hg : g.method = m) {rest : List Value} (hs : g.stack = .ref a :: rest) (hd : decode c.code g.pc = .ok (.instanceof index, 3))
    (k : ∀ T' : State, Wk p l e R s m args below meth c Z a0 EL own n0 T' h cells slots → Fi p e below s Z EF n0 Q kc ks (T'.setTop { g with pc := g.pc + 3, stack := .int 0 :: rest })) : Fi p e below s Z EF n0 Q kc ks (T.setTop g) := by
  obtain ⟨vm0, k0, locs, X, eT, hS, hk, hZ, ho, N, CC, hE⟩ := W
  obtain ⟨T', X', e', st⟩ := Jvm.RoadKit.instNo X hx hZ ho w eT E F hg hs hd
  exact (k T' ⟨vm0, k0, locs, X', e', hS, hk, hZ, ho, N, CC, hE⟩).via st
/-- C's superclasses are told up to Object, and K is a class of its own that can be made -/
theorem ns_no {C S K : String} {n : Nat} (w : (Jvm.Cond.superclass C S).before a0 Z = true) (wk : (Jvm.Cond.instantiable K n).before a0 Z = true) (ns : NS Z C K) (hn : C ≠ K) : ∃ c t, Z.vm.findClass C = some c ∧ Z.vm.findClass K = some t ∧ Z.vm.assignable c t = false := by
  obtain ⟨c, t, h0, g0, n3⟩ := ns
  obtain ⟨p, k, kp, h1, h2, h3, h4, h5, -, h7⟩ := Cond.superclass_spec h0 w
  obtain ⟨t', kt, g1, g2, g3, g4, -⟩ := Cond.instantiable_spec wk
  cases g0.symm.trans g1
  have hni : kt.isInterface = false := by
    cases hq : kt.isInterface with
    | false => rfl
    | true => simp [hq] at g4
  refine ⟨c, t, h0, g0, ?_⟩
  show Z.vm.assignableAux (255 + 1) c t = false
  simp [Vm.assignableAux, ids_ne h0 g0 hn, h2, g2, h5, g3, hni, Vm.isSubclass, n3]
theorem ns_root {O K : String} {n : Nat} (w : (Jvm.Cond.noSuperclass O).before a0 Z = true) (wk : (Jvm.Cond.instantiable K n).before a0 Z = true) (hn : O ≠ K) : NS Z O K := by
  obtain ⟨c, k, h1, h2, h3, -, -⟩ := Cond.noSuperclass_spec w
  obtain ⟨t, kt, g1, -⟩ := Cond.instantiable_spec wk
  refine ⟨c, t, h1, g1, fun fuel => ?_⟩
  cases fuel with
  | zero => rfl
  | succ f => simp [Vm.isSubclassAux, ids_ne h1 g1 hn, h2, h3]
theorem Wk.gcls (W : Wk p l e R s m args below meth c Z a0 EL own n0 T h cells slots) (hx : p.tables.exec = Jvm.exec) {C : String} {index : Nat}
    (w1 : (Jvm.Cond.methodLink own index ⟨"java/lang/Object", "getClass", "()Ljava/lang/Class;"⟩).before a0 Z = true) (w2 : (Jvm.Cond.declares ⟨"java/lang/Object", "getClass", "()Ljava/lang/Class;"⟩).before a0 Z = true) (w3 : (Jvm.Cond.noSuperclass "java/lang/Object").before a0 Z = true) (w4 : (Jvm.Cond.selects C ⟨"java/lang/Object", "getClass", "()Ljava/lang/Class;"⟩ ⟨"java/lang/Object", "getClass", "()Ljava/lang/Class;"⟩).before a0 Z = true)
    (w5 : (Jvm.Cond.instanceMethod ⟨"java/lang/Object", "getClass", "()Ljava/lang/Class;"⟩).before a0 Z = true) (w6 : (Jvm.Cond.native ⟨"java/lang/Object", "getClass", "()Ljava/lang/Class;"⟩).before a0 Z = true) {a : Addr} (E : Exa Z h a C) {mr : Addr} (M : Mir Z C mr)
    {g : JFrame} (hg : g.method = m) (hsize : g.locals.size = c.maxLocals) {rest : List Value} (hs : g.stack = .ref a :: rest) (hd : decode c.code g.pc = .ok (.invokevirtual index, 3)) (hf : 1 ≤ R.frames) {Wd : Nat} (hW : 2 * g.monitorRoom + (rest.map fun v => v.category).sum ≤ Wd) (hl : Wd + (nativeFrameWords "java/lang/Object" "getClass" 1 + 11) ≤ R.locals)
    (k : ∀ T' : State, Wk p l e R s m args below meth c Z a0 EL own n0 T' h cells slots → Fi p e below s Z EF n0 Q kc ks (T'.setTop { g with pc := g.pc + 3, stack := .ref mr :: rest })) : Fi p e below s Z EF n0 Q kc ks (T.setTop g) := by
  obtain ⟨vm0, k0, locs, X, eT, hS, hk, hZ, ho, N, CC, hE⟩ := W
  obtain ⟨T', X', e', st⟩ := Jvm.RoadKit.gcls X hx hZ ho w1 w2 w3 w4 w5 w6 eT E M hg hsize hs hd hf hW hl
  exact (k T' ⟨vm0, k0, locs, X', e', hS, hk, hZ, ho, N, CC, hE⟩).via st
theorem Wk.ldcM (W : Wk p l e R s m args below meth c Z a0 EL own n0 T h cells slots) (hx : p.tables.exec = Jvm.exec) {C : String} {index : Nat} (w : (Jvm.Cond.classLink own index C).before a0 Z = true) {mr : Addr} (M : Mir Z C mr)
    {g : JFrame} (hg : g.method = m) (hd : decode c.code g.pc = .ok (.ldc index, 2))
    (k : ∀ T' : State, Wk p l e R s m args below meth c Z a0 EL own n0 T' h cells slots → Fi p e below s Z EF n0 Q kc ks (T'.setTop { g with pc := g.pc + 2, stack := .ref mr :: g.stack })) : Fi p e below s Z EF n0 Q kc ks (T.setTop g) := by
  obtain ⟨vm0, k0, locs, X, eT, hS, hk, hZ, ho, N, CC, hE⟩ := W
  have hZ' : Z.Warmed39 (s.setVm vm0).vm := hZ
  obtain ⟨cc, kc', m1, m2, m3, -⟩ := M
  obtain ⟨k', q, ek⟩ := hZ.alike.2.2 _ _ m2
  have f1 : vm0.findClass C = some cc := by rw [hZ.alike.findClass]; exact m1
  have f2 : k'.mirror = some mr := by rw [ek]; exact m3
  obtain ⟨vm', X', st⟩ := X.ldcMirror hx ho (mvT hZ' w) (a := mr) (C := C) (by simp [Term.eval, f1, q, f2]) hg hd
  exact (k _ ⟨vm0, k0, locs, X', eT, hS, hk, hZ, ho, N, CC, hE⟩).via st
/-- System.arraycopy between two arrays of references -/
theorem Wk.cpR (W : Wk p l e R s m args below meth c Z a0 EL own n0 T h cells slots) (hx : p.tables.exec = Jvm.exec) {index : Nat} (w1 : (Jvm.Cond.methodLink own index Jvm.Stand.acN).before a0 Z = true) (w2 : (Jvm.Cond.native Jvm.Stand.acN).before a0 Z = true) (w3 : (Jvm.Cond.static Jvm.Stand.acN).before a0 Z = true) (w4 : (Jvm.Cond.initialized "java/lang/System").before a0 Z = true)
    {a b : Addr} {k k' : ClassId} {C C' : String} {z z' sp dp nn : Int32} {vs vd us : List Value} {dv dd : Value} (A : Arv Z h a k (.object C) z vs dv) (B : Arv Z h b k' (.object C') z' vd dd) (hS : StoL Z h b us)
    (h1 : ¬ sp < 0) (h2 : ¬ dp < 0) (h3 : ¬ nn < 0) (h4 : sp.toNatClampNeg + nn.toNatClampNeg ≤ z.toNatClampNeg) (h5 : dp.toNatClampNeg + nn.toNatClampNeg ≤ z'.toNatClampNeg)
    (hus : us = (List.range nn.toNatClampNeg).map fun i => vs.getD (sp.toNatClampNeg + i) dv) (hl : dp.toNatClampNeg + nn.toNatClampNeg ≤ vd.length) (ge : n0 ≤ b)
    {g : JFrame} (hg : g.method = m) (hsize : g.locals.size = c.maxLocals) {rest : List Value} (hs : g.stack = .int nn :: .int dp :: .ref b :: .int sp :: .ref a :: rest) (hd : decode c.code g.pc = .ok (.invokestatic index, 3))
    (hf : 1 ≤ R.frames) {Wd : Nat} (hW : 2 * g.monitorRoom + (rest.map fun v => v.category).sum ≤ Wd) (hlo : Wd + (nativeFrameWords "java/lang/System" "arraycopy" 5 + 11) ≤ R.locals)
    (kk : ∀ (T' : State) (h' : Heap), Wk p l e R s m args below meth c Z a0 EL own n0 T' h' cells slots → Keep h h' [b] → Arv Z h' b k' (.object C') z' (vd.take dp.toNatClampNeg ++ us ++ vd.drop (dp.toNatClampNeg + nn.toNatClampNeg)) dd → Fi p e below s Z EF n0 Q kc ks (T'.setTop { g with pc := g.pc + 3, stack := rest })) : Fi p e below s Z EF n0 Q kc ks (T.setTop g) := by
  obtain ⟨vm0, k0, locs, X, eT, hSs, hk, hZ, ho, N, CC, hE⟩ := W
  obtain ⟨T', h', L, X', e', N', K, V, st⟩ := cpA X hx hZ ho w1 w2 w3 w4 eT A B (Or.inr ⟨rfl, rfl, hS⟩) h1 h2 h3 h4 h5 hus hl N ge hg hsize hs hd hf hW hlo
  refine (kk T' h' ⟨vm0, k0, L, X', e', hSs, Nat.le_trans hk K.1, hZ, ho, N', CC.trans (CHr.keep K (fun x hx => ?_) CC.1), hE⟩ K V).via st
  cases List.mem_singleton.mp hx
  exact Safe.arv hZ.alike B (by simp)
theorem Wk.getSN (W : Wk p l e R s m args below meth c Z a0 EL own n0 T h cells slots) (hx : p.tables.exec = Jvm.exec) {O n d host : String} {index : Nat} (w : (Jvm.Cond.fieldLinkNest own index O n d host).before a0 Z = true) {v : Value} (F : Sta Z h O n d v)
    {g : JFrame} (hg : g.method = m) (hd : decode c.code g.pc = .ok (.getstatic index, 3))
    (k : ∀ T' : State, Wk p l e R s m args below meth c Z a0 EL own n0 T' h cells slots → Fi p e below s Z EF n0 Q kc ks (T'.setTop { g with pc := g.pc + 3, stack := v :: g.stack })) : Fi p e below s Z EF n0 Q kc ks (T.setTop g) := by
  obtain ⟨vm0, k0, locs, X, eT, hS, hk, hZ, ho, N, CC, hE⟩ := W
  obtain ⟨T', X', e', st⟩ := Jvm.RoadKit.getS2 (host := host) X hx hZ ho (Or.inr w) Via.refl eT F hg hd
  exact (k T' ⟨vm0, k0, locs, X', e', hS, hk, hZ, ho, N, CC, hE⟩).via st
/-- a field read or written through a subclass's entry -/
theorem Wk.getFV (W : Wk p l e R s m args below meth c Z a0 EL own n0 T h cells slots) (hx : p.tables.exec = Jvm.exec) {R0 O n d : String} {index : Nat} (w : (Jvm.Cond.fieldLink own index R0 n d).before a0 Z = true) (ws : (Jvm.Cond.sameField R0 O n d).before a0 Z = true) {a : Addr} {v : Value} (F : Fld Z h a O n d v)
    {g : JFrame} (hg : g.method = m) {rest : List Value} (hs : g.stack = .ref a :: rest) (hd : decode c.code g.pc = .ok (.getfield index, 3))
    (k : ∀ T' : State, Wk p l e R s m args below meth c Z a0 EL own n0 T' h cells slots → Fi p e below s Z EF n0 Q kc ks (T'.setTop { g with pc := g.pc + 3, stack := v :: rest })) : Fi p e below s Z EF n0 Q kc ks (T.setTop g) := by
  obtain ⟨vm0, k0, locs, X, eT, hS, hk, hZ, ho, N, CC, hE⟩ := W
  obtain ⟨T', X', e', st⟩ := Jvm.RoadKit.getF X hx hZ ho (host := "") (Or.inl w) (Via.of ws) eT F hg hs hd
  exact (k T' ⟨vm0, k0, locs, X', e', hS, hk, hZ, ho, N, CC, hE⟩).via st
theorem Wk.putFV (W : Wk p l e R s m args below meth c Z a0 EL own n0 T h cells slots) (hx : p.tables.exec = Jvm.exec) {R0 O n d C : String} {index kk : Nat} {ty : FieldType} (w : (Jvm.Cond.fieldLink own index R0 n d).before a0 Z = true) (ws : (Jvm.Cond.sameField R0 O n d).before a0 Z = true) {a : Addr} {v old : Value} (F : Fld Z h a O n d old) (E : Exa Z h a C)
    (L : (Jvm.Cond.lays C O n d).before a0 Z = true) (wi : (Jvm.Cond.instantiable C kk).before a0 Z = true) (hty : parseFieldDescriptor d = some ty) (hn : narrow ty v = v) (hf : fits ty v = true)
    {g : JFrame} (hg : g.method = m) {rest : List Value} (hs : g.stack = v :: .ref a :: rest) (hd : decode c.code g.pc = .ok (.putfield index, 3)) (ha : n0 ≤ a) (S : ∀ vm : Vm, Z.Warmed39 vm → CHv Z EL vm h → Safe Z EL vm h a)
    (k : ∀ (T' : State) (h' : Heap), Wk p l e R s m args below meth c Z a0 EL own n0 T' h' cells slots → Wr h h' a (Jvm.RoadKit.slotOf Z O n d) v → Fi p e below s Z EF n0 Q kc ks (T'.setTop { g with pc := g.pc + 3, stack := rest })) : Fi p e below s Z EF n0 Q kc ks (T.setTop g) := by
  obtain ⟨vm0, k0, locs, X, eT, hS, hk, hZ, ho, N, CC, hE⟩ := W
  obtain ⟨T', h', X', e', Wr', st⟩ := Jvm.RoadKit.putF X hx hZ ho (host := "") (Or.inl w) (Via.of ws) eT F E (Or.inl L) wi hty hn hf hg hs hd
  exact (k T' h' ⟨vm0, k0, _, X', e', hS, by rw [Wr'.size]; exact hk, hZ, ho, Fr.snoc X' N ha, CC.trans (CHr.wr Wr' (S vm0 hZ CC.1) CC.1), hE⟩ Wr').via st
theorem Wk.lswHit (W : Wk p l e R s m args below meth c Z a0 EL own n0 T h cells slots) (hx : p.tables.exec = Jvm.exec) {g : JFrame} (hg : g.method = m) {k : Int32} {rest : List Value} (hs : g.stack = .int k :: rest) {default : Int} {pairs : Array (Int × Int)} {len : Nat} (hd : decode c.code g.pc = .ok (.lookupswitch default pairs, len)) {pc0 : Nat} (hpc : g.pc = pc0)
    {a o : Int} (hf : pairs.find? (·.1 == k.toInt) = some (a, o)) (hso : (pairs.toList.zip (pairs.toList.drop 1)).all (fun (a, next) => a.1 < next.1) = true) (ho : 0 ≤ (pc0 : Int) + o) {pc' : Nat} (hp : ((pc0 : Int) + o).toNat = pc') (f : Fi p e below s Z EF n0 Q kc ks (T.setTop { g with pc := pc', stack := rest })) : Fi p e below s Z EF n0 Q kc ks (T.setTop g) := by
  obtain ⟨vm0, k0, locs, X, -⟩ := W
  subst hpc hp
  exact f.via fun t ht => X.lookupswitchHit hx hg hs hd hso hf ho t ht
theorem Wk.lswMiss (W : Wk p l e R s m args below meth c Z a0 EL own n0 T h cells slots) (hx : p.tables.exec = Jvm.exec) {g : JFrame} (hg : g.method = m) {k : Int32} {rest : List Value} (hs : g.stack = .int k :: rest) {default : Int} {pairs : Array (Int × Int)} {len : Nat} (hd : decode c.code g.pc = .ok (.lookupswitch default pairs, len)) {pc0 : Nat} (hpc : g.pc = pc0)
    (hf : pairs.find? (·.1 == k.toInt) = none) (hso : (pairs.toList.zip (pairs.toList.drop 1)).all (fun (a, next) => a.1 < next.1) = true) (ho : 0 ≤ (pc0 : Int) + default) {pc' : Nat} (hp : ((pc0 : Int) + default).toNat = pc') (f : Fi p e below s Z EF n0 Q kc ks (T.setTop { g with pc := pc', stack := rest })) : Fi p e below s Z EF n0 Q kc ks (T.setTop g) := by
  obtain ⟨vm0, k0, locs, X, -⟩ := W
  subst hpc hp
  exact f.via fun t ht => X.lookupswitchMiss hx hg hs hd hso hf ho t ht
end Base6
end Jvm.OwnW
namespace Jvm.OwnW
open Jvm Jvm.ClassFile Sem Op Lib Jvm.Free Jvm.Stand Jvm.LawKit Jvm.RoadKit Bundle
/-! Strings whose hash may be kept, and heaps that differ by kept hashes -/
def hashS (cs : List Int32) : Int32 := cs.foldl (fun a c => 31 * a + c) 0
abbrev STN : String := "java/lang/String"
def StrH (Z : State) (h : Heap) (x : Addr) (cs : List Int32) : Prop := ∃ (t : Addr) (kb : ClassId) (hv zv : Int32), Exa Z h x STN ∧ Fld Z h x STN "value" "[B" (.ref t) ∧ Fld Z h x STN "coder" "B" (.int 0) ∧ Arv Z h t kb .byte (Int32.ofNat cs.length) ((cs.map low8).map Value.int) (.int 0) ∧
  Fld Z h x STN "hash" "I" (.int hv) ∧ Fld Z h x STN "hashIsZero" "Z" (.int zv) ∧ (∀ c ∈ cs, ¬ c < 0 ∧ ¬ (255 : Int32) < c) ∧ cs.length ≤ 2 ∧ (cs.length ≤ 1 ∨ Z.vm.findClass "[B" = some kb) ∧ (hv = 0 ∨ hv = hashS cs) ∧ (zv = 0 ∨ (zv = 1 ∧ hashS cs = 0))
section Hash
variable {Z : State} {h h' h1 h2 : Heap} {x y : Addr} {cs ds : List Int32} {a0 : Array Value}
theorem StrH.l (F : StrH Z h x cs) : StrL Z h x cs := by
  obtain ⟨t, kb, hv, zv, a1, a2, a3, a4, a5, a6, a7, a8, -⟩ := F
  exact ⟨t, kb, a1, a2, a3, a4, a7, by omega⟩
theorem StrH.exa (F : StrH Z h x cs) : Exa Z h x STN := F.l.exa
theorem StrH.ext (F : StrH Z h x cs) (E : Ext h h') : StrH Z h' x cs := by
  obtain ⟨t, kb, hv, zv, a1, a2, a3, a4, a5, a6, r⟩ := F
  exact ⟨t, kb, hv, zv, a1.ext E, a2.ext E, a3.ext E, a4.ext E, a5.ext E, a6.ext E, r⟩
theorem low8_mask {x : Int32} (q : ¬ x < 0 ∧ ¬ (255 : Int32) < x) : low8 x &&& 255 = x := by
  obtain ⟨h0, h1⟩ := q
  rw [Int32.lt_iff_toInt_lt] at h0 h1
  have e0 : (0 : Int32).toInt = 0 := rfl
  have e1 : (255 : Int32).toInt = 255 := rfl
  obtain ⟨k, hk⟩ : ∃ k : Nat, x.toInt = k := ⟨x.toInt.toNat, by omega⟩
  have hx : x = Int32.ofNat k := Int32.toInt_inj.mp (by rw [hk, Int32.toInt_ofNat_small (by omega)])
  have t : ∀ k : Fin 256, low8 (Int32.ofNat k.val) &&& 255 = Int32.ofNat k.val := by decide +kernel
  rw [hx]
  exact t ⟨k, by omega⟩
theorem Fld.uniq {O n d : String} {v w : Value} (F : Fld Z h x O n d v) (G : Fld Z h x O n d w) : v = w := by
  obtain ⟨c1, _, _, _, _, h1, h2, -, -, -, -, h7⟩ := F
  obtain ⟨c2, _, _, _, _, g1, g2, -, -, -, -, g7⟩ := G
  cases h1.symm.trans g1; cases h2.symm.trans g2
  exact Option.some.inj (h7.symm.trans g7)
theorem StrL.inj (F : StrL Z h x cs) (G : StrL Z h x ds) : cs = ds := by
  obtain ⟨t, k, a1, a2, a3, a4, a5, a6⟩ := F
  obtain ⟨t', k', b1, b2, b3, b4, b5, b6⟩ := G
  cases Fld.uniq a2 b2
  obtain ⟨c, A, -, S, -, H, -⟩ := a4
  obtain ⟨c', B, -, S', -, H', -⟩ := b4
  cases A.1.symm.trans B.1
  have e1 : (Int32.ofNat cs.length).toInt = cs.length := len_toInt (by omega)
  have e2 : (Int32.ofNat ds.length).toInt = ds.length := len_toInt (by omega)
  simp only [Int32.toNatClampNeg, e1, e2] at S S'
  have el : cs.length = ds.length := by omega
  refine List.ext_getElem el fun i hi hi' => ?_
  have q := (H i (by omega)).symm.trans (H' i (by omega))
  simp only [List.map_map, List.getD_eq_getElem?_getD, List.getElem?_map, List.getElem?_eq_getElem hi, List.getElem?_eq_getElem hi', Option.map_some, Option.getD_some, Function.comp_apply] at q
  have q2 : low8 cs[i] = low8 ds[i] := Value.int.inj (Option.some.inj q)
  rw [← low8_mask (a5 _ (List.getElem_mem hi)), ← low8_mask (b5 _ (List.getElem_mem hi')), q2]
theorem exaB {t : Addr} {kb : ClassId} {N : Int32} {vs : List Value} {d : Value} (F : Arv Z h t kb .byte N vs d) (q : Z.vm.findClass "[B" = some kb) : Exa Z h t "[B" := by
  obtain ⟨c, A, e, -⟩ := F
  obtain ⟨h1, ⟨hs, k, hk, comp, hkind⟩, -⟩ := A
  refine ⟨c, k, h1, by rw [e]; exact q, hk, ?_, fun e => by rw [hkind] at e; cases e⟩
  cases q : c.vm <;> first | rfl | exact absurd q (hs _)
def Hs (Z : State) (h h' : Heap) : Prop := h.size ≤ h'.size ∧ (∀ (a : Addr) (c : Cell), h[a]? = some c → (c.vm.isStatics = true ∨ Z.vm.findClass STN ≠ some c.cls) → h'[a]? = some c) ∧ (∀ (a : Addr) (cs : List Int32), StrH Z h a cs → StrH Z h' a cs)
theorem Hs.refl (h : Heap) : Hs Z h h := ⟨Nat.le_refl _, fun _ _ q _ => q, fun _ _ q => q⟩
theorem Hs.trans (A : Hs Z h h1) (B : Hs Z h1 h2) : Hs Z h h2 := ⟨Nat.le_trans A.1 B.1, fun a c q r => B.2.1 a c (A.2.1 a c q r) r, fun a cs q => B.2.2 a cs (A.2.2 a cs q)⟩
theorem Hs.of_ext (E : Ext h h') : Hs Z h h' := ⟨E.1, fun a c q _ => E.2 a c q, fun a cs q => q.ext E⟩
theorem exa_not {C : String} {a : Addr} {c : Cell} (E : Exa Z h a C) (hC : C ≠ STN) (q : h[a]? = some c) : Z.vm.findClass STN ≠ some c.cls := fun e => by
  obtain ⟨cell, k, h1, h2, h3, -, -⟩ := E
  cases h1.symm.trans q
  obtain ⟨k1, q1, q2⟩ := Vm.findClass_spec h2
  obtain ⟨k2, q3, q4⟩ := Vm.findClass_spec e
  cases q1.symm.trans q3
  exact hC (q2.symm.trans q4)
theorem Hs.exa {C : String} {a : Addr} (H : Hs Z h h') (E : Exa Z h a C) (hC : C ≠ STN) : Exa Z h' a C := by
  obtain ⟨cell, k, h1, r⟩ := id E
  exact ⟨cell, k, H.2.1 _ _ h1 (Or.inr (exa_not E hC h1)), r⟩
theorem Hs.fld {C O n d : String} {a : Addr} {v : Value} (H : Hs Z h h') (E : Exa Z h a C) (hC : C ≠ STN) (F : Fld Z h a O n d v) : Fld Z h' a O n d v := by
  obtain ⟨cell, cf, k, i, f, h1, r⟩ := F
  exact ⟨cell, cf, k, i, f, H.2.1 _ _ h1 (Or.inr (exa_not E hC h1)), r⟩
theorem Hs.sta {O n d : String} {v : Value} (H : Hs Z h h') (F : Sta Z h O n d v) : Sta Z h' O n d v := by
  obtain ⟨cf, i, k, f, st, cell, h1, h2, h3, h4, h5, h6, h7⟩ := F
  exact ⟨cf, i, k, f, st, cell, h1, h2, h3, h4, H.2.1 _ _ h5 (Or.inl h6), h6, h7⟩
theorem arr_not {a : Addr} {c : Cell} {ty : FieldType} {n : Nat} (A : Arr Z h a c ty) (wi : (Jvm.Cond.instantiable STN n).before a0 Z = true) : Z.vm.findClass STN ≠ some c.cls := fun e => by
  obtain ⟨-, ⟨-, k, hk, comp, hkind⟩, -⟩ := A
  obtain ⟨c', k', i1, i2, i3, -⟩ := Cond.instantiable_spec wi
  cases e.symm.trans i1
  cases hk.symm.trans i2
  rw [hkind] at i3
  cases i3
theorem Hs.arv {a : Addr} {k : ClassId} {ty : FieldType} {N : Int32} {vs : List Value} {d : Value} {n : Nat} (H : Hs Z h h') (wi : (Jvm.Cond.instantiable STN n).before a0 Z = true) (F : Arv Z h a k ty N vs d) : Arv Z h' a k ty N vs d := by
  obtain ⟨c, A, r⟩ := F
  exact ⟨c, ⟨H.2.1 _ _ A.1 (Or.inr (arr_not A wi)), A.2⟩, r⟩
/-- a hash is kept in x -/
theorem Hs.wr {n : Nat} {nm ds' : String} {v : Int32} (wi : (Jvm.Cond.instantiable STN n).before a0 Z = true) (lv : (Jvm.Cond.laysFinal STN STN "value" "[B").before a0 Z = true) (lc : (Jvm.Cond.laysFinal STN STN "coder" "B").before a0 Z = true) (lh : (Jvm.Cond.lays STN STN "hash" "I").before a0 Z = true) (lz : (Jvm.Cond.lays STN STN "hashIsZero" "Z").before a0 Z = true)
    (F : StrH Z h x cs) (q : (nm = "hash" ∧ ds' = "I" ∧ v = hashS cs) ∨ (nm = "hashIsZero" ∧ ds' = "Z" ∧ v = 1 ∧ hashS cs = 0)) (W : Wr h h' x (Jvm.RoadKit.slotOf Z STN nm ds') (.int v)) : Hs Z h h' := by
  refine ⟨Nat.le_of_eq W.size.symm, fun a c hc hr => ?_, fun y es G => ?_⟩
  · obtain ⟨c', e1, -, -, -, e5, -⟩ := wr_at W hc
    by_cases ea : a = x
    · subst ea
      obtain ⟨cell, k, f1, f2, -, f4, -⟩ := F.exa
      cases f1.symm.trans hc
      rcases hr with hr | hr
      · rw [f4] at hr; cases hr
      · exact absurd f2 hr
    · rw [e1, e5 ea]
  · obtain ⟨u, kb, hv, zv, a1, a2, a3, a4, a5, a6, a7, a8, a9, a10, a11⟩ := id G
    have ne : u ≠ x := fun e => Exa.neArv F.exa a4 wi e.symm
    have nv : Jvm.RoadKit.slotOf Z STN "value" "[B" ≠ Jvm.RoadKit.slotOf Z STN nm ds' := by
      rcases q with ⟨rfl, rfl, -⟩ | ⟨rfl, rfl, -⟩
      · exact slot_ne (Or.inr lv) (Or.inl lh) (by decide) (t := .array .byte) (t' := .int) (by decide) (by decide)
      · exact slot_ne (Or.inr lv) (Or.inl lz) (by decide) (t := .array .byte) (t' := .boolean) (by decide) (by decide)
    have nc : Jvm.RoadKit.slotOf Z STN "coder" "B" ≠ Jvm.RoadKit.slotOf Z STN nm ds' := by
      rcases q with ⟨rfl, rfl, -⟩ | ⟨rfl, rfl, -⟩
      · exact slot_ne (Or.inr lc) (Or.inl lh) (by decide) (t := .byte) (t' := .int) (by decide) (by decide)
      · exact slot_ne (Or.inr lc) (Or.inl lz) (by decide) (t := .byte) (t' := .boolean) (by decide) (by decide)
    have nhz : Jvm.RoadKit.slotOf Z STN "hash" "I" ≠ Jvm.RoadKit.slotOf Z STN "hashIsZero" "Z" := slot_ne (Or.inl lh) (Or.inl lz) (by decide) (t := .int) (t' := .boolean) (by decide) (by decide)
    have b1 := Exa.wr W a1
    have b2 := Fld.other W a2 (Or.inr nv)
    have b3 := Fld.other W a3 (Or.inr nc)
    have b4 := Arv.other a4 W ne
    by_cases ey : y = x
    · subst ey
      have ec : cs = es := StrL.inj F.l G.l
      subst ec
      rcases q with ⟨rfl, rfl, rfl⟩ | ⟨rfl, rfl, rfl, q4⟩
      · exact ⟨u, kb, _, zv, b1, b2, b3, b4, Fld.same W a5, Fld.other W a6 (Or.inr (Ne.symm nhz)), a7, a8, a9, Or.inr rfl, a11⟩
      · exact ⟨u, kb, hv, _, b1, b2, b3, b4, Fld.other W a5 (Or.inr nhz), Fld.same W a6, a7, a8, a9, a10, Or.inr ⟨rfl, q4⟩⟩
    · exact ⟨u, kb, hv, zv, b1, b2, b3, b4, Fld.other W a5 (Or.inl ey), Fld.other W a6 (Or.inl ey), a7, a8, a9, a10, a11⟩
end Hash
end Jvm.OwnW
namespace Jvm.OwnW
open Jvm Jvm.ClassFile Sem Op Lib Jvm.Free Jvm.Stand Jvm.LawKit Jvm.RoadKit Bundle
/-! The same walk where nothing is interned (its end is FrameEnd): for a body with an exception table. The parameters are Wk's and Fi's, so that one printer serves both. -/
def Wk0 (p : Program) (l : Launch) (e : Env) (R : Room) (s : State) (m : MethodId) (args : Array Value) (below : List Frame) (meth : Method) (c : Code) (Z : State) (a0 : Array Value) (EL : List (String × Nat)) (own : String) (n0 : Nat) (T : State) (h : Heap) (cells slots : Nat) : Prop :=
  EW Z a0 EL ∧ ∃ locs : List Loc, Stand p l e R s m args below meth c T locs cells slots ∧ T.heap = h ∧ Z.Warmed39 s.vm ∧ s.vm.findClass own = some m.cls ∧ Fr n0 locs
def Fi0 (p : Program) (e : Env) (below : List Frame) (s : State) (Z : State) (EL : List (String × Nat)) (n0 : Nat) (Q : Option Value → Heap → Prop) (kc ks : Nat) (st : State) : Prop :=
  ∃ s₂ o, Steps p.tables e below st s₂ ∧ s₂.status = .running ∧ Ended s₂ below o ∧ ∃ v L, o = .returned v ∧ (Fr n0 L ∧ Q v s₂.heap) ∧ FrameEnd s o s₂ L kc ks
def Con0 (l : Launch) (Z : State) (EL : List (String × Nat)) (y : MethodName) (bytes : ByteArray) (maxL : Nat) (ret : Option FieldType) (ws : List Jvm.Cond) (rm : Room) (as' : Array Value) (h0 : Heap) (n0 : Nat) (Q : Option Value → Heap → Prop) : Prop :=
  MetFree l y (head1 (Jvm.Cond.code y bytes maxL ret :: ws) rm) (fun a U => a = as' ∧ Z.Warmed39 U.vm ∧ U.heap = h0) (fun _ _ _ _ _ => True) (fun _ U o U' => ∃ v L, o = .returned v ∧ (Fr n0 L ∧ Q v U'.heap) ∧ FrameEnd U o U' L rm.cells rm.slots)
def Con0W (l : Launch) (Z : State) (EL : List (String × Nat)) (y : MethodName) (bytes : ByteArray) (maxL : Nat) (ret : Option FieldType) (hs : List (Nat × Nat × Nat × Nat)) (rm : Room) (as' : Array Value) (h0 : Heap) (n0 : Nat) (Q : Option Value → Heap → Prop) : Prop :=
  MetFree l y (head1 [Jvm.Cond.codeWith y bytes maxL ret hs] rm) (fun a U => a = as' ∧ Z.Warmed39 U.vm ∧ U.heap = h0) (fun _ _ _ _ _ => True) (fun _ U o U' => ∃ v L, o = .returned v ∧ (Fr n0 L ∧ Q v U'.heap) ∧ FrameEnd U o U' L rm.cells rm.slots)
def Pay0 (l : Launch) (R : Room) (p : Program) (e : Env) (below : List Frame) (s : State) (args : Array Value) (Z : State) (EL : List (String × Nat)) (n0 : Nat) (y : MethodName) (Wd : Nat) (as' : Array Value) (h : Heap) (Q : Option Value → Heap → Prop) (k n : Nat) : Prop :=
  Z.Warmed39 s.vm → Back l R p e below s args y 5 Wd (fun A a => a = as' ∧ A.U.heap = h ∧ A.cells + k ≤ R.cells ∧ A.slots + n ≤ R.slots) (fun A _ v B => ∃ L, (Fr n0 L ∧ Q v B.U.heap) ∧ B.locs = A.locs ++ L ∧ B.cells = A.cells + k ∧ B.slots = A.slots + n)
section Base8
variable {p : Program} {l : Launch} {e : Env} {R : Room} {s : State} {m : MethodId} {args : Array Value} {below : List Frame} {meth : Method} {c : Code} {Z : State} {a0 : Array Value} {EL EF : List (String × Nat)} {own : String} {n0 : Nat} {T : State} {h h' h1 h2 : Heap} {cells slots : Nat} {Q : Option Value → Heap → Prop} {kc ks : Nat}
theorem Fi0.via {st st' : State} (f : Fi0 p e below s Z EL n0 Q kc ks st') (k : ∀ t, Steps p.tables e below st' t → Steps p.tables e below st t) : Fi0 p e below s Z EL n0 Q kc ks st := by
  obtain ⟨s₂, o, h1, r⟩ := f
  exact ⟨s₂, o, k _ h1, r⟩
theorem Fi0.by' {st st' : State} (k : ∀ t, Steps p.tables e below st' t → Steps p.tables e below st t) (f : Fi0 p e below s Z EL n0 Q kc ks st') : Fi0 p e below s Z EL n0 Q kc ks st := f.via k
theorem Fi0.cast {g g' : JFrame} (q : g = g') (f : Fi0 p e below s Z EL n0 Q kc ks (T.setTop g')) : Fi0 p e below s Z EL n0 Q kc ks (T.setTop g) := q ▸ f
theorem Wk0.here (W : Wk0 p l e R s m args below meth c Z a0 EL own n0 T h cells slots) : At T m c below := by
  obtain ⟨_, _, X, -⟩ := W
  exact X.here
theorem Con0.intro {y : MethodName} {bytes : ByteArray} {maxL : Nat} {ret : Option FieldType} {ws : List Jvm.Cond} {rm : Room} {as' : Array Value} {h0 : Heap} (ho : y.cls = own) (hpl : plainFor y = true) (hEL : EW Z a0 EL)
    (body : ∀ (p : Program) (e : Env) (s : State) (m : MethodId) (below : List Frame) (meth : Method) (c : Code) (s₁ : State), p.tables.exec = Jvm.exec → c.code = bytes → c.maxLocals = maxL → meth.sig.returnType = ret → meth.locks = false → meth.name = y.name →
      Wk0 p l e rm s m as' below meth c Z a0 EL own n0 s₁ h0 0 0 → Fi0 p e below s Z EL n0 Q rm.cells rm.slots (s₁.setTop (entryFrame m as' maxL))) :
    Con0 l Z EL y bytes maxL ret ws rm as' h0 n0 Q := by
  refine MetFree.of_bodySF hpl hisR ?_
  intro p e s m args below meth c s₁ Bd hml0 hP hK
  obtain ⟨ha, hZ, hh⟩ := hP
  subst ha
  have X0 : Stand p l e rm s m args below meth c s₁ [] 0 0 := Stand.of_body Bd
  have e0 : s₁.heap = h0 := by rw [← hh, Bd.state]; rfl
  have hown : s.vm.findClass own = some m.cls := by rw [← ho]; exact findClass_of_methodNamed Bd.named
  exact body p e s m below meth c s₁ Bd.exec Bd.bytes hml0 Bd.returns Bd.notSynchronized (name_of_methodNamed Bd.named Bd.method).1 ⟨hEL, [], X0, e0, hZ, hown, Fr.nil n0⟩
theorem Con0W.intro {y : MethodName} {bytes : ByteArray} {maxL : Nat} {ret : Option FieldType} {hs : List (Nat × Nat × Nat × Nat)} {rm : Room} {as' : Array Value} {h0 : Heap} (ho : y.cls = own) (hpl : plainFor y = true) (hEL : EW Z a0 EL)
    (body : ∀ (p : Program) (e : Env) (s : State) (m : MethodId) (below : List Frame) (meth : Method) (c : Code) (s₁ : State), p.tables.exec = Jvm.exec → c.code = bytes → c.maxLocals = maxL → meth.sig.returnType = ret → meth.locks = false → meth.name = y.name →
      Wk0 p l e rm s m as' below meth c Z a0 EL own n0 s₁ h0 0 0 → Fi0 p e below s Z EL n0 Q rm.cells rm.slots (s₁.setTop (entryFrame m as' maxL))) :
    Con0W l Z EL y bytes maxL ret hs rm as' h0 n0 Q := by
  refine MetFree.of_bodySF hpl hisWith ?_
  intro p e s m args below meth c s₁ Bd hml0 hP hK
  obtain ⟨ha, hZ, hh⟩ := hP
  subst ha
  have X0 : Stand p l e rm s m args below meth c s₁ [] 0 0 := Stand.of_body Bd
  have e0 : s₁.heap = h0 := by rw [← hh, Bd.state]; rfl
  have hown : s.vm.findClass own = some m.cls := by rw [← ho]; exact findClass_of_methodNamed Bd.named
  exact body p e s m below meth c s₁ Bd.exec Bd.bytes hml0 Bd.returns Bd.notSynchronized (name_of_methodNamed Bd.named Bd.method).1 ⟨hEL, [], X0, e0, hZ, hown, Fr.nil n0⟩
theorem Pay0.of_con {y : MethodName} {bytes : ByteArray} {maxL Wd : Nat} {ret : Option FieldType} {rm : Room} {as' : Array Value} (hM : Con0 l Z EL y bytes maxL ret [] rm as' h n0 Q) (wc : (Jvm.Cond.code y bytes maxL ret).before a0 Z = true) (wz : (Jvm.Cond.initialized y.cls).before a0 Z = true) (hEL : EW Z a0 EL)
    (hf : rm.frames + 1 ≤ R.frames) (hl : Wd + (maxL + 11) + rm.locals ≤ R.locals) : Pay0 l R p e below s args Z EL n0 y Wd as' h Q rm.cells rm.slots :=
  fun hZ => backOf (Q := fun v h L => Fr n0 L ∧ Q v h) hM hZ wc wz hf hl
theorem Wk0.aret (W : Wk0 p l e R s m args below meth c Z a0 EL own n0 T h cells slots) (hx : p.tables.exec = Jvm.exec) (hlk : meth.locks = false) {t : FieldType} (hret : meth.sig.returnType = some t) (ht : t.isReference = true) {pc : Nat} {Ls : Array Slot} {w : Value} (hw : w.isRef = true)
    (hd : decode c.code pc = .ok (.areturn, 1)) (hq : Q (some w) h) (h1 : cells ≤ kc) (h2 : slots ≤ ks) : Fi0 p e below s Z EL n0 Q kc ks (T.setTop (mkF m pc Ls [w])) := by
  obtain ⟨-, locs, X, eT, hZ, ho, N⟩ := W
  obtain ⟨fs, hr, hrun, hended, hW, hsame⟩ := X.leave (v := some w) (fun q => by rw [hret] at q; cases q)
  refine ⟨T.setFrames fs, _, X.areturnOut hx hw hret ht hd hr, hrun, hended, some w, locs, rfl, ⟨N, ?_⟩, ⟨_, rfl⟩, hW, hsame.mono h1 h2⟩
  show Q (some w) T.heap
  rw [eT]; exact hq
theorem Wk0.getF (W : Wk0 p l e R s m args below meth c Z a0 EL own n0 T h cells slots) (hx : p.tables.exec = Jvm.exec) {O n d : String} {index : Nat} (w : (Jvm.Cond.fieldLink own index O n d).before a0 Z = true) {a : Addr} {v : Value} (F : Fld Z h a O n d v)
    {g : JFrame} (hg : g.method = m) {rest : List Value} (hs : g.stack = .ref a :: rest) (hd : decode c.code g.pc = .ok (.getfield index, 3))
    (k : ∀ T' : State, Wk0 p l e R s m args below meth c Z a0 EL own n0 T' h cells slots → Fi0 p e below s Z EF n0 Q kc ks (T'.setTop { g with pc := g.pc + 3, stack := v :: rest })) : Fi0 p e below s Z EF n0 Q kc ks (T.setTop g) := by
  obtain ⟨hE, locs, X, eT, hZ, ho, N⟩ := W
  obtain ⟨T', X', e', st⟩ := Jvm.RoadKit.getF X hx hZ ho (host := "") (Or.inl w) Via.refl eT F hg hs hd
  exact (k T' ⟨hE, locs, X', e', hZ, ho, N⟩).via st
theorem Wk0.getSN (W : Wk0 p l e R s m args below meth c Z a0 EL own n0 T h cells slots) (hx : p.tables.exec = Jvm.exec) {O n d host : String} {index : Nat} (w : (Jvm.Cond.fieldLinkNest own index O n d host).before a0 Z = true) {v : Value} (F : Sta Z h O n d v)
    {g : JFrame} (hg : g.method = m) (hd : decode c.code g.pc = .ok (.getstatic index, 3))
    (k : ∀ T' : State, Wk0 p l e R s m args below meth c Z a0 EL own n0 T' h cells slots → Fi0 p e below s Z EF n0 Q kc ks (T'.setTop { g with pc := g.pc + 3, stack := v :: g.stack })) : Fi0 p e below s Z EF n0 Q kc ks (T.setTop g) := by
  obtain ⟨hE, locs, X, eT, hZ, ho, N⟩ := W
  obtain ⟨T', X', e', st⟩ := Jvm.RoadKit.getS2 (host := host) X hx hZ ho (Or.inr w) Via.refl eT F hg hd
  exact (k T' ⟨hE, locs, X', e', hZ, ho, N⟩).via st
theorem Wk0.aaload (W : Wk0 p l e R s m args below meth c Z a0 EL own n0 T h cells slots) (hx : p.tables.exec = Jvm.exec) {a : Addr} {k : ClassId} {ty : FieldType} {N : Int32} {vs : List Value} {d : Value} (A : Arv Z h a k ty N vs d) (hty : ty.isReference = true) {j : Int32} {v : Value} (hj : ¬ j < 0 ∧ j < N) (hv : vs.getD j.toNatClampNeg d = v)
    {g : JFrame} (hg : g.method = m) {rest : List Value} (hs : g.stack = .int j :: .ref a :: rest) (hd : decode c.code g.pc = .ok (.aaload, 1)) (f : Fi0 p e below s Z EF n0 Q kc ks (T.setTop { g with pc := g.pc + 1, stack := v :: rest })) : Fi0 p e below s Z EF n0 Q kc ks (T.setTop g) := by
  obtain ⟨hE, locs, X, eT, hZ, ho, N0⟩ := W
  obtain ⟨cl, A1, A2, A3, A4, A5, A6⟩ := A
  have hin := inb_of A3 hj
  exact f.via fun t ht => X.aaload hx (by rw [eT]; exact A1.1) (State.isArrayOf_alike (s := Z) hZ.alike A1.2.1) hty A1.2.2 hin (Has.at A5 hin hv) hg hs hd t ht
theorem Wk0.putF (W : Wk0 p l e R s m args below meth c Z a0 EL own n0 T h cells slots) (hx : p.tables.exec = Jvm.exec) {O n d C : String} {index kk : Nat} {ty : FieldType} (w : (Jvm.Cond.fieldLink own index O n d).before a0 Z = true) {a : Addr} {v old : Value} (F : Fld Z h a O n d old) (E : Exa Z h a C)
    (L : (Jvm.Cond.lays C O n d).before a0 Z = true) (wi : (Jvm.Cond.instantiable C kk).before a0 Z = true) (hty : parseFieldDescriptor d = some ty) (hn : narrow ty v = v) (hf : fits ty v = true)
    {g : JFrame} (hg : g.method = m) {rest : List Value} (hs : g.stack = v :: .ref a :: rest) (hd : decode c.code g.pc = .ok (.putfield index, 3)) (ha : n0 ≤ a)
    (k : ∀ (T' : State) (h' : Heap), Wk0 p l e R s m args below meth c Z a0 EL own n0 T' h' cells slots → Wr h h' a (Jvm.RoadKit.slotOf Z O n d) v → Fi0 p e below s Z EF n0 Q kc ks (T'.setTop { g with pc := g.pc + 3, stack := rest })) : Fi0 p e below s Z EF n0 Q kc ks (T.setTop g) := by
  obtain ⟨hE, locs, X, eT, hZ, ho, N⟩ := W
  obtain ⟨T', h', X', e', Wr', st⟩ := Jvm.RoadKit.putF X hx hZ ho (host := "") (Or.inl w) Via.refl eT F E (Or.inl L) wi hty hn hf hg hs hd
  exact (k T' h' ⟨hE, _, X', e', hZ, ho, Fr.snoc X' N ha⟩ Wr').via st
theorem Wk0.callF (W : Wk0 p l e R s m args below meth c Z a0 EL own n0 T h cells slots) (hx : p.tables.exec = Jvm.exec) {index count : Nat} {x y : MethodName} {C : String}
    (w1 : (Jvm.Cond.methodLink own index x).before a0 Z = true) (w2 : (Jvm.Cond.declares x).before a0 Z = true) (w3 : (Jvm.Cond.interfaceMethod x.cls x.cls x.name x.desc).before a0 Z = true) (hfa : ((Jvm.Cond.interfaceMethod x.cls x.cls x.name x.desc).onTables && (Jvm.Cond.interfaceMethod x.cls x.cls x.name x.desc).keepsFace) = true) (w4 : (Jvm.Cond.selects C x y).before a0 Z = true) (w5 : (Jvm.Cond.instanceMethod y).before a0 Z = true) (w6 : (Jvm.Cond.publicMethod y).before a0 Z = true) (w7 : (Jvm.Cond.unhidden C x.name x.desc).before a0 Z = true) (w8 : (Jvm.Cond.castable C x.cls).before a0 Z = true) (hy : x.cls ≠ "java/lang/invoke/MethodHandle" ∧ x.cls ≠ "java/lang/invoke/VarHandle")
    {Wd k n : Nat} {as' : Array Value} {Qy : Option Value → Heap → Prop} (P : Pay0 l R p e below s args Z EL n0 y Wd as' h Qy k n) {a : Addr} (E : Exa Z h a C)
    {g : JFrame} (hg : g.method = m) (hsize : g.locals.size = c.maxLocals) {argsL rest : List Value} (hlen : ∀ sig, parseMethodDescriptor x.desc = some sig → argsL.length = sig.parameters.length) (hstack : g.stack = argsL.reverse ++ .ref a :: rest) (has : (Value.ref a :: argsL).toArray = as') (hW : 2 * g.monitorRoom + (rest.map fun v => v.category).sum ≤ Wd)
    (hd : decode c.code g.pc = .ok (.invokeinterface index count, 5)) (hc : cells + k ≤ R.cells) (hl : slots + n ≤ R.slots)
    (kk : ∀ (v : Option Value) (T' : State) (h' : Heap), Wk0 p l e R s m args below meth c Z a0 EL own n0 T' h' (cells + k) (slots + n) → True → Qy v h' → Fi0 p e below s Z EF n0 Q kc ks (T'.setTop { g with pc := g.pc + 5, stack := v.toList ++ rest })) : Fi0 p e below s Z EF n0 Q kc ks (T.setTop g) := by
  obtain ⟨hE, locs, X, eT, hZ, ho, N⟩ := W
  obtain ⟨cq, kq, qa, qb, qc⟩ := isOf hZ eT E
  obtain ⟨v, vm1, ⟨U, L', k', n'⟩, -, X', ⟨L, ⟨NL, hq⟩, l1, l2, l3⟩, st⟩ := X.interfaceBack hx ho (mvT hZ w1) (mvT hZ w2) (mvT hZ w3 hfa) (mvT hZ w4) (mvT hZ w5) (mvT hZ w6) (mvT hZ w7) (mvT hZ w8) hy (P hZ) qa qb qc hg hsize (Steps.refl _) hlen hstack hW hd (fun _ _ => ⟨has, eT, hc, hl⟩)
  dsimp only [Pt.U, Pt.locs, Pt.cells, Pt.slots] at X' hq l1 l2 l3 st
  subst l1 l2 l3
  exact (kk v U U.heap ⟨hE, _, X', rfl, hZ, ho, N.app NL⟩ trivial hq).via fun t ht => st.trans ht
end Base8
end Jvm.OwnW

namespace Jvm.Pilot.@@N@@
open Jvm Jvm.ClassFile Sem Op Lib Jvm.Free Jvm.Stand Jvm.LawKit Jvm.RoadKit Bundle Jvm.OwnW Jvm.Pilot.@@N@@.Jvm.D
theorem ww {a0 : Array Value} {Z : State} (hw : ∀ d ∈ tables_1, d.before a0 Z = true) (i : Nat) {d : Jvm.Cond} (q : tables_1[i]? = some d) : d.before a0 Z = true := hw _ (List.mem_of_getElem? q)
theorem wS {a0 : Array Value} {Z : State} (hw : ∀ d ∈ tables_1, d.before a0 Z = true) : ∀ a ∈ Bundle.stringAtoms, a.before a0 Z = true := fun a ha => hw a ((by decide +kernel : ∀ d ∈ Bundle.stringAtoms, d ∈ tables_1) a ha)
def textAt (i : Nat) : String := match tables_1[i]? with | some (Jvm.Cond.stringLink _ _ t) => t | _ => ""
def EL : List (String × Nat) := [("java/lang/String", 7)]
theorem hEL {a0 : Array Value} {Z : State} (hw : ∀ d ∈ tables_1, d.before a0 Z = true) : EW Z a0 EL := (EW.cons (ww hw (i := 21) rfl) (by decide +kernel) EW.nil)
abbrev y_0 : MethodName := ⟨"java/lang/String", "isLatin1", "()Z"⟩
abbrev y_1 : MethodName := ⟨"jdk/internal/util/ArraysSupport", "signedHashCode", "(I[BII)I"⟩
abbrev y_2 : MethodName := ⟨"jdk/internal/util/ArraysSupport", "vectorizedHashCode", "(Ljava/lang/Object;IIII)I"⟩
abbrev y_3 : MethodName := ⟨"java/lang/StringLatin1", "hashCode", "([B)I"⟩
abbrev y_4 : MethodName := ⟨"java/lang/String", "hashCode", "()I"⟩
abbrev y_5 : MethodName := ⟨"java/util/ImmutableCollections$ListN", "size", "()I"⟩
abbrev y_6 : MethodName := ⟨"java/util/ImmutableCollections$ListN", "get", "(I)Ljava/lang/Object;"⟩
abbrev y_7 : MethodName := ⟨"java/util/ImmutableCollections$List12", "size", "()I"⟩
abbrev y_8 : MethodName := ⟨"java/util/ImmutableCollections$List12", "get", "(I)Ljava/lang/Object;"⟩
abbrev y_9 : MethodName := ⟨"java/util/ImmutableCollections$AbstractImmutableList", "size", "()I"⟩
abbrev y_10 : MethodName := ⟨"java/util/ImmutableCollections$AbstractImmutableList", "get", "(I)Ljava/lang/Object;"⟩
abbrev y_11 : MethodName := ⟨"java/lang/Object", "hashCode", "()I"⟩
abbrev y_12 : MethodName := ⟨"java/util/Objects", "hashCode", "(Ljava/lang/Object;)I"⟩
abbrev y_13 : MethodName := ⟨"java/util/ImmutableCollections$AbstractImmutableList", "hashCode", "()I"⟩
abbrev y_14 : MethodName := ⟨"java/util/Arrays", "hashCode", "([Ljava/lang/Object;)I"⟩
abbrev y_15 : MethodName := ⟨"java/util/Objects", "hash", "([Ljava/lang/Object;)I"⟩
abbrev y_16 : MethodName := ⟨"com/example/weftwork/weftwork/model/Service", "hashCode", "()I"⟩
abbrev y_17 : MethodName := ⟨"java/util/List", "get", "(I)Ljava/lang/Object;"⟩
abbrev y_18 : MethodName := ⟨"java/util/ImmutableCollections$ListItr", "next", "()Ljava/lang/Object;"⟩
abbrev y_19 : MethodName := ⟨"java/util/ImmutableCollections$ListItr", "hasNext", "()Z"⟩
abbrev y_20 : MethodName := ⟨"java/util/ImmutableCollections$ListItr", "<init>", "(Ljava/util/List;I)V"⟩
abbrev y_21 : MethodName := ⟨"java/util/ImmutableCollections$AbstractImmutableList", "iterator", "()Ljava/util/Iterator;"⟩
abbrev y_22 : MethodName := ⟨"java/lang/String", "equals", "(Ljava/lang/Object;)Z"⟩
abbrev y_23 : MethodName := ⟨"java/lang/Object", "equals", "(Ljava/lang/Object;)Z"⟩
abbrev y_24 : MethodName := ⟨"java/util/Objects", "equals", "(Ljava/lang/Object;Ljava/lang/Object;)Z"⟩
abbrev y_25 : MethodName := ⟨"java/util/List", "iterator", "()Ljava/util/Iterator;"⟩
abbrev y_26 : MethodName := ⟨"java/util/Iterator", "hasNext", "()Z"⟩
abbrev y_27 : MethodName := ⟨"java/util/Iterator", "next", "()Ljava/lang/Object;"⟩
abbrev y_28 : MethodName := ⟨"java/util/ImmutableCollections$AbstractImmutableList", "equals", "(Ljava/lang/Object;)Z"⟩
abbrev y_29 : MethodName := ⟨"java/util/List", "equals", "(Ljava/lang/Object;)Z"⟩
abbrev y_30 : MethodName := ⟨"com/example/weftwork/weftwork/model/Service", "equals", "(Ljava/lang/Object;)Z"⟩
abbrev y_31 : MethodName := ⟨"java/lang/String", "<init>", "([CIILjava/lang/Void;)V"⟩
abbrev y_32 : MethodName := ⟨"java/lang/String", "<init>", "([C)V"⟩
abbrev y_33 : MethodName := ⟨"com/example/weftwork/weftwork/model/ServiceHashCodePinLaw", "name", "(II)Ljava/lang/String;"⟩
abbrev y_34 : MethodName := ⟨"com/example/weftwork/weftwork/model/ServiceHashCodePinLaw", "name2", "(III)Ljava/lang/String;"⟩
abbrev y_35 : MethodName := ⟨"java/lang/StringLatin1", "canEncode", "(C)Z"⟩
abbrev y_36 : MethodName := ⟨"java/lang/StringLatin1", "toBytes", "(C)[B"⟩
abbrev y_37 : MethodName := ⟨"java/lang/String", "<init>", "([BB)V"⟩
abbrev y_38 : MethodName := ⟨"java/lang/String", "valueOf", "(C)Ljava/lang/String;"⟩
abbrev y_39 : MethodName := ⟨"java/util/AbstractCollection", "<init>", "()V"⟩
abbrev y_40 : MethodName := ⟨"java/util/AbstractList", "<init>", "()V"⟩
abbrev y_41 : MethodName := ⟨"java/util/ArrayList", "<init>", "()V"⟩
abbrev y_42 : MethodName := ⟨"java/lang/Math", "max", "(II)I"⟩
abbrev y_43 : MethodName := ⟨"java/util/ArrayList", "grow", "(I)[Ljava/lang/Object;"⟩
abbrev y_44 : MethodName := ⟨"java/util/ArrayList", "grow", "()[Ljava/lang/Object;"⟩
abbrev y_45 : MethodName := ⟨"java/util/ArrayList", "add", "(Ljava/lang/Object;[Ljava/lang/Object;I)V"⟩
abbrev y_46 : MethodName := ⟨"java/util/ArrayList", "add", "(Ljava/lang/Object;)Z"⟩
abbrev y_47 : MethodName := ⟨"com/example/weftwork/weftwork/model/ServiceHashCodePinLaw", "list", "(II)Ljava/util/ArrayList;"⟩
abbrev y_48 : MethodName := ⟨"java/lang/Math", "min", "(II)I"⟩
abbrev y_49 : MethodName := ⟨"java/util/Arrays", "copyOf", "([Ljava/lang/Object;ILjava/lang/Class;)[Ljava/lang/Object;"⟩
abbrev y_50 : MethodName := ⟨"java/util/Arrays", "copyOf", "([Ljava/lang/Object;I)[Ljava/lang/Object;"⟩
abbrev y_51 : MethodName := ⟨"java/util/ArrayList", "toArray", "()[Ljava/lang/Object;"⟩
abbrev y_52 : MethodName := ⟨"java/util/ArrayList", "isEmpty", "()Z"⟩
abbrev y_53 : MethodName := ⟨"java/util/List", "of", "()Ljava/util/List;"⟩
abbrev y_54 : MethodName := ⟨"java/util/Objects", "requireNonNull", "(Ljava/lang/Object;)Ljava/lang/Object;"⟩
abbrev y_55 : MethodName := ⟨"java/util/ImmutableCollections$AbstractImmutableCollection", "<init>", "()V"⟩
abbrev y_56 : MethodName := ⟨"java/util/ImmutableCollections$AbstractImmutableList", "<init>", "()V"⟩
abbrev y_57 : MethodName := ⟨"java/util/ImmutableCollections$List12", "<init>", "(Ljava/lang/Object;)V"⟩
abbrev y_58 : MethodName := ⟨"java/util/ImmutableCollections$List12", "<init>", "(Ljava/lang/Object;Ljava/lang/Object;)V"⟩
abbrev y_59 : MethodName := ⟨"java/util/ImmutableCollections$ListN", "<init>", "([Ljava/lang/Object;Z)V"⟩
abbrev y_60 : MethodName := ⟨"java/util/ImmutableCollections", "listFromArray", "([Ljava/lang/Object;)Ljava/util/List;"⟩
abbrev y_61 : MethodName := ⟨"java/util/List", "of", "([Ljava/lang/Object;)Ljava/util/List;"⟩
abbrev y_62 : MethodName := ⟨"java/util/Collection", "isEmpty", "()Z"⟩
abbrev y_63 : MethodName := ⟨"java/util/Collection", "toArray", "()[Ljava/lang/Object;"⟩
abbrev y_64 : MethodName := ⟨"java/util/ImmutableCollections", "listCopy", "(Ljava/util/Collection;)Ljava/util/List;"⟩
abbrev y_65 : MethodName := ⟨"java/util/List", "copyOf", "(Ljava/util/Collection;)Ljava/util/List;"⟩
abbrev y_66 : MethodName := ⟨"com/example/weftwork/weftwork/model/Service", "<init>", "(Ljava/lang/String;Ljava/util/List;Ljava/util/List;)V"⟩
theorem ble_ {a b : Nat} (h : Nat.ble a b = true) : a ≤ b := Nat.le_of_ble_eq_true h
theorem d18_0 : decode jdk_42_method_154_code 0 = .ok (.getstatic 38, 3) := by decide +kernel
theorem d18_3 : decode jdk_42_method_154_code 3 = .ok (.ifCond .eq 14, 3) := by decide +kernel
theorem d18_6 : decode jdk_42_method_154_code 6 = .ok (.aload_n 0, 1) := by decide +kernel
theorem d18_7 : decode jdk_42_method_154_code 7 = .ok (.getfield 15, 3) := by decide +kernel
theorem d18_10 : decode jdk_42_method_154_code 10 = .ok (.ifCond .ne 7, 3) := by decide +kernel
theorem d18_13 : decode jdk_42_method_154_code 13 = .ok (.iconst 1, 1) := by decide +kernel
theorem d18_14 : decode jdk_42_method_154_code 14 = .ok (.goto 4, 3) := by decide +kernel
theorem d18_18 : decode jdk_42_method_154_code 18 = .ok (.ireturn, 1) := by decide +kernel
theorem d48_0 : decode jdk_48_method_5_code 0 = .ok (.iload_n 2, 1) := by decide +kernel
theorem d48_1 : decode jdk_48_method_5_code 1 = .ok (.iload_n 3, 1) := by decide +kernel
theorem d48_2 : decode jdk_48_method_5_code 2 = .ok (.iadd, 1) := by decide +kernel
theorem d48_3 : decode jdk_48_method_5_code 3 = .ok (.istore 4, 2) := by decide +kernel
theorem d48_5 : decode jdk_48_method_5_code 5 = .ok (.iload_n 2, 1) := by decide +kernel
theorem d48_6 : decode jdk_48_method_5_code 6 = .ok (.istore 5, 2) := by decide +kernel
theorem d48_8 : decode jdk_48_method_5_code 8 = .ok (.iload 5, 2) := by decide +kernel
theorem d48_10 : decode jdk_48_method_5_code 10 = .ok (.iload 4, 2) := by decide +kernel
theorem d48_12 : decode jdk_48_method_5_code 12 = .ok (.if_icmp .ge 23, 3) := by decide +kernel
theorem d48_15 : decode jdk_48_method_5_code 15 = .ok (.bipush 31, 2) := by decide +kernel
theorem d48_17 : decode jdk_48_method_5_code 17 = .ok (.iload_n 0, 1) := by decide +kernel
theorem d48_18 : decode jdk_48_method_5_code 18 = .ok (.imul, 1) := by decide +kernel
theorem d48_19 : decode jdk_48_method_5_code 19 = .ok (.aload_n 1, 1) := by decide +kernel
theorem d48_20 : decode jdk_48_method_5_code 20 = .ok (.iload 5, 2) := by decide +kernel
theorem d48_22 : decode jdk_48_method_5_code 22 = .ok (.baload, 1) := by decide +kernel
theorem d48_23 : decode jdk_48_method_5_code 23 = .ok (.sipush 255, 3) := by decide +kernel
theorem d48_26 : decode jdk_48_method_5_code 26 = .ok (.iand, 1) := by decide +kernel
theorem d48_27 : decode jdk_48_method_5_code 27 = .ok (.iadd, 1) := by decide +kernel
theorem d48_28 : decode jdk_48_method_5_code 28 = .ok (.istore_n 0, 1) := by decide +kernel
theorem d48_29 : decode jdk_48_method_5_code 29 = .ok (.iinc 5 1, 3) := by decide +kernel
theorem d48_32 : decode jdk_48_method_5_code 32 = .ok (.goto (-24), 3) := by decide +kernel
theorem d48_35 : decode jdk_48_method_5_code 35 = .ok (.iload_n 0, 1) := by decide +kernel
theorem d48_36 : decode jdk_48_method_5_code 36 = .ok (.ireturn, 1) := by decide +kernel
theorem d47_0 : decode jdk_48_method_4_code 0 = .ok (.iload 4, 2) := by decide +kernel
theorem d47_2 : decode jdk_48_method_4_code 2 = .ok (.tableswitch 127 4 10 #[42, 55, 127, 127, 88, 101, 114], 42) := by decide +kernel
theorem d47_44 : decode jdk_48_method_4_code 44 = .ok (.iload_n 3, 1) := by decide +kernel
theorem d47_45 : decode jdk_48_method_4_code 45 = .ok (.aload_n 0, 1) := by decide +kernel
theorem d47_46 : decode jdk_48_method_4_code 46 = .ok (.checkcast 60, 3) := by decide +kernel
theorem d47_49 : decode jdk_48_method_4_code 49 = .ok (.iload_n 1, 1) := by decide +kernel
theorem d47_50 : decode jdk_48_method_4_code 50 = .ok (.iload_n 2, 1) := by decide +kernel
theorem d47_51 : decode jdk_48_method_4_code 51 = .ok (.invokestatic 62, 3) := by decide +kernel
theorem d47_54 : decode jdk_48_method_4_code 54 = .ok (.goto 103, 3) := by decide +kernel
theorem d47_157 : decode jdk_48_method_4_code 157 = .ok (.ireturn, 1) := by decide +kernel
theorem d19_0 : decode jdk_43_method_21_code 0 = .ok (.aload_n 0, 1) := by decide +kernel
theorem d19_1 : decode jdk_43_method_21_code 1 = .ok (.arraylength, 1) := by decide +kernel
theorem d19_2 : decode jdk_43_method_21_code 2 = .ok (.lookupswitch 40 #[(0, 26), (1, 30)], 26) := by decide +kernel
theorem d19_28 : decode jdk_43_method_21_code 28 = .ok (.iconst 0, 1) := by decide +kernel
theorem d19_29 : decode jdk_43_method_21_code 29 = .ok (.goto 22, 3) := by decide +kernel
theorem d19_51 : decode jdk_43_method_21_code 51 = .ok (.ireturn, 1) := by decide +kernel
theorem d19_32 : decode jdk_43_method_21_code 32 = .ok (.aload_n 0, 1) := by decide +kernel
theorem d19_33 : decode jdk_43_method_21_code 33 = .ok (.iconst 0, 1) := by decide +kernel
theorem d19_34 : decode jdk_43_method_21_code 34 = .ok (.baload, 1) := by decide +kernel
theorem d19_35 : decode jdk_43_method_21_code 35 = .ok (.sipush 255, 3) := by decide +kernel
theorem d19_38 : decode jdk_43_method_21_code 38 = .ok (.iand, 1) := by decide +kernel
theorem d19_39 : decode jdk_43_method_21_code 39 = .ok (.goto 12, 3) := by decide +kernel
theorem d19_42 : decode jdk_43_method_21_code 42 = .ok (.aload_n 0, 1) := by decide +kernel
theorem d19_43 : decode jdk_43_method_21_code 43 = .ok (.iconst 0, 1) := by decide +kernel
theorem d19_44 : decode jdk_43_method_21_code 44 = .ok (.aload_n 0, 1) := by decide +kernel
theorem d19_45 : decode jdk_43_method_21_code 45 = .ok (.arraylength, 1) := by decide +kernel
theorem d19_46 : decode jdk_43_method_21_code 46 = .ok (.iconst 0, 1) := by decide +kernel
theorem d19_47 : decode jdk_43_method_21_code 47 = .ok (.iconst 4, 1) := by decide +kernel
theorem d19_48 : decode jdk_43_method_21_code 48 = .ok (.invokestatic 84, 3) := by decide +kernel
theorem d17_0 : decode jdk_42_method_78_code 0 = .ok (.aload_n 0, 1) := by decide +kernel
theorem d17_1 : decode jdk_42_method_78_code 1 = .ok (.getfield 19, 3) := by decide +kernel
theorem d17_4 : decode jdk_42_method_78_code 4 = .ok (.istore_n 1, 1) := by decide +kernel
theorem d17_5 : decode jdk_42_method_78_code 5 = .ok (.iload_n 1, 1) := by decide +kernel
theorem d17_6 : decode jdk_42_method_78_code 6 = .ok (.ifCond .ne 52, 3) := by decide +kernel
theorem d17_9 : decode jdk_42_method_78_code 9 = .ok (.aload_n 0, 1) := by decide +kernel
theorem d17_10 : decode jdk_42_method_78_code 10 = .ok (.getfield 23, 3) := by decide +kernel
theorem d17_13 : decode jdk_42_method_78_code 13 = .ok (.ifCond .ne 45, 3) := by decide +kernel
theorem d17_16 : decode jdk_42_method_78_code 16 = .ok (.aload_n 0, 1) := by decide +kernel
theorem d17_17 : decode jdk_42_method_78_code 17 = .ok (.invokevirtual 492, 3) := by decide +kernel
theorem d17_20 : decode jdk_42_method_78_code 20 = .ok (.ifCond .eq 13, 3) := by decide +kernel
theorem d17_23 : decode jdk_42_method_78_code 23 = .ok (.aload_n 0, 1) := by decide +kernel
theorem d17_24 : decode jdk_42_method_78_code 24 = .ok (.getfield 9, 3) := by decide +kernel
theorem d17_27 : decode jdk_42_method_78_code 27 = .ok (.invokestatic 628, 3) := by decide +kernel
theorem d17_30 : decode jdk_42_method_78_code 30 = .ok (.goto 10, 3) := by decide +kernel
theorem d17_40 : decode jdk_42_method_78_code 40 = .ok (.istore_n 1, 1) := by decide +kernel
theorem d17_41 : decode jdk_42_method_78_code 41 = .ok (.iload_n 1, 1) := by decide +kernel
theorem d17_42 : decode jdk_42_method_78_code 42 = .ok (.ifCond .ne 11, 3) := by decide +kernel
theorem d17_45 : decode jdk_42_method_78_code 45 = .ok (.aload_n 0, 1) := by decide +kernel
theorem d17_46 : decode jdk_42_method_78_code 46 = .ok (.iconst 1, 1) := by decide +kernel
theorem d17_47 : decode jdk_42_method_78_code 47 = .ok (.putfield 23, 3) := by decide +kernel
theorem d17_50 : decode jdk_42_method_78_code 50 = .ok (.goto 8, 3) := by decide +kernel
theorem d17_58 : decode jdk_42_method_78_code 58 = .ok (.iload_n 1, 1) := by decide +kernel
theorem d17_59 : decode jdk_42_method_78_code 59 = .ok (.ireturn, 1) := by decide +kernel
theorem d17_53 : decode jdk_42_method_78_code 53 = .ok (.aload_n 0, 1) := by decide +kernel
theorem d17_54 : decode jdk_42_method_78_code 54 = .ok (.iload_n 1, 1) := by decide +kernel
theorem d17_55 : decode jdk_42_method_78_code 55 = .ok (.putfield 19, 3) := by decide +kernel
theorem d21_0 : decode jdk_45_method_3_code 0 = .ok (.aload_n 0, 1) := by decide +kernel
theorem d21_1 : decode jdk_45_method_3_code 1 = .ok (.getfield 7, 3) := by decide +kernel
theorem d21_4 : decode jdk_45_method_3_code 4 = .ok (.arraylength, 1) := by decide +kernel
theorem d21_5 : decode jdk_45_method_3_code 5 = .ok (.ireturn, 1) := by decide +kernel
theorem d60_0 : decode jdk_45_method_4_code 0 = .ok (.aload_n 0, 1) := by decide +kernel
theorem d60_1 : decode jdk_45_method_4_code 1 = .ok (.getfield 7, 3) := by decide +kernel
theorem d60_4 : decode jdk_45_method_4_code 4 = .ok (.iload_n 1, 1) := by decide +kernel
theorem d60_5 : decode jdk_45_method_4_code 5 = .ok (.aaload, 1) := by decide +kernel
theorem d60_6 : decode jdk_45_method_4_code 6 = .ok (.areturn, 1) := by decide +kernel
theorem d49_0 : decode jdk_44_method_3_code 0 = .ok (.aload_n 0, 1) := by decide +kernel
theorem d49_1 : decode jdk_44_method_3_code 1 = .ok (.getfield 24, 3) := by decide +kernel
theorem d49_4 : decode jdk_44_method_3_code 4 = .ok (.getstatic 19, 3) := by decide +kernel
theorem d49_7 : decode jdk_44_method_3_code 7 = .ok (.if_acmp .eq 7, 3) := by decide +kernel
theorem d49_14 : decode jdk_44_method_3_code 14 = .ok (.iconst 1, 1) := by decide +kernel
theorem d49_15 : decode jdk_44_method_3_code 15 = .ok (.ireturn, 1) := by decide +kernel
theorem d50_0 : decode jdk_44_method_5_code 0 = .ok (.iload_n 1, 1) := by decide +kernel
theorem d50_1 : decode jdk_44_method_5_code 1 = .ok (.ifCond .ne 8, 3) := by decide +kernel
theorem d50_4 : decode jdk_44_method_5_code 4 = .ok (.aload_n 0, 1) := by decide +kernel
theorem d50_5 : decode jdk_44_method_5_code 5 = .ok (.getfield 13, 3) := by decide +kernel
theorem d50_8 : decode jdk_44_method_5_code 8 = .ok (.areturn, 1) := by decide +kernel
theorem d49_10 : decode jdk_44_method_3_code 10 = .ok (.iconst 2, 1) := by decide +kernel
theorem d49_11 : decode jdk_44_method_3_code 11 = .ok (.goto 4, 3) := by decide +kernel
theorem d50_9 : decode jdk_44_method_5_code 9 = .ok (.iload_n 1, 1) := by decide +kernel
theorem d50_10 : decode jdk_44_method_5_code 10 = .ok (.iconst 1, 1) := by decide +kernel
theorem d50_11 : decode jdk_44_method_5_code 11 = .ok (.if_icmp .ne 18, 3) := by decide +kernel
theorem d50_14 : decode jdk_44_method_5_code 14 = .ok (.aload_n 0, 1) := by decide +kernel
theorem d50_15 : decode jdk_44_method_5_code 15 = .ok (.getfield 24, 3) := by decide +kernel
theorem d50_18 : decode jdk_44_method_5_code 18 = .ok (.getstatic 19, 3) := by decide +kernel
theorem d50_21 : decode jdk_44_method_5_code 21 = .ok (.if_acmp .eq 8, 3) := by decide +kernel
theorem d50_24 : decode jdk_44_method_5_code 24 = .ok (.aload_n 0, 1) := by decide +kernel
theorem d50_25 : decode jdk_44_method_5_code 25 = .ok (.getfield 24, 3) := by decide +kernel
theorem d50_28 : decode jdk_44_method_5_code 28 = .ok (.areturn, 1) := by decide +kernel
theorem d51_0 : decode jdk_31_method_4_code 0 = .ok (.aload_n 0, 1) := by decide +kernel
theorem d51_1 : decode jdk_31_method_4_code 1 = .ok (.ifnull 10, 3) := by decide +kernel
theorem d51_4 : decode jdk_31_method_4_code 4 = .ok (.aload_n 0, 1) := by decide +kernel
theorem d51_5 : decode jdk_31_method_4_code 5 = .ok (.invokevirtual 24, 3) := by decide +kernel
theorem d51_8 : decode jdk_31_method_4_code 8 = .ok (.goto 4, 3) := by decide +kernel
theorem d51_12 : decode jdk_31_method_4_code 12 = .ok (.ireturn, 1) := by decide +kernel
theorem d20_0 : decode jdk_46_method_14_code 0 = .ok (.iconst 1, 1) := by decide +kernel
theorem d20_1 : decode jdk_46_method_14_code 1 = .ok (.istore_n 1, 1) := by decide +kernel
theorem d20_2 : decode jdk_46_method_14_code 2 = .ok (.iconst 0, 1) := by decide +kernel
theorem d20_3 : decode jdk_46_method_14_code 3 = .ok (.istore_n 2, 1) := by decide +kernel
theorem d20_4 : decode jdk_46_method_14_code 4 = .ok (.aload_n 0, 1) := by decide +kernel
theorem d20_5 : decode jdk_46_method_14_code 5 = .ok (.invokevirtual 13, 3) := by decide +kernel
theorem d20_8 : decode jdk_46_method_14_code 8 = .ok (.istore_n 3, 1) := by decide +kernel
theorem d20_9 : decode jdk_46_method_14_code 9 = .ok (.iload_n 2, 1) := by decide +kernel
theorem d20_10 : decode jdk_46_method_14_code 10 = .ok (.iload_n 3, 1) := by decide +kernel
theorem d20_11 : decode jdk_46_method_14_code 11 = .ok (.if_icmp .ge 23, 3) := by decide +kernel
theorem d20_34 : decode jdk_46_method_14_code 34 = .ok (.iload_n 1, 1) := by decide +kernel
theorem d20_35 : decode jdk_46_method_14_code 35 = .ok (.ireturn, 1) := by decide +kernel
theorem d20_14 : decode jdk_46_method_14_code 14 = .ok (.bipush 31, 2) := by decide +kernel
theorem d20_16 : decode jdk_46_method_14_code 16 = .ok (.iload_n 1, 1) := by decide +kernel
theorem d20_17 : decode jdk_46_method_14_code 17 = .ok (.imul, 1) := by decide +kernel
theorem d20_18 : decode jdk_46_method_14_code 18 = .ok (.aload_n 0, 1) := by decide +kernel
theorem d20_19 : decode jdk_46_method_14_code 19 = .ok (.iload_n 2, 1) := by decide +kernel
theorem d20_20 : decode jdk_46_method_14_code 20 = .ok (.invokevirtual 89, 3) := by decide +kernel
theorem d20_23 : decode jdk_46_method_14_code 23 = .ok (.invokestatic 103, 3) := by decide +kernel
theorem d20_26 : decode jdk_46_method_14_code 26 = .ok (.iadd, 1) := by decide +kernel
theorem d20_27 : decode jdk_46_method_14_code 27 = .ok (.istore_n 1, 1) := by decide +kernel
theorem d20_28 : decode jdk_46_method_14_code 28 = .ok (.iinc 2 1, 3) := by decide +kernel
theorem d20_31 : decode jdk_46_method_14_code 31 = .ok (.goto (-22), 3) := by decide +kernel
theorem d16_0 : decode jdk_65_method_157_code 0 = .ok (.aload_n 0, 1) := by decide +kernel
theorem d16_1 : decode jdk_65_method_157_code 1 = .ok (.ifnonnull 5, 3) := by decide +kernel
theorem d16_6 : decode jdk_65_method_157_code 6 = .ok (.iconst 1, 1) := by decide +kernel
theorem d16_7 : decode jdk_65_method_157_code 7 = .ok (.istore_n 1, 1) := by decide +kernel
theorem d16_8 : decode jdk_65_method_157_code 8 = .ok (.aload_n 0, 1) := by decide +kernel
theorem d16_9 : decode jdk_65_method_157_code 9 = .ok (.astore_n 2, 1) := by decide +kernel
theorem d16_10 : decode jdk_65_method_157_code 10 = .ok (.aload_n 2, 1) := by decide +kernel
theorem d16_11 : decode jdk_65_method_157_code 11 = .ok (.arraylength, 1) := by decide +kernel
theorem d16_12 : decode jdk_65_method_157_code 12 = .ok (.istore_n 3, 1) := by decide +kernel
theorem d16_13 : decode jdk_65_method_157_code 13 = .ok (.iconst 0, 1) := by decide +kernel
theorem d16_14 : decode jdk_65_method_157_code 14 = .ok (.istore 4, 2) := by decide +kernel
theorem d16_16 : decode jdk_65_method_157_code 16 = .ok (.iload 4, 2) := by decide +kernel
theorem d16_18 : decode jdk_65_method_157_code 18 = .ok (.iload_n 3, 1) := by decide +kernel
theorem d16_19 : decode jdk_65_method_157_code 19 = .ok (.if_icmp .ge 35, 3) := by decide +kernel
theorem d16_22 : decode jdk_65_method_157_code 22 = .ok (.aload_n 2, 1) := by decide +kernel
theorem d16_23 : decode jdk_65_method_157_code 23 = .ok (.iload 4, 2) := by decide +kernel
theorem d16_25 : decode jdk_65_method_157_code 25 = .ok (.aaload, 1) := by decide +kernel
theorem d16_26 : decode jdk_65_method_157_code 26 = .ok (.astore 5, 2) := by decide +kernel
theorem d16_28 : decode jdk_65_method_157_code 28 = .ok (.bipush 31, 2) := by decide +kernel
theorem d16_30 : decode jdk_65_method_157_code 30 = .ok (.iload_n 1, 1) := by decide +kernel
theorem d16_31 : decode jdk_65_method_157_code 31 = .ok (.imul, 1) := by decide +kernel
theorem d16_32 : decode jdk_65_method_157_code 32 = .ok (.aload 5, 2) := by decide +kernel
theorem d16_34 : decode jdk_65_method_157_code 34 = .ok (.ifnonnull 7, 3) := by decide +kernel
theorem d16_41 : decode jdk_65_method_157_code 41 = .ok (.aload 5, 2) := by decide +kernel
theorem d16_43 : decode jdk_65_method_157_code 43 = .ok (.invokevirtual 383, 3) := by decide +kernel
theorem d16_46 : decode jdk_65_method_157_code 46 = .ok (.iadd, 1) := by decide +kernel
theorem d16_47 : decode jdk_65_method_157_code 47 = .ok (.istore_n 1, 1) := by decide +kernel
theorem d16_48 : decode jdk_65_method_157_code 48 = .ok (.iinc 4 1, 3) := by decide +kernel
theorem d16_51 : decode jdk_65_method_157_code 51 = .ok (.goto (-35), 3) := by decide +kernel
theorem d16_54 : decode jdk_65_method_157_code 54 = .ok (.iload_n 1, 1) := by decide +kernel
theorem d16_55 : decode jdk_65_method_157_code 55 = .ok (.ireturn, 1) := by decide +kernel
theorem d15_0 : decode jdk_31_method_5_code 0 = .ok (.aload_n 0, 1) := by decide +kernel
theorem d15_1 : decode jdk_31_method_5_code 1 = .ok (.invokestatic 28, 3) := by decide +kernel
theorem d15_4 : decode jdk_31_method_5_code 4 = .ok (.ireturn, 1) := by decide +kernel
theorem d14_0 : decode prog_28_method_6_code 0 = .ok (.iconst 3, 1) := by decide +kernel
theorem d14_1 : decode prog_28_method_6_code 1 = .ok (.anewarray 2, 3) := by decide +kernel
theorem d14_4 : decode prog_28_method_6_code 4 = .ok (.dup, 1) := by decide +kernel
theorem d14_5 : decode prog_28_method_6_code 5 = .ok (.iconst 0, 1) := by decide +kernel
theorem d14_6 : decode prog_28_method_6_code 6 = .ok (.aload_n 0, 1) := by decide +kernel
theorem d14_7 : decode prog_28_method_6_code 7 = .ok (.getfield 7, 3) := by decide +kernel
theorem d14_10 : decode prog_28_method_6_code 10 = .ok (.aastore, 1) := by decide +kernel
theorem d14_11 : decode prog_28_method_6_code 11 = .ok (.dup, 1) := by decide +kernel
theorem d14_12 : decode prog_28_method_6_code 12 = .ok (.iconst 1, 1) := by decide +kernel
theorem d14_13 : decode prog_28_method_6_code 13 = .ok (.aload_n 0, 1) := by decide +kernel
theorem d14_14 : decode prog_28_method_6_code 14 = .ok (.getfield 19, 3) := by decide +kernel
theorem d14_17 : decode prog_28_method_6_code 17 = .ok (.aastore, 1) := by decide +kernel
theorem d14_18 : decode prog_28_method_6_code 18 = .ok (.dup, 1) := by decide +kernel
theorem d14_19 : decode prog_28_method_6_code 19 = .ok (.iconst 2, 1) := by decide +kernel
theorem d14_20 : decode prog_28_method_6_code 20 = .ok (.aload_n 0, 1) := by decide +kernel
theorem d14_21 : decode prog_28_method_6_code 21 = .ok (.getfield 23, 3) := by decide +kernel
theorem d14_24 : decode prog_28_method_6_code 24 = .ok (.aastore, 1) := by decide +kernel
theorem d14_25 : decode prog_28_method_6_code 25 = .ok (.invokestatic 33, 3) := by decide +kernel
theorem d14_28 : decode prog_28_method_6_code 28 = .ok (.ireturn, 1) := by decide +kernel
theorem d55_0 : decode jdk_53_method_4_code 0 = .ok (.aload_n 0, 1) := by decide +kernel
theorem d55_1 : decode jdk_53_method_4_code 1 = .ok (.getfield 17, 3) := by decide +kernel
theorem d55_4 : decode jdk_53_method_4_code 4 = .ok (.istore_n 1, 1) := by decide +kernel
theorem d55_5 : decode jdk_53_method_4_code 5 = .ok (.aload_n 0, 1) := by decide +kernel
theorem d55_6 : decode jdk_53_method_4_code 6 = .ok (.getfield 7, 3) := by decide +kernel
theorem d55_9 : decode jdk_53_method_4_code 9 = .ok (.iload_n 1, 1) := by decide +kernel
theorem d55_10 : decode jdk_53_method_4_code 10 = .ok (.invokeinterface 24 2, 5) := by decide +kernel
theorem d55_15 : decode jdk_53_method_4_code 15 = .ok (.astore_n 2, 1) := by decide +kernel
theorem d55_16 : decode jdk_53_method_4_code 16 = .ok (.aload_n 0, 1) := by decide +kernel
theorem d55_17 : decode jdk_53_method_4_code 17 = .ok (.iload_n 1, 1) := by decide +kernel
theorem d55_18 : decode jdk_53_method_4_code 18 = .ok (.iconst 1, 1) := by decide +kernel
theorem d55_19 : decode jdk_53_method_4_code 19 = .ok (.iadd, 1) := by decide +kernel
theorem d55_20 : decode jdk_53_method_4_code 20 = .ok (.putfield 17, 3) := by decide +kernel
theorem d55_23 : decode jdk_53_method_4_code 23 = .ok (.aload_n 2, 1) := by decide +kernel
theorem d55_24 : decode jdk_53_method_4_code 24 = .ok (.areturn, 1) := by decide +kernel
theorem d54_0 : decode jdk_53_method_3_code 0 = .ok (.aload_n 0, 1) := by decide +kernel
theorem d54_1 : decode jdk_53_method_3_code 1 = .ok (.getfield 17, 3) := by decide +kernel
theorem d54_4 : decode jdk_53_method_3_code 4 = .ok (.aload_n 0, 1) := by decide +kernel
theorem d54_5 : decode jdk_53_method_3_code 5 = .ok (.getfield 13, 3) := by decide +kernel
theorem d54_8 : decode jdk_53_method_3_code 8 = .ok (.if_icmp .eq 7, 3) := by decide +kernel
theorem d54_15 : decode jdk_53_method_3_code 15 = .ok (.iconst 0, 1) := by decide +kernel
theorem d54_16 : decode jdk_53_method_3_code 16 = .ok (.ireturn, 1) := by decide +kernel
theorem d54_11 : decode jdk_53_method_3_code 11 = .ok (.iconst 1, 1) := by decide +kernel
theorem d54_12 : decode jdk_53_method_3_code 12 = .ok (.goto 4, 3) := by decide +kernel
theorem d53_0 : decode jdk_53_method_1_code 0 = .ok (.aload_n 0, 1) := by decide +kernel
theorem d53_1 : decode jdk_53_method_1_code 1 = .ok (.invokespecial 1, 3) := by decide +kernel
theorem d53_4 : decode jdk_53_method_1_code 4 = .ok (.aload_n 0, 1) := by decide +kernel
theorem d53_5 : decode jdk_53_method_1_code 5 = .ok (.aload_n 1, 1) := by decide +kernel
theorem d53_6 : decode jdk_53_method_1_code 6 = .ok (.putfield 7, 3) := by decide +kernel
theorem d53_9 : decode jdk_53_method_1_code 9 = .ok (.aload_n 0, 1) := by decide +kernel
theorem d53_10 : decode jdk_53_method_1_code 10 = .ok (.iload_n 2, 1) := by decide +kernel
theorem d53_11 : decode jdk_53_method_1_code 11 = .ok (.putfield 13, 3) := by decide +kernel
theorem d53_14 : decode jdk_53_method_1_code 14 = .ok (.aload_n 0, 1) := by decide +kernel
theorem d53_15 : decode jdk_53_method_1_code 15 = .ok (.iconst 0, 1) := by decide +kernel
theorem d53_16 : decode jdk_53_method_1_code 16 = .ok (.putfield 17, 3) := by decide +kernel
theorem d53_19 : decode jdk_53_method_1_code 19 = .ok (.aload_n 0, 1) := by decide +kernel
theorem d53_20 : decode jdk_53_method_1_code 20 = .ok (.iconst 0, 1) := by decide +kernel
theorem d53_21 : decode jdk_53_method_1_code 21 = .ok (.putfield 20, 3) := by decide +kernel
theorem d53_24 : decode jdk_53_method_1_code 24 = .ok (.return_, 1) := by decide +kernel
theorem d52_0 : decode jdk_46_method_10_code 0 = .ok (.new 61, 3) := by decide +kernel
theorem d52_3 : decode jdk_46_method_10_code 3 = .ok (.dup, 1) := by decide +kernel
theorem d52_4 : decode jdk_46_method_10_code 4 = .ok (.aload_n 0, 1) := by decide +kernel
theorem d52_5 : decode jdk_46_method_10_code 5 = .ok (.aload_n 0, 1) := by decide +kernel
theorem d52_6 : decode jdk_46_method_10_code 6 = .ok (.invokevirtual 13, 3) := by decide +kernel
theorem d52_9 : decode jdk_46_method_10_code 9 = .ok (.invokespecial 63, 3) := by decide +kernel
theorem d52_12 : decode jdk_46_method_10_code 12 = .ok (.areturn, 1) := by decide +kernel
theorem d56_0 : decode jdk_31_method_2_code 0 = .ok (.aload_n 0, 1) := by decide +kernel
theorem d56_1 : decode jdk_31_method_2_code 1 = .ok (.aload_n 1, 1) := by decide +kernel
theorem d56_2 : decode jdk_31_method_2_code 2 = .ok (.if_acmp .eq 15, 3) := by decide +kernel
theorem d56_17 : decode jdk_31_method_2_code 17 = .ok (.iconst 1, 1) := by decide +kernel
theorem d56_18 : decode jdk_31_method_2_code 18 = .ok (.goto 4, 3) := by decide +kernel
theorem d56_22 : decode jdk_31_method_2_code 22 = .ok (.ireturn, 1) := by decide +kernel
theorem d56_5 : decode jdk_31_method_2_code 5 = .ok (.aload_n 0, 1) := by decide +kernel
theorem d56_6 : decode jdk_31_method_2_code 6 = .ok (.ifnull 15, 3) := by decide +kernel
theorem d56_9 : decode jdk_31_method_2_code 9 = .ok (.aload_n 0, 1) := by decide +kernel
theorem d56_10 : decode jdk_31_method_2_code 10 = .ok (.aload_n 1, 1) := by decide +kernel
theorem d56_11 : decode jdk_31_method_2_code 11 = .ok (.invokevirtual 14, 3) := by decide +kernel
theorem d56_14 : decode jdk_31_method_2_code 14 = .ok (.ifCond .eq 7, 3) := by decide +kernel
theorem d56_21 : decode jdk_31_method_2_code 21 = .ok (.iconst 0, 1) := by decide +kernel
theorem d25_0 : decode jdk_46_method_13_code 0 = .ok (.aload_n 1, 1) := by decide +kernel
theorem d25_1 : decode jdk_46_method_13_code 1 = .ok (.aload_n 0, 1) := by decide +kernel
theorem d25_2 : decode jdk_46_method_13_code 2 = .ok (.if_acmp .ne 5, 3) := by decide +kernel
theorem d25_5 : decode jdk_46_method_13_code 5 = .ok (.iconst 1, 1) := by decide +kernel
theorem d25_6 : decode jdk_46_method_13_code 6 = .ok (.ireturn, 1) := by decide +kernel
theorem d25_7 : decode jdk_46_method_13_code 7 = .ok (.aload_n 1, 1) := by decide +kernel
theorem d25_8 : decode jdk_46_method_13_code 8 = .ok (.instanceof 77, 3) := by decide +kernel
theorem d25_11 : decode jdk_46_method_13_code 11 = .ok (.ifCond .ne 5, 3) := by decide +kernel
theorem d25_16 : decode jdk_46_method_13_code 16 = .ok (.aload_n 1, 1) := by decide +kernel
theorem d25_17 : decode jdk_46_method_13_code 17 = .ok (.checkcast 77, 3) := by decide +kernel
theorem d25_20 : decode jdk_46_method_13_code 20 = .ok (.invokeinterface 79 1, 5) := by decide +kernel
theorem d25_25 : decode jdk_46_method_13_code 25 = .ok (.astore_n 2, 1) := by decide +kernel
theorem d25_26 : decode jdk_46_method_13_code 26 = .ok (.iconst 0, 1) := by decide +kernel
theorem d25_27 : decode jdk_46_method_13_code 27 = .ok (.istore_n 3, 1) := by decide +kernel
theorem d25_28 : decode jdk_46_method_13_code 28 = .ok (.aload_n 0, 1) := by decide +kernel
theorem d25_29 : decode jdk_46_method_13_code 29 = .ok (.invokevirtual 13, 3) := by decide +kernel
theorem d25_32 : decode jdk_46_method_13_code 32 = .ok (.istore 4, 2) := by decide +kernel
theorem d25_34 : decode jdk_46_method_13_code 34 = .ok (.iload_n 3, 1) := by decide +kernel
theorem d25_35 : decode jdk_46_method_13_code 35 = .ok (.iload 4, 2) := by decide +kernel
theorem d25_37 : decode jdk_46_method_13_code 37 = .ok (.if_icmp .ge 37, 3) := by decide +kernel
theorem d25_74 : decode jdk_46_method_13_code 74 = .ok (.aload_n 2, 1) := by decide +kernel
theorem d25_75 : decode jdk_46_method_13_code 75 = .ok (.invokeinterface 83 1, 5) := by decide +kernel
theorem d25_80 : decode jdk_46_method_13_code 80 = .ok (.ifCond .ne 7, 3) := by decide +kernel
theorem d25_83 : decode jdk_46_method_13_code 83 = .ok (.iconst 1, 1) := by decide +kernel
theorem d25_84 : decode jdk_46_method_13_code 84 = .ok (.goto 4, 3) := by decide +kernel
theorem d25_88 : decode jdk_46_method_13_code 88 = .ok (.ireturn, 1) := by decide +kernel
theorem d25_87 : decode jdk_46_method_13_code 87 = .ok (.iconst 0, 1) := by decide +kernel
theorem d25_40 : decode jdk_46_method_13_code 40 = .ok (.aload_n 2, 1) := by decide +kernel
theorem d25_41 : decode jdk_46_method_13_code 41 = .ok (.invokeinterface 83 1, 5) := by decide +kernel
theorem d25_46 : decode jdk_46_method_13_code 46 = .ok (.ifCond .eq 20, 3) := by decide +kernel
theorem d25_66 : decode jdk_46_method_13_code 66 = .ok (.iconst 0, 1) := by decide +kernel
theorem d25_67 : decode jdk_46_method_13_code 67 = .ok (.ireturn, 1) := by decide +kernel
theorem d25_49 : decode jdk_46_method_13_code 49 = .ok (.aload_n 0, 1) := by decide +kernel
theorem d25_50 : decode jdk_46_method_13_code 50 = .ok (.iload_n 3, 1) := by decide +kernel
theorem d25_51 : decode jdk_46_method_13_code 51 = .ok (.invokevirtual 89, 3) := by decide +kernel
theorem d25_54 : decode jdk_46_method_13_code 54 = .ok (.aload_n 2, 1) := by decide +kernel
theorem d25_55 : decode jdk_46_method_13_code 55 = .ok (.invokeinterface 93 1, 5) := by decide +kernel
theorem d25_60 : decode jdk_46_method_13_code 60 = .ok (.invokestatic 97, 3) := by decide +kernel
theorem d25_63 : decode jdk_46_method_13_code 63 = .ok (.ifCond .ne 5, 3) := by decide +kernel
theorem d25_68 : decode jdk_46_method_13_code 68 = .ok (.iinc 3 1, 3) := by decide +kernel
theorem d25_71 : decode jdk_46_method_13_code 71 = .ok (.goto (-37), 3) := by decide +kernel
theorem d22_0 : decode prog_28_method_5_code 0 = .ok (.aload_n 1, 1) := by decide +kernel
theorem d22_1 : decode prog_28_method_5_code 1 = .ok (.instanceof 8, 3) := by decide +kernel
theorem d22_4 : decode prog_28_method_5_code 4 = .ok (.ifCond .eq 58, 3) := by decide +kernel
theorem d22_7 : decode prog_28_method_5_code 7 = .ok (.aload_n 1, 1) := by decide +kernel
theorem d22_8 : decode prog_28_method_5_code 8 = .ok (.checkcast 8, 3) := by decide +kernel
theorem d22_11 : decode prog_28_method_5_code 11 = .ok (.astore_n 2, 1) := by decide +kernel
theorem d22_12 : decode prog_28_method_5_code 12 = .ok (.aload_n 0, 1) := by decide +kernel
theorem d22_13 : decode prog_28_method_5_code 13 = .ok (.getfield 7, 3) := by decide +kernel
theorem d22_16 : decode prog_28_method_5_code 16 = .ok (.aload_n 2, 1) := by decide +kernel
theorem d22_17 : decode prog_28_method_5_code 17 = .ok (.getfield 7, 3) := by decide +kernel
theorem d22_20 : decode prog_28_method_5_code 20 = .ok (.invokevirtual 26, 3) := by decide +kernel
theorem d22_23 : decode prog_28_method_5_code 23 = .ok (.ifCond .eq 39, 3) := by decide +kernel
theorem d22_62 : decode prog_28_method_5_code 62 = .ok (.iconst 0, 1) := by decide +kernel
theorem d22_63 : decode prog_28_method_5_code 63 = .ok (.ireturn, 1) := by decide +kernel
theorem d22_26 : decode prog_28_method_5_code 26 = .ok (.aload_n 0, 1) := by decide +kernel
theorem d22_27 : decode prog_28_method_5_code 27 = .ok (.getfield 19, 3) := by decide +kernel
theorem d22_30 : decode prog_28_method_5_code 30 = .ok (.aload_n 2, 1) := by decide +kernel
theorem d22_31 : decode prog_28_method_5_code 31 = .ok (.getfield 19, 3) := by decide +kernel
theorem d22_34 : decode prog_28_method_5_code 34 = .ok (.invokeinterface 32 2, 5) := by decide +kernel
theorem d22_39 : decode prog_28_method_5_code 39 = .ok (.ifCond .eq 23, 3) := by decide +kernel
theorem d22_42 : decode prog_28_method_5_code 42 = .ok (.aload_n 0, 1) := by decide +kernel
theorem d22_43 : decode prog_28_method_5_code 43 = .ok (.getfield 23, 3) := by decide +kernel
theorem d22_46 : decode prog_28_method_5_code 46 = .ok (.aload_n 2, 1) := by decide +kernel
theorem d22_47 : decode prog_28_method_5_code 47 = .ok (.getfield 23, 3) := by decide +kernel
theorem d22_50 : decode prog_28_method_5_code 50 = .ok (.invokeinterface 32 2, 5) := by decide +kernel
theorem d22_55 : decode prog_28_method_5_code 55 = .ok (.ifCond .eq 7, 3) := by decide +kernel
theorem d22_58 : decode prog_28_method_5_code 58 = .ok (.iconst 1, 1) := by decide +kernel
theorem d22_59 : decode prog_28_method_5_code 59 = .ok (.goto 4, 3) := by decide +kernel
theorem d3_0 : decode jdk_42_method_149_code 0 = .ok (.aload_n 0, 1) := by decide +kernel
theorem d3_1 : decode jdk_42_method_149_code 1 = .ok (.invokespecial 1, 3) := by decide +kernel
theorem d3_4 : decode jdk_42_method_149_code 4 = .ok (.iload_n 3, 1) := by decide +kernel
theorem d3_5 : decode jdk_42_method_149_code 5 = .ok (.ifCond .ne 22, 3) := by decide +kernel
theorem d3_8 : decode jdk_42_method_149_code 8 = .ok (.aload_n 0, 1) := by decide +kernel
theorem d3_9 : decode jdk_42_method_149_code 9 = .ok (.ldc 7, 2) := by decide +kernel
theorem d3_11 : decode jdk_42_method_149_code 11 = .ok (.getfield 9, 3) := by decide +kernel
theorem d3_14 : decode jdk_42_method_149_code 14 = .ok (.putfield 9, 3) := by decide +kernel
theorem d3_17 : decode jdk_42_method_149_code 17 = .ok (.aload_n 0, 1) := by decide +kernel
theorem d3_18 : decode jdk_42_method_149_code 18 = .ok (.ldc 7, 2) := by decide +kernel
theorem d3_20 : decode jdk_42_method_149_code 20 = .ok (.getfield 15, 3) := by decide +kernel
theorem d3_23 : decode jdk_42_method_149_code 23 = .ok (.putfield 15, 3) := by decide +kernel
theorem d3_26 : decode jdk_42_method_149_code 26 = .ok (.return_, 1) := by decide +kernel
theorem d2_0 : decode jdk_42_method_3_code 0 = .ok (.aload_n 0, 1) := by decide +kernel
theorem d2_1 : decode jdk_42_method_3_code 1 = .ok (.aload_n 1, 1) := by decide +kernel
theorem d2_2 : decode jdk_42_method_3_code 2 = .ok (.iconst 0, 1) := by decide +kernel
theorem d2_3 : decode jdk_42_method_3_code 3 = .ok (.aload_n 1, 1) := by decide +kernel
theorem d2_4 : decode jdk_42_method_3_code 4 = .ok (.arraylength, 1) := by decide +kernel
theorem d2_5 : decode jdk_42_method_3_code 5 = .ok (.aconst_null, 1) := by decide +kernel
theorem d2_6 : decode jdk_42_method_3_code 6 = .ok (.invokespecial 27, 3) := by decide +kernel
theorem d2_9 : decode jdk_42_method_3_code 9 = .ok (.return_, 1) := by decide +kernel
theorem d1_0 : decode method_2_code 0 = .ok (.iload_n 0, 1) := by decide +kernel
theorem d1_1 : decode method_2_code 1 = .ok (.sipush 255, 3) := by decide +kernel
theorem d1_4 : decode method_2_code 4 = .ok (.iand, 1) := by decide +kernel
theorem d1_5 : decode method_2_code 5 = .ok (.i2c, 1) := by decide +kernel
theorem d1_6 : decode method_2_code 6 = .ok (.istore_n 2, 1) := by decide +kernel
theorem d1_7 : decode method_2_code 7 = .ok (.iload_n 0, 1) := by decide +kernel
theorem d1_8 : decode method_2_code 8 = .ok (.bipush 8, 2) := by decide +kernel
theorem d1_10 : decode method_2_code 10 = .ok (.iushr, 1) := by decide +kernel
theorem d1_11 : decode method_2_code 11 = .ok (.sipush 255, 3) := by decide +kernel
theorem d1_14 : decode method_2_code 14 = .ok (.iand, 1) := by decide +kernel
theorem d1_15 : decode method_2_code 15 = .ok (.i2c, 1) := by decide +kernel
theorem d1_16 : decode method_2_code 16 = .ok (.istore_n 3, 1) := by decide +kernel
theorem d1_17 : decode method_2_code 17 = .ok (.iload_n 1, 1) := by decide +kernel
theorem d1_18 : decode method_2_code 18 = .ok (.ifCond .ne 14, 3) := by decide +kernel
theorem d1_21 : decode method_2_code 21 = .ok (.new 7, 3) := by decide +kernel
theorem d1_24 : decode method_2_code 24 = .ok (.dup, 1) := by decide +kernel
theorem d1_25 : decode method_2_code 25 = .ok (.iconst 0, 1) := by decide +kernel
theorem d1_26 : decode method_2_code 26 = .ok (.newarray .char, 2) := by decide +kernel
theorem d1_28 : decode method_2_code 28 = .ok (.invokespecial 9, 3) := by decide +kernel
theorem d1_31 : decode method_2_code 31 = .ok (.areturn, 1) := by decide +kernel
theorem d1_32 : decode method_2_code 32 = .ok (.iload_n 1, 1) := by decide +kernel
theorem d1_33 : decode method_2_code 33 = .ok (.iconst 1, 1) := by decide +kernel
theorem d1_34 : decode method_2_code 34 = .ok (.if_icmp .ne 18, 3) := by decide +kernel
theorem d1_37 : decode method_2_code 37 = .ok (.new 7, 3) := by decide +kernel
theorem d1_40 : decode method_2_code 40 = .ok (.dup, 1) := by decide +kernel
theorem d1_41 : decode method_2_code 41 = .ok (.iconst 1, 1) := by decide +kernel
theorem d1_42 : decode method_2_code 42 = .ok (.newarray .char, 2) := by decide +kernel
theorem d1_44 : decode method_2_code 44 = .ok (.dup, 1) := by decide +kernel
theorem d1_45 : decode method_2_code 45 = .ok (.iconst 0, 1) := by decide +kernel
theorem d1_46 : decode method_2_code 46 = .ok (.iload_n 2, 1) := by decide +kernel
theorem d1_47 : decode method_2_code 47 = .ok (.castore, 1) := by decide +kernel
theorem d1_48 : decode method_2_code 48 = .ok (.invokespecial 9, 3) := by decide +kernel
theorem d1_51 : decode method_2_code 51 = .ok (.areturn, 1) := by decide +kernel
theorem d1_52 : decode method_2_code 52 = .ok (.new 7, 3) := by decide +kernel
theorem d1_55 : decode method_2_code 55 = .ok (.dup, 1) := by decide +kernel
theorem d1_56 : decode method_2_code 56 = .ok (.iconst 2, 1) := by decide +kernel
theorem d1_57 : decode method_2_code 57 = .ok (.newarray .char, 2) := by decide +kernel
theorem d1_59 : decode method_2_code 59 = .ok (.dup, 1) := by decide +kernel
theorem d1_60 : decode method_2_code 60 = .ok (.iconst 0, 1) := by decide +kernel
theorem d1_61 : decode method_2_code 61 = .ok (.iload_n 2, 1) := by decide +kernel
theorem d1_62 : decode method_2_code 62 = .ok (.castore, 1) := by decide +kernel
theorem d1_63 : decode method_2_code 63 = .ok (.dup, 1) := by decide +kernel
theorem d1_64 : decode method_2_code 64 = .ok (.iconst 1, 1) := by decide +kernel
theorem d1_65 : decode method_2_code 65 = .ok (.iload_n 3, 1) := by decide +kernel
theorem d1_66 : decode method_2_code 66 = .ok (.castore, 1) := by decide +kernel
theorem d1_67 : decode method_2_code 67 = .ok (.invokespecial 9, 3) := by decide +kernel
theorem d1_70 : decode method_2_code 70 = .ok (.areturn, 1) := by decide +kernel
theorem d61_0 : decode method_3_code 0 = .ok (.iload_n 0, 1) := by decide +kernel
theorem d61_1 : decode method_3_code 1 = .ok (.sipush 255, 3) := by decide +kernel
theorem d61_4 : decode method_3_code 4 = .ok (.iand, 1) := by decide +kernel
theorem d61_5 : decode method_3_code 5 = .ok (.i2c, 1) := by decide +kernel
theorem d61_6 : decode method_3_code 6 = .ok (.istore_n 3, 1) := by decide +kernel
theorem d61_7 : decode method_3_code 7 = .ok (.iload_n 2, 1) := by decide +kernel
theorem d61_8 : decode method_3_code 8 = .ok (.sipush 255, 3) := by decide +kernel
theorem d61_11 : decode method_3_code 11 = .ok (.iand, 1) := by decide +kernel
theorem d61_12 : decode method_3_code 12 = .ok (.i2c, 1) := by decide +kernel
theorem d61_13 : decode method_3_code 13 = .ok (.istore 4, 2) := by decide +kernel
theorem d61_15 : decode method_3_code 15 = .ok (.iload_n 1, 1) := by decide +kernel
theorem d61_16 : decode method_3_code 16 = .ok (.ifCond .ne 14, 3) := by decide +kernel
theorem d61_19 : decode method_3_code 19 = .ok (.new 7, 3) := by decide +kernel
theorem d61_22 : decode method_3_code 22 = .ok (.dup, 1) := by decide +kernel
theorem d61_23 : decode method_3_code 23 = .ok (.iconst 0, 1) := by decide +kernel
theorem d61_24 : decode method_3_code 24 = .ok (.newarray .char, 2) := by decide +kernel
theorem d61_26 : decode method_3_code 26 = .ok (.invokespecial 9, 3) := by decide +kernel
theorem d61_29 : decode method_3_code 29 = .ok (.areturn, 1) := by decide +kernel
theorem d61_30 : decode method_3_code 30 = .ok (.iload_n 1, 1) := by decide +kernel
theorem d61_31 : decode method_3_code 31 = .ok (.iconst 1, 1) := by decide +kernel
theorem d61_32 : decode method_3_code 32 = .ok (.if_icmp .ne 19, 3) := by decide +kernel
theorem d61_35 : decode method_3_code 35 = .ok (.new 7, 3) := by decide +kernel
theorem d61_38 : decode method_3_code 38 = .ok (.dup, 1) := by decide +kernel
theorem d61_39 : decode method_3_code 39 = .ok (.iconst 1, 1) := by decide +kernel
theorem d61_40 : decode method_3_code 40 = .ok (.newarray .char, 2) := by decide +kernel
theorem d61_42 : decode method_3_code 42 = .ok (.dup, 1) := by decide +kernel
theorem d61_43 : decode method_3_code 43 = .ok (.iconst 0, 1) := by decide +kernel
theorem d61_44 : decode method_3_code 44 = .ok (.iload 4, 2) := by decide +kernel
theorem d61_46 : decode method_3_code 46 = .ok (.castore, 1) := by decide +kernel
theorem d61_47 : decode method_3_code 47 = .ok (.invokespecial 9, 3) := by decide +kernel
theorem d61_50 : decode method_3_code 50 = .ok (.areturn, 1) := by decide +kernel
theorem d61_51 : decode method_3_code 51 = .ok (.new 7, 3) := by decide +kernel
theorem d61_54 : decode method_3_code 54 = .ok (.dup, 1) := by decide +kernel
theorem d61_55 : decode method_3_code 55 = .ok (.iconst 2, 1) := by decide +kernel
theorem d61_56 : decode method_3_code 56 = .ok (.newarray .char, 2) := by decide +kernel
theorem d61_58 : decode method_3_code 58 = .ok (.dup, 1) := by decide +kernel
theorem d61_59 : decode method_3_code 59 = .ok (.iconst 0, 1) := by decide +kernel
theorem d61_60 : decode method_3_code 60 = .ok (.iload_n 3, 1) := by decide +kernel
theorem d61_61 : decode method_3_code 61 = .ok (.castore, 1) := by decide +kernel
theorem d61_62 : decode method_3_code 62 = .ok (.dup, 1) := by decide +kernel
theorem d61_63 : decode method_3_code 63 = .ok (.iconst 1, 1) := by decide +kernel
theorem d61_64 : decode method_3_code 64 = .ok (.iload 4, 2) := by decide +kernel
theorem d61_66 : decode method_3_code 66 = .ok (.castore, 1) := by decide +kernel
theorem d61_67 : decode method_3_code 67 = .ok (.invokespecial 9, 3) := by decide +kernel
theorem d61_70 : decode method_3_code 70 = .ok (.areturn, 1) := by decide +kernel
theorem d30_0 : decode jdk_43_method_3_code 0 = .ok (.iload_n 0, 1) := by decide +kernel
theorem d30_1 : decode jdk_43_method_3_code 1 = .ok (.sipush 255, 3) := by decide +kernel
theorem d30_4 : decode jdk_43_method_3_code 4 = .ok (.if_icmp .gt 7, 3) := by decide +kernel
theorem d30_7 : decode jdk_43_method_3_code 7 = .ok (.iconst 1, 1) := by decide +kernel
theorem d30_8 : decode jdk_43_method_3_code 8 = .ok (.goto 4, 3) := by decide +kernel
theorem d30_12 : decode jdk_43_method_3_code 12 = .ok (.ireturn, 1) := by decide +kernel
theorem d31_0 : decode jdk_43_method_46_code 0 = .ok (.iconst 1, 1) := by decide +kernel
theorem d31_1 : decode jdk_43_method_46_code 1 = .ok (.newarray .byte, 2) := by decide +kernel
theorem d31_3 : decode jdk_43_method_46_code 3 = .ok (.dup, 1) := by decide +kernel
theorem d31_4 : decode jdk_43_method_46_code 4 = .ok (.iconst 0, 1) := by decide +kernel
theorem d31_5 : decode jdk_43_method_46_code 5 = .ok (.iload_n 0, 1) := by decide +kernel
theorem d31_6 : decode jdk_43_method_46_code 6 = .ok (.i2b, 1) := by decide +kernel
theorem d31_7 : decode jdk_43_method_46_code 7 = .ok (.bastore, 1) := by decide +kernel
theorem d31_8 : decode jdk_43_method_46_code 8 = .ok (.areturn, 1) := by decide +kernel
theorem d32_0 : decode jdk_42_method_151_code 0 = .ok (.aload_n 0, 1) := by decide +kernel
theorem d32_1 : decode jdk_42_method_151_code 1 = .ok (.invokespecial 1, 3) := by decide +kernel
theorem d32_4 : decode jdk_42_method_151_code 4 = .ok (.aload_n 0, 1) := by decide +kernel
theorem d32_5 : decode jdk_42_method_151_code 5 = .ok (.aload_n 1, 1) := by decide +kernel
theorem d32_6 : decode jdk_42_method_151_code 6 = .ok (.putfield 9, 3) := by decide +kernel
theorem d32_9 : decode jdk_42_method_151_code 9 = .ok (.aload_n 0, 1) := by decide +kernel
theorem d32_10 : decode jdk_42_method_151_code 10 = .ok (.iload_n 2, 1) := by decide +kernel
theorem d32_11 : decode jdk_42_method_151_code 11 = .ok (.putfield 15, 3) := by decide +kernel
theorem d32_14 : decode jdk_42_method_151_code 14 = .ok (.return_, 1) := by decide +kernel
theorem d29_0 : decode jdk_42_method_139_code 0 = .ok (.getstatic 38, 3) := by decide +kernel
theorem d29_3 : decode jdk_42_method_139_code 3 = .ok (.ifCond .eq 23, 3) := by decide +kernel
theorem d29_6 : decode jdk_42_method_139_code 6 = .ok (.iload_n 0, 1) := by decide +kernel
theorem d29_7 : decode jdk_42_method_139_code 7 = .ok (.invokestatic 1015, 3) := by decide +kernel
theorem d29_10 : decode jdk_42_method_139_code 10 = .ok (.ifCond .eq 16, 3) := by decide +kernel
theorem d29_13 : decode jdk_42_method_139_code 13 = .ok (.new 10, 3) := by decide +kernel
theorem d29_16 : decode jdk_42_method_139_code 16 = .ok (.dup, 1) := by decide +kernel
theorem d29_17 : decode jdk_42_method_139_code 17 = .ok (.iload_n 0, 1) := by decide +kernel
theorem d29_18 : decode jdk_42_method_139_code 18 = .ok (.invokestatic 1018, 3) := by decide +kernel
theorem d29_21 : decode jdk_42_method_139_code 21 = .ok (.iconst 0, 1) := by decide +kernel
theorem d29_22 : decode jdk_42_method_139_code 22 = .ok (.invokespecial 209, 3) := by decide +kernel
theorem d29_25 : decode jdk_42_method_139_code 25 = .ok (.areturn, 1) := by decide +kernel
theorem d8_0 : decode jdk_22_method_1_code 0 = .ok (.aload_n 0, 1) := by decide +kernel
theorem d8_1 : decode jdk_22_method_1_code 1 = .ok (.invokespecial 1, 3) := by decide +kernel
theorem d8_4 : decode jdk_22_method_1_code 4 = .ok (.return_, 1) := by decide +kernel
theorem d7_0 : decode jdk_39_method_1_code 0 = .ok (.aload_n 0, 1) := by decide +kernel
theorem d7_1 : decode jdk_39_method_1_code 1 = .ok (.invokespecial 1, 3) := by decide +kernel
theorem d7_4 : decode jdk_39_method_1_code 4 = .ok (.aload_n 0, 1) := by decide +kernel
theorem d7_5 : decode jdk_39_method_1_code 5 = .ok (.iconst 0, 1) := by decide +kernel
theorem d7_6 : decode jdk_39_method_1_code 6 = .ok (.putfield 7, 3) := by decide +kernel
theorem d7_9 : decode jdk_39_method_1_code 9 = .ok (.return_, 1) := by decide +kernel
theorem d6_0 : decode jdk_38_method_2_code 0 = .ok (.aload_n 0, 1) := by decide +kernel
theorem d6_1 : decode jdk_38_method_2_code 1 = .ok (.invokespecial 1, 3) := by decide +kernel
theorem d6_4 : decode jdk_38_method_2_code 4 = .ok (.aload_n 0, 1) := by decide +kernel
theorem d6_5 : decode jdk_38_method_2_code 5 = .ok (.getstatic 39, 3) := by decide +kernel
theorem d6_8 : decode jdk_38_method_2_code 8 = .ok (.putfield 9, 3) := by decide +kernel
theorem d6_11 : decode jdk_38_method_2_code 11 = .ok (.return_, 1) := by decide +kernel
theorem d37_0 : decode jdk_29_method_65_code 0 = .ok (.iload_n 0, 1) := by decide +kernel
theorem d37_1 : decode jdk_29_method_65_code 1 = .ok (.iload_n 1, 1) := by decide +kernel
theorem d37_2 : decode jdk_29_method_65_code 2 = .ok (.if_icmp .lt 7, 3) := by decide +kernel
theorem d37_5 : decode jdk_29_method_65_code 5 = .ok (.iload_n 0, 1) := by decide +kernel
theorem d37_6 : decode jdk_29_method_65_code 6 = .ok (.goto 4, 3) := by decide +kernel
theorem d37_10 : decode jdk_29_method_65_code 10 = .ok (.ireturn, 1) := by decide +kernel
theorem d36_0 : decode jdk_38_method_6_code 0 = .ok (.aload_n 0, 1) := by decide +kernel
theorem d36_1 : decode jdk_38_method_6_code 1 = .ok (.getfield 9, 3) := by decide +kernel
theorem d36_4 : decode jdk_38_method_6_code 4 = .ok (.arraylength, 1) := by decide +kernel
theorem d36_5 : decode jdk_38_method_6_code 5 = .ok (.istore_n 2, 1) := by decide +kernel
theorem d36_6 : decode jdk_38_method_6_code 6 = .ok (.iload_n 2, 1) := by decide +kernel
theorem d36_7 : decode jdk_38_method_6_code 7 = .ok (.ifCond .gt 13, 3) := by decide +kernel
theorem d36_10 : decode jdk_38_method_6_code 10 = .ok (.aload_n 0, 1) := by decide +kernel
theorem d36_11 : decode jdk_38_method_6_code 11 = .ok (.getfield 9, 3) := by decide +kernel
theorem d36_14 : decode jdk_38_method_6_code 14 = .ok (.getstatic 39, 3) := by decide +kernel
theorem d36_17 : decode jdk_38_method_6_code 17 = .ok (.if_acmp .eq 28, 3) := by decide +kernel
theorem d36_45 : decode jdk_38_method_6_code 45 = .ok (.aload_n 0, 1) := by decide +kernel
theorem d36_46 : decode jdk_38_method_6_code 46 = .ok (.bipush 10, 2) := by decide +kernel
theorem d36_48 : decode jdk_38_method_6_code 48 = .ok (.iload_n 1, 1) := by decide +kernel
theorem d36_49 : decode jdk_38_method_6_code 49 = .ok (.invokestatic 79, 3) := by decide +kernel
theorem d36_52 : decode jdk_38_method_6_code 52 = .ok (.anewarray 7, 3) := by decide +kernel
theorem d36_55 : decode jdk_38_method_6_code 55 = .ok (.dup_x1, 1) := by decide +kernel
theorem d36_56 : decode jdk_38_method_6_code 56 = .ok (.putfield 9, 3) := by decide +kernel
theorem d36_59 : decode jdk_38_method_6_code 59 = .ok (.areturn, 1) := by decide +kernel
theorem d35_0 : decode jdk_38_method_7_code 0 = .ok (.aload_n 0, 1) := by decide +kernel
theorem d35_1 : decode jdk_38_method_7_code 1 = .ok (.aload_n 0, 1) := by decide +kernel
theorem d35_2 : decode jdk_38_method_7_code 2 = .ok (.getfield 48, 3) := by decide +kernel
theorem d35_5 : decode jdk_38_method_7_code 5 = .ok (.iconst 1, 1) := by decide +kernel
theorem d35_6 : decode jdk_38_method_7_code 6 = .ok (.iadd, 1) := by decide +kernel
theorem d35_7 : decode jdk_38_method_7_code 7 = .ok (.invokevirtual 69, 3) := by decide +kernel
theorem d35_10 : decode jdk_38_method_7_code 10 = .ok (.areturn, 1) := by decide +kernel
theorem d34_0 : decode jdk_38_method_24_code 0 = .ok (.iload_n 3, 1) := by decide +kernel
theorem d34_1 : decode jdk_38_method_24_code 1 = .ok (.aload_n 2, 1) := by decide +kernel
theorem d34_2 : decode jdk_38_method_24_code 2 = .ok (.arraylength, 1) := by decide +kernel
theorem d34_3 : decode jdk_38_method_24_code 3 = .ok (.if_icmp .ne 8, 3) := by decide +kernel
theorem d34_6 : decode jdk_38_method_24_code 6 = .ok (.aload_n 0, 1) := by decide +kernel
theorem d34_7 : decode jdk_38_method_24_code 7 = .ok (.invokevirtual 129, 3) := by decide +kernel
theorem d34_10 : decode jdk_38_method_24_code 10 = .ok (.astore_n 2, 1) := by decide +kernel
theorem d34_11 : decode jdk_38_method_24_code 11 = .ok (.aload_n 2, 1) := by decide +kernel
theorem d34_12 : decode jdk_38_method_24_code 12 = .ok (.iload_n 3, 1) := by decide +kernel
theorem d34_13 : decode jdk_38_method_24_code 13 = .ok (.aload_n 1, 1) := by decide +kernel
theorem d34_14 : decode jdk_38_method_24_code 14 = .ok (.aastore, 1) := by decide +kernel
theorem d34_15 : decode jdk_38_method_24_code 15 = .ok (.aload_n 0, 1) := by decide +kernel
theorem d34_16 : decode jdk_38_method_24_code 16 = .ok (.iload_n 3, 1) := by decide +kernel
theorem d34_17 : decode jdk_38_method_24_code 17 = .ok (.iconst 1, 1) := by decide +kernel
theorem d34_18 : decode jdk_38_method_24_code 18 = .ok (.iadd, 1) := by decide +kernel
theorem d34_19 : decode jdk_38_method_24_code 19 = .ok (.putfield 48, 3) := by decide +kernel
theorem d34_22 : decode jdk_38_method_24_code 22 = .ok (.return_, 1) := by decide +kernel
theorem d33_0 : decode jdk_38_method_25_code 0 = .ok (.aload_n 0, 1) := by decide +kernel
theorem d33_1 : decode jdk_38_method_25_code 1 = .ok (.dup, 1) := by decide +kernel
theorem d33_2 : decode jdk_38_method_25_code 2 = .ok (.getfield 63, 3) := by decide +kernel
theorem d33_5 : decode jdk_38_method_25_code 5 = .ok (.iconst 1, 1) := by decide +kernel
theorem d33_6 : decode jdk_38_method_25_code 6 = .ok (.iadd, 1) := by decide +kernel
theorem d33_7 : decode jdk_38_method_25_code 7 = .ok (.putfield 63, 3) := by decide +kernel
theorem d33_10 : decode jdk_38_method_25_code 10 = .ok (.aload_n 0, 1) := by decide +kernel
theorem d33_11 : decode jdk_38_method_25_code 11 = .ok (.aload_n 1, 1) := by decide +kernel
theorem d33_12 : decode jdk_38_method_25_code 12 = .ok (.aload_n 0, 1) := by decide +kernel
theorem d33_13 : decode jdk_38_method_25_code 13 = .ok (.getfield 9, 3) := by decide +kernel
theorem d33_16 : decode jdk_38_method_25_code 16 = .ok (.aload_n 0, 1) := by decide +kernel
theorem d33_17 : decode jdk_38_method_25_code 17 = .ok (.getfield 48, 3) := by decide +kernel
theorem d33_20 : decode jdk_38_method_25_code 20 = .ok (.invokevirtual 131, 3) := by decide +kernel
theorem d33_23 : decode jdk_38_method_25_code 23 = .ok (.iconst 1, 1) := by decide +kernel
theorem d33_24 : decode jdk_38_method_25_code 24 = .ok (.ireturn, 1) := by decide +kernel
theorem d5_0 : decode method_4_code 0 = .ok (.new 12, 3) := by decide +kernel
theorem d5_3 : decode method_4_code 3 = .ok (.dup, 1) := by decide +kernel
theorem d5_4 : decode method_4_code 4 = .ok (.invokespecial 14, 3) := by decide +kernel
theorem d5_7 : decode method_4_code 7 = .ok (.astore_n 2, 1) := by decide +kernel
theorem d5_8 : decode method_4_code 8 = .ok (.iload_n 0, 1) := by decide +kernel
theorem d5_9 : decode method_4_code 9 = .ok (.iconst 1, 1) := by decide +kernel
theorem d5_10 : decode method_4_code 10 = .ok (.if_icmp .lt 17, 3) := by decide +kernel
theorem d5_27 : decode method_4_code 27 = .ok (.iload_n 0, 1) := by decide +kernel
theorem d5_28 : decode method_4_code 28 = .ok (.iconst 2, 1) := by decide +kernel
theorem d5_29 : decode method_4_code 29 = .ok (.if_icmp .lt 20, 3) := by decide +kernel
theorem d5_49 : decode method_4_code 49 = .ok (.iload_n 0, 1) := by decide +kernel
theorem d5_50 : decode method_4_code 50 = .ok (.iconst 3, 1) := by decide +kernel
theorem d5_51 : decode method_4_code 51 = .ok (.if_icmp .lt 20, 3) := by decide +kernel
theorem d5_71 : decode method_4_code 71 = .ok (.aload_n 2, 1) := by decide +kernel
theorem d5_72 : decode method_4_code 72 = .ok (.areturn, 1) := by decide +kernel
theorem d5_13 : decode method_4_code 13 = .ok (.aload_n 2, 1) := by decide +kernel
theorem d5_14 : decode method_4_code 14 = .ok (.iload_n 1, 1) := by decide +kernel
theorem d5_15 : decode method_4_code 15 = .ok (.sipush 255, 3) := by decide +kernel
theorem d5_18 : decode method_4_code 18 = .ok (.iand, 1) := by decide +kernel
theorem d5_19 : decode method_4_code 19 = .ok (.i2c, 1) := by decide +kernel
theorem d5_20 : decode method_4_code 20 = .ok (.invokestatic 15, 3) := by decide +kernel
theorem d5_23 : decode method_4_code 23 = .ok (.invokevirtual 19, 3) := by decide +kernel
theorem d5_26 : decode method_4_code 26 = .ok (.pop, 1) := by decide +kernel
theorem d5_32 : decode method_4_code 32 = .ok (.aload_n 2, 1) := by decide +kernel
theorem d5_33 : decode method_4_code 33 = .ok (.iload_n 1, 1) := by decide +kernel
theorem d5_34 : decode method_4_code 34 = .ok (.bipush 8, 2) := by decide +kernel
theorem d5_36 : decode method_4_code 36 = .ok (.iushr, 1) := by decide +kernel
theorem d5_37 : decode method_4_code 37 = .ok (.sipush 255, 3) := by decide +kernel
theorem d5_40 : decode method_4_code 40 = .ok (.iand, 1) := by decide +kernel
theorem d5_41 : decode method_4_code 41 = .ok (.i2c, 1) := by decide +kernel
theorem d5_42 : decode method_4_code 42 = .ok (.invokestatic 15, 3) := by decide +kernel
theorem d5_45 : decode method_4_code 45 = .ok (.invokevirtual 19, 3) := by decide +kernel
theorem d5_48 : decode method_4_code 48 = .ok (.pop, 1) := by decide +kernel
theorem d5_54 : decode method_4_code 54 = .ok (.aload_n 2, 1) := by decide +kernel
theorem d5_55 : decode method_4_code 55 = .ok (.iload_n 1, 1) := by decide +kernel
theorem d5_56 : decode method_4_code 56 = .ok (.bipush 16, 2) := by decide +kernel
theorem d5_58 : decode method_4_code 58 = .ok (.iushr, 1) := by decide +kernel
theorem d5_59 : decode method_4_code 59 = .ok (.sipush 255, 3) := by decide +kernel
theorem d5_62 : decode method_4_code 62 = .ok (.iand, 1) := by decide +kernel
theorem d5_63 : decode method_4_code 63 = .ok (.i2c, 1) := by decide +kernel
theorem d5_64 : decode method_4_code 64 = .ok (.invokestatic 15, 3) := by decide +kernel
theorem d5_67 : decode method_4_code 67 = .ok (.invokevirtual 19, 3) := by decide +kernel
theorem d5_70 : decode method_4_code 70 = .ok (.pop, 1) := by decide +kernel
theorem d41_0 : decode jdk_29_method_69_code 0 = .ok (.iload_n 0, 1) := by decide +kernel
theorem d41_1 : decode jdk_29_method_69_code 1 = .ok (.iload_n 1, 1) := by decide +kernel
theorem d41_2 : decode jdk_29_method_69_code 2 = .ok (.if_icmp .gt 7, 3) := by decide +kernel
theorem d41_9 : decode jdk_29_method_69_code 9 = .ok (.iload_n 1, 1) := by decide +kernel
theorem d41_10 : decode jdk_29_method_69_code 10 = .ok (.ireturn, 1) := by decide +kernel
theorem d40_0 : decode jdk_65_method_120_code 0 = .ok (.aload_n 2, 1) := by decide +kernel
theorem d40_1 : decode jdk_65_method_120_code 1 = .ok (.ldc 110, 2) := by decide +kernel
theorem d40_3 : decode jdk_65_method_120_code 3 = .ok (.if_acmp .ne 10, 3) := by decide +kernel
theorem d40_6 : decode jdk_65_method_120_code 6 = .ok (.iload_n 1, 1) := by decide +kernel
theorem d40_7 : decode jdk_65_method_120_code 7 = .ok (.anewarray 2, 3) := by decide +kernel
theorem d40_10 : decode jdk_65_method_120_code 10 = .ok (.goto 14, 3) := by decide +kernel
theorem d40_24 : decode jdk_65_method_120_code 24 = .ok (.astore_n 3, 1) := by decide +kernel
theorem d40_25 : decode jdk_65_method_120_code 25 = .ok (.aload_n 0, 1) := by decide +kernel
theorem d40_26 : decode jdk_65_method_120_code 26 = .ok (.iconst 0, 1) := by decide +kernel
theorem d40_27 : decode jdk_65_method_120_code 27 = .ok (.aload_n 3, 1) := by decide +kernel
theorem d40_28 : decode jdk_65_method_120_code 28 = .ok (.iconst 0, 1) := by decide +kernel
theorem d40_29 : decode jdk_65_method_120_code 29 = .ok (.aload_n 0, 1) := by decide +kernel
theorem d40_30 : decode jdk_65_method_120_code 30 = .ok (.arraylength, 1) := by decide +kernel
theorem d40_31 : decode jdk_65_method_120_code 31 = .ok (.iload_n 1, 1) := by decide +kernel
theorem d40_32 : decode jdk_65_method_120_code 32 = .ok (.invokestatic 304, 3) := by decide +kernel
theorem d40_35 : decode jdk_65_method_120_code 35 = .ok (.invokestatic 150, 3) := by decide +kernel
theorem d40_38 : decode jdk_65_method_120_code 38 = .ok (.aload_n 3, 1) := by decide +kernel
theorem d40_39 : decode jdk_65_method_120_code 39 = .ok (.areturn, 1) := by decide +kernel
theorem d39_0 : decode jdk_65_method_119_code 0 = .ok (.aload_n 0, 1) := by decide +kernel
theorem d39_1 : decode jdk_65_method_119_code 1 = .ok (.iload_n 1, 1) := by decide +kernel
theorem d39_2 : decode jdk_65_method_119_code 2 = .ok (.aload_n 0, 1) := by decide +kernel
theorem d39_3 : decode jdk_65_method_119_code 3 = .ok (.invokevirtual 86, 3) := by decide +kernel
theorem d39_6 : decode jdk_65_method_119_code 6 = .ok (.invokestatic 300, 3) := by decide +kernel
theorem d39_9 : decode jdk_65_method_119_code 9 = .ok (.areturn, 1) := by decide +kernel
theorem d38_0 : decode jdk_38_method_16_code 0 = .ok (.aload_n 0, 1) := by decide +kernel
theorem d38_1 : decode jdk_38_method_16_code 1 = .ok (.getfield 9, 3) := by decide +kernel
theorem d38_4 : decode jdk_38_method_16_code 4 = .ok (.aload_n 0, 1) := by decide +kernel
theorem d38_5 : decode jdk_38_method_16_code 5 = .ok (.getfield 48, 3) := by decide +kernel
theorem d38_8 : decode jdk_38_method_16_code 8 = .ok (.invokestatic 66, 3) := by decide +kernel
theorem d38_11 : decode jdk_38_method_16_code 11 = .ok (.areturn, 1) := by decide +kernel
theorem d12_0 : decode jdk_38_method_9_code 0 = .ok (.aload_n 0, 1) := by decide +kernel
theorem d12_1 : decode jdk_38_method_9_code 1 = .ok (.getfield 48, 3) := by decide +kernel
theorem d12_4 : decode jdk_38_method_9_code 4 = .ok (.ifCond .ne 7, 3) := by decide +kernel
theorem d12_7 : decode jdk_38_method_9_code 7 = .ok (.iconst 1, 1) := by decide +kernel
theorem d12_8 : decode jdk_38_method_9_code 8 = .ok (.goto 4, 3) := by decide +kernel
theorem d12_12 : decode jdk_38_method_9_code 12 = .ok (.ireturn, 1) := by decide +kernel
theorem d12_11 : decode jdk_38_method_9_code 11 = .ok (.iconst 0, 1) := by decide +kernel
theorem d13_0 : decode jdk_40_method_36_code 0 = .ok (.getstatic 90, 3) := by decide +kernel
theorem d13_3 : decode jdk_40_method_36_code 3 = .ok (.areturn, 1) := by decide +kernel
theorem d46_0 : decode jdk_31_method_10_code 0 = .ok (.aload_n 0, 1) := by decide +kernel
theorem d46_1 : decode jdk_31_method_10_code 1 = .ok (.ifnonnull 11, 3) := by decide +kernel
theorem d46_12 : decode jdk_31_method_10_code 12 = .ok (.aload_n 0, 1) := by decide +kernel
theorem d46_13 : decode jdk_31_method_10_code 13 = .ok (.areturn, 1) := by decide +kernel
theorem d45_0 : decode jdk_47_method_1_code 0 = .ok (.aload_n 0, 1) := by decide +kernel
theorem d45_1 : decode jdk_47_method_1_code 1 = .ok (.invokespecial 1, 3) := by decide +kernel
theorem d45_4 : decode jdk_47_method_1_code 4 = .ok (.return_, 1) := by decide +kernel
theorem d44_0 : decode jdk_46_method_1_code 0 = .ok (.aload_n 0, 1) := by decide +kernel
theorem d44_1 : decode jdk_46_method_1_code 1 = .ok (.invokespecial 1, 3) := by decide +kernel
theorem d44_4 : decode jdk_46_method_1_code 4 = .ok (.return_, 1) := by decide +kernel
theorem d43_0 : decode jdk_44_method_1_code 0 = .ok (.aload_n 0, 1) := by decide +kernel
theorem d43_1 : decode jdk_44_method_1_code 1 = .ok (.invokespecial 1, 3) := by decide +kernel
theorem d43_4 : decode jdk_44_method_1_code 4 = .ok (.aload_n 0, 1) := by decide +kernel
theorem d43_5 : decode jdk_44_method_1_code 5 = .ok (.aload_n 1, 1) := by decide +kernel
theorem d43_6 : decode jdk_44_method_1_code 6 = .ok (.invokestatic 7, 3) := by decide +kernel
theorem d43_9 : decode jdk_44_method_1_code 9 = .ok (.putfield 13, 3) := by decide +kernel
theorem d43_12 : decode jdk_44_method_1_code 12 = .ok (.aload_n 0, 1) := by decide +kernel
theorem d43_13 : decode jdk_44_method_1_code 13 = .ok (.getstatic 19, 3) := by decide +kernel
theorem d43_16 : decode jdk_44_method_1_code 16 = .ok (.putfield 24, 3) := by decide +kernel
theorem d43_19 : decode jdk_44_method_1_code 19 = .ok (.return_, 1) := by decide +kernel
theorem d57_0 : decode jdk_44_method_2_code 0 = .ok (.aload_n 0, 1) := by decide +kernel
theorem d57_1 : decode jdk_44_method_2_code 1 = .ok (.invokespecial 1, 3) := by decide +kernel
theorem d57_4 : decode jdk_44_method_2_code 4 = .ok (.aload_n 0, 1) := by decide +kernel
theorem d57_5 : decode jdk_44_method_2_code 5 = .ok (.aload_n 1, 1) := by decide +kernel
theorem d57_6 : decode jdk_44_method_2_code 6 = .ok (.invokestatic 7, 3) := by decide +kernel
theorem d57_9 : decode jdk_44_method_2_code 9 = .ok (.putfield 13, 3) := by decide +kernel
theorem d57_12 : decode jdk_44_method_2_code 12 = .ok (.aload_n 0, 1) := by decide +kernel
theorem d57_13 : decode jdk_44_method_2_code 13 = .ok (.aload_n 2, 1) := by decide +kernel
theorem d57_14 : decode jdk_44_method_2_code 14 = .ok (.invokestatic 7, 3) := by decide +kernel
theorem d57_17 : decode jdk_44_method_2_code 17 = .ok (.putfield 24, 3) := by decide +kernel
theorem d57_20 : decode jdk_44_method_2_code 20 = .ok (.return_, 1) := by decide +kernel
theorem d59_0 : decode jdk_45_method_1_code 0 = .ok (.aload_n 0, 1) := by decide +kernel
theorem d59_1 : decode jdk_45_method_1_code 1 = .ok (.invokespecial 1, 3) := by decide +kernel
theorem d59_4 : decode jdk_45_method_1_code 4 = .ok (.aload_n 0, 1) := by decide +kernel
theorem d59_5 : decode jdk_45_method_1_code 5 = .ok (.aload_n 1, 1) := by decide +kernel
theorem d59_6 : decode jdk_45_method_1_code 6 = .ok (.putfield 7, 3) := by decide +kernel
theorem d59_9 : decode jdk_45_method_1_code 9 = .ok (.aload_n 0, 1) := by decide +kernel
theorem d59_10 : decode jdk_45_method_1_code 10 = .ok (.iload_n 2, 1) := by decide +kernel
theorem d59_11 : decode jdk_45_method_1_code 11 = .ok (.putfield 13, 3) := by decide +kernel
theorem d59_14 : decode jdk_45_method_1_code 14 = .ok (.return_, 1) := by decide +kernel
theorem d58_0 : decode jdk_56_method_4_code 0 = .ok (.aload_n 0, 1) := by decide +kernel
theorem d58_1 : decode jdk_56_method_4_code 1 = .ok (.arraylength, 1) := by decide +kernel
theorem d58_2 : decode jdk_56_method_4_code 2 = .ok (.anewarray 2, 3) := by decide +kernel
theorem d58_5 : decode jdk_56_method_4_code 5 = .ok (.astore_n 1, 1) := by decide +kernel
theorem d58_6 : decode jdk_56_method_4_code 6 = .ok (.iconst 0, 1) := by decide +kernel
theorem d58_7 : decode jdk_56_method_4_code 7 = .ok (.istore_n 2, 1) := by decide +kernel
theorem d58_8 : decode jdk_56_method_4_code 8 = .ok (.iload_n 2, 1) := by decide +kernel
theorem d58_9 : decode jdk_56_method_4_code 9 = .ok (.aload_n 0, 1) := by decide +kernel
theorem d58_10 : decode jdk_56_method_4_code 10 = .ok (.arraylength, 1) := by decide +kernel
theorem d58_11 : decode jdk_56_method_4_code 11 = .ok (.if_icmp .ge 18, 3) := by decide +kernel
theorem d58_14 : decode jdk_56_method_4_code 14 = .ok (.aload_n 1, 1) := by decide +kernel
theorem d58_15 : decode jdk_56_method_4_code 15 = .ok (.iload_n 2, 1) := by decide +kernel
theorem d58_16 : decode jdk_56_method_4_code 16 = .ok (.aload_n 0, 1) := by decide +kernel
theorem d58_17 : decode jdk_56_method_4_code 17 = .ok (.iload_n 2, 1) := by decide +kernel
theorem d58_18 : decode jdk_56_method_4_code 18 = .ok (.aaload, 1) := by decide +kernel
theorem d58_19 : decode jdk_56_method_4_code 19 = .ok (.invokestatic 37, 3) := by decide +kernel
theorem d58_22 : decode jdk_56_method_4_code 22 = .ok (.aastore, 1) := by decide +kernel
theorem d58_23 : decode jdk_56_method_4_code 23 = .ok (.iinc 2 1, 3) := by decide +kernel
theorem d58_26 : decode jdk_56_method_4_code 26 = .ok (.goto (-18), 3) := by decide +kernel
theorem d58_29 : decode jdk_56_method_4_code 29 = .ok (.new 12, 3) := by decide +kernel
theorem d58_32 : decode jdk_56_method_4_code 32 = .ok (.dup, 1) := by decide +kernel
theorem d58_33 : decode jdk_56_method_4_code 33 = .ok (.aload_n 1, 1) := by decide +kernel
theorem d58_34 : decode jdk_56_method_4_code 34 = .ok (.iconst 0, 1) := by decide +kernel
theorem d58_35 : decode jdk_56_method_4_code 35 = .ok (.invokespecial 43, 3) := by decide +kernel
theorem d58_38 : decode jdk_56_method_4_code 38 = .ok (.areturn, 1) := by decide +kernel
theorem d42_0 : decode jdk_40_method_47_code 0 = .ok (.aload_n 0, 1) := by decide +kernel
theorem d42_1 : decode jdk_40_method_47_code 1 = .ok (.arraylength, 1) := by decide +kernel
theorem d42_2 : decode jdk_40_method_47_code 2 = .ok (.tableswitch 57 0 2 #[26, 32, 43], 26) := by decide +kernel
theorem d42_34 : decode jdk_40_method_47_code 34 = .ok (.new 96, 3) := by decide +kernel
theorem d42_37 : decode jdk_40_method_47_code 37 = .ok (.dup, 1) := by decide +kernel
theorem d42_38 : decode jdk_40_method_47_code 38 = .ok (.aload_n 0, 1) := by decide +kernel
theorem d42_39 : decode jdk_40_method_47_code 39 = .ok (.iconst 0, 1) := by decide +kernel
theorem d42_40 : decode jdk_40_method_47_code 40 = .ok (.aaload, 1) := by decide +kernel
theorem d42_41 : decode jdk_40_method_47_code 41 = .ok (.invokespecial 98, 3) := by decide +kernel
theorem d42_44 : decode jdk_40_method_47_code 44 = .ok (.areturn, 1) := by decide +kernel
theorem d42_45 : decode jdk_40_method_47_code 45 = .ok (.new 96, 3) := by decide +kernel
theorem d42_48 : decode jdk_40_method_47_code 48 = .ok (.dup, 1) := by decide +kernel
theorem d42_49 : decode jdk_40_method_47_code 49 = .ok (.aload_n 0, 1) := by decide +kernel
theorem d42_50 : decode jdk_40_method_47_code 50 = .ok (.iconst 0, 1) := by decide +kernel
theorem d42_51 : decode jdk_40_method_47_code 51 = .ok (.aaload, 1) := by decide +kernel
theorem d42_52 : decode jdk_40_method_47_code 52 = .ok (.aload_n 0, 1) := by decide +kernel
theorem d42_53 : decode jdk_40_method_47_code 53 = .ok (.iconst 1, 1) := by decide +kernel
theorem d42_54 : decode jdk_40_method_47_code 54 = .ok (.aaload, 1) := by decide +kernel
theorem d42_55 : decode jdk_40_method_47_code 55 = .ok (.invokespecial 100, 3) := by decide +kernel
theorem d42_58 : decode jdk_40_method_47_code 58 = .ok (.areturn, 1) := by decide +kernel
theorem d42_59 : decode jdk_40_method_47_code 59 = .ok (.aload_n 0, 1) := by decide +kernel
theorem d42_60 : decode jdk_40_method_47_code 60 = .ok (.invokestatic 109, 3) := by decide +kernel
theorem d42_63 : decode jdk_40_method_47_code 63 = .ok (.areturn, 1) := by decide +kernel
theorem d11_0 : decode jdk_56_method_3_code 0 = .ok (.aload_n 0, 1) := by decide +kernel
theorem d11_1 : decode jdk_56_method_3_code 1 = .ok (.instanceof 10, 3) := by decide +kernel
theorem d11_4 : decode jdk_56_method_3_code 4 = .ok (.ifCond .ne 22, 3) := by decide +kernel
theorem d11_7 : decode jdk_56_method_3_code 7 = .ok (.aload_n 0, 1) := by decide +kernel
theorem d11_8 : decode jdk_56_method_3_code 8 = .ok (.instanceof 12, 3) := by decide +kernel
theorem d11_11 : decode jdk_56_method_3_code 11 = .ok (.ifCond .eq 20, 3) := by decide +kernel
theorem d11_31 : decode jdk_56_method_3_code 31 = .ok (.aload_n 0, 1) := by decide +kernel
theorem d11_32 : decode jdk_56_method_3_code 32 = .ok (.invokeinterface 20 1, 5) := by decide +kernel
theorem d11_37 : decode jdk_56_method_3_code 37 = .ok (.ifCond .eq 7, 3) := by decide +kernel
theorem d11_40 : decode jdk_56_method_3_code 40 = .ok (.invokestatic 26, 3) := by decide +kernel
theorem d11_43 : decode jdk_56_method_3_code 43 = .ok (.areturn, 1) := by decide +kernel
theorem d11_44 : decode jdk_56_method_3_code 44 = .ok (.aload_n 0, 1) := by decide +kernel
theorem d11_45 : decode jdk_56_method_3_code 45 = .ok (.invokeinterface 30 1, 5) := by decide +kernel
theorem d11_50 : decode jdk_56_method_3_code 50 = .ok (.invokestatic 34, 3) := by decide +kernel
theorem d11_53 : decode jdk_56_method_3_code 53 = .ok (.areturn, 1) := by decide +kernel
theorem d10_0 : decode jdk_40_method_48_code 0 = .ok (.aload_n 0, 1) := by decide +kernel
theorem d10_1 : decode jdk_40_method_48_code 1 = .ok (.invokestatic 112, 3) := by decide +kernel
theorem d10_4 : decode jdk_40_method_48_code 4 = .ok (.areturn, 1) := by decide +kernel
theorem d9_0 : decode prog_28_method_1_code 0 = .ok (.aload_n 0, 1) := by decide +kernel
theorem d9_1 : decode prog_28_method_1_code 1 = .ok (.invokespecial 1, 3) := by decide +kernel
theorem d9_4 : decode prog_28_method_1_code 4 = .ok (.aload_n 0, 1) := by decide +kernel
theorem d9_5 : decode prog_28_method_1_code 5 = .ok (.aload_n 1, 1) := by decide +kernel
theorem d9_6 : decode prog_28_method_1_code 6 = .ok (.putfield 7, 3) := by decide +kernel
theorem d9_9 : decode prog_28_method_1_code 9 = .ok (.aload_n 0, 1) := by decide +kernel
theorem d9_10 : decode prog_28_method_1_code 10 = .ok (.aload_n 2, 1) := by decide +kernel
theorem d9_11 : decode prog_28_method_1_code 11 = .ok (.invokestatic 13, 3) := by decide +kernel
theorem d9_14 : decode prog_28_method_1_code 14 = .ok (.putfield 19, 3) := by decide +kernel
theorem d9_17 : decode prog_28_method_1_code 17 = .ok (.aload_n 0, 1) := by decide +kernel
theorem d9_18 : decode prog_28_method_1_code 18 = .ok (.aload_n 3, 1) := by decide +kernel
theorem d9_19 : decode prog_28_method_1_code 19 = .ok (.invokestatic 13, 3) := by decide +kernel
theorem d9_22 : decode prog_28_method_1_code 22 = .ok (.putfield 23, 3) := by decide +kernel
theorem d9_25 : decode prog_28_method_1_code 25 = .ok (.return_, 1) := by decide +kernel
theorem pd_0 : parseMethodDescriptor "(I[BII)I" = some ⟨[.int, (.array .byte), .int, .int], some .int⟩ := by decide +kernel
theorem pd_1 : parseMethodDescriptor "(Ljava/lang/Object;IIII)I" = some ⟨[(.object "java/lang/Object"), .int, .int, .int, .int], some .int⟩ := by decide +kernel
theorem pd_2 : parseMethodDescriptor "()Z" = some ⟨[], some .boolean⟩ := by decide +kernel
theorem pd_3 : parseMethodDescriptor "([B)I" = some ⟨[(.array .byte)], some .int⟩ := by decide +kernel
theorem pd_4 : parseMethodDescriptor "()I" = some ⟨[], some .int⟩ := by decide +kernel
theorem pd_5 : parseMethodDescriptor "(I)Ljava/lang/Object;" = some ⟨[.int], some (.object "java/lang/Object")⟩ := by decide +kernel
theorem pd_6 : parseMethodDescriptor "(Ljava/lang/Object;)I" = some ⟨[(.object "java/lang/Object")], some .int⟩ := by decide +kernel
theorem pd_7 : parseMethodDescriptor "([Ljava/lang/Object;)I" = some ⟨[(.array (.object "java/lang/Object"))], some .int⟩ := by decide +kernel
theorem pd_8 : parseMethodDescriptor "(Ljava/util/List;I)V" = some ⟨[(.object "java/util/List"), .int], none⟩ := by decide +kernel
theorem pd_9 : parseMethodDescriptor "(Ljava/lang/Object;)Z" = some ⟨[(.object "java/lang/Object")], some .boolean⟩ := by decide +kernel
theorem pd_10 : parseMethodDescriptor "()Ljava/util/Iterator;" = some ⟨[], some (.object "java/util/Iterator")⟩ := by decide +kernel
theorem pd_11 : parseMethodDescriptor "()Ljava/lang/Object;" = some ⟨[], some (.object "java/lang/Object")⟩ := by decide +kernel
theorem pd_12 : parseMethodDescriptor "(Ljava/lang/Object;Ljava/lang/Object;)Z" = some ⟨[(.object "java/lang/Object"), (.object "java/lang/Object")], some .boolean⟩ := by decide +kernel
theorem pd_13 : parseMethodDescriptor "([CIILjava/lang/Void;)V" = some ⟨[(.array .char), .int, .int, (.object "java/lang/Void")], none⟩ := by decide +kernel
theorem pd_14 : parseMethodDescriptor "([C)V" = some ⟨[(.array .char)], none⟩ := by decide +kernel
theorem pd_15 : parseMethodDescriptor "(C)Z" = some ⟨[.char], some .boolean⟩ := by decide +kernel
theorem pd_16 : parseMethodDescriptor "(C)[B" = some ⟨[.char], some (.array .byte)⟩ := by decide +kernel
theorem pd_17 : parseMethodDescriptor "([BB)V" = some ⟨[(.array .byte), .byte], none⟩ := by decide +kernel
theorem pd_18 : parseMethodDescriptor "()V" = some ⟨[], none⟩ := by decide +kernel
theorem pd_19 : parseMethodDescriptor "(II)I" = some ⟨[.int, .int], some .int⟩ := by decide +kernel
theorem pd_20 : parseMethodDescriptor "(I)[Ljava/lang/Object;" = some ⟨[.int], some (.array (.object "java/lang/Object"))⟩ := by decide +kernel
theorem pd_21 : parseMethodDescriptor "()[Ljava/lang/Object;" = some ⟨[], some (.array (.object "java/lang/Object"))⟩ := by decide +kernel
theorem pd_22 : parseMethodDescriptor "(Ljava/lang/Object;[Ljava/lang/Object;I)V" = some ⟨[(.object "java/lang/Object"), (.array (.object "java/lang/Object")), .int], none⟩ := by decide +kernel
theorem pd_23 : parseMethodDescriptor "(C)Ljava/lang/String;" = some ⟨[.char], some (.object "java/lang/String")⟩ := by decide +kernel
theorem pd_24 : parseMethodDescriptor "([Ljava/lang/Object;ILjava/lang/Class;)[Ljava/lang/Object;" = some ⟨[(.array (.object "java/lang/Object")), .int, (.object "java/lang/Class")], some (.array (.object "java/lang/Object"))⟩ := by decide +kernel
theorem pd_25 : parseMethodDescriptor "([Ljava/lang/Object;I)[Ljava/lang/Object;" = some ⟨[(.array (.object "java/lang/Object")), .int], some (.array (.object "java/lang/Object"))⟩ := by decide +kernel
theorem pd_26 : parseMethodDescriptor "(Ljava/lang/Object;)Ljava/lang/Object;" = some ⟨[(.object "java/lang/Object")], some (.object "java/lang/Object")⟩ := by decide +kernel
theorem pd_27 : parseMethodDescriptor "([Ljava/lang/Object;Z)V" = some ⟨[(.array (.object "java/lang/Object")), .boolean], none⟩ := by decide +kernel
theorem pd_28 : parseMethodDescriptor "(Ljava/lang/Object;)V" = some ⟨[(.object "java/lang/Object")], none⟩ := by decide +kernel
theorem pd_29 : parseMethodDescriptor "(Ljava/lang/Object;Ljava/lang/Object;)V" = some ⟨[(.object "java/lang/Object"), (.object "java/lang/Object")], none⟩ := by decide +kernel
theorem pd_30 : parseMethodDescriptor "([Ljava/lang/Object;)Ljava/util/List;" = some ⟨[(.array (.object "java/lang/Object"))], some (.object "java/util/List")⟩ := by decide +kernel
theorem pd_31 : parseMethodDescriptor "()Ljava/util/List;" = some ⟨[], some (.object "java/util/List")⟩ := by decide +kernel
theorem pd_32 : parseMethodDescriptor "(Ljava/util/Collection;)Ljava/util/List;" = some ⟨[(.object "java/util/Collection")], some (.object "java/util/List")⟩ := by decide +kernel
theorem pd_33 : parseMethodDescriptor "(II)Ljava/lang/String;" = some ⟨[.int, .int], some (.object "java/lang/String")⟩ := by decide +kernel
theorem pd_34 : parseMethodDescriptor "(II)Ljava/util/ArrayList;" = some ⟨[.int, .int], some (.object "java/util/ArrayList")⟩ := by decide +kernel
theorem pd_35 : parseMethodDescriptor "(Ljava/lang/String;Ljava/util/List;Ljava/util/List;)V" = some ⟨[(.object "java/lang/String"), (.object "java/util/List"), (.object "java/util/List")], none⟩ := by decide +kernel
theorem pd_36 : parseMethodDescriptor "(III)Ljava/lang/String;" = some ⟨[.int, .int, .int], some (.object "java/lang/String")⟩ := by decide +kernel
theorem plain_java_lang_String : plainName "java/lang/String" = true := by first | (simp [plainName, overriddenIn]; done) | decide +kernel
theorem plain_jdk_internal_util_ArraysSupport : plainName "jdk/internal/util/ArraysSupport" = true := by first | (simp [plainName, overriddenIn]; done) | decide +kernel
theorem plain_java_lang_StringLatin1 : plainName "java/lang/StringLatin1" = true := by first | (simp [plainName, overriddenIn]; done) | decide +kernel
theorem plain_java_util_ImmutableCollections_ListN : plainName "java/util/ImmutableCollections$ListN" = true := by first | (simp [plainName, overriddenIn]; done) | decide +kernel
theorem plain_java_util_ImmutableCollections_List12 : plainName "java/util/ImmutableCollections$List12" = true := by first | (simp [plainName, overriddenIn]; done) | decide +kernel
theorem plain_java_util_Objects : plainName "java/util/Objects" = true := by first | (simp [plainName, overriddenIn]; done) | decide +kernel
theorem plain_java_util_ImmutableCollections_AbstractImmutableList : plainName "java/util/ImmutableCollections$AbstractImmutableList" = true := by first | (simp [plainName, overriddenIn]; done) | decide +kernel
theorem plain_java_util_Arrays : plainName "java/util/Arrays" = true := by first | (simp [plainName, overriddenIn]; done) | decide +kernel
theorem plain_com_example_weftwork_weftwork_model_Service : plainName "com/example/weftwork/weftwork/model/Service" = true := by first | (simp [plainName, overriddenIn]; done) | decide +kernel
theorem plain_java_util_ImmutableCollections_ListItr : plainName "java/util/ImmutableCollections$ListItr" = true := by first | (simp [plainName, overriddenIn]; done) | decide +kernel
theorem plain_com_example_weftwork_weftwork_model_ServiceHashCodePinLaw : plainName "com/example/weftwork/weftwork/model/ServiceHashCodePinLaw" = true := by first | (simp [plainName, overriddenIn]; done) | decide +kernel
theorem plain_java_util_AbstractCollection : plainName "java/util/AbstractCollection" = true := by first | (simp [plainName, overriddenIn]; done) | decide +kernel
theorem plain_java_util_AbstractList : plainName "java/util/AbstractList" = true := by first | (simp [plainName, overriddenIn]; done) | decide +kernel
theorem plain_java_util_ArrayList : plainName "java/util/ArrayList" = true := by first | (simp [plainName, overriddenIn]; done) | decide +kernel
theorem plain_java_util_List : plainName "java/util/List" = true := by first | (simp [plainName, overriddenIn]; done) | decide +kernel
theorem plain_java_util_ImmutableCollections_AbstractImmutableCollection : plainName "java/util/ImmutableCollections$AbstractImmutableCollection" = true := by first | (simp [plainName, overriddenIn]; done) | decide +kernel
theorem plain_java_util_ImmutableCollections : plainName "java/util/ImmutableCollections" = true := by first | (simp [plainName, overriddenIn]; done) | decide +kernel
theorem rmE4 (l : Launch) (Z : State) (a0 : Array Value) (hw : ∀ d ∈ tables_1, d.before a0 Z = true) (h0 : Heap) (n0 : Nat) (Z0 : n0 ≤ h0.size) (x b : Addr) (g0 : n0 ≤ x) (A0 : Exa Z h0 x "java/lang/String") (V0 : Fld Z h0 x "java/lang/String" "value" "[B" .null) (C0 : Fld Z h0 x "java/lang/String" "coder" "B" (.int 0)) (H0 : Fld Z h0 x "java/lang/String" "hash" "I" (.int 0)) (J0 : Fld Z h0 x "java/lang/String" "hashIsZero" "Z" (.int 0)) : Con l Z EL y_31 jdk_42_method_149_code 6 none [] ({ frames := 1, cells := 4, slots := 8, locals := 14 } : Room) #[.ref x, .ref b, .int (0 : Int32), .int (0 : Int32), .null] h0 n0 (fun v h => v = none ∧ Keep h0 h [x] ∧ StrH Z h x []) := by
 refine Con.intro (own := "java/lang/String") rfl (plainFor_of_name plain_java_lang_String) (hEL hw) ?_
 intro p e s m below meth c s₁ hx hby hml hret hlk hnm W0
 refine Fi.cast (show entryFrame m #[.ref x, .ref b, .int (0 : Int32), .int (0 : Int32), .null] 6 = mkF m 0 #[.val (.ref x), .val (.ref b), .val (.int 0), .val (.int 0), .val .null, .unset] [] from by first | (simp [entryFrame, mkF, argsToLocals, Value.category]; done) | rfl) ?_
 refine Fi.by' (st' := (s₁.setTop (mkF m 1 #[.val (.ref x), .val (.ref b), .val (.int 0), .val (.int 0), .val .null, .unset] [.ref x]))) (fun t k => XS.aloadN W0.here hx rfl (hb hby d3_0) rfl rfl k) ?_
 refine W0.initO hx (ww hw 18 rfl) (ww hw 19 rfl) (ww hw 20 rfl) (g := (mkF m 1 #[.val (.ref x), .val (.ref b), .val (.int 0), .val (.int 0), .val .null, .unset] [.ref x])) rfl (by rw [hml]; rfl) rfl (hb hby d3_1) (by decide) (Wd := 0) (ble_ rfl) (by decide) (fun T1 W1 => ?_)
 refine Fi.by' (st' := (T1.setTop (mkF m 9 #[.val (.ref x), .val (.ref b), .val (.int 0), .val (.int 0), .val .null, .unset] [.ref x]))) (fun t k => ?_) ?_
 ·refine XS.iloadN W1.here hx rfl (hb hby d3_4) rfl ?_
  refine XS.ifNo W1.here hx rfl (hb hby d3_5) rfl ((if0 _ _).trans (teq (rfl : (0 : Int32) = 0)).2) ?_
  refine XS.aloadN W1.here hx rfl (hb hby d3_8) rfl rfl ?_
  exact k
 refine W1.ldc hx (ww hw 21 rfl) (wS hw) (by decide) ([] : List Int32) (by decide +kernel) (by decide +kernel) (g := (mkF m 9 #[.val (.ref x), .val (.ref b), .val (.int 0), .val (.int 0), .val .null, .unset] [.ref x])) rfl (hb hby d3_9) (n := 0) (by decide) (by decide) (by decide) (by decide) (fun T2 h2 a2 W2 E2 F2 => ?_)
 obtain ⟨t2, k2, f1, f2, f3, f4, f5, f6⟩ := F2
 have A2 := Exa.ext E2 A0
 have V2 := Fld.ext E2 V0
 have C2 := Fld.ext E2 C0
 have H2 := Fld.ext E2 H0
 have J2 := Fld.ext E2 J0
 refine W2.getF hx (ww hw 27 rfl) f2 (g := (mkF m 11 #[.val (.ref x), .val (.ref b), .val (.int 0), .val (.int 0), .val .null, .unset] [.ref a2, .ref x])) rfl rfl (hb hby d3_11) (fun T3 W3 => ?_)
 refine W3.putF hx (ww hw 27 rfl) V2 A2 (Or.inr ⟨(ww hw 23 rfl), rfl, hnm⟩) (ww hw 8 rfl) (ty := .array .byte) (by decide) rfl rfl (g := (mkF m 14 #[.val (.ref x), .val (.ref b), .val (.int 0), .val (.int 0), .val .null, .unset] [.ref t2, .ref x])) rfl rfl (hb hby d3_14) g0 (safe_null A2 V2 (ww hw 8 rfl)) (fun T4 h4 W4 R4 => ?_)
 have A4 := Exa.wr R4 A2
 have V4 : Fld Z h4 x "java/lang/String" "value" "[B" (.ref t2) := Fld.same R4 V2
 have C4 : Fld Z h4 x "java/lang/String" "coder" "B" (.int 0) := Fld.other R4 C2 (Or.inr (slot_ne (Or.inr (ww hw 24 rfl)) (Or.inr (ww hw 23 rfl)) (by decide) (t := .byte) (t' := .array .byte) (by decide) (by decide)))
 have H4 := Fld.other R4 H2 (Or.inr (slot_ne (Or.inl (ww hw 119 rfl)) (Or.inr (ww hw 23 rfl)) (by decide) (t := .int) (t' := .array .byte) (by decide) (by decide)))
 have J4 := Fld.other R4 J2 (Or.inr (slot_ne (Or.inl (ww hw 121 rfl)) (Or.inr (ww hw 23 rfl)) (by decide) (t := .boolean) (t' := .array .byte) (by decide) (by decide)))
 have B4 := Arv.other f4 R4 (Ne.symm (Exa.neArv A2 f4 (ww hw 8 rfl)))
 refine Fi.by' (st' := (T4.setTop (mkF m 18 #[.val (.ref x), .val (.ref b), .val (.int 0), .val (.int 0), .val .null, .unset] [.ref x]))) (fun t k => XS.aloadN W4.here hx rfl (hb hby d3_17) rfl rfl k) ?_
 refine W4.ldc hx (ww hw 21 rfl) (wS hw) (by decide) ([] : List Int32) (by decide +kernel) (by decide +kernel) (g := (mkF m 18 #[.val (.ref x), .val (.ref b), .val (.int 0), .val (.int 0), .val .null, .unset] [.ref x])) rfl (hb hby d3_18) (n := 0) (by decide) (by decide) (by decide) (by decide) (fun T5 h5 a5 W5 E5 F5 => ?_)
 obtain ⟨t5, k5, j1, j2, j3, j4, j5, j6⟩ := F5
 have A5 := Exa.ext E5 A4
 have C5 := Fld.ext E5 C4
 refine W5.getF hx (ww hw 28 rfl) j3 (g := (mkF m 20 #[.val (.ref x), .val (.ref b), .val (.int 0), .val (.int 0), .val .null, .unset] [.ref a5, .ref x])) rfl rfl (hb hby d3_20) (fun T6 W6 => ?_)
 refine W6.putSame hx (ww hw 28 rfl) C5 A5 (Or.inr ⟨(ww hw 24 rfl), rfl, hnm⟩) (ww hw 8 rfl) (ty := .byte) (by decide) rfl rfl (g := (mkF m 23 #[.val (.ref x), .val (.ref b), .val (.int 0), .val (.int 0), .val .null, .unset] [.int (0 : Int32), .ref x])) rfl rfl (hb hby d3_23) g0 (fun T7 W7 => ?_)
 exact W7.vret hx hlk hret (hb hby d3_26) ⟨rfl, (((Keep.refl h0 [x]).ext E2).wr R4 (Or.inl (List.mem_singleton.mpr rfl))).ext E5, t2, k2, 0, 0, A5, Fld.ext E5 V4, C5, B4.ext E5, Fld.ext E5 H4, Fld.ext E5 J4, fun _ q => (nomatch q), by decide, Or.inl (by decide), Or.inl rfl, Or.inl rfl⟩ (by decide) (by decide)
theorem rmE1 (l : Launch) (Z : State) (a0 : Array Value) (hw : ∀ d ∈ tables_1, d.before a0 Z = true) (h0 : Heap) (n0 : Nat) (Z0 : n0 ≤ h0.size) (x b : Addr) (g0 : n0 ≤ x) (A0 : Exa Z h0 x "java/lang/String") (V0 : Fld Z h0 x "java/lang/String" "value" "[B" .null) (C0 : Fld Z h0 x "java/lang/String" "coder" "B" (.int 0)) (H0 : Fld Z h0 x "java/lang/String" "hash" "I" (.int 0)) (J0 : Fld Z h0 x "java/lang/String" "hashIsZero" "Z" (.int 0)) {kC : ClassId} {dv : Value} (B0 : Arv Z h0 b kC .char (0 : Int32) [] dv) : Con l Z EL y_32 jdk_42_method_3_code 2 none [] ({ frames := 2, cells := 4, slots := 8, locals := 33 } : Room) #[.ref x, .ref b] h0 n0 (fun v h => v = none ∧ Keep h0 h [x] ∧ StrH Z h x []) := by
 refine Con.intro (own := "java/lang/String") rfl (plainFor_of_name plain_java_lang_String) (hEL hw) ?_
 intro p e s m below meth c s₁ hx hby hml hret hlk hnm W0
 refine Fi.cast (show entryFrame m #[.ref x, .ref b] 2 = mkF m 0 #[.val (.ref x), .val (.ref b)] [] from by first | (simp [entryFrame, mkF, argsToLocals, Value.category]; done) | rfl) ?_
 refine Fi.by' (st' := s₁.setTop (mkF m 4 #[.val (.ref x), .val (.ref b)] [.ref b, .int (0 : Int32), .ref b, .ref x])) (fun t k => ?_) ?_
 ·refine XS.aloadN W0.here hx rfl (hb hby d2_0) rfl rfl ?_
  refine XS.aloadN W0.here hx rfl (hb hby d2_1) rfl rfl ?_
  refine iconstZ W0.here hx rfl (hb hby d2_2) rfl ?_
  refine XS.aloadN W0.here hx rfl (hb hby d2_3) rfl rfl ?_
  exact k
 refine W0.alen hx B0 (g := (mkF m 4 #[.val (.ref x), .val (.ref b)] [.ref b, .int (0 : Int32), .ref b, .ref x])) rfl rfl (hb hby d2_4) ?_
 refine Fi.by' (st' := s₁.setTop (mkF m 6 #[.val (.ref x), .val (.ref b)] [.null, .int (0 : Int32), .int (0 : Int32), .ref b, .ref x])) (fun t k => XS.aconstNull W0.here hx rfl (hb hby d2_5) k) ?_
 refine W0.callI hx (y := y_31) rfl (ww hw 14 rfl) (ww hw 15 rfl) (ww hw 17 rfl) (by decide) (Pay.of_con (Wd := 0) (rmE4 l Z a0 hw h0 n0 Z0 x b g0 A0 V0 C0 H0 J0) (ww hw 17 rfl) (ww hw 9 rfl) (hEL hw) (by decide) (by decide)) (g := (mkF m 6 #[.val (.ref x), .val (.ref b)] [.null, .int (0 : Int32), .int (0 : Int32), .ref b, .ref x])) rfl (by rw [hml]; rfl) (a := x) (argsL := [.ref b, .int (0 : Int32), .int (0 : Int32), .null]) (rest := []) (lenOf pd_13 rfl) rfl rfl (ble_ rfl) (hb hby d2_6) (by decide) (by decide) (fun v1 T1 h1 W1 s1 q1 => ?_)
 obtain ⟨rfl, q2, q3⟩ := q1
 exact W1.vret hx hlk hret (hb hby d2_9) ⟨rfl, q2, q3⟩ (by decide) (by decide)
section Paid
variable {p : Program} {l : Launch} {e : Env} {R : Room} {s : State} {args : Array Value} {below : List Frame} {Z : State} {a0 : Array Value} {n0 : Nat} {h : Heap}
theorem payE (hw : ∀ d ∈ tables_1, d.before a0 Z = true) {Wd : Nat} {x b : Addr} {kC : ClassId} {dv : Value} (Z0 : n0 ≤ h.size) (g0 : n0 ≤ x) (A0 : Exa Z h x "java/lang/String") (V0 : Fld Z h x "java/lang/String" "value" "[B" .null) (C0 : Fld Z h x "java/lang/String" "coder" "B" (.int 0)) (H0 : Fld Z h x "java/lang/String" "hash" "I" (.int 0)) (J0 : Fld Z h x "java/lang/String" "hashIsZero" "Z" (.int 0)) (B0 : Arv Z h b kC .char (0 : Int32) [] dv) (hf : 3 ≤ R.frames) (hl : Wd + 46 ≤ R.locals) :
  Pay l R p e below s args Z EL n0 y_32 Wd #[.ref x, .ref b] h (fun v h' => v = none ∧ Keep h h' [x] ∧ StrH Z h' x []) 4 8 :=
 Pay.of_con (rm := ({ frames := 2, cells := 4, slots := 8, locals := 33 } : Room)) (rmE1 l Z a0 hw h n0 Z0 x b g0 A0 V0 C0 H0 J0 B0) (ww hw 13 rfl) (ww hw 9 rfl) (hEL hw) hf hl
theorem wsV {a0 : Array Value} {Z : State} (hw : ∀ d ∈ tables_1, d.before a0 Z = true) : ∀ d ∈ StrChars.Road.words, d.before a0 Z = true := fun d hd => hw d ((by decide +kernel : ∀ d ∈ StrChars.Road.words, d ∈ tables_1) d hd)
theorem payS (hw : ∀ d ∈ tables_1, d.before a0 Z = true) {Wd n : Nat} {x b : Addr} {kC : ClassId} {dv : Value} {cs : List Int32} {N z : Int32} (Z0 : n0 ≤ h.size) (g0 : n0 ≤ x) (A0 : Exa Z h x "java/lang/String") (V0 : Fld Z h x "java/lang/String" "value" "[B" .null) (C0 : Fld Z h x "java/lang/String" "coder" "B" (.int 0)) (H0 : Fld Z h x "java/lang/String" "hash" "I" (.int 0)) (J0 : Fld Z h x "java/lang/String" "hashIsZero" "Z" (.int 0)) (B0 : Arv Z h b kC .char N (cs.map Value.int) dv) (S : Sta Z h "java/lang/String" "COMPACT_STRINGS" "Z" (.int z)) (hz : ¬ z = 0)
  (hn : cs.length = n) (hN : N = Int32.ofNat n) (l0 : 0 < n) (l2 : n ≤ 2) (hp : ∀ c ∈ cs, ¬ c < 0 ∧ ¬ (255 : Int32) < c) (hf : 4 ≤ R.frames) (hl : Wd + 65 ≤ R.locals) :
  Pay l R p e below s args Z EL n0 y_32 Wd #[.ref x, .ref b] h (fun v h' => v = none ∧ Keep h h' [x] ∧ StrH Z h' x cs) 1 n := by
 subst hn hN
 refine Pay.of_back (ws := [x]) (hEL hw) (fun vm0 hZ => Back.mono (StrChars.Road.backArv (s := s.setVm vm0) hZ (wsV hw) (ww hw 8 rfl) A0 V0 C0 B0 S hz (by simp only [Int32.toNatClampNeg, show (Int32.ofNat cs.length).toInt = cs.length from len_toInt (by omega)]; omega) l0 (by omega) (fun c hc => (hp c hc).2) hf hl) (fun _ _ q => q) (fun _ _ v B _ q => ?_)) (fun vm hZ hC y hy => by cases List.mem_singleton.mp hy; exact safe_null A0 V0 (ww hw 8 rfl) vm hZ hC)
 obtain ⟨L, ⟨q1, q2, q3, q4, q5, q6, q7, ⟨kb, v1, v2⟩, q9⟩, r⟩ := q
 exact ⟨L, ⟨fun y hy => by rw [q2 y hy]; exact g0, q3, q1, q3, h.size, kb, 0, 0, q5, q6, q7, by rw [List.map_map]; exact v2, q9 _ _ _ _ H0 (slot_ne (Or.inl (ww hw 119 rfl)) (Or.inr (ww hw 23 rfl)) (by decide) (t := .int) (t' := .array .byte) (by decide) (by decide)) (slot_ne (Or.inl (ww hw 119 rfl)) (Or.inr (ww hw 24 rfl)) (by decide) (t := .int) (t' := .byte) (by decide) (by decide)), q9 _ _ _ _ J0 (slot_ne (Or.inl (ww hw 121 rfl)) (Or.inr (ww hw 23 rfl)) (by decide) (t := .boolean) (t' := .array .byte) (by decide) (by decide)) (slot_ne (Or.inl (ww hw 121 rfl)) (Or.inr (ww hw 24 rfl)) (by decide) (t := .boolean) (t' := .byte) (by decide) (by decide)), hp, l2, Or.inr v1, Or.inl rfl, Or.inl rfl⟩, r⟩
end Paid

def EN : List (String × Nat) := []
theorem hEN {a0 : Array Value} {Z : State} (hw : ∀ d ∈ tables_1, d.before a0 Z = true) : EW Z a0 EN := EW.nil
def Q_isl (Z : State) (x : Addr) (zc : Int32) (h0 : Heap) (v : Option Value) (h : Heap) : Prop := v = some (.int 1) ∧ h0 = h
theorem rm_isl (l : Launch) (Z : State) (a0 : Array Value) (hw : ∀ d ∈ tables_1, d.before a0 Z = true) (x : Addr) (zc : Int32) (h0 : Heap) (n0 : Nat) (Z0 : n0 ≤ h0.size) (S0 : Sta Z h0 "java/lang/String" "COMPACT_STRINGS" "Z" (.int zc)) (hz : ¬ zc = 0) (C1 : Fld Z h0 x "java/lang/String" "coder" "B" (.int 0)) :
  Con l Z EN y_0 jdk_42_method_154_code 1 (some .boolean) [] ({ frames := 0, cells := 0, slots := 0, locals := 0 } : Room) #[(.ref x)] h0 n0 (Q_isl Z x zc h0) := by
 refine Con.intro (own := "java/lang/String") rfl (plainFor_of_name plain_java_lang_String) (hEN hw) ?_
 intro p e s m below meth c s₁ hx hby hml hret hlk hnm W0
 refine Fi.cast (show entryFrame m #[(.ref x)] 1 = (mkF m 0 #[.val (.ref x)] []) from by first | (simp [entryFrame, mkF, argsToLocals, Value.category]; done) | rfl) ?_
 refine W0.getS hx (ww hw 127 rfl) S0 (g := (mkF m 0 #[.val (.ref x)] [])) rfl (hb hby d18_0) (fun T1 W1 => ?_)
 change Fi _ _ _ _ _ _ _ _ _ _ (T1.setTop (mkF m 3 #[.val (.ref x)] [(.int zc)]))
 refine Fi.by' (st' := T1.setTop (mkF m 7 #[.val (.ref x)] [(.ref x)])) (fun t k => ?_) ?_
 ·refine XS.ifNo W1.here hx rfl (hb hby d18_3) rfl ((if0 _ _).trans (feq hz).1) ?_
  refine XS.aloadN W1.here hx rfl (hb hby d18_6) rfl rfl ?_
  exact k
 refine W1.getF hx (ww hw 28 rfl) C1 (g := (mkF m 7 #[.val (.ref x)] [(.ref x)])) rfl rfl (hb hby d18_7) (fun T2 W2 => ?_)
 change Fi _ _ _ _ _ _ _ _ _ _ (T2.setTop (mkF m 10 #[.val (.ref x)] [(.int 0)]))
 refine Fi.by' (st' := T2.setTop (mkF m 18 #[.val (.ref x)] [(.int 1)])) (fun t k => ?_) ?_
 ·refine XS.ifNo W2.here hx rfl (hb hby d18_10) rfl ((if0 _ _).trans (teq (by decide : ((0 : Int32) = (0 : Int32)))).2) ?_
  refine iconstZ W2.here hx rfl (hb hby d18_13) (z := (1 : Int32)) rfl ?_
  refine XS.goto W2.here hx rfl (pc0 := 14) (pc' := 18) rfl (hb hby d18_14) (by decide) (by decide) ?_
  exact k
 exact W2.iret hx hlk hret (by simp) rfl (hb hby d18_18) ⟨rfl, rfl⟩ (by decide) (by decide)
def Q_sgn (Z : State) (tb : Addr) (c0 c1 : Int32) (kb : ClassId) (h0 : Heap) (v : Option Value) (h : Heap) : Prop := v = some (.int (hashS [c0, c1])) ∧ h0 = h
theorem rm_sgn (l : Launch) (Z : State) (a0 : Array Value) (hw : ∀ d ∈ tables_1, d.before a0 Z = true) (tb : Addr) (c0 c1 : Int32) (kb : ClassId) (h0 : Heap) (n0 : Nat) (Z0 : n0 ≤ h0.size) (P_c0 : ¬ c0 < 0 ∧ ¬ (255 : Int32) < c0) (P_c1 : ¬ c1 < 0 ∧ ¬ (255 : Int32) < c1) (B0 : Arv Z h0 tb kb .byte (2 : Int32) (([low8 c0, low8 c1] : List Int32).map Value.int) (.int 0)) :
  Con l Z EN y_1 jdk_48_method_5_code 6 (some .int) [] ({ frames := 0, cells := 0, slots := 0, locals := 0 } : Room) #[(.int 0), (.ref tb), (.int 0), (.int 2)] h0 n0 (Q_sgn Z tb c0 c1 kb h0) := by
 refine Con.intro (own := "jdk/internal/util/ArraysSupport") rfl (plainFor_of_name plain_jdk_internal_util_ArraysSupport) (hEN hw) ?_
 intro p e s m below meth c s₁ hx hby hml hret hlk hnm W0
 refine Fi.cast (show entryFrame m #[(.int 0), (.ref tb), (.int 0), (.int 2)] 6 = (mkF m 0 #[.val (.int 0), .val (.ref tb), .val (.int 0), .val (.int 2), .unset, .unset] []) from by first | (simp [entryFrame, mkF, argsToLocals, Value.category]; done) | rfl) ?_
 refine Fi.by' (st' := s₁.setTop (mkF m 22 #[.val (.int 0), .val (.ref tb), .val (.int 0), .val (.int 2), .val (.int 2), .val (.int 0)] [(.int 0), (.ref tb), (.int ((31 : Int32) * (0 : Int32)))])) (fun t k => ?_) ?_
 ·refine XS.iloadN W0.here hx rfl (hb hby d48_0) rfl ?_
  refine XS.iloadN W0.here hx rfl (hb hby d48_1) rfl ?_
  refine XS.iadd W0.here hx rfl (hb hby d48_2) rfl ?_
  refine XS.istore W0.here hx rfl (hb hby d48_3) rfl (l' := #[.val (.int 0), .val (.ref tb), .val (.int 0), .val (.int 2), .val (.int 2), .unset]) rfl ?_
  refine XS.iloadN W0.here hx rfl (hb hby d48_5) rfl ?_
  refine XS.istore W0.here hx rfl (hb hby d48_6) rfl (l' := #[.val (.int 0), .val (.ref tb), .val (.int 0), .val (.int 2), .val (.int 2), .val (.int 0)]) rfl ?_
  refine XS.iload W0.here hx rfl (hb hby d48_8) rfl ?_
  refine XS.iload W0.here hx rfl (hb hby d48_10) rfl ?_
  refine XS.icmpNo W0.here hx rfl (hb hby d48_12) rfl (tlt (by decide : ((0 : Int32) < (2 : Int32)))).2.1 ?_
  refine bipushZ W0.here hx rfl (hb hby d48_15) (z := (31 : Int32)) rfl ?_
  refine XS.iloadN W0.here hx rfl (hb hby d48_17) rfl ?_
  refine XS.imul W0.here hx rfl (hb hby d48_18) rfl ?_
  refine XS.aloadN W0.here hx rfl (hb hby d48_19) rfl rfl ?_
  refine XS.iload W0.here hx rfl (hb hby d48_20) rfl ?_
  exact k
 refine W0.baload hx B0 (j := (0 : Int32)) (v := .int (low8 c0)) (by decide) rfl (g := (mkF m 22 #[.val (.int 0), .val (.ref tb), .val (.int 0), .val (.int 2), .val (.int 2), .val (.int 0)] [(.int 0), (.ref tb), (.int ((31 : Int32) * (0 : Int32)))])) rfl rfl (hb hby d48_22) ?_
 change Fi _ _ _ _ _ _ _ _ _ _ (s₁.setTop (mkF m 23 #[.val (.int 0), .val (.ref tb), .val (.int 0), .val (.int 2), .val (.int 2), .val (.int 0)] [(.int (low8 c0)), (.int ((31 : Int32) * (0 : Int32)))]))
 refine Fi.by' (st' := s₁.setTop (mkF m 22 #[.val (.int (((31 : Int32) * (0 : Int32)) + ((low8 c0) &&& (255 : Int32)))), .val (.ref tb), .val (.int 0), .val (.int 2), .val (.int 2), .val (.int 1)] [(.int 1), (.ref tb), (.int ((31 : Int32) * (((31 : Int32) * (0 : Int32)) + ((low8 c0) &&& (255 : Int32)))))])) (fun t k => ?_) ?_
 ·refine sipushZ W0.here hx rfl (hb hby d48_23) (z := (255 : Int32)) rfl ?_
  refine XS.iand W0.here hx rfl (hb hby d48_26) rfl ?_
  refine XS.iadd W0.here hx rfl (hb hby d48_27) rfl ?_
  refine XS.istoreN W0.here hx rfl (hb hby d48_28) rfl (l' := #[.val (.int (((31 : Int32) * (0 : Int32)) + ((low8 c0) &&& (255 : Int32)))), .val (.ref tb), .val (.int 0), .val (.int 2), .val (.int 2), .val (.int 0)]) rfl ?_
  refine XS.iinc W0.here hx rfl (hb hby d48_29) rfl (l' := #[.val (.int (((31 : Int32) * (0 : Int32)) + ((low8 c0) &&& (255 : Int32)))), .val (.ref tb), .val (.int 0), .val (.int 2), .val (.int 2), .val (.int 1)]) rfl ?_
  refine XS.goto W0.here hx rfl (pc0 := 32) (pc' := 8) rfl (hb hby d48_32) (by decide) (by decide) ?_
  refine XS.iload W0.here hx rfl (hb hby d48_8) rfl ?_
  refine XS.iload W0.here hx rfl (hb hby d48_10) rfl ?_
  refine XS.icmpNo W0.here hx rfl (hb hby d48_12) rfl (tlt (by decide : ((1 : Int32) < (2 : Int32)))).2.1 ?_
  refine bipushZ W0.here hx rfl (hb hby d48_15) (z := (31 : Int32)) rfl ?_
  refine XS.iloadN W0.here hx rfl (hb hby d48_17) rfl ?_
  refine XS.imul W0.here hx rfl (hb hby d48_18) rfl ?_
  refine XS.aloadN W0.here hx rfl (hb hby d48_19) rfl rfl ?_
  refine XS.iload W0.here hx rfl (hb hby d48_20) rfl ?_
  exact k
 refine W0.baload hx B0 (j := (1 : Int32)) (v := .int (low8 c1)) (by decide) rfl (g := (mkF m 22 #[.val (.int (((31 : Int32) * (0 : Int32)) + ((low8 c0) &&& (255 : Int32)))), .val (.ref tb), .val (.int 0), .val (.int 2), .val (.int 2), .val (.int 1)] [(.int 1), (.ref tb), (.int ((31 : Int32) * (((31 : Int32) * (0 : Int32)) + ((low8 c0) &&& (255 : Int32)))))])) rfl rfl (hb hby d48_22) ?_
 change Fi _ _ _ _ _ _ _ _ _ _ (s₁.setTop (mkF m 23 #[.val (.int (((31 : Int32) * (0 : Int32)) + ((low8 c0) &&& (255 : Int32)))), .val (.ref tb), .val (.int 0), .val (.int 2), .val (.int 2), .val (.int 1)] [(.int (low8 c1)), (.int ((31 : Int32) * (((31 : Int32) * (0 : Int32)) + ((low8 c0) &&& (255 : Int32)))))]))
 refine Fi.by' (st' := s₁.setTop (mkF m 36 #[.val (.int (((31 : Int32) * (((31 : Int32) * (0 : Int32)) + ((low8 c0) &&& (255 : Int32)))) + ((low8 c1) &&& (255 : Int32)))), .val (.ref tb), .val (.int 0), .val (.int 2), .val (.int 2), .val (.int 2)] [(.int (((31 : Int32) * (((31 : Int32) * (0 : Int32)) + ((low8 c0) &&& (255 : Int32)))) + ((low8 c1) &&& (255 : Int32))))])) (fun t k => ?_) ?_
 ·refine sipushZ W0.here hx rfl (hb hby d48_23) (z := (255 : Int32)) rfl ?_
  refine XS.iand W0.here hx rfl (hb hby d48_26) rfl ?_
  refine XS.iadd W0.here hx rfl (hb hby d48_27) rfl ?_
  refine XS.istoreN W0.here hx rfl (hb hby d48_28) rfl (l' := #[.val (.int (((31 : Int32) * (((31 : Int32) * (0 : Int32)) + ((low8 c0) &&& (255 : Int32)))) + ((low8 c1) &&& (255 : Int32)))), .val (.ref tb), .val (.int 0), .val (.int 2), .val (.int 2), .val (.int 1)]) rfl ?_
  refine XS.iinc W0.here hx rfl (hb hby d48_29) rfl (l' := #[.val (.int (((31 : Int32) * (((31 : Int32) * (0 : Int32)) + ((low8 c0) &&& (255 : Int32)))) + ((low8 c1) &&& (255 : Int32)))), .val (.ref tb), .val (.int 0), .val (.int 2), .val (.int 2), .val (.int 2)]) rfl ?_
  refine XS.goto W0.here hx rfl (pc0 := 32) (pc' := 8) rfl (hb hby d48_32) (by decide) (by decide) ?_
  refine XS.iload W0.here hx rfl (hb hby d48_8) rfl ?_
  refine XS.iload W0.here hx rfl (hb hby d48_10) rfl ?_
  refine XS.icmpYes W0.here hx rfl (pc0 := 12) (pc' := 35) rfl (hb hby d48_12) rfl (flt (by decide : ¬ ((2 : Int32) < (2 : Int32)))).2.1 (by decide) (by decide) ?_
  refine XS.iloadN W0.here hx rfl (hb hby d48_35) rfl ?_
  exact k
 have hv : (((31 : Int32) * (((31 : Int32) * (0 : Int32)) + ((low8 c0) &&& (255 : Int32)))) + ((low8 c1) &&& (255 : Int32))) = hashS [c0, c1] := by rw [low8_mask P_c0, low8_mask P_c1]; simp [hashS]
 exact W0.iret hx hlk hret (by simp) rfl (hb hby d48_36) ⟨by rw [hv], rfl⟩ (by decide) (by decide)
def Q_vec (Z : State) (tb : Addr) (c0 c1 : Int32) (kb : ClassId) (h0 : Heap) (v : Option Value) (h : Heap) : Prop := v = some (.int (hashS [c0, c1])) ∧ h0 = h
theorem rm_vec (l : Launch) (Z : State) (a0 : Array Value) (hw : ∀ d ∈ tables_1, d.before a0 Z = true) (tb : Addr) (c0 c1 : Int32) (kb : ClassId) (h0 : Heap) (n0 : Nat) (Z0 : n0 ≤ h0.size) (P_c0 : ¬ c0 < 0 ∧ ¬ (255 : Int32) < c0) (P_c1 : ¬ c1 < 0 ∧ ¬ (255 : Int32) < c1) (B0 : Arv Z h0 tb kb .byte (2 : Int32) (([low8 c0, low8 c1] : List Int32).map Value.int) (.int 0)) (X0 : Exa Z h0 tb "[B") :
  Con l Z EN y_2 jdk_48_method_4_code 5 (some .int) [] ({ frames := 1, cells := 0, slots := 0, locals := 17 } : Room) #[(.ref tb), (.int 0), (.int 2), (.int 0), (.int 4)] h0 n0 (Q_vec Z tb c0 c1 kb h0) := by
 refine Con.intro (own := "jdk/internal/util/ArraysSupport") rfl (plainFor_of_name plain_jdk_internal_util_ArraysSupport) (hEN hw) ?_
 intro p e s m below meth c s₁ hx hby hml hret hlk hnm W0
 refine Fi.cast (show entryFrame m #[(.ref tb), (.int 0), (.int 2), (.int 0), (.int 4)] 5 = (mkF m 0 #[.val (.ref tb), .val (.int 0), .val (.int 2), .val (.int 0), .val (.int 4)] []) from by first | (simp [entryFrame, mkF, argsToLocals, Value.category]; done) | rfl) ?_
 refine Fi.by' (st' := s₁.setTop (mkF m 46 #[.val (.ref tb), .val (.int 0), .val (.int 2), .val (.int 0), .val (.int 4)] [(.ref tb), (.int 0)])) (fun t k => ?_) ?_
 ·refine XS.iload W0.here hx rfl (hb hby d47_0) rfl ?_
  refine XS.tswIn W0.here hx rfl (pc0 := 2) (pc' := 44) rfl (hb hby d47_2) rfl (by decide) (o := 42) rfl (by decide) (by decide) ?_
  refine XS.iloadN W0.here hx rfl (hb hby d47_44) rfl ?_
  refine XS.aloadN W0.here hx rfl (hb hby d47_45) rfl rfl ?_
  exact k
 refine W0.castY hx (ww hw 284 rfl) (Ins.self X0) (g := (mkF m 46 #[.val (.ref tb), .val (.int 0), .val (.int 2), .val (.int 0), .val (.int 4)] [(.ref tb), (.int 0)])) rfl rfl (hb hby d47_46) (fun T1 W1 => ?_)
 change Fi _ _ _ _ _ _ _ _ _ _ (T1.setTop (mkF m 49 #[.val (.ref tb), .val (.int 0), .val (.int 2), .val (.int 0), .val (.int 4)] [(.ref tb), (.int 0)]))
 refine Fi.by' (st' := T1.setTop (mkF m 51 #[.val (.ref tb), .val (.int 0), .val (.int 2), .val (.int 0), .val (.int 4)] [(.int 2), (.int 0), (.ref tb), (.int 0)])) (fun t k => ?_) ?_
 ·refine XS.iloadN W1.here hx rfl (hb hby d47_49) rfl ?_
  refine XS.iloadN W1.here hx rfl (hb hby d47_50) rfl ?_
  exact k
 refine W1.callS hx (y := y_1) (ww hw 286 rfl) (ww hw 287 rfl) (ww hw 282 rfl) (ww hw 288 rfl) (by decide) (Pay.of_con (Wd := 0) (rm_sgn l Z a0 hw tb c0 c1 kb h0 n0 (by omega) P_c0 P_c1 B0) (ww hw 288 rfl) (ww hw 282 rfl) (hEN hw) (by decide) (by decide)) (g := (mkF m 51 #[.val (.ref tb), .val (.int 0), .val (.int 2), .val (.int 0), .val (.int 4)] [(.int 2), (.int 0), (.ref tb), (.int 0)])) rfl (by rw [hml]; rfl) (argsL := [(.int 0), (.ref tb), (.int 0), (.int 2)]) (rest := []) (lenOf pd_0 rfl) rfl rfl (ble_ rfl) (hb hby d47_51) (by decide) (by decide) (fun v2 T2 h2 W2 sz2 q2 => ?_)
 obtain ⟨rfl, rfl⟩ := q2
 change Fi _ _ _ _ _ _ _ _ _ _ (T2.setTop (mkF m 54 #[.val (.ref tb), .val (.int 0), .val (.int 2), .val (.int 0), .val (.int 4)] [(.int (hashS [c0, c1]))]))
 refine Fi.by' (st' := T2.setTop (mkF m 157 #[.val (.ref tb), .val (.int 0), .val (.int 2), .val (.int 0), .val (.int 4)] [(.int (hashS [c0, c1]))])) (fun t k => ?_) ?_
 ·refine XS.goto W2.here hx rfl (pc0 := 54) (pc' := 157) rfl (hb hby d47_54) (by decide) (by decide) ?_
  exact k
 exact W2.iret hx hlk hret (by simp) rfl (hb hby d47_157) ⟨rfl, rfl⟩ (by decide) (by decide)
def Q_lh0 (Z : State) (tb : Addr) (kb : ClassId)  (h0 : Heap) (v : Option Value) (h : Heap) : Prop := v = some (.int (hashS [])) ∧ h0 = h
theorem rm_lh0 (l : Launch) (Z : State) (a0 : Array Value) (hw : ∀ d ∈ tables_1, d.before a0 Z = true) (tb : Addr) (kb : ClassId)  (h0 : Heap) (n0 : Nat) (Z0 : n0 ≤ h0.size)  (B0 : Arv Z h0 tb kb .byte (0 : Int32) (([] : List Int32).map Value.int) (.int 0)) :
  Con l Z EN y_3 jdk_43_method_21_code 1 (some .int) [] ({ frames := 0, cells := 0, slots := 0, locals := 0 } : Room) #[(.ref tb)] h0 n0 (Q_lh0 Z tb kb h0) := by
 refine Con.intro (own := "java/lang/StringLatin1") rfl (plainFor_of_name plain_java_lang_StringLatin1) (hEN hw) ?_
 intro p e s m below meth c s₁ hx hby hml hret hlk hnm W0
 refine Fi.cast (show entryFrame m #[(.ref tb)] 1 = (mkF m 0 #[.val (.ref tb)] []) from by first | (simp [entryFrame, mkF, argsToLocals, Value.category]; done) | rfl) ?_
 refine Fi.by' (st' := s₁.setTop (mkF m 1 #[.val (.ref tb)] [(.ref tb)])) (fun t k => ?_) ?_
 ·refine XS.aloadN W0.here hx rfl (hb hby d19_0) rfl rfl ?_
  exact k
 refine W0.alen hx B0 (g := (mkF m 1 #[.val (.ref tb)] [(.ref tb)])) rfl rfl (hb hby d19_1) ?_
 change Fi _ _ _ _ _ _ _ _ _ _ (s₁.setTop (mkF m 2 #[.val (.ref tb)] [(.int 0)]))
 refine W0.lswHit hx (g := (mkF m 2 #[.val (.ref tb)] [(.int 0)])) rfl rfl (hb hby d19_2) (pc0 := 2) rfl (a := 0) (o := 26) (by decide) (by decide) (by decide) (pc' := 28) (by decide) ?_
 change Fi _ _ _ _ _ _ _ _ _ _ (s₁.setTop (mkF m 28 #[.val (.ref tb)] []))
 refine Fi.by' (st' := s₁.setTop (mkF m 51 #[.val (.ref tb)] [(.int 0)])) (fun t k => ?_) ?_
 ·refine iconstZ W0.here hx rfl (hb hby d19_28) (z := (0 : Int32)) rfl ?_
  refine XS.goto W0.here hx rfl (pc0 := 29) (pc' := 51) rfl (hb hby d19_29) (by decide) (by decide) ?_
  exact k
 have hv : (0 : Int32) = hashS [] := by rfl
 exact W0.iret hx hlk hret (by simp) rfl (hb hby d19_51) ⟨by rw [hv], rfl⟩ (by decide) (by decide)
def Q_lh1 (Z : State) (tb : Addr) (kb : ClassId) (c0 : Int32) (h0 : Heap) (v : Option Value) (h : Heap) : Prop := v = some (.int (hashS [c0])) ∧ h0 = h
theorem rm_lh1 (l : Launch) (Z : State) (a0 : Array Value) (hw : ∀ d ∈ tables_1, d.before a0 Z = true) (tb : Addr) (kb : ClassId) (c0 : Int32) (h0 : Heap) (n0 : Nat) (Z0 : n0 ≤ h0.size) (P_c0 : ¬ c0 < 0 ∧ ¬ (255 : Int32) < c0) (B0 : Arv Z h0 tb kb .byte (1 : Int32) (([low8 c0] : List Int32).map Value.int) (.int 0)) :
  Con l Z EN y_3 jdk_43_method_21_code 1 (some .int) [] ({ frames := 0, cells := 0, slots := 0, locals := 0 } : Room) #[(.ref tb)] h0 n0 (Q_lh1 Z tb kb c0 h0) := by
 refine Con.intro (own := "java/lang/StringLatin1") rfl (plainFor_of_name plain_java_lang_StringLatin1) (hEN hw) ?_
 intro p e s m below meth c s₁ hx hby hml hret hlk hnm W0
 refine Fi.cast (show entryFrame m #[(.ref tb)] 1 = (mkF m 0 #[.val (.ref tb)] []) from by first | (simp [entryFrame, mkF, argsToLocals, Value.category]; done) | rfl) ?_
 refine Fi.by' (st' := s₁.setTop (mkF m 1 #[.val (.ref tb)] [(.ref tb)])) (fun t k => ?_) ?_
 ·refine XS.aloadN W0.here hx rfl (hb hby d19_0) rfl rfl ?_
  exact k
 refine W0.alen hx B0 (g := (mkF m 1 #[.val (.ref tb)] [(.ref tb)])) rfl rfl (hb hby d19_1) ?_
 change Fi _ _ _ _ _ _ _ _ _ _ (s₁.setTop (mkF m 2 #[.val (.ref tb)] [(.int 1)]))
 refine W0.lswHit hx (g := (mkF m 2 #[.val (.ref tb)] [(.int 1)])) rfl rfl (hb hby d19_2) (pc0 := 2) rfl (a := 1) (o := 30) (by decide) (by decide) (by decide) (pc' := 32) (by decide) ?_
 change Fi _ _ _ _ _ _ _ _ _ _ (s₁.setTop (mkF m 32 #[.val (.ref tb)] []))
 refine Fi.by' (st' := s₁.setTop (mkF m 34 #[.val (.ref tb)] [(.int 0), (.ref tb)])) (fun t k => ?_) ?_
 ·refine XS.aloadN W0.here hx rfl (hb hby d19_32) rfl rfl ?_
  refine iconstZ W0.here hx rfl (hb hby d19_33) (z := (0 : Int32)) rfl ?_
  exact k
 refine W0.baload hx B0 (j := (0 : Int32)) (v := .int (low8 c0)) (by decide) rfl (g := (mkF m 34 #[.val (.ref tb)] [(.int 0), (.ref tb)])) rfl rfl (hb hby d19_34) ?_
 change Fi _ _ _ _ _ _ _ _ _ _ (s₁.setTop (mkF m 35 #[.val (.ref tb)] [(.int (low8 c0))]))
 refine Fi.by' (st' := s₁.setTop (mkF m 51 #[.val (.ref tb)] [(.int ((low8 c0) &&& (255 : Int32)))])) (fun t k => ?_) ?_
 ·refine sipushZ W0.here hx rfl (hb hby d19_35) (z := (255 : Int32)) rfl ?_
  refine XS.iand W0.here hx rfl (hb hby d19_38) rfl ?_
  refine XS.goto W0.here hx rfl (pc0 := 39) (pc' := 51) rfl (hb hby d19_39) (by decide) (by decide) ?_
  exact k
 have hv : ((low8 c0) &&& (255 : Int32)) = hashS [c0] := by rw [low8_mask P_c0]; simp [hashS]
 exact W0.iret hx hlk hret (by simp) rfl (hb hby d19_51) ⟨by rw [hv], rfl⟩ (by decide) (by decide)
def Q_lh2 (Z : State) (tb : Addr) (kb : ClassId) (c0 c1 : Int32) (h0 : Heap) (v : Option Value) (h : Heap) : Prop := v = some (.int (hashS [c0, c1])) ∧ h0 = h
theorem rm_lh2 (l : Launch) (Z : State) (a0 : Array Value) (hw : ∀ d ∈ tables_1, d.before a0 Z = true) (tb : Addr) (kb : ClassId) (c0 c1 : Int32) (h0 : Heap) (n0 : Nat) (Z0 : n0 ≤ h0.size) (P_c0 : ¬ c0 < 0 ∧ ¬ (255 : Int32) < c0) (P_c1 : ¬ c1 < 0 ∧ ¬ (255 : Int32) < c1) (B0 : Arv Z h0 tb kb .byte (2 : Int32) (([low8 c0, low8 c1] : List Int32).map Value.int) (.int 0)) (X0 : Exa Z h0 tb "[B") :
  Con l Z EN y_3 jdk_43_method_21_code 1 (some .int) [] ({ frames := 2, cells := 0, slots := 0, locals := 33 } : Room) #[(.ref tb)] h0 n0 (Q_lh2 Z tb kb c0 c1 h0) := by
 refine Con.intro (own := "java/lang/StringLatin1") rfl (plainFor_of_name plain_java_lang_StringLatin1) (hEN hw) ?_
 intro p e s m below meth c s₁ hx hby hml hret hlk hnm W0
 refine Fi.cast (show entryFrame m #[(.ref tb)] 1 = (mkF m 0 #[.val (.ref tb)] []) from by first | (simp [entryFrame, mkF, argsToLocals, Value.category]; done) | rfl) ?_
 refine Fi.by' (st' := s₁.setTop (mkF m 1 #[.val (.ref tb)] [(.ref tb)])) (fun t k => ?_) ?_
 ·refine XS.aloadN W0.here hx rfl (hb hby d19_0) rfl rfl ?_
  exact k
 refine W0.alen hx B0 (g := (mkF m 1 #[.val (.ref tb)] [(.ref tb)])) rfl rfl (hb hby d19_1) ?_
 change Fi _ _ _ _ _ _ _ _ _ _ (s₁.setTop (mkF m 2 #[.val (.ref tb)] [(.int 2)]))
 refine W0.lswMiss hx (g := (mkF m 2 #[.val (.ref tb)] [(.int 2)])) rfl rfl (hb hby d19_2) (pc0 := 2) rfl (by decide) (by decide) (by decide) (pc' := 42) (by decide) ?_
 change Fi _ _ _ _ _ _ _ _ _ _ (s₁.setTop (mkF m 42 #[.val (.ref tb)] []))
 refine Fi.by' (st' := s₁.setTop (mkF m 45 #[.val (.ref tb)] [(.ref tb), (.int 0), (.ref tb)])) (fun t k => ?_) ?_
 ·refine XS.aloadN W0.here hx rfl (hb hby d19_42) rfl rfl ?_
  refine iconstZ W0.here hx rfl (hb hby d19_43) (z := (0 : Int32)) rfl ?_
  refine XS.aloadN W0.here hx rfl (hb hby d19_44) rfl rfl ?_
  exact k
 refine W0.alen hx B0 (g := (mkF m 45 #[.val (.ref tb)] [(.ref tb), (.int 0), (.ref tb)])) rfl rfl (hb hby d19_45) ?_
 change Fi _ _ _ _ _ _ _ _ _ _ (s₁.setTop (mkF m 46 #[.val (.ref tb)] [(.int 2), (.int 0), (.ref tb)]))
 refine Fi.by' (st' := s₁.setTop (mkF m 48 #[.val (.ref tb)] [(.int 4), (.int 0), (.int 2), (.int 0), (.ref tb)])) (fun t k => ?_) ?_
 ·refine iconstZ W0.here hx rfl (hb hby d19_46) (z := (0 : Int32)) rfl ?_
  refine iconstZ W0.here hx rfl (hb hby d19_47) (z := (4 : Int32)) rfl ?_
  exact k
 refine W0.callS hx (y := y_2) (ww hw 280 rfl) (ww hw 281 rfl) (ww hw 282 rfl) (ww hw 283 rfl) (by decide) (Pay.of_con (Wd := 0) (rm_vec l Z a0 hw tb c0 c1 kb h0 n0 (by omega) P_c0 P_c1 B0 X0) (ww hw 283 rfl) (ww hw 282 rfl) (hEN hw) (by decide) (by decide)) (g := (mkF m 48 #[.val (.ref tb)] [(.int 4), (.int 0), (.int 2), (.int 0), (.ref tb)])) rfl (by rw [hml]; rfl) (argsL := [(.ref tb), (.int 0), (.int 2), (.int 0), (.int 4)]) (rest := []) (lenOf pd_1 rfl) rfl rfl (ble_ rfl) (hb hby d19_48) (by decide) (by decide) (fun v3 T3 h3 W3 sz3 q3 => ?_)
 obtain ⟨rfl, rfl⟩ := q3
 change Fi _ _ _ _ _ _ _ _ _ _ (T3.setTop (mkF m 51 #[.val (.ref tb)] [(.int (hashS [c0, c1]))]))
 have hv : (hashS [c0, c1]) = hashS [c0, c1] := by rfl
 exact W3.iret hx hlk hret (by simp) rfl (hb hby d19_51) ⟨by rw [hv], rfl⟩ (by decide) (by decide)
section PaidLH
variable {p : Program} {l : Launch} {e : Env} {R : Room} {s : State} {args : Array Value} {below : List Frame} {Z : State} {a0 : Array Value} {n0 : Nat} {h : Heap}
theorem payLH (hw : ∀ d ∈ tables_1, d.before a0 Z = true) {Wd : Nat} {t : Addr} {kb : ClassId} {cs : List Int32} (Z0 : n0 ≤ h.size) (B0 : Arv Z h t kb .byte (Int32.ofNat cs.length) ((cs.map low8).map Value.int) (.int 0)) (hr : ∀ c ∈ cs, ¬ c < 0 ∧ ¬ (255 : Int32) < c) (h2 : cs.length ≤ 2) (hB : cs.length ≤ 1 ∨ Z.vm.findClass "[B" = some kb) (hf : 3 ≤ R.frames) (hl : Wd + 45 ≤ R.locals) :
  Pay l R p e below s args Z EN n0 y_3 Wd #[.ref t] h (fun v h' => v = some (.int (hashS cs)) ∧ h = h') 0 0 := by
 match cs, B0, hr, h2, hB with
 | [], B0, _, _, _ => exact Pay.of_con (rm_lh0 l Z a0 hw t kb h n0 Z0 B0) (ww hw 131 rfl) (ww hw 130 rfl) (hEN hw) (Nat.le_trans (by decide) hf) (Nat.le_trans (by rw [Nat.add_assoc]; exact Nat.add_le_add_left (by decide) _) hl)
 | [c0], B0, hr, _, _ => exact Pay.of_con (rm_lh1 l Z a0 hw t kb c0 h n0 Z0 (hr c0 (by simp)) B0) (ww hw 131 rfl) (ww hw 130 rfl) (hEN hw) (Nat.le_trans (by decide) hf) (Nat.le_trans (by rw [Nat.add_assoc]; exact Nat.add_le_add_left (by decide) _) hl)
 | [c0, c1], B0, hr, _, hB => exact Pay.of_con (rm_lh2 l Z a0 hw t kb c0 c1 h n0 Z0 (hr c0 (by simp)) (hr c1 (by simp)) B0 (exaB B0 (hB.resolve_left (by simp)))) (ww hw 131 rfl) (ww hw 130 rfl) (hEN hw) (Nat.le_trans (by decide) hf) (Nat.le_trans (by rw [Nat.add_assoc]; exact Nat.add_le_add_left (by decide) _) hl)
 | c0 :: c1 :: c2 :: r, _, _, h2, _ => exact absurd h2 (by simp)
end PaidLH
def Q_shc (Z : State) (x tb : Addr) (zc hv zv : Int32) (kb : ClassId) (cs : List Int32) (h0 : Heap) (v : Option Value) (h : Heap) : Prop := v = some (.int (hashS cs)) ∧ Hs Z h0 h
theorem rm_shc (l : Launch) (Z : State) (a0 : Array Value) (hw : ∀ d ∈ tables_1, d.before a0 Z = true) (x tb : Addr) (zc hv zv : Int32) (kb : ClassId) (cs : List Int32) (h0 : Heap) (n0 : Nat) (Z0 : n0 ≤ h0.size) (g0 : n0 ≤ x) (S0 : Sta Z h0 "java/lang/String" "COMPACT_STRINGS" "Z" (.int zc)) (hz : ¬ zc = 0) (U0 : StrH Z h0 x cs) (A1 : Exa Z h0 x "java/lang/String") (A2 : Fld Z h0 x "java/lang/String" "value" "[B" (.ref tb)) (A3 : Fld Z h0 x "java/lang/String" "coder" "B" (.int 0)) (A4 : Arv Z h0 tb kb .byte (Int32.ofNat cs.length) ((cs.map low8).map Value.int) (.int 0)) (A5 : Fld Z h0 x "java/lang/String" "hash" "I" (.int hv)) (A6 : Fld Z h0 x "java/lang/String" "hashIsZero" "Z" (.int zv)) (A7 : ∀ c ∈ cs, ¬ c < 0 ∧ ¬ (255 : Int32) < c) (A8 : cs.length ≤ 2) (A9 : cs.length ≤ 1 ∨ Z.vm.findClass "[B" = some kb) (A10 : hv = 0 ∨ hv = hashS cs) (A11 : zv = 0 ∨ (zv = 1 ∧ hashS cs = 0)) :
  Con l Z EN y_4 jdk_42_method_78_code 2 (some .int) [] ({ frames := 3, cells := 0, slots := 0, locals := 45 } : Room) #[(.ref x)] h0 n0 (Q_shc Z x tb zc hv zv kb cs h0) := by
 refine Con.intro (own := "java/lang/String") rfl (plainFor_of_name plain_java_lang_String) (hEN hw) ?_
 intro p e s m below meth c s₁ hx hby hml hret hlk hnm W0
 refine Fi.cast (show entryFrame m #[(.ref x)] 2 = (mkF m 0 #[.val (.ref x), .unset] []) from by first | (simp [entryFrame, mkF, argsToLocals, Value.category]; done) | rfl) ?_
 refine Fi.by' (st' := s₁.setTop (mkF m 1 #[.val (.ref x), .unset] [(.ref x)])) (fun t k => ?_) ?_
 ·refine XS.aloadN W0.here hx rfl (hb hby d17_0) rfl rfl ?_
  exact k
 refine W0.getF hx (ww hw 118 rfl) A5 (g := (mkF m 1 #[.val (.ref x), .unset] [(.ref x)])) rfl rfl (hb hby d17_1) (fun T1 W1 => ?_)
 change Fi _ _ _ _ _ _ _ _ _ _ (T1.setTop (mkF m 4 #[.val (.ref x), .unset] [(.int hv)]))
 refine Fi.by' (st' := T1.setTop (mkF m 6 #[.val (.ref x), .val (.int hv)] [(.int hv)])) (fun t k => ?_) ?_
 ·refine XS.istoreN W1.here hx rfl (hb hby d17_4) rfl (l' := #[.val (.ref x), .val (.int hv)]) rfl ?_
  refine XS.iloadN W1.here hx rfl (hb hby d17_5) rfl ?_
  exact k
 by_cases hc6_2 : hv = (0 : Int32)
 ·refine Fi.by' (st' := T1.setTop (mkF m 10 #[.val (.ref x), .val (.int hv)] [(.ref x)])) (fun t k => ?_) ?_
  ·refine XS.ifNo W1.here hx rfl (hb hby d17_6) rfl ((if0 _ _).trans (teq hc6_2).2) ?_
   refine XS.aloadN W1.here hx rfl (hb hby d17_9) rfl rfl ?_
   exact k
  refine W1.getF hx (ww hw 120 rfl) A6 (g := (mkF m 10 #[.val (.ref x), .val (.int hv)] [(.ref x)])) rfl rfl (hb hby d17_10) (fun T3 W3 => ?_)
  change Fi _ _ _ _ _ _ _ _ _ _ (T3.setTop (mkF m 13 #[.val (.ref x), .val (.int hv)] [(.int zv)]))
  by_cases hc13_4 : zv = (0 : Int32)
  ·refine Fi.by' (st' := T3.setTop (mkF m 17 #[.val (.ref x), .val (.int hv)] [(.ref x)])) (fun t k => ?_) ?_
   ·refine XS.ifNo W3.here hx rfl (hb hby d17_13) rfl ((if0 _ _).trans (teq hc13_4).2) ?_
    refine XS.aloadN W3.here hx rfl (hb hby d17_16) rfl rfl ?_
    exact k
   refine W3.callV hx (y := y_0) (C := "java/lang/String") (ww hw 122 rfl) (ww hw 123 rfl) (ww hw 125 rfl) (ww hw 124 rfl) (by decide) (Pay.of_con (Wd := 0) (rm_isl l Z a0 hw x zc h0 n0 (by omega) S0 hz A3) (ww hw 126 rfl) (ww hw 9 rfl) (hEN hw) (by decide) (by decide)) A1 (g := (mkF m 17 #[.val (.ref x), .val (.int hv)] [(.ref x)])) rfl (by rw [hml]; rfl) (argsL := []) (rest := []) (lenOf pd_2 rfl) rfl rfl (ble_ rfl) (hb hby d17_17) (by decide) (by decide) (fun v5 T5 h5 W5 sz5 q5 => ?_)
   obtain ⟨rfl, rfl⟩ := q5
   change Fi _ _ _ _ _ _ _ _ _ _ (T5.setTop (mkF m 20 #[.val (.ref x), .val (.int hv)] [(.int 1)]))
   refine Fi.by' (st' := T5.setTop (mkF m 24 #[.val (.ref x), .val (.int hv)] [(.ref x)])) (fun t k => ?_) ?_
   ·refine XS.ifNo W5.here hx rfl (hb hby d17_20) rfl ((if0 _ _).trans (feq (by decide : ¬ ((1 : Int32) = (0 : Int32)))).1) ?_
    refine XS.aloadN W5.here hx rfl (hb hby d17_23) rfl rfl ?_
    exact k
   refine W5.getF hx (ww hw 27 rfl) A2 (g := (mkF m 24 #[.val (.ref x), .val (.int hv)] [(.ref x)])) rfl rfl (hb hby d17_24) (fun T6 W6 => ?_)
   change Fi _ _ _ _ _ _ _ _ _ _ (T6.setTop (mkF m 27 #[.val (.ref x), .val (.int hv)] [(.ref tb)]))
   refine W6.callS hx (y := y_3) (ww hw 128 rfl) (ww hw 129 rfl) (ww hw 130 rfl) (ww hw 131 rfl) (by decide) (payLH (Wd := 0) hw Z0 A4 A7 A8 A9 (by decide) (by decide)) (g := (mkF m 27 #[.val (.ref x), .val (.int hv)] [(.ref tb)])) rfl (by rw [hml]; rfl) (argsL := [(.ref tb)]) (rest := []) (lenOf pd_3 rfl) rfl rfl (ble_ rfl) (hb hby d17_27) (by decide) (by decide) (fun v7 T7 h7 W7 sz7 q7 => ?_)
   obtain ⟨rfl, rfl⟩ := q7
   change Fi _ _ _ _ _ _ _ _ _ _ (T7.setTop (mkF m 30 #[.val (.ref x), .val (.int hv)] [(.int (hashS cs))]))
   refine Fi.by' (st' := T7.setTop (mkF m 42 #[.val (.ref x), .val (.int (hashS cs))] [(.int (hashS cs))])) (fun t k => ?_) ?_
   ·refine XS.goto W7.here hx rfl (pc0 := 30) (pc' := 40) rfl (hb hby d17_30) (by decide) (by decide) ?_
    refine XS.istoreN W7.here hx rfl (hb hby d17_40) rfl (l' := #[.val (.ref x), .val (.int (hashS cs))]) rfl ?_
    refine XS.iloadN W7.here hx rfl (hb hby d17_41) rfl ?_
    exact k
   by_cases hc42_8 : (hashS cs) = (0 : Int32)
   ·refine Fi.by' (st' := T7.setTop (mkF m 47 #[.val (.ref x), .val (.int (hashS cs))] [(.int 1), (.ref x)])) (fun t k => ?_) ?_
    ·refine XS.ifNo W7.here hx rfl (hb hby d17_42) rfl ((if0 _ _).trans (teq hc42_8).2) ?_
     refine XS.aloadN W7.here hx rfl (hb hby d17_45) rfl rfl ?_
     refine iconstZ W7.here hx rfl (hb hby d17_46) (z := (1 : Int32)) rfl ?_
     exact k
    refine W7.putF hx (ww hw 120 rfl) A6 A1 (Or.inl (ww hw 121 rfl)) (ww hw 8 rfl) (ty := .boolean) (by decide) rfl rfl (g := (mkF m 47 #[.val (.ref x), .val (.int (hashS cs))] [(.int 1), (.ref x)])) rfl rfl (hb hby d17_47) g0 (fun _ _ _ => safeN rfl) (fun T9 h9 W9 R9 => ?_)
    change Fi _ _ _ _ _ _ _ _ _ _ (T9.setTop (mkF m 50 #[.val (.ref x), .val (.int (hashS cs))] []))
    refine Fi.by' (st' := T9.setTop (mkF m 59 #[.val (.ref x), .val (.int (hashS cs))] [(.int (hashS cs))])) (fun t k => ?_) ?_
    ·refine XS.goto W9.here hx rfl (pc0 := 50) (pc' := 58) rfl (hb hby d17_50) (by decide) (by decide) ?_
     refine XS.iloadN W9.here hx rfl (hb hby d17_58) rfl ?_
     exact k
    exact W9.iret hx hlk hret (by simp) rfl (hb hby d17_59) ⟨rfl, (Hs.wr (ww hw 8 rfl) (ww hw 23 rfl) (ww hw 24 rfl) (ww hw 119 rfl) (ww hw 121 rfl) U0 (Or.inr ⟨rfl, rfl, rfl, hc42_8⟩) R9)⟩ (by decide) (by decide)
   ·refine Fi.by' (st' := T7.setTop (mkF m 55 #[.val (.ref x), .val (.int (hashS cs))] [(.int (hashS cs)), (.ref x)])) (fun t k => ?_) ?_
    ·refine XS.ifYes W7.here hx rfl (pc0 := 42) (pc' := 53) rfl (hb hby d17_42) rfl ((if0 _ _).trans (feq hc42_8).2) (by decide) (by decide) ?_
     refine XS.aloadN W7.here hx rfl (hb hby d17_53) rfl rfl ?_
     refine XS.iloadN W7.here hx rfl (hb hby d17_54) rfl ?_
     exact k
    refine W7.putF hx (ww hw 118 rfl) A5 A1 (Or.inl (ww hw 119 rfl)) (ww hw 8 rfl) (ty := .int) (by decide) rfl rfl (g := (mkF m 55 #[.val (.ref x), .val (.int (hashS cs))] [(.int (hashS cs)), (.ref x)])) rfl rfl (hb hby d17_55) g0 (fun _ _ _ => safeN rfl) (fun T10 h10 W10 R10 => ?_)
    change Fi _ _ _ _ _ _ _ _ _ _ (T10.setTop (mkF m 58 #[.val (.ref x), .val (.int (hashS cs))] []))
    refine Fi.by' (st' := T10.setTop (mkF m 59 #[.val (.ref x), .val (.int (hashS cs))] [(.int (hashS cs))])) (fun t k => ?_) ?_
    ·refine XS.iloadN W10.here hx rfl (hb hby d17_58) rfl ?_
     exact k
    exact W10.iret hx hlk hret (by simp) rfl (hb hby d17_59) ⟨rfl, (Hs.wr (ww hw 8 rfl) (ww hw 23 rfl) (ww hw 24 rfl) (ww hw 119 rfl) (ww hw 121 rfl) U0 (Or.inl ⟨rfl, rfl, rfl⟩) R10)⟩ (by decide) (by decide)
  ·refine Fi.by' (st' := T3.setTop (mkF m 59 #[.val (.ref x), .val (.int hv)] [(.int hv)])) (fun t k => ?_) ?_
   ·refine XS.ifYes W3.here hx rfl (pc0 := 13) (pc' := 58) rfl (hb hby d17_13) rfl ((if0 _ _).trans (feq hc13_4).2) (by decide) (by decide) ?_
    refine XS.iloadN W3.here hx rfl (hb hby d17_58) rfl ?_
    exact k
   have hv1 : hv = hashS cs := hc6_2.trans (A11.resolve_left hc13_4).2.symm
   exact W3.iret hx hlk hret (by simp) rfl (hb hby d17_59) ⟨by rw [hv1], (Hs.refl h0)⟩ (by decide) (by decide)
 ·refine Fi.by' (st' := T1.setTop (mkF m 59 #[.val (.ref x), .val (.int hv)] [(.int hv)])) (fun t k => ?_) ?_
  ·refine XS.ifYes W1.here hx rfl (pc0 := 6) (pc' := 58) rfl (hb hby d17_6) rfl ((if0 _ _).trans (feq hc6_2).2) (by decide) (by decide) ?_
   refine XS.iloadN W1.here hx rfl (hb hby d17_58) rfl ?_
   exact k
  have hv1 : hv = hashS cs := A10.resolve_left hc6_2
  exact W1.iret hx hlk hret (by simp) rfl (hb hby d17_59) ⟨by rw [hv1], (Hs.refl h0)⟩ (by decide) (by decide)
section PaidSH
variable {p : Program} {l : Launch} {e : Env} {R : Room} {s : State} {args : Array Value} {below : List Frame} {Z : State} {a0 : Array Value} {n0 : Nat} {h : Heap}
theorem paySH (hw : ∀ d ∈ tables_1, d.before a0 Z = true) {Wd : Nat} {x : Addr} {cs : List Int32} {zc : Int32} (Z0 : n0 ≤ h.size) (g0 : n0 ≤ x) (S0 : Sta Z h "java/lang/String" "COMPACT_STRINGS" "Z" (.int zc)) (hz : ¬ zc = 0) (F : StrH Z h x cs) (hf : 4 ≤ R.frames) (hl : Wd + 58 ≤ R.locals) :
  Pay l R p e below s args Z EN n0 y_4 Wd #[.ref x] h (fun v h' => v = some (.int (hashS cs)) ∧ Hs Z h h') 0 0 := by
 obtain ⟨t, kb, hv, zv, a1, a2, a3, a4, a5, a6, a7, a8, a9, a10, a11⟩ := id F
 exact Pay.of_con (rm_shc l Z a0 hw x t zc hv zv kb cs h n0 Z0 g0 S0 hz F a1 a2 a3 a4 a5 a6 a7 a8 a9 a10 a11) (ww hw 117 rfl) (ww hw 9 rfl) (hEN hw) hf hl
end PaidSH
/-! lists of Strings of one char -/
def Els (Z : State) (h : Heap) (n0 : Nat) : List Addr → List Int32 → Prop
  | [], [] => True
  | x :: es, d :: ds => (StrH Z h x [d] ∧ n0 ≤ x) ∧ Els Z h n0 es ds
  | _, _ => False
def IL (Z : State) (h : Heap) (n0 : Nat) (la : Addr) (ds : List Int32) : Prop := ∃ es : List Addr, Els Z h n0 es ds ∧ ds.length ≤ 3 ∧
  ((∃ (ea : Addr) (k : ClassId), Exa Z h la "java/util/ImmutableCollections$ListN" ∧ Fld Z h la "java/util/ImmutableCollections$ListN" "elements" "[Ljava/lang/Object;" (.ref ea) ∧ Arv Z h ea k (.object "java/lang/Object") (Int32.ofNat ds.length) (es.map Value.ref) .null) ∨
   (∃ x em : Addr, es = [x] ∧ Exa Z h la "java/util/ImmutableCollections$List12" ∧ Fld Z h la "java/util/ImmutableCollections$List12" "e0" "Ljava/lang/Object;" (.ref x) ∧ Fld Z h la "java/util/ImmutableCollections$List12" "e1" "Ljava/lang/Object;" (.ref em) ∧ Sta Z h "java/util/ImmutableCollections" "EMPTY" "Ljava/lang/Object;" (.ref em)) ∨
   (∃ x y em : Addr, es = [x, y] ∧ Exa Z h la "java/util/ImmutableCollections$List12" ∧ Fld Z h la "java/util/ImmutableCollections$List12" "e0" "Ljava/lang/Object;" (.ref x) ∧ Fld Z h la "java/util/ImmutableCollections$List12" "e1" "Ljava/lang/Object;" (.ref y) ∧ Sta Z h "java/util/ImmutableCollections" "EMPTY" "Ljava/lang/Object;" (.ref em) ∧ ¬ y = em))
theorem Els.len {Z : State} {h : Heap} {n0 : Nat} : ∀ {es : List Addr} {ds : List Int32}, Els Z h n0 es ds → es.length = ds.length
  | [], [], _ => rfl
  | _ :: _, _ :: _, H => by simp [Els.len H.2]
  | [], _ :: _, H => H.elim
  | _ :: _, [], H => H.elim
theorem Els.hs {Z : State} {h h' : Heap} {n0 : Nat} (E : Hs Z h h') : ∀ {es : List Addr} {ds : List Int32}, Els Z h n0 es ds → Els Z h' n0 es ds
  | [], [], _ => trivial
  | _ :: _, _ :: _, H => ⟨⟨E.2.2 _ _ H.1.1, H.1.2⟩, Els.hs E H.2⟩
  | [], _ :: _, H => H.elim
  | _ :: _, [], H => H.elim
theorem Els.drop {Z : State} {h : Heap} {n0 : Nat} : ∀ (i : Nat) {es : List Addr} {ds : List Int32}, Els Z h n0 es ds → Els Z h n0 (es.drop i) (ds.drop i)
  | 0, _, _, H => H
  | _ + 1, [], [], _ => trivial
  | i + 1, _ :: _, _ :: _, H => Els.drop i H.2
  | _ + 1, [], _ :: _, H => H.elim
  | _ + 1, _ :: _, [], H => H.elim
theorem Els.at {Z : State} {h : Heap} {n0 : Nat} {es : List Addr} {ds r : List Int32} {i : Nat} {d : Int32} (H : Els Z h n0 es ds) (q : ds.drop i = d :: r) : ∃ x, es[i]? = some x ∧ StrH Z h x [d] ∧ n0 ≤ x := by
  have H2 := H.drop i
  rw [q] at H2
  cases e : es.drop i with
  | nil => rw [e] at H2; exact H2.elim
  | cons x r' =>
    rw [e] at H2
    refine ⟨x, ?_, H2.1.1, H2.1.2⟩
    have := List.getElem?_drop (xs := es) (i := i) (j := 0)
    rw [e] at this
    simpa using this.symm
theorem IL.hs {Z : State} {h h' : Heap} {n0 : Nat} {la : Addr} {ds : List Int32} {a0 : Array Value} {n : Nat} (wi : (Jvm.Cond.instantiable STN n).before a0 Z = true) (F : IL Z h n0 la ds) (E : Hs Z h h') : IL Z h' n0 la ds := by
  obtain ⟨es, a1, a2, a3⟩ := F
  refine ⟨es, a1.hs E, a2, ?_⟩
  rcases a3 with ⟨ea, k, b1, b2, b3⟩ | ⟨x, em, b0, b1, b2, b3, b4⟩ | ⟨x, y, em, b0, b1, b2, b3, b4, b5⟩
  · exact Or.inl ⟨ea, k, E.exa b1 (by decide), E.fld b1 (by decide) b2, E.arv wi b3⟩
  · exact Or.inr (Or.inl ⟨x, em, b0, E.exa b1 (by decide), E.fld b1 (by decide) b2, E.fld b1 (by decide) b3, E.sta b4⟩)
  · exact Or.inr (Or.inr ⟨x, y, em, b0, E.exa b1 (by decide), E.fld b1 (by decide) b2, E.fld b1 (by decide) b3, E.sta b4, b5⟩)
theorem Els.ext {Z : State} {h h' : Heap} {n0 : Nat} (E : Ext h h') : ∀ {es : List Addr} {ds : List Int32}, Els Z h n0 es ds → Els Z h' n0 es ds := fun {_ _} H => H.hs (Hs.of_ext E)
theorem IL.ext {Z : State} {h h' : Heap} {n0 : Nat} {la : Addr} {ds : List Int32} (F : IL Z h n0 la ds) (E : Ext h h') : IL Z h' n0 la ds := by
  obtain ⟨es, a1, a2, a3⟩ := F
  refine ⟨es, a1.ext E, a2, ?_⟩
  rcases a3 with ⟨ea, k, b1, b2, b3⟩ | ⟨x, em, b0, b1, b2, b3, b4⟩ | ⟨x, y, em, b0, b1, b2, b3, b4, b5⟩
  · exact Or.inl ⟨ea, k, b1.ext E, b2.ext E, b3.ext E⟩
  · exact Or.inr (Or.inl ⟨x, em, b0, b1.ext E, b2.ext E, b3.ext E, b4.ext E⟩)
  · exact Or.inr (Or.inr ⟨x, y, em, b0, b1.ext E, b2.ext E, b3.ext E, b4.ext E, b5⟩)
theorem ofNat_succ (i : Nat) : Int32.ofNat i + 1 = Int32.ofNat (i + 1) := by
  apply Int32.toBitVec_inj.mp
  apply BitVec.eq_of_toNat_eq
  simp [Int32.toBitVec_add]
theorem ofNat_lt {k n : Nat} (h : k < n) (hn : n ≤ 4000) : ¬ Int32.ofNat k < 0 ∧ Int32.ofNat k < Int32.ofNat n := by
  rw [Int32.lt_iff_toInt_lt, Int32.lt_iff_toInt_lt, show (Int32.ofNat k).toInt = k from len_toInt (by omega), show (Int32.ofNat n).toInt = n from len_toInt (by omega), show (0 : Int32).toInt = 0 from rfl]
  omega
theorem ofNat_clamp {k : Nat} (h : k ≤ 4000) : (Int32.ofNat k).toNatClampNeg = k := by
  simp only [Int32.toNatClampNeg, show (Int32.ofNat k).toInt = k from len_toInt (by omega)]; omega
theorem StrH.keep {Z : State} {h h' : Heap} {a0 : Array Value} {x t : Addr} {cs : List Int32} {C : String} {k : Nat} (F : StrH Z h t cs) (K : Keep h h' [x]) (E : Exa Z h x C) (hC : C ≠ STN) (wi : (Jvm.Cond.instantiable C k).before a0 Z = true) : StrH Z h' t cs := by
  obtain ⟨b, kb, hv, zv, a1, a2, a3, a4, a5, a6, r⟩ := F
  have n1 : t ∉ [x] := fun q => Exa.ne a1 E (Ne.symm hC) (List.mem_singleton.mp q)
  have n2 : b ∉ [x] := fun q => Exa.neArv E a4 wi (List.mem_singleton.mp q).symm
  exact ⟨b, kb, hv, zv, a1.keep K, a2.keep K n1, a3.keep K n1, a4.keep K n2, a5.keep K n1, a6.keep K n1, r⟩
def hashR (a : Int32) (ds : List Int32) : Int32 := ds.foldl (fun a d => 31 * a + d) a
theorem drop_cons {α : Type} {ds : List α} {i n : Nat} (h : i + (n + 1) = ds.length) : ∃ d r, ds.drop i = d :: r ∧ ds.drop (i + 1) = r := by
  cases e : ds.drop i with
  | nil => have := congrArg List.length e; simp at this; omega
  | cons d r => exact ⟨d, r, rfl, by rw [← List.drop_drop, e]; rfl⟩
def Q_lns (Z : State) (la ea : Addr) (N : Int32) (k : ClassId) (vs : List Value) (h0 : Heap) (v : Option Value) (h : Heap) : Prop := v = some (.int N) ∧ h0 = h
theorem rm_lns (l : Launch) (Z : State) (a0 : Array Value) (hw : ∀ d ∈ tables_1, d.before a0 Z = true) (la ea : Addr) (N : Int32) (k : ClassId) (vs : List Value) (h0 : Heap) (n0 : Nat) (Z0 : n0 ≤ h0.size) (F0 : Fld Z h0 la "java/util/ImmutableCollections$ListN" "elements" "[Ljava/lang/Object;" (.ref ea)) (B0 : Arv Z h0 ea k (.object "java/lang/Object") N vs .null) :
  Con l Z EN y_5 jdk_45_method_3_code 1 (some .int) [] ({ frames := 0, cells := 0, slots := 0, locals := 0 } : Room) #[(.ref la)] h0 n0 (Q_lns Z la ea N k vs h0) := by
 refine Con.intro (own := "java/util/ImmutableCollections$ListN") rfl (plainFor_of_name plain_java_util_ImmutableCollections_ListN) (hEN hw) ?_
 intro p e s m below meth c s₁ hx hby hml hret hlk hnm W0
 refine Fi.cast (show entryFrame m #[(.ref la)] 1 = (mkF m 0 #[.val (.ref la)] []) from by first | (simp [entryFrame, mkF, argsToLocals, Value.category]; done) | rfl) ?_
 refine Fi.by' (st' := s₁.setTop (mkF m 1 #[.val (.ref la)] [(.ref la)])) (fun t k => ?_) ?_
 ·refine XS.aloadN W0.here hx rfl (hb hby d21_0) rfl rfl ?_
  exact k
 refine W0.getF hx (ww hw 143 rfl) F0 (g := (mkF m 1 #[.val (.ref la)] [(.ref la)])) rfl rfl (hb hby d21_1) (fun T1 W1 => ?_)
 change Fi _ _ _ _ _ _ _ _ _ _ (T1.setTop (mkF m 4 #[.val (.ref la)] [(.ref ea)]))
 refine W1.alen hx B0 (g := (mkF m 4 #[.val (.ref la)] [(.ref ea)])) rfl rfl (hb hby d21_4) ?_
 change Fi _ _ _ _ _ _ _ _ _ _ (T1.setTop (mkF m 5 #[.val (.ref la)] [(.int N)]))
 exact W1.iret hx hlk hret (by simp) rfl (hb hby d21_5) ⟨rfl, rfl⟩ (by decide) (by decide)
def Q_lng (Z : State) (la ea x : Addr) (N jj : Int32) (k : ClassId) (vs : List Value) (h0 : Heap) (v : Option Value) (h : Heap) : Prop := v = some (.ref x) ∧ h0 = h
theorem rm_lng (l : Launch) (Z : State) (a0 : Array Value) (hw : ∀ d ∈ tables_1, d.before a0 Z = true) (la ea x : Addr) (N jj : Int32) (k : ClassId) (vs : List Value) (h0 : Heap) (n0 : Nat) (Z0 : n0 ≤ h0.size) (F0 : Fld Z h0 la "java/util/ImmutableCollections$ListN" "elements" "[Ljava/lang/Object;" (.ref ea)) (B0 : Arv Z h0 ea k (.object "java/lang/Object") N vs .null) (hj : ¬ jj < 0 ∧ jj < N) (hx1 : vs.getD jj.toNatClampNeg .null = .ref x) :
  Con l Z EN y_6 jdk_45_method_4_code 2 (some (.object "java/lang/Object")) [] ({ frames := 0, cells := 0, slots := 0, locals := 0 } : Room) #[(.ref la), (.int jj)] h0 n0 (Q_lng Z la ea x N jj k vs h0) := by
 refine Con.intro (own := "java/util/ImmutableCollections$ListN") rfl (plainFor_of_name plain_java_util_ImmutableCollections_ListN) (hEN hw) ?_
 intro p e s m below meth c s₁ hx hby hml hret hlk hnm W0
 refine Fi.cast (show entryFrame m #[(.ref la), (.int jj)] 2 = (mkF m 0 #[.val (.ref la), .val (.int jj)] []) from by first | (simp [entryFrame, mkF, argsToLocals, Value.category]; done) | rfl) ?_
 refine Fi.by' (st' := s₁.setTop (mkF m 1 #[.val (.ref la), .val (.int jj)] [(.ref la)])) (fun t k => ?_) ?_
 ·refine XS.aloadN W0.here hx rfl (hb hby d60_0) rfl rfl ?_
  exact k
 refine W0.getF hx (ww hw 143 rfl) F0 (g := (mkF m 1 #[.val (.ref la), .val (.int jj)] [(.ref la)])) rfl rfl (hb hby d60_1) (fun T1 W1 => ?_)
 change Fi _ _ _ _ _ _ _ _ _ _ (T1.setTop (mkF m 4 #[.val (.ref la), .val (.int jj)] [(.ref ea)]))
 refine Fi.by' (st' := T1.setTop (mkF m 5 #[.val (.ref la), .val (.int jj)] [(.int jj), (.ref ea)])) (fun t k => ?_) ?_
 ·refine XS.iloadN W1.here hx rfl (hb hby d60_4) rfl ?_
  exact k
 refine W1.aaload hx B0 rfl (j := jj) (v := .ref x) hj hx1 (g := (mkF m 5 #[.val (.ref la), .val (.int jj)] [(.int jj), (.ref ea)])) rfl rfl (hb hby d60_5) ?_
 change Fi _ _ _ _ _ _ _ _ _ _ (T1.setTop (mkF m 6 #[.val (.ref la), .val (.int jj)] [(.ref x)]))
 exact W1.aret hx hlk hret rfl rfl (hb hby d60_6) ⟨rfl, rfl⟩ (by decide) (by decide)
def Q_l2s1 (Z : State) (la x em : Addr) (h0 : Heap) (v : Option Value) (h : Heap) : Prop := v = some (.int 1) ∧ h0 = h
theorem rm_l2s1 (l : Launch) (Z : State) (a0 : Array Value) (hw : ∀ d ∈ tables_1, d.before a0 Z = true) (la x em : Addr) (h0 : Heap) (n0 : Nat) (Z0 : n0 ≤ h0.size) (F0 : Fld Z h0 la "java/util/ImmutableCollections$List12" "e0" "Ljava/lang/Object;" (.ref x)) (F1 : Fld Z h0 la "java/util/ImmutableCollections$List12" "e1" "Ljava/lang/Object;" (.ref em)) (M0 : Sta Z h0 "java/util/ImmutableCollections" "EMPTY" "Ljava/lang/Object;" (.ref em)) :
  Con l Z EN y_7 jdk_44_method_3_code 1 (some .int) [] ({ frames := 0, cells := 0, slots := 0, locals := 0 } : Room) #[(.ref la)] h0 n0 (Q_l2s1 Z la x em h0) := by
 refine Con.intro (own := "java/util/ImmutableCollections$List12") rfl (plainFor_of_name plain_java_util_ImmutableCollections_List12) (hEN hw) ?_
 intro p e s m below meth c s₁ hx hby hml hret hlk hnm W0
 refine Fi.cast (show entryFrame m #[(.ref la)] 1 = (mkF m 0 #[.val (.ref la)] []) from by first | (simp [entryFrame, mkF, argsToLocals, Value.category]; done) | rfl) ?_
 refine Fi.by' (st' := s₁.setTop (mkF m 1 #[.val (.ref la)] [(.ref la)])) (fun t k => ?_) ?_
 ·refine XS.aloadN W0.here hx rfl (hb hby d49_0) rfl rfl ?_
  exact k
 refine W0.getF hx (ww hw 277 rfl) F1 (g := (mkF m 1 #[.val (.ref la)] [(.ref la)])) rfl rfl (hb hby d49_1) (fun T1 W1 => ?_)
 change Fi _ _ _ _ _ _ _ _ _ _ (T1.setTop (mkF m 4 #[.val (.ref la)] [(.ref em)]))
 refine W1.getSN hx (ww hw 276 rfl) M0 (g := (mkF m 4 #[.val (.ref la)] [(.ref em)])) rfl (hb hby d49_4) (fun T2 W2 => ?_)
 change Fi _ _ _ _ _ _ _ _ _ _ (T2.setTop (mkF m 7 #[.val (.ref la)] [(.ref em), (.ref em)]))
 refine Fi.by' (st' := T2.setTop (mkF m 15 #[.val (.ref la)] [(.int 1)])) (fun t k => ?_) ?_
 ·refine XS.acmpYes W2.here hx rfl (pc0 := 7) (pc' := 14) rfl (hb hby d49_7) rfl (acmpTEq (rfl : em = em)) (by decide) (by decide) ?_
  refine iconstZ W2.here hx rfl (hb hby d49_14) (z := (1 : Int32)) rfl ?_
  exact k
 exact W2.iret hx hlk hret (by simp) rfl (hb hby d49_15) ⟨rfl, rfl⟩ (by decide) (by decide)
def Q_l2g10 (Z : State) (la x em : Addr) (h0 : Heap) (v : Option Value) (h : Heap) : Prop := v = some (.ref x) ∧ h0 = h
theorem rm_l2g10 (l : Launch) (Z : State) (a0 : Array Value) (hw : ∀ d ∈ tables_1, d.before a0 Z = true) (la x em : Addr) (h0 : Heap) (n0 : Nat) (Z0 : n0 ≤ h0.size) (F0 : Fld Z h0 la "java/util/ImmutableCollections$List12" "e0" "Ljava/lang/Object;" (.ref x)) (F1 : Fld Z h0 la "java/util/ImmutableCollections$List12" "e1" "Ljava/lang/Object;" (.ref em)) (M0 : Sta Z h0 "java/util/ImmutableCollections" "EMPTY" "Ljava/lang/Object;" (.ref em)) :
  Con l Z EN y_8 jdk_44_method_5_code 2 (some (.object "java/lang/Object")) [] ({ frames := 0, cells := 0, slots := 0, locals := 0 } : Room) #[(.ref la), (.int 0)] h0 n0 (Q_l2g10 Z la x em h0) := by
 refine Con.intro (own := "java/util/ImmutableCollections$List12") rfl (plainFor_of_name plain_java_util_ImmutableCollections_List12) (hEN hw) ?_
 intro p e s m below meth c s₁ hx hby hml hret hlk hnm W0
 refine Fi.cast (show entryFrame m #[(.ref la), (.int 0)] 2 = (mkF m 0 #[.val (.ref la), .val (.int 0)] []) from by first | (simp [entryFrame, mkF, argsToLocals, Value.category]; done) | rfl) ?_
 refine Fi.by' (st' := s₁.setTop (mkF m 5 #[.val (.ref la), .val (.int 0)] [(.ref la)])) (fun t k => ?_) ?_
 ·refine XS.iloadN W0.here hx rfl (hb hby d50_0) rfl ?_
  refine XS.ifNo W0.here hx rfl (hb hby d50_1) rfl ((if0 _ _).trans (teq (by decide : ((0 : Int32) = (0 : Int32)))).2) ?_
  refine XS.aloadN W0.here hx rfl (hb hby d50_4) rfl rfl ?_
  exact k
 refine W0.getF hx (ww hw 274 rfl) F0 (g := (mkF m 5 #[.val (.ref la), .val (.int 0)] [(.ref la)])) rfl rfl (hb hby d50_5) (fun T1 W1 => ?_)
 change Fi _ _ _ _ _ _ _ _ _ _ (T1.setTop (mkF m 8 #[.val (.ref la), .val (.int 0)] [(.ref x)]))
 exact W1.aret hx hlk hret rfl rfl (hb hby d50_8) ⟨rfl, rfl⟩ (by decide) (by decide)
def Q_l2s2 (Z : State) (la x y em : Addr) (h0 : Heap) (v : Option Value) (h : Heap) : Prop := v = some (.int 2) ∧ h0 = h
theorem rm_l2s2 (l : Launch) (Z : State) (a0 : Array Value) (hw : ∀ d ∈ tables_1, d.before a0 Z = true) (la x y em : Addr) (h0 : Heap) (n0 : Nat) (Z0 : n0 ≤ h0.size) (F0 : Fld Z h0 la "java/util/ImmutableCollections$List12" "e0" "Ljava/lang/Object;" (.ref x)) (F1 : Fld Z h0 la "java/util/ImmutableCollections$List12" "e1" "Ljava/lang/Object;" (.ref y)) (M0 : Sta Z h0 "java/util/ImmutableCollections" "EMPTY" "Ljava/lang/Object;" (.ref em)) (hne : ¬ y = em) :
  Con l Z EN y_7 jdk_44_method_3_code 1 (some .int) [] ({ frames := 0, cells := 0, slots := 0, locals := 0 } : Room) #[(.ref la)] h0 n0 (Q_l2s2 Z la x y em h0) := by
 refine Con.intro (own := "java/util/ImmutableCollections$List12") rfl (plainFor_of_name plain_java_util_ImmutableCollections_List12) (hEN hw) ?_
 intro p e s m below meth c s₁ hx hby hml hret hlk hnm W0
 refine Fi.cast (show entryFrame m #[(.ref la)] 1 = (mkF m 0 #[.val (.ref la)] []) from by first | (simp [entryFrame, mkF, argsToLocals, Value.category]; done) | rfl) ?_
 refine Fi.by' (st' := s₁.setTop (mkF m 1 #[.val (.ref la)] [(.ref la)])) (fun t k => ?_) ?_
 ·refine XS.aloadN W0.here hx rfl (hb hby d49_0) rfl rfl ?_
  exact k
 refine W0.getF hx (ww hw 277 rfl) F1 (g := (mkF m 1 #[.val (.ref la)] [(.ref la)])) rfl rfl (hb hby d49_1) (fun T1 W1 => ?_)
 change Fi _ _ _ _ _ _ _ _ _ _ (T1.setTop (mkF m 4 #[.val (.ref la)] [(.ref y)]))
 refine W1.getSN hx (ww hw 276 rfl) M0 (g := (mkF m 4 #[.val (.ref la)] [(.ref y)])) rfl (hb hby d49_4) (fun T2 W2 => ?_)
 change Fi _ _ _ _ _ _ _ _ _ _ (T2.setTop (mkF m 7 #[.val (.ref la)] [(.ref em), (.ref y)]))
 refine Fi.by' (st' := T2.setTop (mkF m 15 #[.val (.ref la)] [(.int 2)])) (fun t k => ?_) ?_
 ·refine XS.acmpNo W2.here hx rfl (hb hby d49_7) rfl (acmpFEq hne) ?_
  refine iconstZ W2.here hx rfl (hb hby d49_10) (z := (2 : Int32)) rfl ?_
  refine XS.goto W2.here hx rfl (pc0 := 11) (pc' := 15) rfl (hb hby d49_11) (by decide) (by decide) ?_
  exact k
 exact W2.iret hx hlk hret (by simp) rfl (hb hby d49_15) ⟨rfl, rfl⟩ (by decide) (by decide)
def Q_l2g20 (Z : State) (la x y em : Addr) (h0 : Heap) (v : Option Value) (h : Heap) : Prop := v = some (.ref x) ∧ h0 = h
theorem rm_l2g20 (l : Launch) (Z : State) (a0 : Array Value) (hw : ∀ d ∈ tables_1, d.before a0 Z = true) (la x y em : Addr) (h0 : Heap) (n0 : Nat) (Z0 : n0 ≤ h0.size) (F0 : Fld Z h0 la "java/util/ImmutableCollections$List12" "e0" "Ljava/lang/Object;" (.ref x)) (F1 : Fld Z h0 la "java/util/ImmutableCollections$List12" "e1" "Ljava/lang/Object;" (.ref y)) (M0 : Sta Z h0 "java/util/ImmutableCollections" "EMPTY" "Ljava/lang/Object;" (.ref em)) (hne : ¬ y = em) :
  Con l Z EN y_8 jdk_44_method_5_code 2 (some (.object "java/lang/Object")) [] ({ frames := 0, cells := 0, slots := 0, locals := 0 } : Room) #[(.ref la), (.int 0)] h0 n0 (Q_l2g20 Z la x y em h0) := by
 refine Con.intro (own := "java/util/ImmutableCollections$List12") rfl (plainFor_of_name plain_java_util_ImmutableCollections_List12) (hEN hw) ?_
 intro p e s m below meth c s₁ hx hby hml hret hlk hnm W0
 refine Fi.cast (show entryFrame m #[(.ref la), (.int 0)] 2 = (mkF m 0 #[.val (.ref la), .val (.int 0)] []) from by first | (simp [entryFrame, mkF, argsToLocals, Value.category]; done) | rfl) ?_
 refine Fi.by' (st' := s₁.setTop (mkF m 5 #[.val (.ref la), .val (.int 0)] [(.ref la)])) (fun t k => ?_) ?_
 ·refine XS.iloadN W0.here hx rfl (hb hby d50_0) rfl ?_
  refine XS.ifNo W0.here hx rfl (hb hby d50_1) rfl ((if0 _ _).trans (teq (by decide : ((0 : Int32) = (0 : Int32)))).2) ?_
  refine XS.aloadN W0.here hx rfl (hb hby d50_4) rfl rfl ?_
  exact k
 refine W0.getF hx (ww hw 274 rfl) F0 (g := (mkF m 5 #[.val (.ref la), .val (.int 0)] [(.ref la)])) rfl rfl (hb hby d50_5) (fun T1 W1 => ?_)
 change Fi _ _ _ _ _ _ _ _ _ _ (T1.setTop (mkF m 8 #[.val (.ref la), .val (.int 0)] [(.ref x)]))
 exact W1.aret hx hlk hret rfl rfl (hb hby d50_8) ⟨rfl, rfl⟩ (by decide) (by decide)
def Q_l2g21 (Z : State) (la x y em : Addr) (h0 : Heap) (v : Option Value) (h : Heap) : Prop := v = some (.ref y) ∧ h0 = h
theorem rm_l2g21 (l : Launch) (Z : State) (a0 : Array Value) (hw : ∀ d ∈ tables_1, d.before a0 Z = true) (la x y em : Addr) (h0 : Heap) (n0 : Nat) (Z0 : n0 ≤ h0.size) (F0 : Fld Z h0 la "java/util/ImmutableCollections$List12" "e0" "Ljava/lang/Object;" (.ref x)) (F1 : Fld Z h0 la "java/util/ImmutableCollections$List12" "e1" "Ljava/lang/Object;" (.ref y)) (M0 : Sta Z h0 "java/util/ImmutableCollections" "EMPTY" "Ljava/lang/Object;" (.ref em)) (hne : ¬ y = em) :
  Con l Z EN y_8 jdk_44_method_5_code 2 (some (.object "java/lang/Object")) [] ({ frames := 0, cells := 0, slots := 0, locals := 0 } : Room) #[(.ref la), (.int 1)] h0 n0 (Q_l2g21 Z la x y em h0) := by
 refine Con.intro (own := "java/util/ImmutableCollections$List12") rfl (plainFor_of_name plain_java_util_ImmutableCollections_List12) (hEN hw) ?_
 intro p e s m below meth c s₁ hx hby hml hret hlk hnm W0
 refine Fi.cast (show entryFrame m #[(.ref la), (.int 1)] 2 = (mkF m 0 #[.val (.ref la), .val (.int 1)] []) from by first | (simp [entryFrame, mkF, argsToLocals, Value.category]; done) | rfl) ?_
 refine Fi.by' (st' := s₁.setTop (mkF m 15 #[.val (.ref la), .val (.int 1)] [(.ref la)])) (fun t k => ?_) ?_
 ·refine XS.iloadN W0.here hx rfl (hb hby d50_0) rfl ?_
  refine XS.ifYes W0.here hx rfl (pc0 := 1) (pc' := 9) rfl (hb hby d50_1) rfl ((if0 _ _).trans (feq (by decide : ¬ ((1 : Int32) = (0 : Int32)))).2) (by decide) (by decide) ?_
  refine XS.iloadN W0.here hx rfl (hb hby d50_9) rfl ?_
  refine iconstZ W0.here hx rfl (hb hby d50_10) (z := (1 : Int32)) rfl ?_
  refine XS.icmpNo W0.here hx rfl (hb hby d50_11) rfl (teq (by decide : ((1 : Int32) = (1 : Int32)))).2 ?_
  refine XS.aloadN W0.here hx rfl (hb hby d50_14) rfl rfl ?_
  exact k
 refine W0.getF hx (ww hw 277 rfl) F1 (g := (mkF m 15 #[.val (.ref la), .val (.int 1)] [(.ref la)])) rfl rfl (hb hby d50_15) (fun T1 W1 => ?_)
 change Fi _ _ _ _ _ _ _ _ _ _ (T1.setTop (mkF m 18 #[.val (.ref la), .val (.int 1)] [(.ref y)]))
 refine W1.getSN hx (ww hw 276 rfl) M0 (g := (mkF m 18 #[.val (.ref la), .val (.int 1)] [(.ref y)])) rfl (hb hby d50_18) (fun T2 W2 => ?_)
 change Fi _ _ _ _ _ _ _ _ _ _ (T2.setTop (mkF m 21 #[.val (.ref la), .val (.int 1)] [(.ref em), (.ref y)]))
 refine Fi.by' (st' := T2.setTop (mkF m 25 #[.val (.ref la), .val (.int 1)] [(.ref la)])) (fun t k => ?_) ?_
 ·refine XS.acmpNo W2.here hx rfl (hb hby d50_21) rfl (acmpFEq hne) ?_
  refine XS.aloadN W2.here hx rfl (hb hby d50_24) rfl rfl ?_
  exact k
 refine W2.getF hx (ww hw 277 rfl) F1 (g := (mkF m 25 #[.val (.ref la), .val (.int 1)] [(.ref la)])) rfl rfl (hb hby d50_25) (fun T3 W3 => ?_)
 change Fi _ _ _ _ _ _ _ _ _ _ (T3.setTop (mkF m 28 #[.val (.ref la), .val (.int 1)] [(.ref y)]))
 exact W3.aret hx hlk hret rfl rfl (hb hby d50_28) ⟨rfl, rfl⟩ (by decide) (by decide)
/-! size() and get(i) -/
section ILaw
variable {p : Program} {l : Launch} {e : Env} {R : Room} {s : State} {m : MethodId} {args : Array Value} {below : List Frame} {meth : Method} {c : Code} {Z : State} {a0 : Array Value} {EF : List (String × Nat)} {n0 : Nat} {T : State} {h : Heap} {cells slots : Nat} {Q : Option Value → Heap → Prop} {kc ks : Nat}
theorem il_size (hw : ∀ d ∈ tables_1, d.before a0 Z = true) (W : Wk p l e R s m args below meth c Z a0 EN "java/util/ImmutableCollections$AbstractImmutableList" n0 T h cells slots) (hx : p.tables.exec = Jvm.exec) {la : Addr} {ds : List Int32} (F : IL Z h n0 la ds) (Z0 : n0 ≤ h.size) {g : JFrame} (hg : g.method = m) (hsize : g.locals.size = c.maxLocals) {rest : List Value} (hs : g.stack = .ref la :: rest) (hd : decode c.code g.pc = .ok (.invokevirtual 13, 3)) {Wd : Nat} (hW : 2 * g.monitorRoom + (rest.map fun v => v.category).sum ≤ Wd) (hf : 1 ≤ R.frames) (hl : Wd + 12 ≤ R.locals) (hc : cells ≤ R.cells) (hsl : slots ≤ R.slots)
    (kk : ∀ T' : State, Wk p l e R s m args below meth c Z a0 EN "java/util/ImmutableCollections$AbstractImmutableList" n0 T' h cells slots → Fi p e below s Z EF n0 Q kc ks (T'.setTop { g with pc := g.pc + 3, stack := .int (Int32.ofNat ds.length) :: rest })) : Fi p e below s Z EF n0 Q kc ks (T.setTop g) := by
  obtain ⟨es, a1, a2, a3⟩ := F
  rcases a3 with ⟨ea, k, b1, b2, b3⟩ | ⟨x, em, rfl, b1, b2, b3, b4⟩ | ⟨x, y, em, rfl, b1, b2, b3, b4, b5⟩
  · refine W.callVU hx (x := y_9) (y := y_5) (C := "java/util/ImmutableCollections$ListN") (owner := "java/util/AbstractCollection") (ww hw 136 rfl) (ww hw 137 rfl) (ww hw 138 rfl) (by decide) (ww hw 139 rfl) (ww hw 140 rfl) (Pay.of_con (Wd := Wd) (rm_lns l Z a0 hw la ea _ k _ h n0 Z0 b2 b3) (ww hw 142 rfl) (ww hw 141 rfl) (hEN hw) (Nat.le_trans (by decide) hf) (Nat.le_trans (by rw [Nat.add_assoc]; exact Nat.add_le_add_left (by decide) _) hl)) b1 hg hsize (argsL := []) (rest := rest) (lenOf pd_4 rfl) hs rfl hW hd hc hsl (fun v T' h' W' _ q => ?_)
    obtain ⟨rfl, rfl⟩ := q
    exact kk T' W'
  · have e1 : ds.length = 1 := a1.len.symm
    refine W.callVU hx (x := y_9) (y := y_7) (C := "java/util/ImmutableCollections$List12") (owner := "java/util/AbstractCollection") (ww hw 136 rfl) (ww hw 137 rfl) (ww hw 138 rfl) (by decide) (ww hw 290 rfl) (ww hw 291 rfl) (Pay.of_con (Wd := Wd) (rm_l2s1 l Z a0 hw la x em h n0 Z0 b2 b3 b4) (ww hw 292 rfl) (ww hw 253 rfl) (hEN hw) (Nat.le_trans (by decide) hf) (Nat.le_trans (by rw [Nat.add_assoc]; exact Nat.add_le_add_left (by decide) _) hl)) b1 hg hsize (argsL := []) (rest := rest) (lenOf pd_4 rfl) hs rfl hW hd hc hsl (fun v T' h' W' _ q => ?_)
    obtain ⟨rfl, rfl⟩ := q
    rw [e1] at kk
    exact kk T' W'
  · have e1 : ds.length = 2 := a1.len.symm
    refine W.callVU hx (x := y_9) (y := y_7) (C := "java/util/ImmutableCollections$List12") (owner := "java/util/AbstractCollection") (ww hw 136 rfl) (ww hw 137 rfl) (ww hw 138 rfl) (by decide) (ww hw 290 rfl) (ww hw 291 rfl) (Pay.of_con (Wd := Wd) (rm_l2s2 l Z a0 hw la x y em h n0 Z0 b2 b3 b4 b5) (ww hw 292 rfl) (ww hw 253 rfl) (hEN hw) (Nat.le_trans (by decide) hf) (Nat.le_trans (by rw [Nat.add_assoc]; exact Nat.add_le_add_left (by decide) _) hl)) b1 hg hsize (argsL := []) (rest := rest) (lenOf pd_4 rfl) hs rfl hW hd hc hsl (fun v T' h' W' _ q => ?_)
    obtain ⟨rfl, rfl⟩ := q
    rw [e1] at kk
    exact kk T' W'
theorem il_get (hw : ∀ d ∈ tables_1, d.before a0 Z = true) (W : Wk p l e R s m args below meth c Z a0 EN "java/util/ImmutableCollections$AbstractImmutableList" n0 T h cells slots) (hx : p.tables.exec = Jvm.exec) {la : Addr} {ds : List Int32} (F : IL Z h n0 la ds) (Z0 : n0 ≤ h.size) {i : Nat} {d : Int32} {r : List Int32} (hi : ds.drop i = d :: r) {g : JFrame} (hg : g.method = m) (hsize : g.locals.size = c.maxLocals) {rest : List Value} (hs : g.stack = .int (Int32.ofNat i) :: .ref la :: rest) (hd : decode c.code g.pc = .ok (.invokevirtual 89, 3)) {Wd : Nat} (hW : 2 * g.monitorRoom + (rest.map fun v => v.category).sum ≤ Wd) (hf : 1 ≤ R.frames) (hl : Wd + 13 ≤ R.locals) (hc : cells ≤ R.cells) (hsl : slots ≤ R.slots)
    (kk : ∀ (T' : State) (x : Addr), Wk p l e R s m args below meth c Z a0 EN "java/util/ImmutableCollections$AbstractImmutableList" n0 T' h cells slots → StrH Z h x [d] → n0 ≤ x → Fi p e below s Z EF n0 Q kc ks (T'.setTop { g with pc := g.pc + 3, stack := .ref x :: rest })) : Fi p e below s Z EF n0 Q kc ks (T.setTop g) := by
  obtain ⟨es, a1, a2, a3⟩ := F
  have hlt : i < ds.length := by
    have := congrArg List.length hi
    simp at this; omega
  obtain ⟨u, u1, u2, u3⟩ := a1.at hi
  rcases a3 with ⟨ea, k, b1, b2, b3⟩ | ⟨x, em, rfl, b1, b2, b3, b4⟩ | ⟨x, y, em, rfl, b1, b2, b3, b4, b5⟩
  · refine W.callVU hx (x := y_10) (y := y_6) (C := "java/util/ImmutableCollections$ListN") (owner := "java/util/List") (ww hw 293 rfl) (ww hw 294 rfl) (ww hw 295 rfl) (by decide) (ww hw 379 rfl) (ww hw 380 rfl) (Pay.of_con (Wd := Wd) (rm_lng l Z a0 hw la ea u _ _ k _ h n0 Z0 b2 b3 (ofNat_lt hlt (by omega)) (by rw [ofNat_clamp (by omega), List.getD_eq_getElem?_getD, List.getElem?_map, u1]; rfl)) (ww hw 381 rfl) (ww hw 141 rfl) (hEN hw) (Nat.le_trans (by decide) hf) (Nat.le_trans (by rw [Nat.add_assoc]; exact Nat.add_le_add_left (by decide) _) hl)) b1 hg hsize (argsL := [.int (Int32.ofNat i)]) (rest := rest) (lenOf pd_5 rfl) hs rfl hW hd hc hsl (fun v T' h' W' _ q => ?_)
    obtain ⟨rfl, rfl⟩ := q
    exact kk T' u W' u2 u3
  · have e1 : ds.length = 1 := a1.len.symm
    obtain rfl : i = 0 := by omega
    have ex : u = x := by simpa using u1.symm
    rw [ex] at u2 u3
    refine W.callVU hx (x := y_10) (y := y_8) (C := "java/util/ImmutableCollections$List12") (owner := "java/util/List") (ww hw 293 rfl) (ww hw 294 rfl) (ww hw 295 rfl) (by decide) (ww hw 296 rfl) (ww hw 297 rfl) (Pay.of_con (Wd := Wd) (rm_l2g10 l Z a0 hw la x em h n0 Z0 b2 b3 b4) (ww hw 298 rfl) (ww hw 253 rfl) (hEN hw) (Nat.le_trans (by decide) hf) (Nat.le_trans (by rw [Nat.add_assoc]; exact Nat.add_le_add_left (by decide) _) hl)) b1 hg hsize (argsL := [.int (Int32.ofNat 0)]) (rest := rest) (lenOf pd_5 rfl) hs rfl hW hd hc hsl (fun v T' h' W' _ q => ?_)
    obtain ⟨rfl, rfl⟩ := q
    exact kk T' _ W' u2 u3
  · have e1 : ds.length = 2 := a1.len.symm
    have e2 : i = 0 ∨ i = 1 := by omega
    rcases e2 with rfl | rfl
    · have ex : u = x := by simpa using u1.symm
      rw [ex] at u2 u3
      refine W.callVU hx (x := y_10) (y := y_8) (C := "java/util/ImmutableCollections$List12") (owner := "java/util/List") (ww hw 293 rfl) (ww hw 294 rfl) (ww hw 295 rfl) (by decide) (ww hw 296 rfl) (ww hw 297 rfl) (Pay.of_con (Wd := Wd) (rm_l2g20 l Z a0 hw la x y em h n0 Z0 b2 b3 b4 b5) (ww hw 298 rfl) (ww hw 253 rfl) (hEN hw) (Nat.le_trans (by decide) hf) (Nat.le_trans (by rw [Nat.add_assoc]; exact Nat.add_le_add_left (by decide) _) hl)) b1 hg hsize (argsL := [.int (Int32.ofNat 0)]) (rest := rest) (lenOf pd_5 rfl) hs rfl hW hd hc hsl (fun v T' h' W' _ q => ?_)
      obtain ⟨rfl, rfl⟩ := q
      exact kk T' _ W' u2 u3
    · have ex : u = y := by simpa using u1.symm
      rw [ex] at u2 u3
      refine W.callVU hx (x := y_10) (y := y_8) (C := "java/util/ImmutableCollections$List12") (owner := "java/util/List") (ww hw 293 rfl) (ww hw 294 rfl) (ww hw 295 rfl) (by decide) (ww hw 296 rfl) (ww hw 297 rfl) (Pay.of_con (Wd := Wd) (rm_l2g21 l Z a0 hw la x y em h n0 Z0 b2 b3 b4 b5) (ww hw 298 rfl) (ww hw 253 rfl) (hEN hw) (Nat.le_trans (by decide) hf) (Nat.le_trans (by rw [Nat.add_assoc]; exact Nat.add_le_add_left (by decide) _) hl)) b1 hg hsize (argsL := [.int (Int32.ofNat 1)]) (rest := rest) (lenOf pd_5 rfl) hs rfl hW hd hc hsl (fun v T' h' W' _ q => ?_)
      obtain ⟨rfl, rfl⟩ := q
      exact kk T' _ W' u2 u3
end ILaw
def Q_ohc (Z : State) (x : Addr) (zc : Int32) (cs : List Int32) (h0 : Heap) (v : Option Value) (h : Heap) : Prop := v = some (.int (hashS cs)) ∧ Hs Z h0 h
theorem rm_ohc (l : Launch) (Z : State) (a0 : Array Value) (hw : ∀ d ∈ tables_1, d.before a0 Z = true) (x : Addr) (zc : Int32) (cs : List Int32) (h0 : Heap) (n0 : Nat) (Z0 : n0 ≤ h0.size) (g0 : n0 ≤ x) (S0 : Sta Z h0 "java/lang/String" "COMPACT_STRINGS" "Z" (.int zc)) (hz : ¬ zc = 0) (U0 : StrH Z h0 x cs) :
  Con l Z EN y_12 jdk_31_method_4_code 1 (some .int) [] ({ frames := 4, cells := 0, slots := 0, locals := 58 } : Room) #[(.ref x)] h0 n0 (Q_ohc Z x zc cs h0) := by
 refine Con.intro (own := "java/util/Objects") rfl (plainFor_of_name plain_java_util_Objects) (hEN hw) ?_
 intro p e s m below meth c s₁ hx hby hml hret hlk hnm W0
 refine Fi.cast (show entryFrame m #[(.ref x)] 1 = (mkF m 0 #[.val (.ref x)] []) from by first | (simp [entryFrame, mkF, argsToLocals, Value.category]; done) | rfl) ?_
 refine Fi.by' (st' := s₁.setTop (mkF m 5 #[.val (.ref x)] [(.ref x)])) (fun t k => ?_) ?_
 ·refine XS.aloadN W0.here hx rfl (hb hby d51_0) rfl rfl ?_
  refine XS.ifnullNo W0.here hx rfl (hb hby d51_1) rfl ?_
  refine XS.aloadN W0.here hx rfl (hb hby d51_4) rfl rfl ?_
  exact k
 refine W0.callW hx (x := y_11) (y := y_4) (C := "java/lang/String") (ww hw 302 rfl) (ww hw 113 rfl) (ww hw 74 rfl) (ww hw 115 rfl) (ww hw 116 rfl) (by decide) (paySH (Wd := 0) hw (by omega) g0 S0 hz U0 (by decide) (by decide)) (U0).exa (g := (mkF m 5 #[.val (.ref x)] [(.ref x)])) rfl (by rw [hml]; rfl) (argsL := []) (rest := []) (lenOf pd_4 rfl) rfl rfl (ble_ rfl) (hb hby d51_5) (by decide) (by decide) (fun v1 T1 h1 W1 sz1 q1 => ?_)
 obtain ⟨rfl, Hs1⟩ := q1
 change Fi _ _ _ _ _ _ _ _ _ _ (T1.setTop (mkF m 8 #[.val (.ref x)] [(.int (hashS cs))]))
 refine Fi.by' (st' := T1.setTop (mkF m 12 #[.val (.ref x)] [(.int (hashS cs))])) (fun t k => ?_) ?_
 ·refine XS.goto W1.here hx rfl (pc0 := 8) (pc' := 12) rfl (hb hby d51_8) (by decide) (by decide) ?_
  exact k
 exact W1.iret hx hlk hret (by simp) rfl (hb hby d51_12) ⟨rfl, Hs1⟩ (by decide) (by decide)
def Q_ahc (Z : State) (la : Addr) (zc : Int32) (ds : List Int32) (h0 : Heap) (v : Option Value) (h : Heap) : Prop := v = some (.int (hashR 1 ds)) ∧ Hs Z h0 h
theorem rm_ahc (l : Launch) (Z : State) (a0 : Array Value) (hw : ∀ d ∈ tables_1, d.before a0 Z = true) (la : Addr) (zc : Int32) (ds : List Int32) (h0 : Heap) (n0 : Nat) (Z0 : n0 ≤ h0.size) (S0 : Sta Z h0 "java/lang/String" "COMPACT_STRINGS" "Z" (.int zc)) (hz : ¬ zc = 0) (I0 : IL Z h0 n0 la ds) :
  Con l Z EN y_13 jdk_46_method_14_code 4 (some .int) [] ({ frames := 5, cells := 0, slots := 0, locals := 71 } : Room) #[(.ref la)] h0 n0 (Q_ahc Z la zc ds h0) := by
 refine Con.intro (own := "java/util/ImmutableCollections$AbstractImmutableList") rfl (plainFor_of_name plain_java_util_ImmutableCollections_AbstractImmutableList) (hEN hw) ?_
 intro p e s m below meth c s₁ hx hby hml hret hlk hnm W0
 refine Fi.cast (show entryFrame m #[(.ref la)] 4 = (mkF m 0 #[.val (.ref la), .unset, .unset, .unset] []) from by first | (simp [entryFrame, mkF, argsToLocals, Value.category]; done) | rfl) ?_
 refine Fi.by' (st' := s₁.setTop (mkF m 5 #[.val (.ref la), .val (.int 1), .val (.int 0), .unset] [(.ref la)])) (fun t k => ?_) ?_
 ·refine iconstZ W0.here hx rfl (hb hby d20_0) (z := (1 : Int32)) rfl ?_
  refine XS.istoreN W0.here hx rfl (hb hby d20_1) rfl (l' := #[.val (.ref la), .val (.int 1), .unset, .unset]) rfl ?_
  refine iconstZ W0.here hx rfl (hb hby d20_2) (z := (0 : Int32)) rfl ?_
  refine XS.istoreN W0.here hx rfl (hb hby d20_3) rfl (l' := #[.val (.ref la), .val (.int 1), .val (.int 0), .unset]) rfl ?_
  refine XS.aloadN W0.here hx rfl (hb hby d20_4) rfl rfl ?_
  exact k
 refine il_size hw W0 hx I0 (by omega) (g := (mkF m 5 #[.val (.ref la), .val (.int 1), .val (.int 0), .unset] [(.ref la)])) rfl (by rw [hml]; rfl) rfl (hb hby d20_5) (Wd := 0) (ble_ rfl) (by decide) (by decide) (by decide) (by decide) (fun T1 W1 => ?_)
 change Fi _ _ _ _ _ _ _ _ _ _ (T1.setTop (mkF m 8 #[.val (.ref la), .val (.int 1), .val (.int 0), .unset] [(.int (Int32.ofNat ds.length))]))
 refine Fi.by' (st' := T1.setTop (mkF m 9 #[.val (.ref la), .val (.int 1), .val (.int 0), .val (.int (Int32.ofNat ds.length))] [])) (fun t k => ?_) ?_
 ·refine XS.istoreN W1.here hx rfl (hb hby d20_8) rfl (l' := #[.val (.ref la), .val (.int 1), .val (.int 0), .val (.int (Int32.ofNat ds.length))]) rfl ?_
  exact k
 have J9 : ∀ (n i : Nat) (hv : Int32) (T : State) (h : Heap), i + n = ds.length → hashR hv (ds.drop i) = hashR 1 ds → Wk p l e ({ frames := 5, cells := 0, slots := 0, locals := 71 } : Room) s m #[.ref la] below meth c Z a0 EN "java/util/ImmutableCollections$AbstractImmutableList" n0 T h 0 0 → Hs Z h0 h → Fi p e below s Z EN n0 (Q_ahc Z la zc ds h0) 0 0 (T.setTop (mkF m 9 #[.val (.ref la), .val (.int hv), .val (.int (Int32.ofNat i)), .val (.int (Int32.ofNat ds.length))] [])) := by
  intro n
  induction n with
  | zero =>
   intro i hv T2 h2 hi hh W2 H2
   have sz2 := H2.1
   have hi2 : i = ds.length := by omega
   refine Fi.by' (st' := T2.setTop (mkF m 11 #[.val (.ref la), .val (.int hv), .val (.int (Int32.ofNat i)), .val (.int (Int32.ofNat ds.length))] [(.int (Int32.ofNat ds.length)), (.int (Int32.ofNat i))])) (fun t k => ?_) ?_
   ·refine XS.iloadN W2.here hx rfl (hb hby d20_9) rfl ?_
    refine XS.iloadN W2.here hx rfl (hb hby d20_10) rfl ?_
    exact k
   refine Fi.by' (st' := T2.setTop (mkF m 35 #[.val (.ref la), .val (.int hv), .val (.int (Int32.ofNat i)), .val (.int (Int32.ofNat ds.length))] [(.int hv)])) (fun t k => ?_) ?_
   ·refine XS.icmpYes W2.here hx rfl (pc0 := 11) (pc' := 34) rfl (hb hby d20_11) rfl (flt (by rw [hi2]; exact Int32.lt_irrefl)).2.1 (by decide) (by decide) ?_
    refine XS.iloadN W2.here hx rfl (hb hby d20_34) rfl ?_
    exact k
   have hv2 : hashR 1 ds = hv := by rw [← hh, hi2, List.drop_length]; rfl
   exact W2.iret hx hlk hret (by simp) rfl (hb hby d20_35) ⟨by rw [hv2], H2⟩ (by decide) (by decide)
  | succ n ih =>
   intro i hv T3 h3 hi hh W3 H3
   have sz3 := H3.1
   obtain ⟨d, r, hdr, hdr2⟩ := drop_cons hi
   have hd3 : ds.length ≤ 3 := by obtain ⟨_, _, q, _⟩ := I0; exact q
   refine Fi.by' (st' := T3.setTop (mkF m 11 #[.val (.ref la), .val (.int hv), .val (.int (Int32.ofNat i)), .val (.int (Int32.ofNat ds.length))] [(.int (Int32.ofNat ds.length)), (.int (Int32.ofNat i))])) (fun t k => ?_) ?_
   ·refine XS.iloadN W3.here hx rfl (hb hby d20_9) rfl ?_
    refine XS.iloadN W3.here hx rfl (hb hby d20_10) rfl ?_
    exact k
   refine Fi.by' (st' := T3.setTop (mkF m 20 #[.val (.ref la), .val (.int hv), .val (.int (Int32.ofNat i)), .val (.int (Int32.ofNat ds.length))] [(.int (Int32.ofNat i)), (.ref la), (.int ((31 : Int32) * hv))])) (fun t k => ?_) ?_
   ·refine XS.icmpNo W3.here hx rfl (hb hby d20_11) rfl (tlt ((ofNat_lt (by omega) (by omega)).2)).2.1 ?_
    refine bipushZ W3.here hx rfl (hb hby d20_14) (z := (31 : Int32)) rfl ?_
    refine XS.iloadN W3.here hx rfl (hb hby d20_16) rfl ?_
    refine XS.imul W3.here hx rfl (hb hby d20_17) rfl ?_
    refine XS.aloadN W3.here hx rfl (hb hby d20_18) rfl rfl ?_
    refine XS.iloadN W3.here hx rfl (hb hby d20_19) rfl ?_
    exact k
   refine il_get hw W3 hx (IL.hs (ww hw 8 rfl) I0 H3) (by omega) hdr (g := (mkF m 20 #[.val (.ref la), .val (.int hv), .val (.int (Int32.ofNat i)), .val (.int (Int32.ofNat ds.length))] [(.int (Int32.ofNat i)), (.ref la), (.int ((31 : Int32) * hv))])) rfl (by rw [hml]; rfl) rfl (hb hby d20_20) (Wd := 1) (ble_ rfl) (by decide) (by decide) (by decide) (by decide) (fun T4 x4 W4 U4 gx4 => ?_)
   change Fi _ _ _ _ _ _ _ _ _ _ (T4.setTop (mkF m 23 #[.val (.ref la), .val (.int hv), .val (.int (Int32.ofNat i)), .val (.int (Int32.ofNat ds.length))] [(.ref x4), (.int ((31 : Int32) * hv))]))
   refine W4.callS hx (y := y_12) (ww hw 299 rfl) (ww hw 300 rfl) (ww hw 106 rfl) (ww hw 301 rfl) (by decide) (Pay.of_con (Wd := 1) (rm_ohc l Z a0 hw x4 zc [d] h3 n0 (by omega) gx4 (Hs.sta H3 S0) hz U4) (ww hw 301 rfl) (ww hw 106 rfl) (hEN hw) (by decide) (by decide)) (g := (mkF m 23 #[.val (.ref la), .val (.int hv), .val (.int (Int32.ofNat i)), .val (.int (Int32.ofNat ds.length))] [(.ref x4), (.int ((31 : Int32) * hv))])) rfl (by rw [hml]; rfl) (argsL := [(.ref x4)]) (rest := [(.int ((31 : Int32) * hv))]) (lenOf pd_6 rfl) rfl rfl (ble_ rfl) (hb hby d20_23) (by decide) (by decide) (fun v5 T5 h5 W5 sz5 q5 => ?_)
   obtain ⟨rfl, Hs5⟩ := q5
   change Fi _ _ _ _ _ _ _ _ _ _ (T5.setTop (mkF m 26 #[.val (.ref la), .val (.int hv), .val (.int (Int32.ofNat i)), .val (.int (Int32.ofNat ds.length))] [(.int (hashS [d])), (.int ((31 : Int32) * hv))]))
   refine Fi.by' (st' := T5.setTop (mkF m 9 #[.val (.ref la), .val (.int (((31 : Int32) * hv) + (hashS [d]))), .val (.int ((Int32.ofNat i) + (1 : Int32))), .val (.int (Int32.ofNat ds.length))] [])) (fun t k => ?_) ?_
   ·refine XS.iadd W5.here hx rfl (hb hby d20_26) rfl ?_
    refine XS.istoreN W5.here hx rfl (hb hby d20_27) rfl (l' := #[.val (.ref la), .val (.int (((31 : Int32) * hv) + (hashS [d]))), .val (.int (Int32.ofNat i)), .val (.int (Int32.ofNat ds.length))]) rfl ?_
    refine XS.iinc W5.here hx rfl (hb hby d20_28) rfl (l' := #[.val (.ref la), .val (.int (((31 : Int32) * hv) + (hashS [d]))), .val (.int ((Int32.ofNat i) + (1 : Int32))), .val (.int (Int32.ofNat ds.length))]) rfl ?_
    refine XS.goto W5.here hx rfl (pc0 := 31) (pc' := 9) rfl (hb hby d20_31) (by decide) (by decide) ?_
    exact k
   rw [show (Int32.ofNat i) + (1 : Int32) = Int32.ofNat (i + 1) from ofNat_succ i]
   exact ih (i + 1) _ T5 h5 (by omega) (by rw [hdr2, ← hh, hdr]; simp [hashR, hashS]) W5 (Hs.trans H3 Hs5)
 exact J9 ds.length 0 1 T1 h0 (by omega) rfl W1 (Hs.refl h0)
/-! an immutable list as an Object -/
section ILaw2
variable {p : Program} {l : Launch} {e : Env} {R : Room} {s : State} {m : MethodId} {args : Array Value} {below : List Frame} {meth : Method} {c : Code} {Z : State} {a0 : Array Value} {EF : List (String × Nat)} {n0 : Nat} {T : State} {h h' : Heap} {cells slots : Nat} {Q : Option Value → Heap → Prop} {kc ks : Nat}
theorem il_cls {la : Addr} {ds : List Int32} (F : IL Z h n0 la ds) : Exa Z h la "java/util/ImmutableCollections$ListN" ∨ Exa Z h la "java/util/ImmutableCollections$List12" := by
  obtain ⟨es, a1, a2, a3⟩ := F
  rcases a3 with ⟨ea, k, b1, -⟩ | ⟨x, em, b0, b1, -⟩ | ⟨x, y, em, b0, b1, -⟩
  · exact Or.inl b1
  · exact Or.inr b1
  · exact Or.inr b1
theorem il_obj (hw : ∀ d ∈ tables_1, d.before a0 Z = true) {la : Addr} {ds : List Int32} (F : IL Z h n0 la ds) : Ins Z h la "java/lang/Object" true := (il_cls F).elim (fun b => Ins.of_exa b (ww hw 103 rfl)) (fun b => Ins.of_exa b (ww hw 279 rfl))
theorem il_list (hw : ∀ d ∈ tables_1, d.before a0 Z = true) {la : Addr} {ds : List Int32} (F : IL Z h n0 la ds) : Ins Z h la "java/util/List" true := (il_cls F).elim (fun b => Ins.of_exa b (ww hw 168 rfl)) (fun b => Ins.of_exa b (ww hw 305 rfl))
theorem il_hash (hw : ∀ d ∈ tables_1, d.before a0 Z = true) (W : Wk p l e R s m args below meth c Z a0 EN "java/util/Arrays" n0 T h cells slots) (hx : p.tables.exec = Jvm.exec) {la : Addr} {ds : List Int32} {zc : Int32} (F : IL Z h n0 la ds) (Z0 : n0 ≤ h.size) (S0 : Sta Z h "java/lang/String" "COMPACT_STRINGS" "Z" (.int zc)) (hz : ¬ zc = 0)
    {g : JFrame} (hg : g.method = m) (hsize : g.locals.size = c.maxLocals) {rest : List Value} (hs : g.stack = .ref la :: rest) (hd : decode c.code g.pc = .ok (.invokevirtual 383, 3)) {Wd : Nat} (hW : 2 * g.monitorRoom + (rest.map fun v => v.category).sum ≤ Wd) (hf : 6 ≤ R.frames) (hl : Wd + 86 ≤ R.locals) (hc : cells ≤ R.cells) (hsl : slots ≤ R.slots)
    (kk : ∀ (T' : State) (h' : Heap), Wk p l e R s m args below meth c Z a0 EN "java/util/Arrays" n0 T' h' cells slots → h.size ≤ h'.size → Hs Z h h' → Fi p e below s Z EF n0 Q kc ks (T'.setTop { g with pc := g.pc + 3, stack := .int (hashR 1 ds) :: rest })) : Fi p e below s Z EF n0 Q kc ks (T.setTop g) := by
  rcases il_cls F with b1 | b1
  · refine W.callW hx (x := y_11) (y := y_13) (C := "java/util/ImmutableCollections$ListN") (ww hw 112 rfl) (ww hw 113 rfl) (ww hw 74 rfl) (ww hw 132 rfl) (ww hw 133 rfl) (by decide) (Pay.of_con (Wd := Wd) (rm_ahc l Z a0 hw la zc ds h n0 Z0 S0 hz F) (ww hw 135 rfl) (ww hw 134 rfl) (hEN hw) (Nat.le_trans (by decide) hf) (Nat.le_trans (by rw [Nat.add_assoc]; exact Nat.add_le_add_left (by decide) _) hl)) b1 hg hsize (argsL := []) (rest := rest) (lenOf pd_4 rfl) hs rfl hW hd hc hsl (fun v T' h' W' sz q => ?_)
    obtain ⟨rfl, q2⟩ := q
    exact kk T' h' W' sz q2
  · refine W.callW hx (x := y_11) (y := y_13) (C := "java/util/ImmutableCollections$List12") (ww hw 112 rfl) (ww hw 113 rfl) (ww hw 74 rfl) (ww hw 289 rfl) (ww hw 133 rfl) (by decide) (Pay.of_con (Wd := Wd) (rm_ahc l Z a0 hw la zc ds h n0 Z0 S0 hz F) (ww hw 135 rfl) (ww hw 134 rfl) (hEN hw) (Nat.le_trans (by decide) hf) (Nat.le_trans (by rw [Nat.add_assoc]; exact Nat.add_le_add_left (by decide) _) hl)) b1 hg hsize (argsL := []) (rest := rest) (lenOf pd_4 rfl) hs rfl hW hd hc hsl (fun v T' h' W' sz q => ?_)
    obtain ⟨rfl, q2⟩ := q
    exact kk T' h' W' sz q2
end ILaw2
def HV (cs ds es : List Int32) : Int32 := 31 * (31 * (31 * 1 + hashS cs) + hashR 1 ds) + hashR 1 es
def Q_arh (Z : State) (ar x la lb : Addr) (zc : Int32) (k : ClassId) (cs ds es : List Int32) (h0 : Heap) (v : Option Value) (h : Heap) : Prop := v = some (.int (HV cs ds es)) ∧ Hs Z h0 h
theorem rm_arh (l : Launch) (Z : State) (a0 : Array Value) (hw : ∀ d ∈ tables_1, d.before a0 Z = true) (ar x la lb : Addr) (zc : Int32) (k : ClassId) (cs ds es : List Int32) (h0 : Heap) (n0 : Nat) (Z0 : n0 ≤ h0.size) (g0 : n0 ≤ x) (S0 : Sta Z h0 "java/lang/String" "COMPACT_STRINGS" "Z" (.int zc)) (hz : ¬ zc = 0) (U0 : StrH Z h0 x cs) (I1 : IL Z h0 n0 la ds) (I2 : IL Z h0 n0 lb es) (B0 : Arv Z h0 ar k (.object "java/lang/Object") (3 : Int32) [.ref x, .ref la, .ref lb] .null) :
  Con l Z EN y_14 jdk_65_method_157_code 6 (some .int) [] ({ frames := 6, cells := 0, slots := 0, locals := 87 } : Room) #[(.ref ar)] h0 n0 (Q_arh Z ar x la lb zc k cs ds es h0) := by
 refine Con.intro (own := "java/util/Arrays") rfl (plainFor_of_name plain_java_util_Arrays) (hEN hw) ?_
 intro p e s m below meth c s₁ hx hby hml hret hlk hnm W0
 refine Fi.cast (show entryFrame m #[(.ref ar)] 6 = (mkF m 0 #[.val (.ref ar), .unset, .unset, .unset, .unset, .unset] []) from by first | (simp [entryFrame, mkF, argsToLocals, Value.category]; done) | rfl) ?_
 refine Fi.by' (st' := s₁.setTop (mkF m 11 #[.val (.ref ar), .val (.int 1), .val (.ref ar), .unset, .unset, .unset] [(.ref ar)])) (fun t k => ?_) ?_
 ·refine XS.aloadN W0.here hx rfl (hb hby d16_0) rfl rfl ?_
  refine XS.ifnonnullYes W0.here hx rfl (pc0 := 1) (pc' := 6) rfl (hb hby d16_1) rfl (by decide) (by decide) ?_
  refine iconstZ W0.here hx rfl (hb hby d16_6) (z := (1 : Int32)) rfl ?_
  refine XS.istoreN W0.here hx rfl (hb hby d16_7) rfl (l' := #[.val (.ref ar), .val (.int 1), .unset, .unset, .unset, .unset]) rfl ?_
  refine XS.aloadN W0.here hx rfl (hb hby d16_8) rfl rfl ?_
  refine XS.astoreN W0.here hx rfl (hb hby d16_9) rfl rfl (l' := #[.val (.ref ar), .val (.int 1), .val (.ref ar), .unset, .unset, .unset]) rfl ?_
  refine XS.aloadN W0.here hx rfl (hb hby d16_10) rfl rfl ?_
  exact k
 refine W0.alen hx B0 (g := (mkF m 11 #[.val (.ref ar), .val (.int 1), .val (.ref ar), .unset, .unset, .unset] [(.ref ar)])) rfl rfl (hb hby d16_11) ?_
 change Fi _ _ _ _ _ _ _ _ _ _ (s₁.setTop (mkF m 12 #[.val (.ref ar), .val (.int 1), .val (.ref ar), .unset, .unset, .unset] [(.int 3)]))
 refine Fi.by' (st' := s₁.setTop (mkF m 25 #[.val (.ref ar), .val (.int 1), .val (.ref ar), .val (.int 3), .val (.int 0), .unset] [(.int 0), (.ref ar)])) (fun t k => ?_) ?_
 ·refine XS.istoreN W0.here hx rfl (hb hby d16_12) rfl (l' := #[.val (.ref ar), .val (.int 1), .val (.ref ar), .val (.int 3), .unset, .unset]) rfl ?_
  refine iconstZ W0.here hx rfl (hb hby d16_13) (z := (0 : Int32)) rfl ?_
  refine XS.istore W0.here hx rfl (hb hby d16_14) rfl (l' := #[.val (.ref ar), .val (.int 1), .val (.ref ar), .val (.int 3), .val (.int 0), .unset]) rfl ?_
  refine XS.iload W0.here hx rfl (hb hby d16_16) rfl ?_
  refine XS.iloadN W0.here hx rfl (hb hby d16_18) rfl ?_
  refine XS.icmpNo W0.here hx rfl (hb hby d16_19) rfl (tlt (by decide : ((0 : Int32) < (3 : Int32)))).2.1 ?_
  refine XS.aloadN W0.here hx rfl (hb hby d16_22) rfl rfl ?_
  refine XS.iload W0.here hx rfl (hb hby d16_23) rfl ?_
  exact k
 refine W0.aaload hx B0 rfl (j := (0 : Int32)) (v := (.ref x)) (by decide) rfl (g := (mkF m 25 #[.val (.ref ar), .val (.int 1), .val (.ref ar), .val (.int 3), .val (.int 0), .unset] [(.int 0), (.ref ar)])) rfl rfl (hb hby d16_25) ?_
 change Fi _ _ _ _ _ _ _ _ _ _ (s₁.setTop (mkF m 26 #[.val (.ref ar), .val (.int 1), .val (.ref ar), .val (.int 3), .val (.int 0), .unset] [(.ref x)]))
 refine Fi.by' (st' := s₁.setTop (mkF m 43 #[.val (.ref ar), .val (.int 1), .val (.ref ar), .val (.int 3), .val (.int 0), .val (.ref x)] [(.ref x), (.int ((31 : Int32) * (1 : Int32)))])) (fun t k => ?_) ?_
 ·refine XS.astore W0.here hx rfl (hb hby d16_26) rfl rfl (l' := #[.val (.ref ar), .val (.int 1), .val (.ref ar), .val (.int 3), .val (.int 0), .val (.ref x)]) rfl ?_
  refine bipushZ W0.here hx rfl (hb hby d16_28) (z := (31 : Int32)) rfl ?_
  refine XS.iloadN W0.here hx rfl (hb hby d16_30) rfl ?_
  refine XS.imul W0.here hx rfl (hb hby d16_31) rfl ?_
  refine XS.aload W0.here hx rfl (hb hby d16_32) rfl rfl ?_
  refine XS.ifnonnullYes W0.here hx rfl (pc0 := 34) (pc' := 41) rfl (hb hby d16_34) rfl (by decide) (by decide) ?_
  refine XS.aload W0.here hx rfl (hb hby d16_41) rfl rfl ?_
  exact k
 refine W0.callW hx (x := y_11) (y := y_4) (C := "java/lang/String") (ww hw 112 rfl) (ww hw 113 rfl) (ww hw 74 rfl) (ww hw 115 rfl) (ww hw 116 rfl) (by decide) (paySH (Wd := 1) hw (by omega) g0 S0 hz U0 (by decide) (by decide)) (U0).exa (g := (mkF m 43 #[.val (.ref ar), .val (.int 1), .val (.ref ar), .val (.int 3), .val (.int 0), .val (.ref x)] [(.ref x), (.int ((31 : Int32) * (1 : Int32)))])) rfl (by rw [hml]; rfl) (argsL := []) (rest := [(.int ((31 : Int32) * (1 : Int32)))]) (lenOf pd_4 rfl) rfl rfl (ble_ rfl) (hb hby d16_43) (by decide) (by decide) (fun v2 T2 h2 W2 sz2 q2 => ?_)
 obtain ⟨rfl, Hs2⟩ := q2
 change Fi _ _ _ _ _ _ _ _ _ _ (T2.setTop (mkF m 46 #[.val (.ref ar), .val (.int 1), .val (.ref ar), .val (.int 3), .val (.int 0), .val (.ref x)] [(.int (hashS cs)), (.int ((31 : Int32) * (1 : Int32)))]))
 refine Fi.by' (st' := T2.setTop (mkF m 25 #[.val (.ref ar), .val (.int (((31 : Int32) * (1 : Int32)) + (hashS cs))), .val (.ref ar), .val (.int 3), .val (.int 1), .val (.ref x)] [(.int 1), (.ref ar)])) (fun t k => ?_) ?_
 ·refine XS.iadd W2.here hx rfl (hb hby d16_46) rfl ?_
  refine XS.istoreN W2.here hx rfl (hb hby d16_47) rfl (l' := #[.val (.ref ar), .val (.int (((31 : Int32) * (1 : Int32)) + (hashS cs))), .val (.ref ar), .val (.int 3), .val (.int 0), .val (.ref x)]) rfl ?_
  refine XS.iinc W2.here hx rfl (hb hby d16_48) rfl (l' := #[.val (.ref ar), .val (.int (((31 : Int32) * (1 : Int32)) + (hashS cs))), .val (.ref ar), .val (.int 3), .val (.int 1), .val (.ref x)]) rfl ?_
  refine XS.goto W2.here hx rfl (pc0 := 51) (pc' := 16) rfl (hb hby d16_51) (by decide) (by decide) ?_
  refine XS.iload W2.here hx rfl (hb hby d16_16) rfl ?_
  refine XS.iloadN W2.here hx rfl (hb hby d16_18) rfl ?_
  refine XS.icmpNo W2.here hx rfl (hb hby d16_19) rfl (tlt (by decide : ((1 : Int32) < (3 : Int32)))).2.1 ?_
  refine XS.aloadN W2.here hx rfl (hb hby d16_22) rfl rfl ?_
  refine XS.iload W2.here hx rfl (hb hby d16_23) rfl ?_
  exact k
 refine W2.aaload hx (Hs.arv Hs2 (ww hw 8 rfl) B0) rfl (j := (1 : Int32)) (v := (.ref la)) (by decide) rfl (g := (mkF m 25 #[.val (.ref ar), .val (.int (((31 : Int32) * (1 : Int32)) + (hashS cs))), .val (.ref ar), .val (.int 3), .val (.int 1), .val (.ref x)] [(.int 1), (.ref ar)])) rfl rfl (hb hby d16_25) ?_
 change Fi _ _ _ _ _ _ _ _ _ _ (T2.setTop (mkF m 26 #[.val (.ref ar), .val (.int (((31 : Int32) * (1 : Int32)) + (hashS cs))), .val (.ref ar), .val (.int 3), .val (.int 1), .val (.ref x)] [(.ref la)]))
 refine Fi.by' (st' := T2.setTop (mkF m 43 #[.val (.ref ar), .val (.int (((31 : Int32) * (1 : Int32)) + (hashS cs))), .val (.ref ar), .val (.int 3), .val (.int 1), .val (.ref la)] [(.ref la), (.int ((31 : Int32) * (((31 : Int32) * (1 : Int32)) + (hashS cs))))])) (fun t k => ?_) ?_
 ·refine XS.astore W2.here hx rfl (hb hby d16_26) rfl rfl (l' := #[.val (.ref ar), .val (.int (((31 : Int32) * (1 : Int32)) + (hashS cs))), .val (.ref ar), .val (.int 3), .val (.int 1), .val (.ref la)]) rfl ?_
  refine bipushZ W2.here hx rfl (hb hby d16_28) (z := (31 : Int32)) rfl ?_
  refine XS.iloadN W2.here hx rfl (hb hby d16_30) rfl ?_
  refine XS.imul W2.here hx rfl (hb hby d16_31) rfl ?_
  refine XS.aload W2.here hx rfl (hb hby d16_32) rfl rfl ?_
  refine XS.ifnonnullYes W2.here hx rfl (pc0 := 34) (pc' := 41) rfl (hb hby d16_34) rfl (by decide) (by decide) ?_
  refine XS.aload W2.here hx rfl (hb hby d16_41) rfl rfl ?_
  exact k
 refine il_hash hw W2 hx (IL.hs (ww hw 8 rfl) I1 Hs2) (by omega) (Hs.sta Hs2 S0) hz (g := (mkF m 43 #[.val (.ref ar), .val (.int (((31 : Int32) * (1 : Int32)) + (hashS cs))), .val (.ref ar), .val (.int 3), .val (.int 1), .val (.ref la)] [(.ref la), (.int ((31 : Int32) * (((31 : Int32) * (1 : Int32)) + (hashS cs))))])) rfl (by rw [hml]; rfl) rfl (hb hby d16_43) (Wd := 1) (ble_ rfl) (by decide) (by decide) (by decide) (by decide) (fun T3 h3 W3 sz3 Hs3 => ?_)
 change Fi _ _ _ _ _ _ _ _ _ _ (T3.setTop (mkF m 46 #[.val (.ref ar), .val (.int (((31 : Int32) * (1 : Int32)) + (hashS cs))), .val (.ref ar), .val (.int 3), .val (.int 1), .val (.ref la)] [(.int (hashR 1 ds)), (.int ((31 : Int32) * (((31 : Int32) * (1 : Int32)) + (hashS cs))))]))
 refine Fi.by' (st' := T3.setTop (mkF m 25 #[.val (.ref ar), .val (.int (((31 : Int32) * (((31 : Int32) * (1 : Int32)) + (hashS cs))) + (hashR 1 ds))), .val (.ref ar), .val (.int 3), .val (.int 2), .val (.ref la)] [(.int 2), (.ref ar)])) (fun t k => ?_) ?_
 ·refine XS.iadd W3.here hx rfl (hb hby d16_46) rfl ?_
  refine XS.istoreN W3.here hx rfl (hb hby d16_47) rfl (l' := #[.val (.ref ar), .val (.int (((31 : Int32) * (((31 : Int32) * (1 : Int32)) + (hashS cs))) + (hashR 1 ds))), .val (.ref ar), .val (.int 3), .val (.int 1), .val (.ref la)]) rfl ?_
  refine XS.iinc W3.here hx rfl (hb hby d16_48) rfl (l' := #[.val (.ref ar), .val (.int (((31 : Int32) * (((31 : Int32) * (1 : Int32)) + (hashS cs))) + (hashR 1 ds))), .val (.ref ar), .val (.int 3), .val (.int 2), .val (.ref la)]) rfl ?_
  refine XS.goto W3.here hx rfl (pc0 := 51) (pc' := 16) rfl (hb hby d16_51) (by decide) (by decide) ?_
  refine XS.iload W3.here hx rfl (hb hby d16_16) rfl ?_
  refine XS.iloadN W3.here hx rfl (hb hby d16_18) rfl ?_
  refine XS.icmpNo W3.here hx rfl (hb hby d16_19) rfl (tlt (by decide : ((2 : Int32) < (3 : Int32)))).2.1 ?_
  refine XS.aloadN W3.here hx rfl (hb hby d16_22) rfl rfl ?_
  refine XS.iload W3.here hx rfl (hb hby d16_23) rfl ?_
  exact k
 refine W3.aaload hx (Hs.arv Hs3 (ww hw 8 rfl) (Hs.arv Hs2 (ww hw 8 rfl) B0)) rfl (j := (2 : Int32)) (v := (.ref lb)) (by decide) rfl (g := (mkF m 25 #[.val (.ref ar), .val (.int (((31 : Int32) * (((31 : Int32) * (1 : Int32)) + (hashS cs))) + (hashR 1 ds))), .val (.ref ar), .val (.int 3), .val (.int 2), .val (.ref la)] [(.int 2), (.ref ar)])) rfl rfl (hb hby d16_25) ?_
 change Fi _ _ _ _ _ _ _ _ _ _ (T3.setTop (mkF m 26 #[.val (.ref ar), .val (.int (((31 : Int32) * (((31 : Int32) * (1 : Int32)) + (hashS cs))) + (hashR 1 ds))), .val (.ref ar), .val (.int 3), .val (.int 2), .val (.ref la)] [(.ref lb)]))
 refine Fi.by' (st' := T3.setTop (mkF m 43 #[.val (.ref ar), .val (.int (((31 : Int32) * (((31 : Int32) * (1 : Int32)) + (hashS cs))) + (hashR 1 ds))), .val (.ref ar), .val (.int 3), .val (.int 2), .val (.ref lb)] [(.ref lb), (.int ((31 : Int32) * (((31 : Int32) * (((31 : Int32) * (1 : Int32)) + (hashS cs))) + (hashR 1 ds))))])) (fun t k => ?_) ?_
 ·refine XS.astore W3.here hx rfl (hb hby d16_26) rfl rfl (l' := #[.val (.ref ar), .val (.int (((31 : Int32) * (((31 : Int32) * (1 : Int32)) + (hashS cs))) + (hashR 1 ds))), .val (.ref ar), .val (.int 3), .val (.int 2), .val (.ref lb)]) rfl ?_
  refine bipushZ W3.here hx rfl (hb hby d16_28) (z := (31 : Int32)) rfl ?_
  refine XS.iloadN W3.here hx rfl (hb hby d16_30) rfl ?_
  refine XS.imul W3.here hx rfl (hb hby d16_31) rfl ?_
  refine XS.aload W3.here hx rfl (hb hby d16_32) rfl rfl ?_
  refine XS.ifnonnullYes W3.here hx rfl (pc0 := 34) (pc' := 41) rfl (hb hby d16_34) rfl (by decide) (by decide) ?_
  refine XS.aload W3.here hx rfl (hb hby d16_41) rfl rfl ?_
  exact k
 refine il_hash hw W3 hx (IL.hs (ww hw 8 rfl) (IL.hs (ww hw 8 rfl) I2 Hs2) Hs3) (by omega) (Hs.sta Hs3 (Hs.sta Hs2 S0)) hz (g := (mkF m 43 #[.val (.ref ar), .val (.int (((31 : Int32) * (((31 : Int32) * (1 : Int32)) + (hashS cs))) + (hashR 1 ds))), .val (.ref ar), .val (.int 3), .val (.int 2), .val (.ref lb)] [(.ref lb), (.int ((31 : Int32) * (((31 : Int32) * (((31 : Int32) * (1 : Int32)) + (hashS cs))) + (hashR 1 ds))))])) rfl (by rw [hml]; rfl) rfl (hb hby d16_43) (Wd := 1) (ble_ rfl) (by decide) (by decide) (by decide) (by decide) (fun T4 h4 W4 sz4 Hs4 => ?_)
 change Fi _ _ _ _ _ _ _ _ _ _ (T4.setTop (mkF m 46 #[.val (.ref ar), .val (.int (((31 : Int32) * (((31 : Int32) * (1 : Int32)) + (hashS cs))) + (hashR 1 ds))), .val (.ref ar), .val (.int 3), .val (.int 2), .val (.ref lb)] [(.int (hashR 1 es)), (.int ((31 : Int32) * (((31 : Int32) * (((31 : Int32) * (1 : Int32)) + (hashS cs))) + (hashR 1 ds))))]))
 refine Fi.by' (st' := T4.setTop (mkF m 55 #[.val (.ref ar), .val (.int (((31 : Int32) * (((31 : Int32) * (((31 : Int32) * (1 : Int32)) + (hashS cs))) + (hashR 1 ds))) + (hashR 1 es))), .val (.ref ar), .val (.int 3), .val (.int 3), .val (.ref lb)] [(.int (((31 : Int32) * (((31 : Int32) * (((31 : Int32) * (1 : Int32)) + (hashS cs))) + (hashR 1 ds))) + (hashR 1 es)))])) (fun t k => ?_) ?_
 ·refine XS.iadd W4.here hx rfl (hb hby d16_46) rfl ?_
  refine XS.istoreN W4.here hx rfl (hb hby d16_47) rfl (l' := #[.val (.ref ar), .val (.int (((31 : Int32) * (((31 : Int32) * (((31 : Int32) * (1 : Int32)) + (hashS cs))) + (hashR 1 ds))) + (hashR 1 es))), .val (.ref ar), .val (.int 3), .val (.int 2), .val (.ref lb)]) rfl ?_
  refine XS.iinc W4.here hx rfl (hb hby d16_48) rfl (l' := #[.val (.ref ar), .val (.int (((31 : Int32) * (((31 : Int32) * (((31 : Int32) * (1 : Int32)) + (hashS cs))) + (hashR 1 ds))) + (hashR 1 es))), .val (.ref ar), .val (.int 3), .val (.int 3), .val (.ref lb)]) rfl ?_
  refine XS.goto W4.here hx rfl (pc0 := 51) (pc' := 16) rfl (hb hby d16_51) (by decide) (by decide) ?_
  refine XS.iload W4.here hx rfl (hb hby d16_16) rfl ?_
  refine XS.iloadN W4.here hx rfl (hb hby d16_18) rfl ?_
  refine XS.icmpYes W4.here hx rfl (pc0 := 19) (pc' := 54) rfl (hb hby d16_19) rfl (flt (by decide : ¬ ((3 : Int32) < (3 : Int32)))).2.1 (by decide) (by decide) ?_
  refine XS.iloadN W4.here hx rfl (hb hby d16_54) rfl ?_
  exact k
 exact W4.iret hx hlk hret (by simp) rfl (hb hby d16_55) ⟨rfl, (Hs.trans (Hs.trans Hs2 Hs3) Hs4)⟩ (by decide) (by decide)
def Q_obh (Z : State) (ar x la lb : Addr) (zc : Int32) (k : ClassId) (cs ds es : List Int32) (h0 : Heap) (v : Option Value) (h : Heap) : Prop := v = some (.int (HV cs ds es)) ∧ Hs Z h0 h
theorem rm_obh (l : Launch) (Z : State) (a0 : Array Value) (hw : ∀ d ∈ tables_1, d.before a0 Z = true) (ar x la lb : Addr) (zc : Int32) (k : ClassId) (cs ds es : List Int32) (h0 : Heap) (n0 : Nat) (Z0 : n0 ≤ h0.size) (g0 : n0 ≤ x) (S0 : Sta Z h0 "java/lang/String" "COMPACT_STRINGS" "Z" (.int zc)) (hz : ¬ zc = 0) (U0 : StrH Z h0 x cs) (I1 : IL Z h0 n0 la ds) (I2 : IL Z h0 n0 lb es) (B0 : Arv Z h0 ar k (.object "java/lang/Object") (3 : Int32) [.ref x, .ref la, .ref lb] .null) :
  Con l Z EN y_15 jdk_31_method_5_code 1 (some .int) [] ({ frames := 7, cells := 0, slots := 0, locals := 104 } : Room) #[(.ref ar)] h0 n0 (Q_obh Z ar x la lb zc k cs ds es h0) := by
 refine Con.intro (own := "java/util/Objects") rfl (plainFor_of_name plain_java_util_Objects) (hEN hw) ?_
 intro p e s m below meth c s₁ hx hby hml hret hlk hnm W0
 refine Fi.cast (show entryFrame m #[(.ref ar)] 1 = (mkF m 0 #[.val (.ref ar)] []) from by first | (simp [entryFrame, mkF, argsToLocals, Value.category]; done) | rfl) ?_
 refine Fi.by' (st' := s₁.setTop (mkF m 1 #[.val (.ref ar)] [(.ref ar)])) (fun t k => ?_) ?_
 ·refine XS.aloadN W0.here hx rfl (hb hby d15_0) rfl rfl ?_
  exact k
 refine W0.callS hx (y := y_14) (ww hw 108 rfl) (ww hw 109 rfl) (ww hw 110 rfl) (ww hw 111 rfl) (by decide) (Pay.of_con (Wd := 0) (rm_arh l Z a0 hw ar x la lb zc k cs ds es h0 n0 (by omega) g0 S0 hz U0 I1 I2 B0) (ww hw 111 rfl) (ww hw 110 rfl) (hEN hw) (by decide) (by decide)) (g := (mkF m 1 #[.val (.ref ar)] [(.ref ar)])) rfl (by rw [hml]; rfl) (argsL := [(.ref ar)]) (rest := []) (lenOf pd_7 rfl) rfl rfl (ble_ rfl) (hb hby d15_1) (by decide) (by decide) (fun v1 T1 h1 W1 sz1 q1 => ?_)
 obtain ⟨rfl, hs1⟩ := q1
 change Fi _ _ _ _ _ _ _ _ _ _ (T1.setTop (mkF m 4 #[.val (.ref ar)] [(.int (HV cs ds es))]))
 exact W1.iret hx hlk hret (by simp) rfl (hb hby d15_4) ⟨rfl, hs1⟩ (by decide) (by decide)
def Q_svh (Z : State) (sx x la lb : Addr) (zc : Int32) (cs ds es : List Int32) (h0 : Heap) (v : Option Value) (h : Heap) : Prop := v = some (.int (HV cs ds es)) ∧ Hs Z h0 h
theorem rm_svh (l : Launch) (Z : State) (a0 : Array Value) (hw : ∀ d ∈ tables_1, d.before a0 Z = true) (sx x la lb : Addr) (zc : Int32) (cs ds es : List Int32) (h0 : Heap) (n0 : Nat) (Z0 : n0 ≤ h0.size) (g0 : n0 ≤ x) (S0 : Sta Z h0 "java/lang/String" "COMPACT_STRINGS" "Z" (.int zc)) (hz : ¬ zc = 0) (U0 : StrH Z h0 x cs) (I1 : IL Z h0 n0 la ds) (I2 : IL Z h0 n0 lb es) (E0 : Exa Z h0 sx "com/example/weftwork/weftwork/model/Service") (F1 : Fld Z h0 sx "com/example/weftwork/weftwork/model/Service" "name" "Ljava/lang/String;" (.ref x)) (F2 : Fld Z h0 sx "com/example/weftwork/weftwork/model/Service" "inputs" "Ljava/util/List;" (.ref la)) (F3 : Fld Z h0 sx "com/example/weftwork/weftwork/model/Service" "outputs" "Ljava/util/List;" (.ref lb)) :
  Con l Z EN y_16 prog_28_method_6_code 1 (some .int) [] ({ frames := 8, cells := 1, slots := 3, locals := 116 } : Room) #[(.ref sx)] h0 n0 (Q_svh Z sx x la lb zc cs ds es h0) := by
 refine Con.intro (own := "com/example/weftwork/weftwork/model/Service") rfl (plainFor_of_name plain_com_example_weftwork_weftwork_model_Service) (hEN hw) ?_
 intro p e s m below meth c s₁ hx hby hml hret hlk hnm W0
 refine Fi.cast (show entryFrame m #[(.ref sx)] 1 = (mkF m 0 #[.val (.ref sx)] []) from by first | (simp [entryFrame, mkF, argsToLocals, Value.category]; done) | rfl) ?_
 refine Fi.by' (st' := s₁.setTop (mkF m 1 #[.val (.ref sx)] [(.int 3)])) (fun t k => ?_) ?_
 ·refine iconstZ W0.here hx rfl (hb hby d14_0) (z := (3 : Int32)) rfl ?_
  exact k
 refine W0.newR hx (ww hw 100 rfl) (ww hw 101 rfl) (ad := "[Ljava/lang/Object;") rfl (g := (mkF m 1 #[.val (.ref sx)] [(.int 3)])) rfl (hb hby d14_1) rfl (by decide) (cap := 3) (by decide) (by decide) (by decide) (by decide) (fun T1 h1 a1 k1 ha1 W1 E1 A1 X1 O1 => ?_)
 change Fi _ _ _ _ _ _ _ _ _ _ (T1.setTop (mkF m 4 #[.val (.ref sx)] [(.ref a1)]))
 have sz1 := E1.1
 have V1 : Arv Z h1 a1 k1 (.object "java/lang/Object") (3 : Int32) [.null, .null, .null] .null := A1.pad (pad_rep [] .null 3)
 refine Fi.by' (st' := T1.setTop (mkF m 7 #[.val (.ref sx)] [(.ref sx), (.int 0), (.ref a1), (.ref a1)])) (fun t k => ?_) ?_
 ·refine XS.dup W1.here hx rfl (hb hby d14_4) rfl rfl ?_
  refine iconstZ W1.here hx rfl (hb hby d14_5) (z := (0 : Int32)) rfl ?_
  refine XS.aloadN W1.here hx rfl (hb hby d14_6) rfl rfl ?_
  exact k
 refine W1.getF hx (ww hw 60 rfl) (Fld.ext E1 F1) (g := (mkF m 7 #[.val (.ref sx)] [(.ref sx), (.int 0), (.ref a1), (.ref a1)])) rfl rfl (hb hby d14_7) (fun T2 W2 => ?_)
 change Fi _ _ _ _ _ _ _ _ _ _ (T2.setTop (mkF m 10 #[.val (.ref sx)] [(.ref x), (.int 0), (.ref a1), (.ref a1)]))
 refine W2.aastore hx V1 O1 (Ins.of_exa ((U0.ext E1)).exa (ww hw 102 rfl)) (i := 0) (ble_ rfl) (j := (0 : Int32)) rfl (by decide) (g := (mkF m 10 #[.val (.ref sx)] [(.ref x), (.int 0), (.ref a1), (.ref a1)])) rfl rfl (hb hby d14_10) (by omega) (fun T3 h3 W3 R3 V3 => ?_)
 change Fi _ _ _ _ _ _ _ _ _ _ (T3.setTop (mkF m 11 #[.val (.ref sx)] [(.ref a1)]))
 have x3w : Ext h0 h3 := ext_wr E1 R3 (by omega)
 have sz3 := R3.size
 have V3' : Arv Z h3 a1 k1 (.object "java/lang/Object") (3 : Int32) [(.ref x), .null, .null] .null := V3
 refine Fi.by' (st' := T3.setTop (mkF m 14 #[.val (.ref sx)] [(.ref sx), (.int 1), (.ref a1), (.ref a1)])) (fun t k => ?_) ?_
 ·refine XS.dup W3.here hx rfl (hb hby d14_11) rfl rfl ?_
  refine iconstZ W3.here hx rfl (hb hby d14_12) (z := (1 : Int32)) rfl ?_
  refine XS.aloadN W3.here hx rfl (hb hby d14_13) rfl rfl ?_
  exact k
 refine W3.getF hx (ww hw 91 rfl) (Fld.ext x3w F2) (g := (mkF m 14 #[.val (.ref sx)] [(.ref sx), (.int 1), (.ref a1), (.ref a1)])) rfl rfl (hb hby d14_14) (fun T4 W4 => ?_)
 change Fi _ _ _ _ _ _ _ _ _ _ (T4.setTop (mkF m 17 #[.val (.ref sx)] [(.ref la), (.int 1), (.ref a1), (.ref a1)]))
 refine W4.aastore hx V3' O1 (il_obj hw (I1.ext x3w)) (i := 1) (ble_ rfl) (j := (1 : Int32)) rfl (by decide) (g := (mkF m 17 #[.val (.ref sx)] [(.ref la), (.int 1), (.ref a1), (.ref a1)])) rfl rfl (hb hby d14_17) (by omega) (fun T5 h5 W5 R5 V5 => ?_)
 change Fi _ _ _ _ _ _ _ _ _ _ (T5.setTop (mkF m 18 #[.val (.ref sx)] [(.ref a1)]))
 have x5w : Ext h0 h5 := ext_wr x3w R5 (by omega)
 have sz5 := R5.size
 have V5' : Arv Z h5 a1 k1 (.object "java/lang/Object") (3 : Int32) [(.ref x), (.ref la), .null] .null := V5
 refine Fi.by' (st' := T5.setTop (mkF m 21 #[.val (.ref sx)] [(.ref sx), (.int 2), (.ref a1), (.ref a1)])) (fun t k => ?_) ?_
 ·refine XS.dup W5.here hx rfl (hb hby d14_18) rfl rfl ?_
  refine iconstZ W5.here hx rfl (hb hby d14_19) (z := (2 : Int32)) rfl ?_
  refine XS.aloadN W5.here hx rfl (hb hby d14_20) rfl rfl ?_
  exact k
 refine W5.getF hx (ww hw 93 rfl) (Fld.ext x5w F3) (g := (mkF m 21 #[.val (.ref sx)] [(.ref sx), (.int 2), (.ref a1), (.ref a1)])) rfl rfl (hb hby d14_21) (fun T6 W6 => ?_)
 change Fi _ _ _ _ _ _ _ _ _ _ (T6.setTop (mkF m 24 #[.val (.ref sx)] [(.ref lb), (.int 2), (.ref a1), (.ref a1)]))
 refine W6.aastore hx V5' O1 (il_obj hw (I2.ext x5w)) (i := 2) (ble_ rfl) (j := (2 : Int32)) rfl (by decide) (g := (mkF m 24 #[.val (.ref sx)] [(.ref lb), (.int 2), (.ref a1), (.ref a1)])) rfl rfl (hb hby d14_24) (by omega) (fun T7 h7 W7 R7 V7 => ?_)
 change Fi _ _ _ _ _ _ _ _ _ _ (T7.setTop (mkF m 25 #[.val (.ref sx)] [(.ref a1)]))
 have x7w : Ext h0 h7 := ext_wr x5w R7 (by omega)
 have sz7 := R7.size
 have V7' : Arv Z h7 a1 k1 (.object "java/lang/Object") (3 : Int32) [(.ref x), (.ref la), (.ref lb)] .null := V7
 refine W7.callS hx (y := y_15) (ww hw 104 rfl) (ww hw 105 rfl) (ww hw 106 rfl) (ww hw 107 rfl) (by decide) (Pay.of_con (Wd := 0) (rm_obh l Z a0 hw a1 x la lb zc k1 cs ds es h7 n0 (by omega) g0 (Sta.ext x7w S0) hz (U0.ext x7w) (I1.ext x7w) (I2.ext x7w) V7') (ww hw 107 rfl) (ww hw 106 rfl) (hEN hw) (by decide) (by decide)) (g := (mkF m 25 #[.val (.ref sx)] [(.ref a1)])) rfl (by rw [hml]; rfl) (argsL := [(.ref a1)]) (rest := []) (lenOf pd_7 rfl) rfl rfl (ble_ rfl) (hb hby d14_25) (by decide) (by decide) (fun v8 T8 h8 W8 sz8 q8 => ?_)
 obtain ⟨rfl, hs1⟩ := q8
 change Fi _ _ _ _ _ _ _ _ _ _ (T8.setTop (mkF m 28 #[.val (.ref sx)] [(.int (HV cs ds es))]))
 exact W8.iret hx hlk hret (by simp) rfl (hb hby d14_28) ⟨rfl, (Hs.trans (Hs.of_ext x7w) hs1)⟩ (by decide) (by decide)
def Q_g0n (Z : State) (la ea x : Addr) (N jj : Int32) (k : ClassId) (vs : List Value) (h0 : Heap) (v : Option Value) (h : Heap) : Prop := v = some (.ref x) ∧ h0 = h
theorem rm_g0n (l : Launch) (Z : State) (a0 : Array Value) (hw : ∀ d ∈ tables_1, d.before a0 Z = true) (la ea x : Addr) (N jj : Int32) (k : ClassId) (vs : List Value) (h0 : Heap) (n0 : Nat) (Z0 : n0 ≤ h0.size) (F0 : Fld Z h0 la "java/util/ImmutableCollections$ListN" "elements" "[Ljava/lang/Object;" (.ref ea)) (B0 : Arv Z h0 ea k (.object "java/lang/Object") N vs .null) (hj : ¬ jj < 0 ∧ jj < N) (hx1 : vs.getD jj.toNatClampNeg .null = .ref x) :
  Con0 l Z EN y_6 jdk_45_method_4_code 2 (some (.object "java/lang/Object")) [] ({ frames := 0, cells := 0, slots := 0, locals := 0 } : Room) #[(.ref la), (.int jj)] h0 n0 (Q_g0n Z la ea x N jj k vs h0) := by
 refine Con0.intro (own := "java/util/ImmutableCollections$ListN") rfl (plainFor_of_name plain_java_util_ImmutableCollections_ListN) (hEN hw) ?_
 intro p e s m below meth c s₁ hx hby hml hret hlk hnm W0
 refine Fi0.cast (show entryFrame m #[(.ref la), (.int jj)] 2 = (mkF m 0 #[.val (.ref la), .val (.int jj)] []) from by first | (simp [entryFrame, mkF, argsToLocals, Value.category]; done) | rfl) ?_
 refine Fi0.by' (st' := s₁.setTop (mkF m 1 #[.val (.ref la), .val (.int jj)] [(.ref la)])) (fun t k => ?_) ?_
 ·refine XS.aloadN W0.here hx rfl (hb hby d60_0) rfl rfl ?_
  exact k
 refine W0.getF hx (ww hw 143 rfl) F0 (g := (mkF m 1 #[.val (.ref la), .val (.int jj)] [(.ref la)])) rfl rfl (hb hby d60_1) (fun T1 W1 => ?_)
 change Fi0 _ _ _ _ _ _ _ _ _ _ (T1.setTop (mkF m 4 #[.val (.ref la), .val (.int jj)] [(.ref ea)]))
 refine Fi0.by' (st' := T1.setTop (mkF m 5 #[.val (.ref la), .val (.int jj)] [(.int jj), (.ref ea)])) (fun t k => ?_) ?_
 ·refine XS.iloadN W1.here hx rfl (hb hby d60_4) rfl ?_
  exact k
 refine W1.aaload hx B0 rfl (j := jj) (v := .ref x) hj hx1 (g := (mkF m 5 #[.val (.ref la), .val (.int jj)] [(.int jj), (.ref ea)])) rfl rfl (hb hby d60_5) ?_
 change Fi0 _ _ _ _ _ _ _ _ _ _ (T1.setTop (mkF m 6 #[.val (.ref la), .val (.int jj)] [(.ref x)]))
 exact W1.aret hx hlk hret rfl rfl (hb hby d60_6) ⟨rfl, rfl⟩ (by decide) (by decide)
def Q_g0a (Z : State) (la x em : Addr) (h0 : Heap) (v : Option Value) (h : Heap) : Prop := v = some (.ref x) ∧ h0 = h
theorem rm_g0a (l : Launch) (Z : State) (a0 : Array Value) (hw : ∀ d ∈ tables_1, d.before a0 Z = true) (la x em : Addr) (h0 : Heap) (n0 : Nat) (Z0 : n0 ≤ h0.size) (F0 : Fld Z h0 la "java/util/ImmutableCollections$List12" "e0" "Ljava/lang/Object;" (.ref x)) (F1 : Fld Z h0 la "java/util/ImmutableCollections$List12" "e1" "Ljava/lang/Object;" (.ref em)) (M0 : Sta Z h0 "java/util/ImmutableCollections" "EMPTY" "Ljava/lang/Object;" (.ref em)) :
  Con0 l Z EN y_8 jdk_44_method_5_code 2 (some (.object "java/lang/Object")) [] ({ frames := 0, cells := 0, slots := 0, locals := 0 } : Room) #[(.ref la), (.int 0)] h0 n0 (Q_g0a Z la x em h0) := by
 refine Con0.intro (own := "java/util/ImmutableCollections$List12") rfl (plainFor_of_name plain_java_util_ImmutableCollections_List12) (hEN hw) ?_
 intro p e s m below meth c s₁ hx hby hml hret hlk hnm W0
 refine Fi0.cast (show entryFrame m #[(.ref la), (.int 0)] 2 = (mkF m 0 #[.val (.ref la), .val (.int 0)] []) from by first | (simp [entryFrame, mkF, argsToLocals, Value.category]; done) | rfl) ?_
 refine Fi0.by' (st' := s₁.setTop (mkF m 5 #[.val (.ref la), .val (.int 0)] [(.ref la)])) (fun t k => ?_) ?_
 ·refine XS.iloadN W0.here hx rfl (hb hby d50_0) rfl ?_
  refine XS.ifNo W0.here hx rfl (hb hby d50_1) rfl ((if0 _ _).trans (teq (by decide : ((0 : Int32) = (0 : Int32)))).2) ?_
  refine XS.aloadN W0.here hx rfl (hb hby d50_4) rfl rfl ?_
  exact k
 refine W0.getF hx (ww hw 274 rfl) F0 (g := (mkF m 5 #[.val (.ref la), .val (.int 0)] [(.ref la)])) rfl rfl (hb hby d50_5) (fun T1 W1 => ?_)
 change Fi0 _ _ _ _ _ _ _ _ _ _ (T1.setTop (mkF m 8 #[.val (.ref la), .val (.int 0)] [(.ref x)]))
 exact W1.aret hx hlk hret rfl rfl (hb hby d50_8) ⟨rfl, rfl⟩ (by decide) (by decide)
def Q_g0b0 (Z : State) (la x y em : Addr) (h0 : Heap) (v : Option Value) (h : Heap) : Prop := v = some (.ref x) ∧ h0 = h
theorem rm_g0b0 (l : Launch) (Z : State) (a0 : Array Value) (hw : ∀ d ∈ tables_1, d.before a0 Z = true) (la x y em : Addr) (h0 : Heap) (n0 : Nat) (Z0 : n0 ≤ h0.size) (F0 : Fld Z h0 la "java/util/ImmutableCollections$List12" "e0" "Ljava/lang/Object;" (.ref x)) (F1 : Fld Z h0 la "java/util/ImmutableCollections$List12" "e1" "Ljava/lang/Object;" (.ref y)) (M0 : Sta Z h0 "java/util/ImmutableCollections" "EMPTY" "Ljava/lang/Object;" (.ref em)) (hne : ¬ y = em) :
  Con0 l Z EN y_8 jdk_44_method_5_code 2 (some (.object "java/lang/Object")) [] ({ frames := 0, cells := 0, slots := 0, locals := 0 } : Room) #[(.ref la), (.int 0)] h0 n0 (Q_g0b0 Z la x y em h0) := by
 refine Con0.intro (own := "java/util/ImmutableCollections$List12") rfl (plainFor_of_name plain_java_util_ImmutableCollections_List12) (hEN hw) ?_
 intro p e s m below meth c s₁ hx hby hml hret hlk hnm W0
 refine Fi0.cast (show entryFrame m #[(.ref la), (.int 0)] 2 = (mkF m 0 #[.val (.ref la), .val (.int 0)] []) from by first | (simp [entryFrame, mkF, argsToLocals, Value.category]; done) | rfl) ?_
 refine Fi0.by' (st' := s₁.setTop (mkF m 5 #[.val (.ref la), .val (.int 0)] [(.ref la)])) (fun t k => ?_) ?_
 ·refine XS.iloadN W0.here hx rfl (hb hby d50_0) rfl ?_
  refine XS.ifNo W0.here hx rfl (hb hby d50_1) rfl ((if0 _ _).trans (teq (by decide : ((0 : Int32) = (0 : Int32)))).2) ?_
  refine XS.aloadN W0.here hx rfl (hb hby d50_4) rfl rfl ?_
  exact k
 refine W0.getF hx (ww hw 274 rfl) F0 (g := (mkF m 5 #[.val (.ref la), .val (.int 0)] [(.ref la)])) rfl rfl (hb hby d50_5) (fun T1 W1 => ?_)
 change Fi0 _ _ _ _ _ _ _ _ _ _ (T1.setTop (mkF m 8 #[.val (.ref la), .val (.int 0)] [(.ref x)]))
 exact W1.aret hx hlk hret rfl rfl (hb hby d50_8) ⟨rfl, rfl⟩ (by decide) (by decide)
def Q_g0b1 (Z : State) (la x y em : Addr) (h0 : Heap) (v : Option Value) (h : Heap) : Prop := v = some (.ref y) ∧ h0 = h
theorem rm_g0b1 (l : Launch) (Z : State) (a0 : Array Value) (hw : ∀ d ∈ tables_1, d.before a0 Z = true) (la x y em : Addr) (h0 : Heap) (n0 : Nat) (Z0 : n0 ≤ h0.size) (F0 : Fld Z h0 la "java/util/ImmutableCollections$List12" "e0" "Ljava/lang/Object;" (.ref x)) (F1 : Fld Z h0 la "java/util/ImmutableCollections$List12" "e1" "Ljava/lang/Object;" (.ref y)) (M0 : Sta Z h0 "java/util/ImmutableCollections" "EMPTY" "Ljava/lang/Object;" (.ref em)) (hne : ¬ y = em) :
  Con0 l Z EN y_8 jdk_44_method_5_code 2 (some (.object "java/lang/Object")) [] ({ frames := 0, cells := 0, slots := 0, locals := 0 } : Room) #[(.ref la), (.int 1)] h0 n0 (Q_g0b1 Z la x y em h0) := by
 refine Con0.intro (own := "java/util/ImmutableCollections$List12") rfl (plainFor_of_name plain_java_util_ImmutableCollections_List12) (hEN hw) ?_
 intro p e s m below meth c s₁ hx hby hml hret hlk hnm W0
 refine Fi0.cast (show entryFrame m #[(.ref la), (.int 1)] 2 = (mkF m 0 #[.val (.ref la), .val (.int 1)] []) from by first | (simp [entryFrame, mkF, argsToLocals, Value.category]; done) | rfl) ?_
 refine Fi0.by' (st' := s₁.setTop (mkF m 15 #[.val (.ref la), .val (.int 1)] [(.ref la)])) (fun t k => ?_) ?_
 ·refine XS.iloadN W0.here hx rfl (hb hby d50_0) rfl ?_
  refine XS.ifYes W0.here hx rfl (pc0 := 1) (pc' := 9) rfl (hb hby d50_1) rfl ((if0 _ _).trans (feq (by decide : ¬ ((1 : Int32) = (0 : Int32)))).2) (by decide) (by decide) ?_
  refine XS.iloadN W0.here hx rfl (hb hby d50_9) rfl ?_
  refine iconstZ W0.here hx rfl (hb hby d50_10) (z := (1 : Int32)) rfl ?_
  refine XS.icmpNo W0.here hx rfl (hb hby d50_11) rfl (teq (by decide : ((1 : Int32) = (1 : Int32)))).2 ?_
  refine XS.aloadN W0.here hx rfl (hb hby d50_14) rfl rfl ?_
  exact k
 refine W0.getF hx (ww hw 277 rfl) F1 (g := (mkF m 15 #[.val (.ref la), .val (.int 1)] [(.ref la)])) rfl rfl (hb hby d50_15) (fun T1 W1 => ?_)
 change Fi0 _ _ _ _ _ _ _ _ _ _ (T1.setTop (mkF m 18 #[.val (.ref la), .val (.int 1)] [(.ref y)]))
 refine W1.getSN hx (ww hw 276 rfl) M0 (g := (mkF m 18 #[.val (.ref la), .val (.int 1)] [(.ref y)])) rfl (hb hby d50_18) (fun T2 W2 => ?_)
 change Fi0 _ _ _ _ _ _ _ _ _ _ (T2.setTop (mkF m 21 #[.val (.ref la), .val (.int 1)] [(.ref em), (.ref y)]))
 refine Fi0.by' (st' := T2.setTop (mkF m 25 #[.val (.ref la), .val (.int 1)] [(.ref la)])) (fun t k => ?_) ?_
 ·refine XS.acmpNo W2.here hx rfl (hb hby d50_21) rfl (acmpFEq hne) ?_
  refine XS.aloadN W2.here hx rfl (hb hby d50_24) rfl rfl ?_
  exact k
 refine W2.getF hx (ww hw 277 rfl) F1 (g := (mkF m 25 #[.val (.ref la), .val (.int 1)] [(.ref la)])) rfl rfl (hb hby d50_25) (fun T3 W3 => ?_)
 change Fi0 _ _ _ _ _ _ _ _ _ _ (T3.setTop (mkF m 28 #[.val (.ref la), .val (.int 1)] [(.ref y)]))
 exact W3.aret hx hlk hret rfl rfl (hb hby d50_28) ⟨rfl, rfl⟩ (by decide) (by decide)
def Q_nxn (Z : State) (it la ea x : Addr) (sz : Int32) (N jj : Int32) (k : ClassId) (vs : List Value) (h0 : Heap) (v : Option Value) (h : Heap) : Prop := v = some (.ref x) ∧ Keep h0 h [it] ∧ Exa Z h it "java/util/ImmutableCollections$ListItr" ∧ Fld Z h it "java/util/ImmutableCollections$ListItr" "list" "Ljava/util/List;" (.ref la) ∧ Fld Z h it "java/util/ImmutableCollections$ListItr" "size" "I" (.int sz) ∧ Fld Z h it "java/util/ImmutableCollections$ListItr" "cursor" "I" (.int (jj + 1))
theorem rm_nxn (l : Launch) (Z : State) (a0 : Array Value) (hw : ∀ d ∈ tables_1, d.before a0 Z = true) (it la ea x : Addr) (sz : Int32) (N jj : Int32) (k : ClassId) (vs : List Value) (h0 : Heap) (n0 : Nat) (Z0 : n0 ≤ h0.size) (gi : n0 ≤ it) (E0 : Exa Z h0 it "java/util/ImmutableCollections$ListItr") (N1 : Fld Z h0 it "java/util/ImmutableCollections$ListItr" "list" "Ljava/util/List;" (.ref la)) (N2 : Fld Z h0 it "java/util/ImmutableCollections$ListItr" "size" "I" (.int sz)) (N3 : Fld Z h0 it "java/util/ImmutableCollections$ListItr" "cursor" "I" (.int jj)) (X0 : Exa Z h0 la "java/util/ImmutableCollections$ListN") (F0 : Fld Z h0 la "java/util/ImmutableCollections$ListN" "elements" "[Ljava/lang/Object;" (.ref ea)) (B0 : Arv Z h0 ea k (.object "java/lang/Object") N vs .null) (hj : ¬ jj < 0 ∧ jj < N) (hx1 : vs.getD jj.toNatClampNeg .null = .ref x) :
  Con0W l Z EN y_18 jdk_53_method_4_code 3 (some (.object "java/lang/Object")) [(0, 24, 25, 30)] ({ frames := 1, cells := 0, slots := 0, locals := 13 } : Room) #[(.ref it)] h0 n0 (Q_nxn Z it la ea x sz N jj k vs h0) := by
 refine Con0W.intro (own := "java/util/ImmutableCollections$ListItr") rfl (plainFor_of_name plain_java_util_ImmutableCollections_ListItr) (hEN hw) ?_
 intro p e s m below meth c s₁ hx hby hml hret hlk hnm W0
 refine Fi0.cast (show entryFrame m #[(.ref it)] 3 = (mkF m 0 #[.val (.ref it), .unset, .unset] []) from by first | (simp [entryFrame, mkF, argsToLocals, Value.category]; done) | rfl) ?_
 refine Fi0.by' (st' := s₁.setTop (mkF m 1 #[.val (.ref it), .unset, .unset] [(.ref it)])) (fun t k => ?_) ?_
 ·refine XS.aloadN W0.here hx rfl (hb hby d55_0) rfl rfl ?_
  exact k
 refine W0.getF hx (ww hw 327 rfl) N3 (g := (mkF m 1 #[.val (.ref it), .unset, .unset] [(.ref it)])) rfl rfl (hb hby d55_1) (fun T1 W1 => ?_)
 change Fi0 _ _ _ _ _ _ _ _ _ _ (T1.setTop (mkF m 4 #[.val (.ref it), .unset, .unset] [(.int jj)]))
 refine Fi0.by' (st' := T1.setTop (mkF m 6 #[.val (.ref it), .val (.int jj), .unset] [(.ref it)])) (fun t k => ?_) ?_
 ·refine XS.istoreN W1.here hx rfl (hb hby d55_4) rfl (l' := #[.val (.ref it), .val (.int jj), .unset]) rfl ?_
  refine XS.aloadN W1.here hx rfl (hb hby d55_5) rfl rfl ?_
  exact k
 refine W1.getF hx (ww hw 323 rfl) N1 (g := (mkF m 6 #[.val (.ref it), .val (.int jj), .unset] [(.ref it)])) rfl rfl (hb hby d55_6) (fun T2 W2 => ?_)
 change Fi0 _ _ _ _ _ _ _ _ _ _ (T2.setTop (mkF m 9 #[.val (.ref it), .val (.int jj), .unset] [(.ref la)]))
 refine Fi0.by' (st' := T2.setTop (mkF m 10 #[.val (.ref it), .val (.int jj), .unset] [(.int jj), (.ref la)])) (fun t k => ?_) ?_
 ·refine XS.iloadN W2.here hx rfl (hb hby d55_9) rfl ?_
  exact k
 refine W2.callF hx (x := y_17) (y := y_6) (C := "java/util/ImmutableCollections$ListN") (ww hw 348 rfl) (ww hw 295 rfl) (ww hw 349 rfl) rfl (ww hw 384 rfl) (ww hw 380 rfl) (ww hw 385 rfl) (ww hw 386 rfl) (ww hw 168 rfl) (by decide) (Pay0.of_con (Wd := 0) (rm_g0n l Z a0 hw la ea x N jj k vs h0 n0 (by omega) F0 B0 hj hx1) (ww hw 381 rfl) (ww hw 141 rfl) (hEN hw) (by decide) (by decide)) X0 (g := (mkF m 10 #[.val (.ref it), .val (.int jj), .unset] [(.int jj), (.ref la)])) rfl (by rw [hml]; rfl) (argsL := [(.int jj)]) (rest := []) (lenOf pd_5 rfl) rfl rfl (ble_ rfl) (hb hby d55_10) (by decide) (by decide) (fun v3 T3 h3 W3 sz3 q3 => ?_)
 obtain ⟨rfl, rfl⟩ := q3
 change Fi0 _ _ _ _ _ _ _ _ _ _ (T3.setTop (mkF m 15 #[.val (.ref it), .val (.int jj), .unset] [(.ref x)]))
 refine Fi0.by' (st' := T3.setTop (mkF m 20 #[.val (.ref it), .val (.int jj), .val (.ref x)] [(.int (jj + (1 : Int32))), (.ref it)])) (fun t k => ?_) ?_
 ·refine XS.astoreN W3.here hx rfl (hb hby d55_15) rfl rfl (l' := #[.val (.ref it), .val (.int jj), .val (.ref x)]) rfl ?_
  refine XS.aloadN W3.here hx rfl (hb hby d55_16) rfl rfl ?_
  refine XS.iloadN W3.here hx rfl (hb hby d55_17) rfl ?_
  refine iconstZ W3.here hx rfl (hb hby d55_18) (z := (1 : Int32)) rfl ?_
  refine XS.iadd W3.here hx rfl (hb hby d55_19) rfl ?_
  exact k
 refine W3.putF hx (ww hw 327 rfl) N3 E0 (ww hw 328 rfl) (ww hw 316 rfl) (ty := .int) (by decide) rfl rfl (g := (mkF m 20 #[.val (.ref it), .val (.int jj), .val (.ref x)] [(.int (jj + (1 : Int32))), (.ref it)])) rfl rfl (hb hby d55_20) gi (fun T4 h4 W4 R4 => ?_)
 change Fi0 _ _ _ _ _ _ _ _ _ _ (T4.setTop (mkF m 23 #[.val (.ref it), .val (.int jj), .val (.ref x)] []))
 refine Fi0.by' (st' := T4.setTop (mkF m 24 #[.val (.ref it), .val (.int jj), .val (.ref x)] [(.ref x)])) (fun t k => ?_) ?_
 ·refine XS.aloadN W4.here hx rfl (hb hby d55_23) rfl rfl ?_
  exact k
 exact W4.aret hx hlk hret rfl rfl (hb hby d55_24) ⟨rfl, Keep.of_wr R4, Exa.wr R4 E0, Fld.other R4 N1 (Or.inr (slot_ne (Or.inr (ww hw 324 rfl)) (Or.inl (ww hw 328 rfl)) (by decide) (t := (.object "java/util/List")) (t' := .int) (by decide) (by decide))), Fld.other R4 N2 (Or.inr (slot_ne (Or.inr (ww hw 326 rfl)) (Or.inl (ww hw 328 rfl)) (by decide) (t := .int) (t' := .int) (by decide) (by decide))), Fld.same R4 N3⟩ (by decide) (by decide)
def Q_nxa (Z : State) (it la x em : Addr) (sz : Int32)  (h0 : Heap) (v : Option Value) (h : Heap) : Prop := v = some (.ref x) ∧ Keep h0 h [it] ∧ Exa Z h it "java/util/ImmutableCollections$ListItr" ∧ Fld Z h it "java/util/ImmutableCollections$ListItr" "list" "Ljava/util/List;" (.ref la) ∧ Fld Z h it "java/util/ImmutableCollections$ListItr" "size" "I" (.int sz) ∧ Fld Z h it "java/util/ImmutableCollections$ListItr" "cursor" "I" (.int 1)
theorem rm_nxa (l : Launch) (Z : State) (a0 : Array Value) (hw : ∀ d ∈ tables_1, d.before a0 Z = true) (it la x em : Addr) (sz : Int32)  (h0 : Heap) (n0 : Nat) (Z0 : n0 ≤ h0.size) (gi : n0 ≤ it) (E0 : Exa Z h0 it "java/util/ImmutableCollections$ListItr") (N1 : Fld Z h0 it "java/util/ImmutableCollections$ListItr" "list" "Ljava/util/List;" (.ref la)) (N2 : Fld Z h0 it "java/util/ImmutableCollections$ListItr" "size" "I" (.int sz)) (N3 : Fld Z h0 it "java/util/ImmutableCollections$ListItr" "cursor" "I" (.int 0)) (X0 : Exa Z h0 la "java/util/ImmutableCollections$List12") (F0 : Fld Z h0 la "java/util/ImmutableCollections$List12" "e0" "Ljava/lang/Object;" (.ref x)) (F1 : Fld Z h0 la "java/util/ImmutableCollections$List12" "e1" "Ljava/lang/Object;" (.ref em)) (M0 : Sta Z h0 "java/util/ImmutableCollections" "EMPTY" "Ljava/lang/Object;" (.ref em)) :
  Con0W l Z EN y_18 jdk_53_method_4_code 3 (some (.object "java/lang/Object")) [(0, 24, 25, 30)] ({ frames := 1, cells := 0, slots := 0, locals := 13 } : Room) #[(.ref it)] h0 n0 (Q_nxa Z it la x em sz h0) := by
 refine Con0W.intro (own := "java/util/ImmutableCollections$ListItr") rfl (plainFor_of_name plain_java_util_ImmutableCollections_ListItr) (hEN hw) ?_
 intro p e s m below meth c s₁ hx hby hml hret hlk hnm W0
 refine Fi0.cast (show entryFrame m #[(.ref it)] 3 = (mkF m 0 #[.val (.ref it), .unset, .unset] []) from by first | (simp [entryFrame, mkF, argsToLocals, Value.category]; done) | rfl) ?_
 refine Fi0.by' (st' := s₁.setTop (mkF m 1 #[.val (.ref it), .unset, .unset] [(.ref it)])) (fun t k => ?_) ?_
 ·refine XS.aloadN W0.here hx rfl (hb hby d55_0) rfl rfl ?_
  exact k
 refine W0.getF hx (ww hw 327 rfl) N3 (g := (mkF m 1 #[.val (.ref it), .unset, .unset] [(.ref it)])) rfl rfl (hb hby d55_1) (fun T1 W1 => ?_)
 change Fi0 _ _ _ _ _ _ _ _ _ _ (T1.setTop (mkF m 4 #[.val (.ref it), .unset, .unset] [(.int 0)]))
 refine Fi0.by' (st' := T1.setTop (mkF m 6 #[.val (.ref it), .val (.int 0), .unset] [(.ref it)])) (fun t k => ?_) ?_
 ·refine XS.istoreN W1.here hx rfl (hb hby d55_4) rfl (l' := #[.val (.ref it), .val (.int 0), .unset]) rfl ?_
  refine XS.aloadN W1.here hx rfl (hb hby d55_5) rfl rfl ?_
  exact k
 refine W1.getF hx (ww hw 323 rfl) N1 (g := (mkF m 6 #[.val (.ref it), .val (.int 0), .unset] [(.ref it)])) rfl rfl (hb hby d55_6) (fun T2 W2 => ?_)
 change Fi0 _ _ _ _ _ _ _ _ _ _ (T2.setTop (mkF m 9 #[.val (.ref it), .val (.int 0), .unset] [(.ref la)]))
 refine Fi0.by' (st' := T2.setTop (mkF m 10 #[.val (.ref it), .val (.int 0), .unset] [(.int 0), (.ref la)])) (fun t k => ?_) ?_
 ·refine XS.iloadN W2.here hx rfl (hb hby d55_9) rfl ?_
  exact k
 refine W2.callF hx (x := y_17) (y := y_8) (C := "java/util/ImmutableCollections$List12") (ww hw 348 rfl) (ww hw 295 rfl) (ww hw 349 rfl) rfl (ww hw 350 rfl) (ww hw 297 rfl) (ww hw 351 rfl) (ww hw 352 rfl) (ww hw 305 rfl) (by decide) (Pay0.of_con (Wd := 0) (rm_g0a l Z a0 hw la x em h0 n0 (by omega) F0 F1 M0) (ww hw 298 rfl) (ww hw 253 rfl) (hEN hw) (by decide) (by decide)) X0 (g := (mkF m 10 #[.val (.ref it), .val (.int 0), .unset] [(.int 0), (.ref la)])) rfl (by rw [hml]; rfl) (argsL := [(.int 0)]) (rest := []) (lenOf pd_5 rfl) rfl rfl (ble_ rfl) (hb hby d55_10) (by decide) (by decide) (fun v3 T3 h3 W3 sz3 q3 => ?_)
 obtain ⟨rfl, rfl⟩ := q3
 change Fi0 _ _ _ _ _ _ _ _ _ _ (T3.setTop (mkF m 15 #[.val (.ref it), .val (.int 0), .unset] [(.ref x)]))
 refine Fi0.by' (st' := T3.setTop (mkF m 20 #[.val (.ref it), .val (.int 0), .val (.ref x)] [(.int 1), (.ref it)])) (fun t k => ?_) ?_
 ·refine XS.astoreN W3.here hx rfl (hb hby d55_15) rfl rfl (l' := #[.val (.ref it), .val (.int 0), .val (.ref x)]) rfl ?_
  refine XS.aloadN W3.here hx rfl (hb hby d55_16) rfl rfl ?_
  refine XS.iloadN W3.here hx rfl (hb hby d55_17) rfl ?_
  refine iconstZ W3.here hx rfl (hb hby d55_18) (z := (1 : Int32)) rfl ?_
  refine XS.iadd W3.here hx rfl (hb hby d55_19) rfl ?_
  exact k
 refine W3.putF hx (ww hw 327 rfl) N3 E0 (ww hw 328 rfl) (ww hw 316 rfl) (ty := .int) (by decide) rfl rfl (g := (mkF m 20 #[.val (.ref it), .val (.int 0), .val (.ref x)] [(.int 1), (.ref it)])) rfl rfl (hb hby d55_20) gi (fun T4 h4 W4 R4 => ?_)
 change Fi0 _ _ _ _ _ _ _ _ _ _ (T4.setTop (mkF m 23 #[.val (.ref it), .val (.int 0), .val (.ref x)] []))
 refine Fi0.by' (st' := T4.setTop (mkF m 24 #[.val (.ref it), .val (.int 0), .val (.ref x)] [(.ref x)])) (fun t k => ?_) ?_
 ·refine XS.aloadN W4.here hx rfl (hb hby d55_23) rfl rfl ?_
  exact k
 exact W4.aret hx hlk hret rfl rfl (hb hby d55_24) ⟨rfl, Keep.of_wr R4, Exa.wr R4 E0, Fld.other R4 N1 (Or.inr (slot_ne (Or.inr (ww hw 324 rfl)) (Or.inl (ww hw 328 rfl)) (by decide) (t := (.object "java/util/List")) (t' := .int) (by decide) (by decide))), Fld.other R4 N2 (Or.inr (slot_ne (Or.inr (ww hw 326 rfl)) (Or.inl (ww hw 328 rfl)) (by decide) (t := .int) (t' := .int) (by decide) (by decide))), Fld.same R4 N3⟩ (by decide) (by decide)
def Q_nxb0 (Z : State) (it la x y em : Addr) (sz : Int32)  (h0 : Heap) (v : Option Value) (h : Heap) : Prop := v = some (.ref x) ∧ Keep h0 h [it] ∧ Exa Z h it "java/util/ImmutableCollections$ListItr" ∧ Fld Z h it "java/util/ImmutableCollections$ListItr" "list" "Ljava/util/List;" (.ref la) ∧ Fld Z h it "java/util/ImmutableCollections$ListItr" "size" "I" (.int sz) ∧ Fld Z h it "java/util/ImmutableCollections$ListItr" "cursor" "I" (.int 1)
theorem rm_nxb0 (l : Launch) (Z : State) (a0 : Array Value) (hw : ∀ d ∈ tables_1, d.before a0 Z = true) (it la x y em : Addr) (sz : Int32)  (h0 : Heap) (n0 : Nat) (Z0 : n0 ≤ h0.size) (gi : n0 ≤ it) (E0 : Exa Z h0 it "java/util/ImmutableCollections$ListItr") (N1 : Fld Z h0 it "java/util/ImmutableCollections$ListItr" "list" "Ljava/util/List;" (.ref la)) (N2 : Fld Z h0 it "java/util/ImmutableCollections$ListItr" "size" "I" (.int sz)) (N3 : Fld Z h0 it "java/util/ImmutableCollections$ListItr" "cursor" "I" (.int 0)) (X0 : Exa Z h0 la "java/util/ImmutableCollections$List12") (F0 : Fld Z h0 la "java/util/ImmutableCollections$List12" "e0" "Ljava/lang/Object;" (.ref x)) (F1 : Fld Z h0 la "java/util/ImmutableCollections$List12" "e1" "Ljava/lang/Object;" (.ref y)) (M0 : Sta Z h0 "java/util/ImmutableCollections" "EMPTY" "Ljava/lang/Object;" (.ref em)) (hne : ¬ y = em) :
  Con0W l Z EN y_18 jdk_53_method_4_code 3 (some (.object "java/lang/Object")) [(0, 24, 25, 30)] ({ frames := 1, cells := 0, slots := 0, locals := 13 } : Room) #[(.ref it)] h0 n0 (Q_nxb0 Z it la x y em sz h0) := by
 refine Con0W.intro (own := "java/util/ImmutableCollections$ListItr") rfl (plainFor_of_name plain_java_util_ImmutableCollections_ListItr) (hEN hw) ?_
 intro p e s m below meth c s₁ hx hby hml hret hlk hnm W0
 refine Fi0.cast (show entryFrame m #[(.ref it)] 3 = (mkF m 0 #[.val (.ref it), .unset, .unset] []) from by first | (simp [entryFrame, mkF, argsToLocals, Value.category]; done) | rfl) ?_
 refine Fi0.by' (st' := s₁.setTop (mkF m 1 #[.val (.ref it), .unset, .unset] [(.ref it)])) (fun t k => ?_) ?_
 ·refine XS.aloadN W0.here hx rfl (hb hby d55_0) rfl rfl ?_
  exact k
 refine W0.getF hx (ww hw 327 rfl) N3 (g := (mkF m 1 #[.val (.ref it), .unset, .unset] [(.ref it)])) rfl rfl (hb hby d55_1) (fun T1 W1 => ?_)
 change Fi0 _ _ _ _ _ _ _ _ _ _ (T1.setTop (mkF m 4 #[.val (.ref it), .unset, .unset] [(.int 0)]))
 refine Fi0.by' (st' := T1.setTop (mkF m 6 #[.val (.ref it), .val (.int 0), .unset] [(.ref it)])) (fun t k => ?_) ?_
 ·refine XS.istoreN W1.here hx rfl (hb hby d55_4) rfl (l' := #[.val (.ref it), .val (.int 0), .unset]) rfl ?_
  refine XS.aloadN W1.here hx rfl (hb hby d55_5) rfl rfl ?_
  exact k
 refine W1.getF hx (ww hw 323 rfl) N1 (g := (mkF m 6 #[.val (.ref it), .val (.int 0), .unset] [(.ref it)])) rfl rfl (hb hby d55_6) (fun T2 W2 => ?_)
 change Fi0 _ _ _ _ _ _ _ _ _ _ (T2.setTop (mkF m 9 #[.val (.ref it), .val (.int 0), .unset] [(.ref la)]))
 refine Fi0.by' (st' := T2.setTop (mkF m 10 #[.val (.ref it), .val (.int 0), .unset] [(.int 0), (.ref la)])) (fun t k => ?_) ?_
 ·refine XS.iloadN W2.here hx rfl (hb hby d55_9) rfl ?_
  exact k
 refine W2.callF hx (x := y_17) (y := y_8) (C := "java/util/ImmutableCollections$List12") (ww hw 348 rfl) (ww hw 295 rfl) (ww hw 349 rfl) rfl (ww hw 350 rfl) (ww hw 297 rfl) (ww hw 351 rfl) (ww hw 352 rfl) (ww hw 305 rfl) (by decide) (Pay0.of_con (Wd := 0) (rm_g0b0 l Z a0 hw la x y em h0 n0 (by omega) F0 F1 M0 hne) (ww hw 298 rfl) (ww hw 253 rfl) (hEN hw) (by decide) (by decide)) X0 (g := (mkF m 10 #[.val (.ref it), .val (.int 0), .unset] [(.int 0), (.ref la)])) rfl (by rw [hml]; rfl) (argsL := [(.int 0)]) (rest := []) (lenOf pd_5 rfl) rfl rfl (ble_ rfl) (hb hby d55_10) (by decide) (by decide) (fun v3 T3 h3 W3 sz3 q3 => ?_)
 obtain ⟨rfl, rfl⟩ := q3
 change Fi0 _ _ _ _ _ _ _ _ _ _ (T3.setTop (mkF m 15 #[.val (.ref it), .val (.int 0), .unset] [(.ref x)]))
 refine Fi0.by' (st' := T3.setTop (mkF m 20 #[.val (.ref it), .val (.int 0), .val (.ref x)] [(.int 1), (.ref it)])) (fun t k => ?_) ?_
 ·refine XS.astoreN W3.here hx rfl (hb hby d55_15) rfl rfl (l' := #[.val (.ref it), .val (.int 0), .val (.ref x)]) rfl ?_
  refine XS.aloadN W3.here hx rfl (hb hby d55_16) rfl rfl ?_
  refine XS.iloadN W3.here hx rfl (hb hby d55_17) rfl ?_
  refine iconstZ W3.here hx rfl (hb hby d55_18) (z := (1 : Int32)) rfl ?_
  refine XS.iadd W3.here hx rfl (hb hby d55_19) rfl ?_
  exact k
 refine W3.putF hx (ww hw 327 rfl) N3 E0 (ww hw 328 rfl) (ww hw 316 rfl) (ty := .int) (by decide) rfl rfl (g := (mkF m 20 #[.val (.ref it), .val (.int 0), .val (.ref x)] [(.int 1), (.ref it)])) rfl rfl (hb hby d55_20) gi (fun T4 h4 W4 R4 => ?_)
 change Fi0 _ _ _ _ _ _ _ _ _ _ (T4.setTop (mkF m 23 #[.val (.ref it), .val (.int 0), .val (.ref x)] []))
 refine Fi0.by' (st' := T4.setTop (mkF m 24 #[.val (.ref it), .val (.int 0), .val (.ref x)] [(.ref x)])) (fun t k => ?_) ?_
 ·refine XS.aloadN W4.here hx rfl (hb hby d55_23) rfl rfl ?_
  exact k
 exact W4.aret hx hlk hret rfl rfl (hb hby d55_24) ⟨rfl, Keep.of_wr R4, Exa.wr R4 E0, Fld.other R4 N1 (Or.inr (slot_ne (Or.inr (ww hw 324 rfl)) (Or.inl (ww hw 328 rfl)) (by decide) (t := (.object "java/util/List")) (t' := .int) (by decide) (by decide))), Fld.other R4 N2 (Or.inr (slot_ne (Or.inr (ww hw 326 rfl)) (Or.inl (ww hw 328 rfl)) (by decide) (t := .int) (t' := .int) (by decide) (by decide))), Fld.same R4 N3⟩ (by decide) (by decide)
def Q_nxb1 (Z : State) (it la x y em : Addr) (sz : Int32)  (h0 : Heap) (v : Option Value) (h : Heap) : Prop := v = some (.ref y) ∧ Keep h0 h [it] ∧ Exa Z h it "java/util/ImmutableCollections$ListItr" ∧ Fld Z h it "java/util/ImmutableCollections$ListItr" "list" "Ljava/util/List;" (.ref la) ∧ Fld Z h it "java/util/ImmutableCollections$ListItr" "size" "I" (.int sz) ∧ Fld Z h it "java/util/ImmutableCollections$ListItr" "cursor" "I" (.int 2)
theorem rm_nxb1 (l : Launch) (Z : State) (a0 : Array Value) (hw : ∀ d ∈ tables_1, d.before a0 Z = true) (it la x y em : Addr) (sz : Int32)  (h0 : Heap) (n0 : Nat) (Z0 : n0 ≤ h0.size) (gi : n0 ≤ it) (E0 : Exa Z h0 it "java/util/ImmutableCollections$ListItr") (N1 : Fld Z h0 it "java/util/ImmutableCollections$ListItr" "list" "Ljava/util/List;" (.ref la)) (N2 : Fld Z h0 it "java/util/ImmutableCollections$ListItr" "size" "I" (.int sz)) (N3 : Fld Z h0 it "java/util/ImmutableCollections$ListItr" "cursor" "I" (.int 1)) (X0 : Exa Z h0 la "java/util/ImmutableCollections$List12") (F0 : Fld Z h0 la "java/util/ImmutableCollections$List12" "e0" "Ljava/lang/Object;" (.ref x)) (F1 : Fld Z h0 la "java/util/ImmutableCollections$List12" "e1" "Ljava/lang/Object;" (.ref y)) (M0 : Sta Z h0 "java/util/ImmutableCollections" "EMPTY" "Ljava/lang/Object;" (.ref em)) (hne : ¬ y = em) :
  Con0W l Z EN y_18 jdk_53_method_4_code 3 (some (.object "java/lang/Object")) [(0, 24, 25, 30)] ({ frames := 1, cells := 0, slots := 0, locals := 13 } : Room) #[(.ref it)] h0 n0 (Q_nxb1 Z it la x y em sz h0) := by
 refine Con0W.intro (own := "java/util/ImmutableCollections$ListItr") rfl (plainFor_of_name plain_java_util_ImmutableCollections_ListItr) (hEN hw) ?_
 intro p e s m below meth c s₁ hx hby hml hret hlk hnm W0
 refine Fi0.cast (show entryFrame m #[(.ref it)] 3 = (mkF m 0 #[.val (.ref it), .unset, .unset] []) from by first | (simp [entryFrame, mkF, argsToLocals, Value.category]; done) | rfl) ?_
 refine Fi0.by' (st' := s₁.setTop (mkF m 1 #[.val (.ref it), .unset, .unset] [(.ref it)])) (fun t k => ?_) ?_
 ·refine XS.aloadN W0.here hx rfl (hb hby d55_0) rfl rfl ?_
  exact k
 refine W0.getF hx (ww hw 327 rfl) N3 (g := (mkF m 1 #[.val (.ref it), .unset, .unset] [(.ref it)])) rfl rfl (hb hby d55_1) (fun T1 W1 => ?_)
 change Fi0 _ _ _ _ _ _ _ _ _ _ (T1.setTop (mkF m 4 #[.val (.ref it), .unset, .unset] [(.int 1)]))
 refine Fi0.by' (st' := T1.setTop (mkF m 6 #[.val (.ref it), .val (.int 1), .unset] [(.ref it)])) (fun t k => ?_) ?_
 ·refine XS.istoreN W1.here hx rfl (hb hby d55_4) rfl (l' := #[.val (.ref it), .val (.int 1), .unset]) rfl ?_
  refine XS.aloadN W1.here hx rfl (hb hby d55_5) rfl rfl ?_
  exact k
 refine W1.getF hx (ww hw 323 rfl) N1 (g := (mkF m 6 #[.val (.ref it), .val (.int 1), .unset] [(.ref it)])) rfl rfl (hb hby d55_6) (fun T2 W2 => ?_)
 change Fi0 _ _ _ _ _ _ _ _ _ _ (T2.setTop (mkF m 9 #[.val (.ref it), .val (.int 1), .unset] [(.ref la)]))
 refine Fi0.by' (st' := T2.setTop (mkF m 10 #[.val (.ref it), .val (.int 1), .unset] [(.int 1), (.ref la)])) (fun t k => ?_) ?_
 ·refine XS.iloadN W2.here hx rfl (hb hby d55_9) rfl ?_
  exact k
 refine W2.callF hx (x := y_17) (y := y_8) (C := "java/util/ImmutableCollections$List12") (ww hw 348 rfl) (ww hw 295 rfl) (ww hw 349 rfl) rfl (ww hw 350 rfl) (ww hw 297 rfl) (ww hw 351 rfl) (ww hw 352 rfl) (ww hw 305 rfl) (by decide) (Pay0.of_con (Wd := 0) (rm_g0b1 l Z a0 hw la x y em h0 n0 (by omega) F0 F1 M0 hne) (ww hw 298 rfl) (ww hw 253 rfl) (hEN hw) (by decide) (by decide)) X0 (g := (mkF m 10 #[.val (.ref it), .val (.int 1), .unset] [(.int 1), (.ref la)])) rfl (by rw [hml]; rfl) (argsL := [(.int 1)]) (rest := []) (lenOf pd_5 rfl) rfl rfl (ble_ rfl) (hb hby d55_10) (by decide) (by decide) (fun v3 T3 h3 W3 sz3 q3 => ?_)
 obtain ⟨rfl, rfl⟩ := q3
 change Fi0 _ _ _ _ _ _ _ _ _ _ (T3.setTop (mkF m 15 #[.val (.ref it), .val (.int 1), .unset] [(.ref y)]))
 refine Fi0.by' (st' := T3.setTop (mkF m 20 #[.val (.ref it), .val (.int 1), .val (.ref y)] [(.int 2), (.ref it)])) (fun t k => ?_) ?_
 ·refine XS.astoreN W3.here hx rfl (hb hby d55_15) rfl rfl (l' := #[.val (.ref it), .val (.int 1), .val (.ref y)]) rfl ?_
  refine XS.aloadN W3.here hx rfl (hb hby d55_16) rfl rfl ?_
  refine XS.iloadN W3.here hx rfl (hb hby d55_17) rfl ?_
  refine iconstZ W3.here hx rfl (hb hby d55_18) (z := (1 : Int32)) rfl ?_
  refine XS.iadd W3.here hx rfl (hb hby d55_19) rfl ?_
  exact k
 refine W3.putF hx (ww hw 327 rfl) N3 E0 (ww hw 328 rfl) (ww hw 316 rfl) (ty := .int) (by decide) rfl rfl (g := (mkF m 20 #[.val (.ref it), .val (.int 1), .val (.ref y)] [(.int 2), (.ref it)])) rfl rfl (hb hby d55_20) gi (fun T4 h4 W4 R4 => ?_)
 change Fi0 _ _ _ _ _ _ _ _ _ _ (T4.setTop (mkF m 23 #[.val (.ref it), .val (.int 1), .val (.ref y)] []))
 refine Fi0.by' (st' := T4.setTop (mkF m 24 #[.val (.ref it), .val (.int 1), .val (.ref y)] [(.ref y)])) (fun t k => ?_) ?_
 ·refine XS.aloadN W4.here hx rfl (hb hby d55_23) rfl rfl ?_
  exact k
 exact W4.aret hx hlk hret rfl rfl (hb hby d55_24) ⟨rfl, Keep.of_wr R4, Exa.wr R4 E0, Fld.other R4 N1 (Or.inr (slot_ne (Or.inr (ww hw 324 rfl)) (Or.inl (ww hw 328 rfl)) (by decide) (t := (.object "java/util/List")) (t' := .int) (by decide) (by decide))), Fld.other R4 N2 (Or.inr (slot_ne (Or.inr (ww hw 326 rfl)) (Or.inl (ww hw 328 rfl)) (by decide) (t := .int) (t' := .int) (by decide) (by decide))), Fld.same R4 N3⟩ (by decide) (by decide)
/-! next() at a call -/
section ILaw3
variable {p : Program} {l : Launch} {e : Env} {R : Room} {s : State} {m : MethodId} {args : Array Value} {below : List Frame} {meth : Method} {c : Code} {Z : State} {a0 : Array Value} {EF : List (String × Nat)} {n0 : Nat} {T : State} {h h' : Heap} {cells slots : Nat} {Q : Option Value → Heap → Prop} {kc ks : Nat}
theorem Sta.uniq {O n d : String} {v w : Value} (F : Sta Z h O n d v) (G : Sta Z h O n d w) : v = w := by
  obtain ⟨_, _, _, _, _, _, h1, -, -, h4, h5, -, h7⟩ := F
  obtain ⟨_, _, _, _, _, _, g1, -, -, g4, g5, -, g7⟩ := G
  cases h1.symm.trans g1; cases h4.symm.trans g4; cases h5.symm.trans g5
  exact Option.some.inj (h7.symm.trans g7)
theorem Els.inj : ∀ {es : List Addr} {ds ds' : List Int32}, Els Z h n0 es ds → Els Z h n0 es ds' → ds = ds'
  | [], [], [], _, _ => rfl
  | _ :: _, _ :: _, _ :: _, H, G => by
    have e1 := StrL.inj H.1.1.l G.1.1.l
    rw [List.cons.injEq] at e1
    rw [e1.1, Els.inj H.2 G.2]
  | [], _ :: _, _, H, _ => H.elim
  | [], _, _ :: _, _, G => G.elim
  | _ :: _, [], _, H, _ => H.elim
  | _ :: _, _, [], _, G => G.elim
theorem arv_inj {a : Addr} {k k' : ClassId} {ty ty' : FieldType} {es es' : List Addr} {N N' : Int32} (F : Arv Z h a k ty N (es.map Value.ref) .null) (G : Arv Z h a k' ty' N' (es'.map Value.ref) .null) (h1 : N.toNatClampNeg = es.length) (h2 : N'.toNatClampNeg = es'.length) : es = es' := by
  obtain ⟨cl, A, -, S, -, H, -⟩ := F
  obtain ⟨cl', A', -, S', -, H', -⟩ := G
  cases A.1.symm.trans A'.1
  refine List.ext_getElem (by omega) fun i hi hi' => ?_
  have q := (H i (by omega)).symm.trans (H' i (by omega))
  simp only [List.getD_eq_getElem?_getD, List.getElem?_map, List.getElem?_eq_getElem hi, List.getElem?_eq_getElem hi', Option.map_some, Option.getD_some, Option.some.injEq, Value.ref.injEq] at q
  exact q
theorem IL.inj {la : Addr} {ds ds' : List Int32} (F : IL Z h n0 la ds) (G : IL Z h n0 la ds') : ds = ds' := by
  obtain ⟨es, a1, a2, a3⟩ := F
  obtain ⟨es', b1, b2, b3⟩ := G
  have he : es = es' := by
    rcases a3 with ⟨ea, k, c1, c2, c3⟩ | ⟨x, em, c0, c1, c2, c3, c4⟩ | ⟨x, y, em, c0, c1, c2, c3, c4, c5⟩
    · rcases b3 with ⟨ea', k', d1, d2, d3⟩ | ⟨x', em', d0, d1, d2, d3, d4⟩ | ⟨x', y', em', d0, d1, d2, d3, d4, d5⟩
      · cases Fld.uniq c2 d2
        exact arv_inj c3 d3 (by rw [ofNat_clamp (by omega)]; exact a1.len.symm) (by rw [ofNat_clamp (by omega)]; exact b1.len.symm)
      · exact absurd rfl (Exa.ne c1 d1 (by decide))
      · exact absurd rfl (Exa.ne c1 d1 (by decide))
    · rcases b3 with ⟨ea', k', d1, d2, d3⟩ | ⟨x', em', d0, d1, d2, d3, d4⟩ | ⟨x', y', em', d0, d1, d2, d3, d4, d5⟩
      · exact absurd rfl (Exa.ne c1 d1 (by decide))
      · cases Fld.uniq c2 d2
        rw [c0, d0]
      · cases Fld.uniq c3 d3
        cases Sta.uniq c4 d4
        exact absurd rfl d5
    · rcases b3 with ⟨ea', k', d1, d2, d3⟩ | ⟨x', em', d0, d1, d2, d3, d4⟩ | ⟨x', y', em', d0, d1, d2, d3, d4, d5⟩
      · exact absurd rfl (Exa.ne c1 d1 (by decide))
      · cases Fld.uniq c3 d3
        cases Sta.uniq c4 d4
        exact absurd rfl c5
      · cases Fld.uniq c2 d2
        cases Fld.uniq c3 d3
        rw [c0, d0]
  subst he
  exact Els.inj a1 b1
theorem payNX (hw : ∀ d ∈ tables_1, d.before a0 Z = true) {Wd : Nat} {it la : Addr} {ds r : List Int32} {i : Nat} {d sz : Int32} (Z0 : n0 ≤ h.size) (gi : n0 ≤ it) (E0 : Exa Z h it "java/util/ImmutableCollections$ListItr") (N1 : Fld Z h it "java/util/ImmutableCollections$ListItr" "list" "Ljava/util/List;" (.ref la)) (N2 : Fld Z h it "java/util/ImmutableCollections$ListItr" "size" "I" (.int sz)) (N3 : Fld Z h it "java/util/ImmutableCollections$ListItr" "cursor" "I" (.int (Int32.ofNat i))) (F : IL Z h n0 la ds) (hi : ds.drop i = d :: r) (hf : 2 ≤ R.frames) (hl : Wd + 27 ≤ R.locals) :
    Pay5 l R p e below s args Z EN n0 y_18 Wd #[.ref it] h (fun v h' => ∃ x : Addr, v = some (.ref x) ∧ StrH Z h x [d] ∧ n0 ≤ x ∧ Keep h h' [it] ∧ Exa Z h' it "java/util/ImmutableCollections$ListItr" ∧ Fld Z h' it "java/util/ImmutableCollections$ListItr" "list" "Ljava/util/List;" (.ref la) ∧ Fld Z h' it "java/util/ImmutableCollections$ListItr" "size" "I" (.int sz) ∧ Fld Z h' it "java/util/ImmutableCollections$ListItr" "cursor" "I" (.int (Int32.ofNat (i + 1)))) 0 0 := by
  obtain ⟨es, a1, a2, a3⟩ := F
  have hlt : i < ds.length := by
    have := congrArg List.length hi
    simp at this; omega
  obtain ⟨u, u1, u2, u3⟩ := a1.at hi
  rcases a3 with ⟨ea, k, b1, b2, b3⟩ | ⟨x, em, rfl, b1, b2, b3, b4⟩ | ⟨x, y, em, rfl, b1, b2, b3, b4, b5⟩
  · exact Pay5.of_back (ws := [it]) (hEN hw) (fun vm0 hZ => Back.mono (backOfWith (s := s.setVm vm0) (Q := fun v h' L => Fr n0 L ∧ Q_nxn Z it la ea u sz (Int32.ofNat ds.length) (Int32.ofNat i) k (es.map Value.ref) h v h') (rm_nxn l Z a0 hw it la ea u sz (Int32.ofNat ds.length) (Int32.ofNat i) k (es.map Value.ref) h n0 Z0 gi E0 N1 N2 N3 b1 b2 b3 (ofNat_lt hlt (by omega)) (by rw [ofNat_clamp (by omega), List.getD_eq_getElem?_getD, List.getElem?_map, u1]; rfl)) hZ (ww hw 347 rfl) (ww hw 317 rfl) (Nat.le_trans (by decide) hf) (Nat.le_trans (by rw [Nat.add_assoc]; exact Nat.add_le_add_left (by decide) _) hl)) (fun _ _ q => q) (fun _ _ v B _ q => by
      obtain ⟨L, ⟨NL, q1, q2, q3, q4, q5, q6⟩, r⟩ := q
      exact ⟨L, ⟨NL, q2, _, q1, u2, u3, q2, q3, q4, q5, by rw [← ofNat_succ]; exact q6⟩, r⟩)) (fun _ _ _ _ _ => safeN rfl)
  · have e1 : ds.length = 1 := a1.len.symm
    obtain rfl : i = 0 := by omega
    have ex : u = x := by simpa using u1.symm
    rw [ex] at u2 u3
    exact Pay5.of_back (ws := [it]) (hEN hw) (fun vm0 hZ => Back.mono (backOfWith (s := s.setVm vm0) (Q := fun v h' L => Fr n0 L ∧ Q_nxa Z it la x em sz h v h') (rm_nxa l Z a0 hw it la x em sz h n0 Z0 gi E0 N1 N2 N3 b1 b2 b3 b4) hZ (ww hw 347 rfl) (ww hw 317 rfl) (Nat.le_trans (by decide) hf) (Nat.le_trans (by rw [Nat.add_assoc]; exact Nat.add_le_add_left (by decide) _) hl)) (fun _ _ q => q) (fun _ _ v B _ q => by
      obtain ⟨L, ⟨NL, q1, q2, q3, q4, q5, q6⟩, r⟩ := q
      exact ⟨L, ⟨NL, q2, _, q1, u2, u3, q2, q3, q4, q5, q6⟩, r⟩)) (fun _ _ _ _ _ => safeN rfl)
  · have e1 : ds.length = 2 := a1.len.symm
    have e2 : i = 0 ∨ i = 1 := by omega
    rcases e2 with rfl | rfl
    · have ex : u = x := by simpa using u1.symm
      rw [ex] at u2 u3
      exact Pay5.of_back (ws := [it]) (hEN hw) (fun vm0 hZ => Back.mono (backOfWith (s := s.setVm vm0) (Q := fun v h' L => Fr n0 L ∧ Q_nxb0 Z it la x y em sz h v h') (rm_nxb0 l Z a0 hw it la x y em sz h n0 Z0 gi E0 N1 N2 N3 b1 b2 b3 b4 b5) hZ (ww hw 347 rfl) (ww hw 317 rfl) (Nat.le_trans (by decide) hf) (Nat.le_trans (by rw [Nat.add_assoc]; exact Nat.add_le_add_left (by decide) _) hl)) (fun _ _ q => q) (fun _ _ v B _ q => by
      obtain ⟨L, ⟨NL, q1, q2, q3, q4, q5, q6⟩, r⟩ := q
      exact ⟨L, ⟨NL, q2, _, q1, u2, u3, q2, q3, q4, q5, q6⟩, r⟩)) (fun _ _ _ _ _ => safeN rfl)
    · have ex : u = y := by simpa using u1.symm
      rw [ex] at u2 u3
      exact Pay5.of_back (ws := [it]) (hEN hw) (fun vm0 hZ => Back.mono (backOfWith (s := s.setVm vm0) (Q := fun v h' L => Fr n0 L ∧ Q_nxb1 Z it la x y em sz h v h') (rm_nxb1 l Z a0 hw it la x y em sz h n0 Z0 gi E0 N1 N2 N3 b1 b2 b3 b4 b5) hZ (ww hw 347 rfl) (ww hw 317 rfl) (Nat.le_trans (by decide) hf) (Nat.le_trans (by rw [Nat.add_assoc]; exact Nat.add_le_add_left (by decide) _) hl)) (fun _ _ q => q) (fun _ _ v B _ q => by
      obtain ⟨L, ⟨NL, q1, q2, q3, q4, q5, q6⟩, r⟩ := q
      exact ⟨L, ⟨NL, q2, _, q1, u2, u3, q2, q3, q4, q5, q6⟩, r⟩)) (fun _ _ _ _ _ => safeN rfl)
end ILaw3
def Q_hnx (Z : State) (it : Addr) (cu sz : Int32) (h0 : Heap) (v : Option Value) (h : Heap) : Prop := ∃ r : Int32, v = some (.int r) ∧ ((r = 1 ∧ ¬ cu = sz) ∨ (r = 0 ∧ cu = sz)) ∧ h0 = h
theorem rm_hnx (l : Launch) (Z : State) (a0 : Array Value) (hw : ∀ d ∈ tables_1, d.before a0 Z = true) (it : Addr) (cu sz : Int32) (h0 : Heap) (n0 : Nat) (Z0 : n0 ≤ h0.size) (N2 : Fld Z h0 it "java/util/ImmutableCollections$ListItr" "size" "I" (.int sz)) (N3 : Fld Z h0 it "java/util/ImmutableCollections$ListItr" "cursor" "I" (.int cu)) :
  Con l Z EN y_19 jdk_53_method_3_code 1 (some .boolean) [] ({ frames := 0, cells := 0, slots := 0, locals := 0 } : Room) #[(.ref it)] h0 n0 (Q_hnx Z it cu sz h0) := by
 refine Con.intro (own := "java/util/ImmutableCollections$ListItr") rfl (plainFor_of_name plain_java_util_ImmutableCollections_ListItr) (hEN hw) ?_
 intro p e s m below meth c s₁ hx hby hml hret hlk hnm W0
 refine Fi.cast (show entryFrame m #[(.ref it)] 1 = (mkF m 0 #[.val (.ref it)] []) from by first | (simp [entryFrame, mkF, argsToLocals, Value.category]; done) | rfl) ?_
 refine Fi.by' (st' := s₁.setTop (mkF m 1 #[.val (.ref it)] [(.ref it)])) (fun t k => ?_) ?_
 ·refine XS.aloadN W0.here hx rfl (hb hby d54_0) rfl rfl ?_
  exact k
 refine W0.getF hx (ww hw 327 rfl) N3 (g := (mkF m 1 #[.val (.ref it)] [(.ref it)])) rfl rfl (hb hby d54_1) (fun T1 W1 => ?_)
 change Fi _ _ _ _ _ _ _ _ _ _ (T1.setTop (mkF m 4 #[.val (.ref it)] [(.int cu)]))
 refine Fi.by' (st' := T1.setTop (mkF m 5 #[.val (.ref it)] [(.ref it), (.int cu)])) (fun t k => ?_) ?_
 ·refine XS.aloadN W1.here hx rfl (hb hby d54_4) rfl rfl ?_
  exact k
 refine W1.getF hx (ww hw 325 rfl) N2 (g := (mkF m 5 #[.val (.ref it)] [(.ref it), (.int cu)])) rfl rfl (hb hby d54_5) (fun T2 W2 => ?_)
 change Fi _ _ _ _ _ _ _ _ _ _ (T2.setTop (mkF m 8 #[.val (.ref it)] [(.int sz), (.int cu)]))
 by_cases hc8_3 : cu = sz
 ·refine Fi.by' (st' := T2.setTop (mkF m 16 #[.val (.ref it)] [(.int 0)])) (fun t k => ?_) ?_
  ·refine XS.icmpYes W2.here hx rfl (pc0 := 8) (pc' := 15) rfl (hb hby d54_8) rfl (teq hc8_3).1 (by decide) (by decide) ?_
   refine iconstZ W2.here hx rfl (hb hby d54_15) (z := (0 : Int32)) rfl ?_
   exact k
  exact W2.iret hx hlk hret (by simp) rfl (hb hby d54_16) ⟨_, rfl, Or.inr ⟨rfl, hc8_3⟩, rfl⟩ (by decide) (by decide)
 ·refine Fi.by' (st' := T2.setTop (mkF m 16 #[.val (.ref it)] [(.int 1)])) (fun t k => ?_) ?_
  ·refine XS.icmpNo W2.here hx rfl (hb hby d54_8) rfl (feq hc8_3).1 ?_
   refine iconstZ W2.here hx rfl (hb hby d54_11) (z := (1 : Int32)) rfl ?_
   refine XS.goto W2.here hx rfl (pc0 := 12) (pc' := 16) rfl (hb hby d54_12) (by decide) (by decide) ?_
   exact k
  exact W2.iret hx hlk hret (by simp) rfl (hb hby d54_16) ⟨_, rfl, Or.inl ⟨rfl, hc8_3⟩, rfl⟩ (by decide) (by decide)
def Q_iti (Z : State) (x : Addr) (la : Addr) (sz : Int32) (h0 : Heap) (v : Option Value) (h : Heap) : Prop := v = none ∧ Keep h0 h [x] ∧ Exa Z h x "java/util/ImmutableCollections$ListItr" ∧ Fld Z h x "java/util/ImmutableCollections$ListItr" "list" "Ljava/util/List;" (.ref la) ∧ Fld Z h x "java/util/ImmutableCollections$ListItr" "size" "I" (.int sz) ∧ Fld Z h x "java/util/ImmutableCollections$ListItr" "cursor" "I" (.int 0) ∧ Fld Z h x "java/util/ImmutableCollections$ListItr" "isListIterator" "Z" (.int 0)
theorem rm_iti (l : Launch) (Z : State) (a0 : Array Value) (hw : ∀ d ∈ tables_1, d.before a0 Z = true) (x : Addr) (la : Addr) (sz : Int32) (h0 : Heap) (n0 : Nat) (Z0 : n0 ≤ h0.size) (g0 : n0 ≤ x) (A0 : Exa Z h0 x "java/util/ImmutableCollections$ListItr") (F0_list : Fld Z h0 x "java/util/ImmutableCollections$ListItr" "list" "Ljava/util/List;" .null) (F0_size : Fld Z h0 x "java/util/ImmutableCollections$ListItr" "size" "I" (.int 0)) (F0_cursor : Fld Z h0 x "java/util/ImmutableCollections$ListItr" "cursor" "I" (.int 0)) (F0_isListIterator : Fld Z h0 x "java/util/ImmutableCollections$ListItr" "isListIterator" "Z" (.int 0))  :
  Con l Z EN y_20 jdk_53_method_1_code 3 none [] ({ frames := 1, cells := 0, slots := 0, locals := 12 } : Room) #[(.ref x), (.ref la), (.int sz)] h0 n0 (Q_iti Z x la sz h0) := by
 refine Con.intro (own := "java/util/ImmutableCollections$ListItr") rfl (plainFor_of_name plain_java_util_ImmutableCollections_ListItr) (hEN hw) ?_
 intro p e s m below meth c s₁ hx hby hml hret hlk hnm W0
 refine Fi.cast (show entryFrame m #[(.ref x), (.ref la), (.int sz)] 3 = (mkF m 0 #[.val (.ref x), .val (.ref la), .val (.int sz)] []) from by first | (simp [entryFrame, mkF, argsToLocals, Value.category]; done) | rfl) ?_
 refine Fi.by' (st' := s₁.setTop (mkF m 1 #[.val (.ref x), .val (.ref la), .val (.int sz)] [(.ref x)])) (fun t k => ?_) ?_
 ·refine XS.aloadN W0.here hx rfl (hb hby d53_0) rfl rfl ?_
  exact k
 refine W0.initO hx (ww hw 322 rfl) (ww hw 19 rfl) (ww hw 20 rfl) (g := (mkF m 1 #[.val (.ref x), .val (.ref la), .val (.int sz)] [(.ref x)])) rfl (by rw [hml]; rfl) rfl (hb hby d53_1) (by decide) (Wd := 0) (ble_ rfl) (by decide) (fun T1 W1 => ?_)
 change Fi _ _ _ _ _ _ _ _ _ _ (T1.setTop (mkF m 4 #[.val (.ref x), .val (.ref la), .val (.int sz)] []))
 refine Fi.by' (st' := T1.setTop (mkF m 6 #[.val (.ref x), .val (.ref la), .val (.int sz)] [(.ref la), (.ref x)])) (fun t k => ?_) ?_
 ·refine XS.aloadN W1.here hx rfl (hb hby d53_4) rfl rfl ?_
  refine XS.aloadN W1.here hx rfl (hb hby d53_5) rfl rfl ?_
  exact k
 refine W1.putF hx (ww hw 323 rfl) F0_list A0 (Or.inr ⟨(ww hw 324 rfl), rfl, hnm⟩) (ww hw 316 rfl) (ty := (.object "java/util/List")) (by decide) rfl rfl (g := (mkF m 6 #[.val (.ref x), .val (.ref la), .val (.int sz)] [(.ref la), (.ref x)])) rfl rfl (hb hby d53_6) g0 (safe_exa A0 (by decide) (by decide)) (fun T2 h2 W2 R2 => ?_)
 change Fi _ _ _ _ _ _ _ _ _ _ (T2.setTop (mkF m 9 #[.val (.ref x), .val (.ref la), .val (.int sz)] []))
 have K2 := (Keep.refl h0 [x]).wr R2 (Or.inl (List.mem_singleton.mpr rfl))
 have A2 := Exa.wr R2 A0
 have F2_list := Fld.same R2 F0_list
 have F2_size := Fld.other R2 F0_size (Or.inr (slot_ne (Or.inr (ww hw 326 rfl)) (Or.inr (ww hw 324 rfl)) (by decide) (t := .int) (t' := (.object "java/util/List")) (by decide) (by decide)))
 have F2_cursor := Fld.other R2 F0_cursor (Or.inr (slot_ne (Or.inl (ww hw 328 rfl)) (Or.inr (ww hw 324 rfl)) (by decide) (t := .int) (t' := (.object "java/util/List")) (by decide) (by decide)))
 have F2_isListIterator := Fld.other R2 F0_isListIterator (Or.inr (slot_ne (Or.inr (ww hw 330 rfl)) (Or.inr (ww hw 324 rfl)) (by decide) (t := .boolean) (t' := (.object "java/util/List")) (by decide) (by decide)))
 refine Fi.by' (st' := T2.setTop (mkF m 11 #[.val (.ref x), .val (.ref la), .val (.int sz)] [(.int sz), (.ref x)])) (fun t k => ?_) ?_
 ·refine XS.aloadN W2.here hx rfl (hb hby d53_9) rfl rfl ?_
  refine XS.iloadN W2.here hx rfl (hb hby d53_10) rfl ?_
  exact k
 refine W2.putF hx (ww hw 325 rfl) F2_size A2 (Or.inr ⟨(ww hw 326 rfl), rfl, hnm⟩) (ww hw 316 rfl) (ty := .int) (by decide) rfl rfl (g := (mkF m 11 #[.val (.ref x), .val (.ref la), .val (.int sz)] [(.int sz), (.ref x)])) rfl rfl (hb hby d53_11) g0 (safe_exa A2 (by decide) (by decide)) (fun T3 h3 W3 R3 => ?_)
 change Fi _ _ _ _ _ _ _ _ _ _ (T3.setTop (mkF m 14 #[.val (.ref x), .val (.ref la), .val (.int sz)] []))
 have K3 := K2.wr R3 (Or.inl (List.mem_singleton.mpr rfl))
 have A3 := Exa.wr R3 A2
 have F3_list := Fld.other R3 F2_list (Or.inr (slot_ne (Or.inr (ww hw 324 rfl)) (Or.inr (ww hw 326 rfl)) (by decide) (t := (.object "java/util/List")) (t' := .int) (by decide) (by decide)))
 have F3_size := Fld.same R3 F2_size
 have F3_cursor := Fld.other R3 F2_cursor (Or.inr (slot_ne (Or.inl (ww hw 328 rfl)) (Or.inr (ww hw 326 rfl)) (by decide) (t := .int) (t' := .int) (by decide) (by decide)))
 have F3_isListIterator := Fld.other R3 F2_isListIterator (Or.inr (slot_ne (Or.inr (ww hw 330 rfl)) (Or.inr (ww hw 326 rfl)) (by decide) (t := .boolean) (t' := .int) (by decide) (by decide)))
 refine Fi.by' (st' := T3.setTop (mkF m 16 #[.val (.ref x), .val (.ref la), .val (.int sz)] [(.int 0), (.ref x)])) (fun t k => ?_) ?_
 ·refine XS.aloadN W3.here hx rfl (hb hby d53_14) rfl rfl ?_
  refine iconstZ W3.here hx rfl (hb hby d53_15) (z := (0 : Int32)) rfl ?_
  exact k
 refine W3.putF hx (ww hw 327 rfl) F3_cursor A3 (Or.inl (ww hw 328 rfl)) (ww hw 316 rfl) (ty := .int) (by decide) rfl rfl (g := (mkF m 16 #[.val (.ref x), .val (.ref la), .val (.int sz)] [(.int 0), (.ref x)])) rfl rfl (hb hby d53_16) g0 (safe_exa A3 (by decide) (by decide)) (fun T4 h4 W4 R4 => ?_)
 change Fi _ _ _ _ _ _ _ _ _ _ (T4.setTop (mkF m 19 #[.val (.ref x), .val (.ref la), .val (.int sz)] []))
 have K4 := K3.wr R4 (Or.inl (List.mem_singleton.mpr rfl))
 have A4 := Exa.wr R4 A3
 have F4_list := Fld.other R4 F3_list (Or.inr (slot_ne (Or.inr (ww hw 324 rfl)) (Or.inl (ww hw 328 rfl)) (by decide) (t := (.object "java/util/List")) (t' := .int) (by decide) (by decide)))
 have F4_size := Fld.other R4 F3_size (Or.inr (slot_ne (Or.inr (ww hw 326 rfl)) (Or.inl (ww hw 328 rfl)) (by decide) (t := .int) (t' := .int) (by decide) (by decide)))
 have F4_cursor := Fld.same R4 F3_cursor
 have F4_isListIterator := Fld.other R4 F3_isListIterator (Or.inr (slot_ne (Or.inr (ww hw 330 rfl)) (Or.inl (ww hw 328 rfl)) (by decide) (t := .boolean) (t' := .int) (by decide) (by decide)))
 refine Fi.by' (st' := T4.setTop (mkF m 21 #[.val (.ref x), .val (.ref la), .val (.int sz)] [(.int 0), (.ref x)])) (fun t k => ?_) ?_
 ·refine XS.aloadN W4.here hx rfl (hb hby d53_19) rfl rfl ?_
  refine iconstZ W4.here hx rfl (hb hby d53_20) (z := (0 : Int32)) rfl ?_
  exact k
 refine W4.putF hx (ww hw 329 rfl) F4_isListIterator A4 (Or.inr ⟨(ww hw 330 rfl), rfl, hnm⟩) (ww hw 316 rfl) (ty := .boolean) (by decide) rfl rfl (g := (mkF m 21 #[.val (.ref x), .val (.ref la), .val (.int sz)] [(.int 0), (.ref x)])) rfl rfl (hb hby d53_21) g0 (safe_exa A4 (by decide) (by decide)) (fun T5 h5 W5 R5 => ?_)
 change Fi _ _ _ _ _ _ _ _ _ _ (T5.setTop (mkF m 24 #[.val (.ref x), .val (.ref la), .val (.int sz)] []))
 have K5 := K4.wr R5 (Or.inl (List.mem_singleton.mpr rfl))
 have A5 := Exa.wr R5 A4
 have F5_list := Fld.other R5 F4_list (Or.inr (slot_ne (Or.inr (ww hw 324 rfl)) (Or.inr (ww hw 330 rfl)) (by decide) (t := (.object "java/util/List")) (t' := .boolean) (by decide) (by decide)))
 have F5_size := Fld.other R5 F4_size (Or.inr (slot_ne (Or.inr (ww hw 326 rfl)) (Or.inr (ww hw 330 rfl)) (by decide) (t := .int) (t' := .boolean) (by decide) (by decide)))
 have F5_cursor := Fld.other R5 F4_cursor (Or.inr (slot_ne (Or.inl (ww hw 328 rfl)) (Or.inr (ww hw 330 rfl)) (by decide) (t := .int) (t' := .boolean) (by decide) (by decide)))
 have F5_isListIterator := Fld.same R5 F4_isListIterator
 exact W5.vret hx hlk hret (hb hby d53_24) ⟨rfl, K5, A5, F5_list, F5_size, F5_cursor, F5_isListIterator⟩ (by decide) (by decide)
def Q_itr (Z : State) (la : Addr) (ds : List Int32) (h0 : Heap) (v : Option Value) (h : Heap) : Prop := ∃ it : Addr, v = some (.ref it) ∧ Ext h0 h ∧ h0.size ≤ it ∧ Exa Z h it "java/util/ImmutableCollections$ListItr" ∧ Fld Z h it "java/util/ImmutableCollections$ListItr" "list" "Ljava/util/List;" (.ref la) ∧ Fld Z h it "java/util/ImmutableCollections$ListItr" "size" "I" (.int (Int32.ofNat ds.length)) ∧ Fld Z h it "java/util/ImmutableCollections$ListItr" "cursor" "I" (.int 0)
theorem rm_itr (l : Launch) (Z : State) (a0 : Array Value) (hw : ∀ d ∈ tables_1, d.before a0 Z = true) (la : Addr) (ds : List Int32) (h0 : Heap) (n0 : Nat) (Z0 : n0 ≤ h0.size) (I0 : IL Z h0 n0 la ds) :
  Con l Z EN y_21 jdk_46_method_10_code 1 (some (.object "java/util/Iterator")) [] ({ frames := 2, cells := 1, slots := 4, locals := 27 } : Room) #[(.ref la)] h0 n0 (Q_itr Z la ds h0) := by
 refine Con.intro (own := "java/util/ImmutableCollections$AbstractImmutableList") rfl (plainFor_of_name plain_java_util_ImmutableCollections_AbstractImmutableList) (hEN hw) ?_
 intro p e s m below meth c s₁ hx hby hml hret hlk hnm W0
 refine Fi.cast (show entryFrame m #[(.ref la)] 1 = (mkF m 0 #[.val (.ref la)] []) from by first | (simp [entryFrame, mkF, argsToLocals, Value.category]; done) | rfl) ?_
 refine W0.new hx (ww hw 315 rfl) (ww hw 316 rfl) (ww hw 317 rfl) (g := (mkF m 0 #[.val (.ref la)] [])) rfl (hb hby d52_0) (by decide) (by decide) (fun T1 h1 a1 ha1 W1 E1 A1 D1 => ?_)
 change Fi _ _ _ _ _ _ _ _ _ _ (T1.setTop (mkF m 3 #[.val (.ref la)] [(.ref a1)]))
 have sz1 := E1.1
 refine Fi.by' (st' := T1.setTop (mkF m 6 #[.val (.ref la)] [(.ref la), (.ref la), (.ref a1), (.ref a1)])) (fun t k => ?_) ?_
 ·refine XS.dup W1.here hx rfl (hb hby d52_3) rfl rfl ?_
  refine XS.aloadN W1.here hx rfl (hb hby d52_4) rfl rfl ?_
  refine XS.aloadN W1.here hx rfl (hb hby d52_5) rfl rfl ?_
  exact k
 refine il_size hw W1 hx (I0.ext E1) (by omega) (g := (mkF m 6 #[.val (.ref la)] [(.ref la), (.ref la), (.ref a1), (.ref a1)])) rfl (by rw [hml]; rfl) rfl (hb hby d52_6) (Wd := 3) (ble_ rfl) (by decide) (by decide) (by decide) (by decide) (fun T2 W2 => ?_)
 change Fi _ _ _ _ _ _ _ _ _ _ (T2.setTop (mkF m 9 #[.val (.ref la)] [(.int (Int32.ofNat ds.length)), (.ref la), (.ref a1), (.ref a1)]))
 refine W2.callI hx (y := y_20) rfl (ww hw 318 rfl) (ww hw 319 rfl) (ww hw 321 rfl) (by decide) (Pay.of_con (Wd := 1) (rm_iti l Z a0 hw a1 la (Int32.ofNat ds.length) h1 n0 (by omega) (by omega) A1 (D1 (Or.inr (ww hw 324 rfl)) (ty := (.object "java/util/List")) (by decide)) (D1 (Or.inr (ww hw 326 rfl)) (ty := .int) (by decide)) (D1 (Or.inl (ww hw 328 rfl)) (ty := .int) (by decide)) (D1 (Or.inr (ww hw 330 rfl)) (ty := .boolean) (by decide)) ) (ww hw 321 rfl) (ww hw 317 rfl) (hEN hw) (by decide) (by decide)) (a := a1) (g := (mkF m 9 #[.val (.ref la)] [(.int (Int32.ofNat ds.length)), (.ref la), (.ref a1), (.ref a1)])) rfl (by rw [hml]; rfl) (argsL := [(.ref la), (.int (Int32.ofNat ds.length))]) (rest := [(.ref a1)]) (lenOf pd_8 rfl) rfl rfl (ble_ rfl) (hb hby d52_9) (by decide) (by decide) (fun v3 T3 h3 W3 sz3 q3 => ?_)
 obtain ⟨rfl, K3, A3, F3_list, F3_size, F3_cursor, F3_isListIterator⟩ := q3
 change Fi _ _ _ _ _ _ _ _ _ _ (T3.setTop (mkF m 12 #[.val (.ref la)] [(.ref a1)]))
 have x3k : Ext h0 h3 := ext_keep1 E1 K3 (by omega)
 exact W3.aret hx hlk hret rfl rfl (hb hby d52_12) ⟨a1, rfl, x3k, by omega, A3, F3_list, F3_size, F3_cursor⟩ (by decide) (by decide)
section PaidEq
variable {p : Program} {l : Launch} {e : Env} {R : Room} {s : State} {args : Array Value} {below : List Frame} {Z : State} {a0 : Array Value} {n0 : Nat} {h : Heap}
theorem wsQ {a0 : Array Value} {Z : State} (hw : ∀ d ∈ tables_1, d.before a0 Z = true) : ∀ d ∈ StrChars.Road.wordsEq, d.before a0 Z = true := fun d hd => hw d ((by decide +kernel : ∀ d ∈ StrChars.Road.wordsEq, d ∈ tables_1) d hd)
theorem payQ (hw : ∀ d ∈ tables_1, d.before a0 Z = true) {Wd : Nat} {x y : Addr} {cs ds : List Int32} {z : Int32} (F : StrL Z h x cs) (G : StrL Z h y ds) (S : Sta Z h "java/lang/String" "COMPACT_STRINGS" "Z" (.int z)) (hz : ¬ z = 0) (hf : 2 ≤ R.frames) (hl : Wd + 28 ≤ R.locals) :
  Pay l R p e below s args Z EN n0 y_22 Wd #[.ref x, .ref y] h (fun v h' => (∃ r : Int32, v = some (.int r) ∧ ((r = 1 ∧ cs = ds) ∨ (r = 0 ∧ ¬ cs = ds))) ∧ h = h') 0 0 := by
 obtain ⟨t1, k1, a1, a2, a3, a4, a5, a6⟩ := F
 obtain ⟨t2, k2, b1, b2, b3, b4, b5, b6⟩ := G
 refine Pay.of_back (ws := []) (hEN hw) (fun vm0 hZ => Back.mono (StrChars.Road.eqW (s := s.setVm vm0) hZ (wsQ hw) (ww hw 8 rfl) a1 a2 a3 a4 (StrChars.Road.codOf rfl (fun c hc => (a5 c hc).2)) (fun c hc => ⟨(a5 c hc).1, big_ch (a5 c hc).2⟩) a6 b1 b2 b3 b4 (StrChars.Road.codOf rfl (fun c hc => (b5 c hc).2)) (fun c hc => ⟨(b5 c hc).1, big_ch (b5 c hc).2⟩) b6 S hz hf hl) (fun _ _ q => q) (fun _ _ v B _ q => ?_)) (fun _ _ _ _ q => (nomatch q))
 obtain ⟨L, ⟨q1, rfl, q3⟩, r1, r2, r3⟩ := q
 refine ⟨[], ⟨Fr.nil _, by rw [q3]; exact Keep.refl _ _, ?_, q3.symm⟩, r1, r2, r3⟩
 rcases q1 with ⟨u1, u2⟩ | ⟨u1, u2⟩
 ·exact ⟨1, u1, Or.inl ⟨rfl, u2⟩⟩
 ·exact ⟨0, u1, Or.inr ⟨rfl, u2⟩⟩
end PaidEq
def Q_oeq (Z : State) (x y : Addr) (zc : Int32) (cs ds : List Int32) (h0 : Heap) (v : Option Value) (h : Heap) : Prop := ∃ r : Int32, v = some (.int r) ∧ ((r = 1 ∧ cs = ds) ∨ (r = 0 ∧ ¬ cs = ds)) ∧ h0 = h
theorem rm_oeq (l : Launch) (Z : State) (a0 : Array Value) (hw : ∀ d ∈ tables_1, d.before a0 Z = true) (x y : Addr) (zc : Int32) (cs ds : List Int32) (h0 : Heap) (n0 : Nat) (Z0 : n0 ≤ h0.size) (S0 : Sta Z h0 "java/lang/String" "COMPACT_STRINGS" "Z" (.int zc)) (hz : ¬ zc = 0) (U0 : StrH Z h0 x cs) (U1 : StrH Z h0 y ds) :
  Con l Z EN y_24 jdk_31_method_2_code 2 (some .boolean) [] ({ frames := 2, cells := 0, slots := 0, locals := 28 } : Room) #[(.ref x), (.ref y)] h0 n0 (Q_oeq Z x y zc cs ds h0) := by
 refine Con.intro (own := "java/util/Objects") rfl (plainFor_of_name plain_java_util_Objects) (hEN hw) ?_
 intro p e s m below meth c s₁ hx hby hml hret hlk hnm W0
 refine Fi.cast (show entryFrame m #[(.ref x), (.ref y)] 2 = (mkF m 0 #[.val (.ref x), .val (.ref y)] []) from by first | (simp [entryFrame, mkF, argsToLocals, Value.category]; done) | rfl) ?_
 refine Fi.by' (st' := s₁.setTop (mkF m 2 #[.val (.ref x), .val (.ref y)] [(.ref y), (.ref x)])) (fun t k => ?_) ?_
 ·refine XS.aloadN W0.here hx rfl (hb hby d56_0) rfl rfl ?_
  refine XS.aloadN W0.here hx rfl (hb hby d56_1) rfl rfl ?_
  exact k
 by_cases hq2_1 : x = y
 ·refine Fi.by' (st' := s₁.setTop (mkF m 22 #[.val (.ref x), .val (.ref y)] [(.int 1)])) (fun t k => ?_) ?_
  ·refine XS.acmpYes W0.here hx rfl (pc0 := 2) (pc' := 17) rfl (hb hby d56_2) rfl (acmpTEq hq2_1) (by decide) (by decide) ?_
   refine iconstZ W0.here hx rfl (hb hby d56_17) (z := (1 : Int32)) rfl ?_
   refine XS.goto W0.here hx rfl (pc0 := 18) (pc' := 22) rfl (hb hby d56_18) (by decide) (by decide) ?_
   exact k
  exact W0.iret hx hlk hret (by simp) rfl (hb hby d56_22) ⟨_, rfl, Or.inl ⟨rfl, by have u := U1.l; rw [← hq2_1] at u; exact StrL.inj U0.l u⟩, rfl⟩ (by decide) (by decide)
 ·refine Fi.by' (st' := s₁.setTop (mkF m 11 #[.val (.ref x), .val (.ref y)] [(.ref y), (.ref x)])) (fun t k => ?_) ?_
  ·refine XS.acmpNo W0.here hx rfl (hb hby d56_2) rfl (acmpFEq hq2_1) ?_
   refine XS.aloadN W0.here hx rfl (hb hby d56_5) rfl rfl ?_
   refine XS.ifnullNo W0.here hx rfl (hb hby d56_6) rfl ?_
   refine XS.aloadN W0.here hx rfl (hb hby d56_9) rfl rfl ?_
   refine XS.aloadN W0.here hx rfl (hb hby d56_10) rfl rfl ?_
   exact k
  refine W0.callW hx (x := y_23) (y := y_22) (C := "java/lang/String") (ww hw 356 rfl) (ww hw 357 rfl) (ww hw 74 rfl) (ww hw 359 rfl) (ww hw 154 rfl) (by decide) (payQ (Wd := 0) hw (U0).l (U1).l S0 hz (by decide) (by decide)) (U0).exa (g := (mkF m 11 #[.val (.ref x), .val (.ref y)] [(.ref y), (.ref x)])) rfl (by rw [hml]; rfl) (argsL := [(.ref y)]) (rest := []) (lenOf pd_9 rfl) rfl rfl (ble_ rfl) (hb hby d56_11) (by decide) (by decide) (fun v2 T2 h2 W2 sz2 q2 => ?_)
  obtain ⟨⟨r2, rfl, hr2⟩, rfl⟩ := q2
  change Fi _ _ _ _ _ _ _ _ _ _ (T2.setTop (mkF m 14 #[.val (.ref x), .val (.ref y)] [(.int r2)]))
  by_cases hc14_3 : r2 = (0 : Int32)
  ·refine Fi.by' (st' := T2.setTop (mkF m 22 #[.val (.ref x), .val (.ref y)] [(.int 0)])) (fun t k => ?_) ?_
   ·refine XS.ifYes W2.here hx rfl (pc0 := 14) (pc' := 21) rfl (hb hby d56_14) rfl ((if0 _ _).trans (teq hc14_3).1) (by decide) (by decide) ?_
    refine iconstZ W2.here hx rfl (hb hby d56_21) (z := (0 : Int32)) rfl ?_
    exact k
   exact W2.iret hx hlk hret (by simp) rfl (hb hby d56_22) ⟨_, rfl, Or.inr ⟨rfl, eq_no hr2 hc14_3⟩, rfl⟩ (by decide) (by decide)
  ·refine Fi.by' (st' := T2.setTop (mkF m 22 #[.val (.ref x), .val (.ref y)] [(.int 1)])) (fun t k => ?_) ?_
   ·refine XS.ifNo W2.here hx rfl (hb hby d56_14) rfl ((if0 _ _).trans (feq hc14_3).1) ?_
    refine iconstZ W2.here hx rfl (hb hby d56_17) (z := (1 : Int32)) rfl ?_
    refine XS.goto W2.here hx rfl (pc0 := 18) (pc' := 22) rfl (hb hby d56_18) (by decide) (by decide) ?_
    exact k
   exact W2.iret hx hlk hret (by simp) rfl (hb hby d56_22) ⟨_, rfl, Or.inl ⟨rfl, eq_yes hr2 hc14_3⟩, rfl⟩ (by decide) (by decide)
/-! iterator() at a call; what equals asks of the lists -/
section ILaw4
variable {p : Program} {l : Launch} {e : Env} {R : Room} {s : State} {m : MethodId} {args : Array Value} {below : List Frame} {meth : Method} {c : Code} {Z : State} {a0 : Array Value} {EF : List (String × Nat)} {n0 : Nat} {T : State} {h h' : Heap} {cells slots : Nat} {Q : Option Value → Heap → Prop} {kc ks : Nat}
theorem il_iter (hw : ∀ d ∈ tables_1, d.before a0 Z = true) (W : Wk p l e R s m args below meth c Z a0 EN "java/util/ImmutableCollections$AbstractImmutableList" n0 T h cells slots) (hx : p.tables.exec = Jvm.exec) {la : Addr} {ds : List Int32} (F : IL Z h n0 la ds) (Z0 : n0 ≤ h.size)
    {g : JFrame} (hg : g.method = m) (hsize : g.locals.size = c.maxLocals) {rest : List Value} (hs : g.stack = .ref la :: rest) (hd : decode c.code g.pc = .ok (.invokeinterface 79 1, 5)) {Wd : Nat} (hW : 2 * g.monitorRoom + (rest.map fun v => v.category).sum ≤ Wd) (hf : 3 ≤ R.frames) (hl : Wd + 39 ≤ R.locals) (hc : cells + 1 ≤ R.cells) (hsl : slots + 4 ≤ R.slots)
    (kk : ∀ (T' : State) (h' : Heap) (it : Addr), Wk p l e R s m args below meth c Z a0 EN "java/util/ImmutableCollections$AbstractImmutableList" n0 T' h' (cells + 1) (slots + 4) → Ext h h' → h.size ≤ it → (Exa Z h' it "java/util/ImmutableCollections$ListItr" ∧ Fld Z h' it "java/util/ImmutableCollections$ListItr" "list" "Ljava/util/List;" (.ref la) ∧ Fld Z h' it "java/util/ImmutableCollections$ListItr" "size" "I" (.int (Int32.ofNat ds.length)) ∧ Fld Z h' it "java/util/ImmutableCollections$ListItr" "cursor" "I" (.int 0)) → Fi p e below s Z EF n0 Q kc ks (T'.setTop { g with pc := g.pc + 5, stack := .ref it :: rest })) : Fi p e below s Z EF n0 Q kc ks (T.setTop g) := by
  rcases il_cls F with b1 | b1
  · refine W.callF hx (x := y_25) (y := y_21) (C := "java/util/ImmutableCollections$ListN") (ww hw 307 rfl) (ww hw 308 rfl) (ww hw 309 rfl) rfl (ww hw 382 rfl) (ww hw 311 rfl) (ww hw 312 rfl) (ww hw 383 rfl) (ww hw 168 rfl) (by decide) (Pay5.of_con (Wd := Wd) (rm_itr l Z a0 hw la ds h n0 Z0 F) (ww hw 314 rfl) (ww hw 134 rfl) (hEN hw) (Nat.le_trans (by decide) hf) (Nat.le_trans (by rw [Nat.add_assoc]; exact Nat.add_le_add_left (by decide) _) hl)) b1 hg hsize (argsL := []) (rest := rest) (lenOf pd_10 rfl) hs rfl hW hd hc hsl (fun v T' h' W' sz q => ?_)
    obtain ⟨it, rfl, q2, q3, q4⟩ := q
    exact kk T' h' it W' q2 q3 q4
  · refine W.callF hx (x := y_25) (y := y_21) (C := "java/util/ImmutableCollections$List12") (ww hw 307 rfl) (ww hw 308 rfl) (ww hw 309 rfl) rfl (ww hw 310 rfl) (ww hw 311 rfl) (ww hw 312 rfl) (ww hw 313 rfl) (ww hw 305 rfl) (by decide) (Pay5.of_con (Wd := Wd) (rm_itr l Z a0 hw la ds h n0 Z0 F) (ww hw 314 rfl) (ww hw 134 rfl) (hEN hw) (Nat.le_trans (by decide) hf) (Nat.le_trans (by rw [Nat.add_assoc]; exact Nat.add_le_add_left (by decide) _) hl)) b1 hg hsize (argsL := []) (rest := rest) (lenOf pd_10 rfl) hs rfl hW hd hc hsl (fun v T' h' W' sz q => ?_)
    obtain ⟨it, rfl, q2, q3, q4⟩ := q
    exact kk T' h' it W' q2 q3 q4
theorem step_iff {ds es r r2 : List Int32} {i : Nat} {d d2 : Int32} (H : ds = es ↔ ds.drop i = es.drop i) (h1 : ds.drop i = d :: r) (h1' : ds.drop (i + 1) = r) (h2 : es.drop i = d2 :: r2) (h2' : es.drop (i + 1) = r2) (e : [d] = [d2]) : ds = es ↔ ds.drop (i + 1) = es.drop (i + 1) := by
  rw [List.cons.injEq] at e
  rw [H, h1, h2, h1', h2', e.1]
  exact ⟨fun q => (List.cons.injEq .. ▸ q).2, fun q => by rw [q]⟩
theorem step_ne {ds es r r2 : List Int32} {i : Nat} {d d2 : Int32} (H : ds = es ↔ ds.drop i = es.drop i) (h1 : ds.drop i = d :: r) (h2 : es.drop i = d2 :: r2) (e : ¬ [d] = [d2]) : ¬ ds = es := by
  rw [H, h1, h2]
  intro q
  rw [List.cons.injEq] at q
  exact e (by rw [q.1])
theorem end_eq {ds es : List Int32} {i : Nat} (H : ds = es ↔ ds.drop i = es.drop i) (h1 : i = ds.length) (h2 : i = es.length) : ds = es := by
  rw [H, List.drop_eq_nil_of_le (by omega), List.drop_eq_nil_of_le (by omega)]
theorem end_ne {ds es : List Int32} (h : ¬ ds.length = es.length) : ¬ ds = es := fun q => h (by rw [q])
theorem ofNat_inj {i j : Nat} (hi : i ≤ 4000) (hj : j ≤ 4000) (q : Int32.ofNat i = Int32.ofNat j) : i = j := by
  have u := congrArg Int32.toInt q
  rw [show (Int32.ofNat i).toInt = i from len_toInt (by omega), show (Int32.ofNat j).toInt = j from len_toInt (by omega)] at u
  omega
theorem IL.three {la : Addr} {ds : List Int32} (F : IL Z h n0 la ds) : ds.length ≤ 3 := by
  obtain ⟨_, _, q, _⟩ := F
  exact q
end ILaw4
def Q_aeq (Z : State) (la lb : Addr) (zc : Int32) (ds es : List Int32) (h0 : Heap) (v : Option Value) (h : Heap) : Prop := ∃ r : Int32, v = some (.int r) ∧ ((r = 1 ∧ ds = es) ∨ (r = 0 ∧ ¬ ds = es)) ∧ Ext h0 h
theorem rm_aeq (l : Launch) (Z : State) (a0 : Array Value) (hw : ∀ d ∈ tables_1, d.before a0 Z = true) (la lb : Addr) (zc : Int32) (ds es : List Int32) (h0 : Heap) (n0 : Nat) (Z0 : n0 ≤ h0.size) (S0 : Sta Z h0 "java/lang/String" "COMPACT_STRINGS" "Z" (.int zc)) (hz : ¬ zc = 0) (I1 : IL Z h0 n0 la ds) (I2 : IL Z h0 n0 lb es) :
  Con l Z EN y_28 jdk_46_method_13_code 5 (some .boolean) [] ({ frames := 3, cells := 1, slots := 4, locals := 41 } : Room) #[(.ref la), (.ref lb)] h0 n0 (Q_aeq Z la lb zc ds es h0) := by
 refine Con.intro (own := "java/util/ImmutableCollections$AbstractImmutableList") rfl (plainFor_of_name plain_java_util_ImmutableCollections_AbstractImmutableList) (hEN hw) ?_
 intro p e s m below meth c s₁ hx hby hml hret hlk hnm W0
 refine Fi.cast (show entryFrame m #[(.ref la), (.ref lb)] 5 = (mkF m 0 #[.val (.ref la), .val (.ref lb), .unset, .unset, .unset] []) from by first | (simp [entryFrame, mkF, argsToLocals, Value.category]; done) | rfl) ?_
 refine Fi.by' (st' := s₁.setTop (mkF m 2 #[.val (.ref la), .val (.ref lb), .unset, .unset, .unset] [(.ref la), (.ref lb)])) (fun t k => ?_) ?_
 ·refine XS.aloadN W0.here hx rfl (hb hby d25_0) rfl rfl ?_
  refine XS.aloadN W0.here hx rfl (hb hby d25_1) rfl rfl ?_
  exact k
 by_cases hq2_1 : lb = la
 ·refine Fi.by' (st' := s₁.setTop (mkF m 6 #[.val (.ref la), .val (.ref lb), .unset, .unset, .unset] [(.int 1)])) (fun t k => ?_) ?_
  ·refine XS.acmpNo W0.here hx rfl (hb hby d25_2) rfl (acmpTNe hq2_1) ?_
   refine iconstZ W0.here hx rfl (hb hby d25_5) (z := (1 : Int32)) rfl ?_
   exact k
  exact W0.iret hx hlk hret (by simp) rfl (hb hby d25_6) ⟨_, rfl, Or.inl ⟨rfl, by have u := I2; rw [hq2_1] at u; exact IL.inj I1 u⟩, (ext_refl h0)⟩ (by decide) (by decide)
 ·refine Fi.by' (st' := s₁.setTop (mkF m 8 #[.val (.ref la), .val (.ref lb), .unset, .unset, .unset] [(.ref lb)])) (fun t k => ?_) ?_
  ·refine XS.acmpYes W0.here hx rfl (pc0 := 2) (pc' := 7) rfl (hb hby d25_2) rfl (acmpFNe hq2_1) (by decide) (by decide) ?_
   refine XS.aloadN W0.here hx rfl (hb hby d25_7) rfl rfl ?_
   exact k
  refine W0.instY hx (ww hw 306 rfl) (il_list hw I2) (g := (mkF m 8 #[.val (.ref la), .val (.ref lb), .unset, .unset, .unset] [(.ref lb)])) rfl rfl (hb hby d25_8) (fun T2 W2 => ?_)
  change Fi _ _ _ _ _ _ _ _ _ _ (T2.setTop (mkF m 11 #[.val (.ref la), .val (.ref lb), .unset, .unset, .unset] [(.int 1)]))
  refine Fi.by' (st' := T2.setTop (mkF m 17 #[.val (.ref la), .val (.ref lb), .unset, .unset, .unset] [(.ref lb)])) (fun t k => ?_) ?_
  ·refine XS.ifYes W2.here hx rfl (pc0 := 11) (pc' := 16) rfl (hb hby d25_11) rfl ((if0 _ _).trans (feq (by decide : ¬ ((1 : Int32) = (0 : Int32)))).2) (by decide) (by decide) ?_
   refine XS.aloadN W2.here hx rfl (hb hby d25_16) rfl rfl ?_
   exact k
  refine W2.castY hx (ww hw 306 rfl) (il_list hw I2) (g := (mkF m 17 #[.val (.ref la), .val (.ref lb), .unset, .unset, .unset] [(.ref lb)])) rfl rfl (hb hby d25_17) (fun T3 W3 => ?_)
  change Fi _ _ _ _ _ _ _ _ _ _ (T3.setTop (mkF m 20 #[.val (.ref la), .val (.ref lb), .unset, .unset, .unset] [(.ref lb)]))
  refine il_iter hw W3 hx I2 (by omega) (g := (mkF m 20 #[.val (.ref la), .val (.ref lb), .unset, .unset, .unset] [(.ref lb)])) rfl (by rw [hml]; rfl) rfl (hb hby d25_20) (Wd := 0) (ble_ rfl) (by decide) (by decide) (by decide) (by decide) (fun T4 h4 it W4 E4 gi Y4 => ?_)
  change Fi _ _ _ _ _ _ _ _ _ _ (T4.setTop (mkF m 25 #[.val (.ref la), .val (.ref lb), .unset, .unset, .unset] [(.ref it)]))
  have sz4 := E4.1
  refine Fi.by' (st' := T4.setTop (mkF m 29 #[.val (.ref la), .val (.ref lb), .val (.ref it), .val (.int 0), .unset] [(.ref la)])) (fun t k => ?_) ?_
  ·refine XS.astoreN W4.here hx rfl (hb hby d25_25) rfl rfl (l' := #[.val (.ref la), .val (.ref lb), .val (.ref it), .unset, .unset]) rfl ?_
   refine iconstZ W4.here hx rfl (hb hby d25_26) (z := (0 : Int32)) rfl ?_
   refine XS.istoreN W4.here hx rfl (hb hby d25_27) rfl (l' := #[.val (.ref la), .val (.ref lb), .val (.ref it), .val (.int 0), .unset]) rfl ?_
   refine XS.aloadN W4.here hx rfl (hb hby d25_28) rfl rfl ?_
   exact k
  refine il_size hw W4 hx (I1.ext E4) (by omega) (g := (mkF m 29 #[.val (.ref la), .val (.ref lb), .val (.ref it), .val (.int 0), .unset] [(.ref la)])) rfl (by rw [hml]; rfl) rfl (hb hby d25_29) (Wd := 0) (ble_ rfl) (by decide) (by decide) (by decide) (by decide) (fun T5 W5 => ?_)
  change Fi _ _ _ _ _ _ _ _ _ _ (T5.setTop (mkF m 32 #[.val (.ref la), .val (.ref lb), .val (.ref it), .val (.int 0), .unset] [(.int (Int32.ofNat ds.length))]))
  refine Fi.by' (st' := T5.setTop (mkF m 34 #[.val (.ref la), .val (.ref lb), .val (.ref it), .val (.int 0), .val (.int (Int32.ofNat ds.length))] [])) (fun t k => ?_) ?_
  ·refine XS.istore W5.here hx rfl (hb hby d25_32) rfl (l' := #[.val (.ref la), .val (.ref lb), .val (.ref it), .val (.int 0), .val (.int (Int32.ofNat ds.length))]) rfl ?_
   exact k
  have hd3 := I1.three
  have he3 := I2.three
  have J34 : ∀ (n i : Nat) (T : State) (h : Heap), i + n = ds.length → i ≤ es.length → (ds = es ↔ ds.drop i = es.drop i) → Wk p l e ({ frames := 3, cells := 1, slots := 4, locals := 41 } : Room) s m #[.ref la, .ref lb] below meth c Z a0 EN "java/util/ImmutableCollections$AbstractImmutableList" n0 T h 1 4 → Ext h0 h → (Exa Z h it "java/util/ImmutableCollections$ListItr" ∧ Fld Z h it "java/util/ImmutableCollections$ListItr" "list" "Ljava/util/List;" (.ref lb) ∧ Fld Z h it "java/util/ImmutableCollections$ListItr" "size" "I" (.int (Int32.ofNat es.length)) ∧ Fld Z h it "java/util/ImmutableCollections$ListItr" "cursor" "I" (.int (Int32.ofNat i))) → Fi p e below s Z EN n0 (Q_aeq Z la lb zc ds es h0) 1 4 (T.setTop (mkF m 34 #[.val (.ref la), .val (.ref lb), .val (.ref it), .val (.int (Int32.ofNat i)), .val (.int (Int32.ofNat ds.length))] [])) := by
   intro n
   induction n with
   | zero =>
    intro i T6 h6 hi hie hh W6 E6 Y6
    have sz6 := E6.1
    have hi2 : i = ds.length := by omega
    refine Fi.by' (st' := T6.setTop (mkF m 37 #[.val (.ref la), .val (.ref lb), .val (.ref it), .val (.int (Int32.ofNat i)), .val (.int (Int32.ofNat ds.length))] [(.int (Int32.ofNat ds.length)), (.int (Int32.ofNat i))])) (fun t k => ?_) ?_
    ·refine XS.iloadN W6.here hx rfl (hb hby d25_34) rfl ?_
     refine XS.iload W6.here hx rfl (hb hby d25_35) rfl ?_
     exact k
    refine Fi.by' (st' := T6.setTop (mkF m 75 #[.val (.ref la), .val (.ref lb), .val (.ref it), .val (.int (Int32.ofNat i)), .val (.int (Int32.ofNat ds.length))] [(.ref it)])) (fun t k => ?_) ?_
    ·refine XS.icmpYes W6.here hx rfl (pc0 := 37) (pc' := 74) rfl (hb hby d25_37) rfl (flt (by rw [hi2]; exact Int32.lt_irrefl)).2.1 (by decide) (by decide) ?_
     refine XS.aloadN W6.here hx rfl (hb hby d25_74) rfl rfl ?_
     exact k
    refine W6.callF hx (x := y_26) (y := y_19) (C := "java/util/ImmutableCollections$ListItr") (ww hw 331 rfl) (ww hw 332 rfl) (ww hw 333 rfl) rfl (ww hw 334 rfl) (ww hw 335 rfl) (ww hw 336 rfl) (ww hw 337 rfl) (ww hw 338 rfl) (by decide) (Pay5.of_con (Wd := 0) (rm_hnx l Z a0 hw it _ _ h6 n0 (by omega) Y6.2.2.1 Y6.2.2.2) (ww hw 339 rfl) (ww hw 317 rfl) (hEN hw) (by decide) (by decide)) Y6.1 (g := (mkF m 75 #[.val (.ref la), .val (.ref lb), .val (.ref it), .val (.int (Int32.ofNat i)), .val (.int (Int32.ofNat ds.length))] [(.ref it)])) rfl (by rw [hml]; rfl) (argsL := []) (rest := []) (lenOf pd_2 rfl) rfl rfl (ble_ rfl) (hb hby d25_75) (by decide) (by decide) (fun v7 T7 h7 W7 sz7 q7 => ?_)
    obtain ⟨r7, rfl, hr7, rfl⟩ := q7
    change Fi _ _ _ _ _ _ _ _ _ _ (T7.setTop (mkF m 80 #[.val (.ref la), .val (.ref lb), .val (.ref it), .val (.int (Int32.ofNat i)), .val (.int (Int32.ofNat ds.length))] [(.int r7)]))
    by_cases hc80_8 : r7 = (0 : Int32)
    ·refine Fi.by' (st' := T7.setTop (mkF m 88 #[.val (.ref la), .val (.ref lb), .val (.ref it), .val (.int (Int32.ofNat i)), .val (.int (Int32.ofNat ds.length))] [(.int 1)])) (fun t k => ?_) ?_
     ·refine XS.ifNo W7.here hx rfl (hb hby d25_80) rfl ((if0 _ _).trans (teq hc80_8).2) ?_
      refine iconstZ W7.here hx rfl (hb hby d25_83) (z := (1 : Int32)) rfl ?_
      refine XS.goto W7.here hx rfl (pc0 := 84) (pc' := 88) rfl (hb hby d25_84) (by decide) (by decide) ?_
      exact k
     have hee : i = es.length := ofNat_inj (by omega) (by omega) ((hr7.resolve_left (fun u => absurd (u.1.symm.trans hc80_8) (by decide))).2)
     exact W7.iret hx hlk hret (by simp) rfl (hb hby d25_88) ⟨_, rfl, Or.inl ⟨rfl, end_eq hh hi2 hee⟩, E6⟩ (by decide) (by decide)
    ·refine Fi.by' (st' := T7.setTop (mkF m 88 #[.val (.ref la), .val (.ref lb), .val (.ref it), .val (.int (Int32.ofNat i)), .val (.int (Int32.ofNat ds.length))] [(.int 0)])) (fun t k => ?_) ?_
     ·refine XS.ifYes W7.here hx rfl (pc0 := 80) (pc' := 87) rfl (hb hby d25_80) rfl ((if0 _ _).trans (feq hc80_8).2) (by decide) (by decide) ?_
      refine iconstZ W7.here hx rfl (hb hby d25_87) (z := (0 : Int32)) rfl ?_
      exact k
     have hne : ¬ ds.length = es.length := fun q => (hr7.resolve_right (fun u => absurd u.1 hc80_8)).2 (by rw [hi2, q])
     exact W7.iret hx hlk hret (by simp) rfl (hb hby d25_88) ⟨_, rfl, Or.inr ⟨rfl, end_ne hne⟩, E6⟩ (by decide) (by decide)
   | succ n ih =>
    intro i T9 h9 hi hie hh W9 E9 Y9
    have sz9 := E9.1
    obtain ⟨d, r, hdr, hdr2⟩ := drop_cons hi
    refine Fi.by' (st' := T9.setTop (mkF m 37 #[.val (.ref la), .val (.ref lb), .val (.ref it), .val (.int (Int32.ofNat i)), .val (.int (Int32.ofNat ds.length))] [(.int (Int32.ofNat ds.length)), (.int (Int32.ofNat i))])) (fun t k => ?_) ?_
    ·refine XS.iloadN W9.here hx rfl (hb hby d25_34) rfl ?_
     refine XS.iload W9.here hx rfl (hb hby d25_35) rfl ?_
     exact k
    refine Fi.by' (st' := T9.setTop (mkF m 41 #[.val (.ref la), .val (.ref lb), .val (.ref it), .val (.int (Int32.ofNat i)), .val (.int (Int32.ofNat ds.length))] [(.ref it)])) (fun t k => ?_) ?_
    ·refine XS.icmpNo W9.here hx rfl (hb hby d25_37) rfl (tlt ((ofNat_lt (by omega) (by omega)).2)).2.1 ?_
     refine XS.aloadN W9.here hx rfl (hb hby d25_40) rfl rfl ?_
     exact k
    refine W9.callF hx (x := y_26) (y := y_19) (C := "java/util/ImmutableCollections$ListItr") (ww hw 331 rfl) (ww hw 332 rfl) (ww hw 333 rfl) rfl (ww hw 334 rfl) (ww hw 335 rfl) (ww hw 336 rfl) (ww hw 337 rfl) (ww hw 338 rfl) (by decide) (Pay5.of_con (Wd := 0) (rm_hnx l Z a0 hw it _ _ h9 n0 (by omega) Y9.2.2.1 Y9.2.2.2) (ww hw 339 rfl) (ww hw 317 rfl) (hEN hw) (by decide) (by decide)) Y9.1 (g := (mkF m 41 #[.val (.ref la), .val (.ref lb), .val (.ref it), .val (.int (Int32.ofNat i)), .val (.int (Int32.ofNat ds.length))] [(.ref it)])) rfl (by rw [hml]; rfl) (argsL := []) (rest := []) (lenOf pd_2 rfl) rfl rfl (ble_ rfl) (hb hby d25_41) (by decide) (by decide) (fun v10 T10 h10 W10 sz10 q10 => ?_)
    obtain ⟨r10, rfl, hr10, rfl⟩ := q10
    change Fi _ _ _ _ _ _ _ _ _ _ (T10.setTop (mkF m 46 #[.val (.ref la), .val (.ref lb), .val (.ref it), .val (.int (Int32.ofNat i)), .val (.int (Int32.ofNat ds.length))] [(.int r10)]))
    by_cases hc46_11 : r10 = (0 : Int32)
    ·refine Fi.by' (st' := T10.setTop (mkF m 67 #[.val (.ref la), .val (.ref lb), .val (.ref it), .val (.int (Int32.ofNat i)), .val (.int (Int32.ofNat ds.length))] [(.int 0)])) (fun t k => ?_) ?_
     ·refine XS.ifYes W10.here hx rfl (pc0 := 46) (pc' := 66) rfl (hb hby d25_46) rfl ((if0 _ _).trans (teq hc46_11).1) (by decide) (by decide) ?_
      refine iconstZ W10.here hx rfl (hb hby d25_66) (z := (0 : Int32)) rfl ?_
      exact k
     have hee : i = es.length := ofNat_inj (by omega) (by omega) ((hr10.resolve_left (fun u => absurd (u.1.symm.trans hc46_11) (by decide))).2)
     exact W10.iret hx hlk hret (by simp) rfl (hb hby d25_67) ⟨_, rfl, Or.inr ⟨rfl, end_ne (by omega)⟩, E9⟩ (by decide) (by decide)
    ·refine Fi.by' (st' := T10.setTop (mkF m 51 #[.val (.ref la), .val (.ref lb), .val (.ref it), .val (.int (Int32.ofNat i)), .val (.int (Int32.ofNat ds.length))] [(.int (Int32.ofNat i)), (.ref la)])) (fun t k => ?_) ?_
     ·refine XS.ifNo W10.here hx rfl (hb hby d25_46) rfl ((if0 _ _).trans (feq hc46_11).1) ?_
      refine XS.aloadN W10.here hx rfl (hb hby d25_49) rfl rfl ?_
      refine XS.iloadN W10.here hx rfl (hb hby d25_50) rfl ?_
      exact k
     refine il_get hw W10 hx (I1.ext E9) (by omega) hdr (g := (mkF m 51 #[.val (.ref la), .val (.ref lb), .val (.ref it), .val (.int (Int32.ofNat i)), .val (.int (Int32.ofNat ds.length))] [(.int (Int32.ofNat i)), (.ref la)])) rfl (by rw [hml]; rfl) rfl (hb hby d25_51) (Wd := 0) (ble_ rfl) (by decide) (by decide) (by decide) (by decide) (fun T12 x12 W12 U12 gx12 => ?_)
     change Fi _ _ _ _ _ _ _ _ _ _ (T12.setTop (mkF m 54 #[.val (.ref la), .val (.ref lb), .val (.ref it), .val (.int (Int32.ofNat i)), .val (.int (Int32.ofNat ds.length))] [(.ref x12)]))
     refine Fi.by' (st' := T12.setTop (mkF m 55 #[.val (.ref la), .val (.ref lb), .val (.ref it), .val (.int (Int32.ofNat i)), .val (.int (Int32.ofNat ds.length))] [(.ref it), (.ref x12)])) (fun t k => ?_) ?_
     ·refine XS.aloadN W12.here hx rfl (hb hby d25_54) rfl rfl ?_
      exact k
     have hlt : i < es.length := by
      have u := hr10.resolve_right (fun u => absurd u.1 hc46_11)
      have u2 : ¬ i = es.length := fun q => u.2 (by rw [q])
      omega
     obtain ⟨d2, r2, hes, hes2⟩ := drop_cons (ds := es) (i := i) (n := es.length - i - 1) (by omega)
     refine W12.callF hx (x := y_27) (y := y_18) (C := "java/util/ImmutableCollections$ListItr") (ww hw 340 rfl) (ww hw 341 rfl) (ww hw 342 rfl) rfl (ww hw 343 rfl) (ww hw 344 rfl) (ww hw 345 rfl) (ww hw 346 rfl) (ww hw 338 rfl) (by decide) (payNX (Wd := 1) hw (by omega) (by omega) Y9.1 Y9.2.1 Y9.2.2.1 Y9.2.2.2 (I2.ext E9) hes (by decide) (by decide)) Y9.1 (g := (mkF m 55 #[.val (.ref la), .val (.ref lb), .val (.ref it), .val (.int (Int32.ofNat i)), .val (.int (Int32.ofNat ds.length))] [(.ref it), (.ref x12)])) rfl (by rw [hml]; rfl) (argsL := []) (rest := [(.ref x12)]) (lenOf pd_11 rfl) rfl rfl (ble_ rfl) (hb hby d25_55) (by decide) (by decide) (fun v13 T13 h13 W13 sz13 q13 => ?_)
     obtain ⟨y13, rfl, U13, gy13, K13, Y13⟩ := q13
     change Fi _ _ _ _ _ _ _ _ _ _ (T13.setTop (mkF m 60 #[.val (.ref la), .val (.ref lb), .val (.ref it), .val (.int (Int32.ofNat i)), .val (.int (Int32.ofNat ds.length))] [(.ref y13), (.ref x12)]))
     have x13k : Ext h0 h13 := ext_keep1 E9 K13 (by omega)
     refine W13.callS hx (y := y_24) (ww hw 353 rfl) (ww hw 354 rfl) (ww hw 106 rfl) (ww hw 355 rfl) (by decide) (Pay.of_con (Wd := 0) (rm_oeq l Z a0 hw x12 y13 zc [d] [d2] h13 n0 (by omega) (Sta.ext x13k S0) hz (StrH.keep U12 K13 Y9.1 (by decide) (ww hw 316 rfl)) (StrH.keep U13 K13 Y9.1 (by decide) (ww hw 316 rfl))) (ww hw 355 rfl) (ww hw 106 rfl) (hEN hw) (by decide) (by decide)) (g := (mkF m 60 #[.val (.ref la), .val (.ref lb), .val (.ref it), .val (.int (Int32.ofNat i)), .val (.int (Int32.ofNat ds.length))] [(.ref y13), (.ref x12)])) rfl (by rw [hml]; rfl) (argsL := [(.ref x12), (.ref y13)]) (rest := []) (lenOf pd_12 rfl) rfl rfl (ble_ rfl) (hb hby d25_60) (by decide) (by decide) (fun v14 T14 h14 W14 sz14 q14 => ?_)
     obtain ⟨r14, rfl, hr14, rfl⟩ := q14
     change Fi _ _ _ _ _ _ _ _ _ _ (T14.setTop (mkF m 63 #[.val (.ref la), .val (.ref lb), .val (.ref it), .val (.int (Int32.ofNat i)), .val (.int (Int32.ofNat ds.length))] [(.int r14)]))
     by_cases hc63_15 : r14 = (0 : Int32)
     ·refine Fi.by' (st' := T14.setTop (mkF m 67 #[.val (.ref la), .val (.ref lb), .val (.ref it), .val (.int (Int32.ofNat i)), .val (.int (Int32.ofNat ds.length))] [(.int 0)])) (fun t k => ?_) ?_
      ·refine XS.ifNo W14.here hx rfl (hb hby d25_63) rfl ((if0 _ _).trans (teq hc63_15).2) ?_
       refine iconstZ W14.here hx rfl (hb hby d25_66) (z := (0 : Int32)) rfl ?_
       exact k
      exact W14.iret hx hlk hret (by simp) rfl (hb hby d25_67) ⟨_, rfl, Or.inr ⟨rfl, step_ne hh hdr hes (eq_no hr14 hc63_15)⟩, x13k⟩ (by decide) (by decide)
     ·refine Fi.by' (st' := T14.setTop (mkF m 34 #[.val (.ref la), .val (.ref lb), .val (.ref it), .val (.int ((Int32.ofNat i) + (1 : Int32))), .val (.int (Int32.ofNat ds.length))] [])) (fun t k => ?_) ?_
      ·refine XS.ifYes W14.here hx rfl (pc0 := 63) (pc' := 68) rfl (hb hby d25_63) rfl ((if0 _ _).trans (feq hc63_15).2) (by decide) (by decide) ?_
       refine XS.iinc W14.here hx rfl (hb hby d25_68) rfl (l' := #[.val (.ref la), .val (.ref lb), .val (.ref it), .val (.int ((Int32.ofNat i) + (1 : Int32))), .val (.int (Int32.ofNat ds.length))]) rfl ?_
       refine XS.goto W14.here hx rfl (pc0 := 71) (pc' := 34) rfl (hb hby d25_71) (by decide) (by decide) ?_
       exact k
      rw [show (Int32.ofNat i) + (1 : Int32) = Int32.ofNat (i + 1) from ofNat_succ i]
      exact ih (i + 1) T14 h13 (by omega) (by omega) (step_iff hh hdr hdr2 hes hes2 (eq_yes hr14 hc63_15)) W14 x13k Y13
  exact J34 ds.length 0 T5 h4 (by omega) (by omega) Iff.rfl W5 E4 Y4
/-! List.equals at a call -/
section ILaw5
variable {p : Program} {l : Launch} {e : Env} {R : Room} {s : State} {m : MethodId} {args : Array Value} {below : List Frame} {meth : Method} {c : Code} {Z : State} {a0 : Array Value} {EF : List (String × Nat)} {n0 : Nat} {T : State} {h h' : Heap} {cells slots : Nat} {Q : Option Value → Heap → Prop} {kc ks : Nat}
theorem il_eq (hw : ∀ d ∈ tables_1, d.before a0 Z = true) (W : Wk p l e R s m args below meth c Z a0 EN "com/example/weftwork/weftwork/model/Service" n0 T h cells slots) (hx : p.tables.exec = Jvm.exec) {la lb : Addr} {ds es : List Int32} {zc : Int32} (F : IL Z h n0 la ds) (G : IL Z h n0 lb es) (Z0 : n0 ≤ h.size) (S0 : Sta Z h "java/lang/String" "COMPACT_STRINGS" "Z" (.int zc)) (hz : ¬ zc = 0)
    {g : JFrame} (hg : g.method = m) (hsize : g.locals.size = c.maxLocals) {rest : List Value} (hs : g.stack = .ref lb :: .ref la :: rest) (hd : decode c.code g.pc = .ok (.invokeinterface 32 2, 5)) {Wd : Nat} (hW : 2 * g.monitorRoom + (rest.map fun v => v.category).sum ≤ Wd) (hf : 4 ≤ R.frames) (hl : Wd + 57 ≤ R.locals) (hc : cells + 1 ≤ R.cells) (hsl : slots + 4 ≤ R.slots)
    (kk : ∀ (T' : State) (h' : Heap) (r : Int32), Wk p l e R s m args below meth c Z a0 EN "com/example/weftwork/weftwork/model/Service" n0 T' h' (cells + 1) (slots + 4) → Ext h h' → ((r = 1 ∧ ds = es) ∨ (r = 0 ∧ ¬ ds = es)) → Fi p e below s Z EF n0 Q kc ks (T'.setTop { g with pc := g.pc + 5, stack := .int r :: rest })) : Fi p e below s Z EF n0 Q kc ks (T.setTop g) := by
  rcases il_cls F with b1 | b1
  · refine W.callF hx (x := y_29) (y := y_28) (C := "java/util/ImmutableCollections$ListN") (ww hw 161 rfl) (ww hw 162 rfl) (ww hw 163 rfl) rfl (ww hw 164 rfl) (ww hw 165 rfl) (ww hw 166 rfl) (ww hw 167 rfl) (ww hw 168 rfl) (by decide) (Pay5.of_con (Wd := Wd) (rm_aeq l Z a0 hw la lb zc ds es h n0 Z0 S0 hz F G) (ww hw 169 rfl) (ww hw 134 rfl) (hEN hw) (Nat.le_trans (by decide) hf) (Nat.le_trans (by rw [Nat.add_assoc]; exact Nat.add_le_add_left (by decide) _) hl)) b1 hg hsize (argsL := [.ref lb]) (rest := rest) (lenOf pd_9 rfl) hs rfl hW hd hc hsl (fun v T' h' W' sz q => ?_)
    obtain ⟨r, rfl, q2, q3⟩ := q
    exact kk T' h' r W' q3 q2
  · refine W.callF hx (x := y_29) (y := y_28) (C := "java/util/ImmutableCollections$List12") (ww hw 161 rfl) (ww hw 162 rfl) (ww hw 163 rfl) rfl (ww hw 303 rfl) (ww hw 165 rfl) (ww hw 166 rfl) (ww hw 304 rfl) (ww hw 305 rfl) (by decide) (Pay5.of_con (Wd := Wd) (rm_aeq l Z a0 hw la lb zc ds es h n0 Z0 S0 hz F G) (ww hw 169 rfl) (ww hw 134 rfl) (hEN hw) (Nat.le_trans (by decide) hf) (Nat.le_trans (by rw [Nat.add_assoc]; exact Nat.add_le_add_left (by decide) _) hl)) b1 hg hsize (argsL := [.ref lb]) (rest := rest) (lenOf pd_9 rfl) hs rfl hW hd hc hsl (fun v T' h' W' sz q => ?_)
    obtain ⟨r, rfl, q2, q3⟩ := q
    exact kk T' h' r W' q3 q2
end ILaw5
def Q_seq (Z : State) (sx nx la lb sy ny lc le : Addr) (zc : Int32) (cs ds es cs' ds' es' : List Int32) (h0 : Heap) (v : Option Value) (h : Heap) : Prop := ∃ r : Int32, v = some (.int r) ∧ (r = 0 ∨ (cs = cs' ∧ ds = ds' ∧ es = es')) ∧ Ext h0 h
theorem rm_seq (l : Launch) (Z : State) (a0 : Array Value) (hw : ∀ d ∈ tables_1, d.before a0 Z = true) (sx nx la lb sy ny lc le : Addr) (zc : Int32) (cs ds es cs' ds' es' : List Int32) (h0 : Heap) (n0 : Nat) (Z0 : n0 ≤ h0.size) (S0 : Sta Z h0 "java/lang/String" "COMPACT_STRINGS" "Z" (.int zc)) (hz : ¬ zc = 0) (E4 : Exa Z h0 sx "com/example/weftwork/weftwork/model/Service") (F41 : Fld Z h0 sx "com/example/weftwork/weftwork/model/Service" "name" "Ljava/lang/String;" (.ref nx)) (F42 : Fld Z h0 sx "com/example/weftwork/weftwork/model/Service" "inputs" "Ljava/util/List;" (.ref la)) (F43 : Fld Z h0 sx "com/example/weftwork/weftwork/model/Service" "outputs" "Ljava/util/List;" (.ref lb)) (E5 : Exa Z h0 sy "com/example/weftwork/weftwork/model/Service") (F51 : Fld Z h0 sy "com/example/weftwork/weftwork/model/Service" "name" "Ljava/lang/String;" (.ref ny)) (F52 : Fld Z h0 sy "com/example/weftwork/weftwork/model/Service" "inputs" "Ljava/util/List;" (.ref lc)) (F53 : Fld Z h0 sy "com/example/weftwork/weftwork/model/Service" "outputs" "Ljava/util/List;" (.ref le)) (U4 : StrH Z h0 nx cs) (I41 : IL Z h0 n0 la ds) (I42 : IL Z h0 n0 lb es) (U5 : StrH Z h0 ny cs') (I51 : IL Z h0 n0 lc ds') (I52 : IL Z h0 n0 le es') :
  Con l Z EN y_30 prog_28_method_5_code 3 (some .boolean) [] ({ frames := 4, cells := 2, slots := 8, locals := 57 } : Room) #[(.ref sx), (.ref sy)] h0 n0 (Q_seq Z sx nx la lb sy ny lc le zc cs ds es cs' ds' es' h0) := by
 refine Con.intro (own := "com/example/weftwork/weftwork/model/Service") rfl (plainFor_of_name plain_com_example_weftwork_weftwork_model_Service) (hEN hw) ?_
 intro p e s m below meth c s₁ hx hby hml hret hlk hnm W0
 refine Fi.cast (show entryFrame m #[(.ref sx), (.ref sy)] 3 = (mkF m 0 #[.val (.ref sx), .val (.ref sy), .unset] []) from by first | (simp [entryFrame, mkF, argsToLocals, Value.category]; done) | rfl) ?_
 refine Fi.by' (st' := s₁.setTop (mkF m 1 #[.val (.ref sx), .val (.ref sy), .unset] [(.ref sy)])) (fun t k => ?_) ?_
 ·refine XS.aloadN W0.here hx rfl (hb hby d22_0) rfl rfl ?_
  exact k
 refine W0.instY hx (ww hw 150 rfl) (Ins.self E5) (g := (mkF m 1 #[.val (.ref sx), .val (.ref sy), .unset] [(.ref sy)])) rfl rfl (hb hby d22_1) (fun T1 W1 => ?_)
 change Fi _ _ _ _ _ _ _ _ _ _ (T1.setTop (mkF m 4 #[.val (.ref sx), .val (.ref sy), .unset] [(.int 1)]))
 refine Fi.by' (st' := T1.setTop (mkF m 8 #[.val (.ref sx), .val (.ref sy), .unset] [(.ref sy)])) (fun t k => ?_) ?_
 ·refine XS.ifNo W1.here hx rfl (hb hby d22_4) rfl ((if0 _ _).trans (feq (by decide : ¬ ((1 : Int32) = (0 : Int32)))).1) ?_
  refine XS.aloadN W1.here hx rfl (hb hby d22_7) rfl rfl ?_
  exact k
 refine W1.castY hx (ww hw 150 rfl) (Ins.self E5) (g := (mkF m 8 #[.val (.ref sx), .val (.ref sy), .unset] [(.ref sy)])) rfl rfl (hb hby d22_8) (fun T2 W2 => ?_)
 change Fi _ _ _ _ _ _ _ _ _ _ (T2.setTop (mkF m 11 #[.val (.ref sx), .val (.ref sy), .unset] [(.ref sy)]))
 refine Fi.by' (st' := T2.setTop (mkF m 13 #[.val (.ref sx), .val (.ref sy), .val (.ref sy)] [(.ref sx)])) (fun t k => ?_) ?_
 ·refine XS.astoreN W2.here hx rfl (hb hby d22_11) rfl rfl (l' := #[.val (.ref sx), .val (.ref sy), .val (.ref sy)]) rfl ?_
  refine XS.aloadN W2.here hx rfl (hb hby d22_12) rfl rfl ?_
  exact k
 refine W2.getF hx (ww hw 60 rfl) F41 (g := (mkF m 13 #[.val (.ref sx), .val (.ref sy), .val (.ref sy)] [(.ref sx)])) rfl rfl (hb hby d22_13) (fun T3 W3 => ?_)
 change Fi _ _ _ _ _ _ _ _ _ _ (T3.setTop (mkF m 16 #[.val (.ref sx), .val (.ref sy), .val (.ref sy)] [(.ref nx)]))
 refine Fi.by' (st' := T3.setTop (mkF m 17 #[.val (.ref sx), .val (.ref sy), .val (.ref sy)] [(.ref sy), (.ref nx)])) (fun t k => ?_) ?_
 ·refine XS.aloadN W3.here hx rfl (hb hby d22_16) rfl rfl ?_
  exact k
 refine W3.getF hx (ww hw 60 rfl) F51 (g := (mkF m 17 #[.val (.ref sx), .val (.ref sy), .val (.ref sy)] [(.ref sy), (.ref nx)])) rfl rfl (hb hby d22_17) (fun T4 W4 => ?_)
 change Fi _ _ _ _ _ _ _ _ _ _ (T4.setTop (mkF m 20 #[.val (.ref sx), .val (.ref sy), .val (.ref sy)] [(.ref ny), (.ref nx)]))
 refine W4.callV hx (y := y_22) (C := "java/lang/String") (ww hw 152 rfl) (ww hw 153 rfl) (ww hw 155 rfl) (ww hw 154 rfl) (by decide) (payQ (Wd := 0) hw (U4).l (U5).l S0 hz (by decide) (by decide)) (U4).exa (g := (mkF m 20 #[.val (.ref sx), .val (.ref sy), .val (.ref sy)] [(.ref ny), (.ref nx)])) rfl (by rw [hml]; rfl) (argsL := [(.ref ny)]) (rest := []) (lenOf pd_9 rfl) rfl rfl (ble_ rfl) (hb hby d22_20) (by decide) (by decide) (fun v5 T5 h5 W5 sz5 q5 => ?_)
 obtain ⟨⟨r5, rfl, hr5⟩, rfl⟩ := q5
 change Fi _ _ _ _ _ _ _ _ _ _ (T5.setTop (mkF m 23 #[.val (.ref sx), .val (.ref sy), .val (.ref sy)] [(.int r5)]))
 by_cases hc23_6 : r5 = (0 : Int32)
 ·refine Fi.by' (st' := T5.setTop (mkF m 63 #[.val (.ref sx), .val (.ref sy), .val (.ref sy)] [(.int 0)])) (fun t k => ?_) ?_
  ·refine XS.ifYes W5.here hx rfl (pc0 := 23) (pc' := 62) rfl (hb hby d22_23) rfl ((if0 _ _).trans (teq hc23_6).1) (by decide) (by decide) ?_
   refine iconstZ W5.here hx rfl (hb hby d22_62) (z := (0 : Int32)) rfl ?_
   exact k
  exact W5.iret hx hlk hret (by simp) rfl (hb hby d22_63) ⟨_, rfl, Or.inl rfl, (ext_refl h0)⟩ (by decide) (by decide)
 ·refine Fi.by' (st' := T5.setTop (mkF m 27 #[.val (.ref sx), .val (.ref sy), .val (.ref sy)] [(.ref sx)])) (fun t k => ?_) ?_
  ·refine XS.ifNo W5.here hx rfl (hb hby d22_23) rfl ((if0 _ _).trans (feq hc23_6).1) ?_
   refine XS.aloadN W5.here hx rfl (hb hby d22_26) rfl rfl ?_
   exact k
  refine W5.getF hx (ww hw 91 rfl) F42 (g := (mkF m 27 #[.val (.ref sx), .val (.ref sy), .val (.ref sy)] [(.ref sx)])) rfl rfl (hb hby d22_27) (fun T7 W7 => ?_)
  change Fi _ _ _ _ _ _ _ _ _ _ (T7.setTop (mkF m 30 #[.val (.ref sx), .val (.ref sy), .val (.ref sy)] [(.ref la)]))
  refine Fi.by' (st' := T7.setTop (mkF m 31 #[.val (.ref sx), .val (.ref sy), .val (.ref sy)] [(.ref sy), (.ref la)])) (fun t k => ?_) ?_
  ·refine XS.aloadN W7.here hx rfl (hb hby d22_30) rfl rfl ?_
   exact k
  refine W7.getF hx (ww hw 91 rfl) F52 (g := (mkF m 31 #[.val (.ref sx), .val (.ref sy), .val (.ref sy)] [(.ref sy), (.ref la)])) rfl rfl (hb hby d22_31) (fun T8 W8 => ?_)
  change Fi _ _ _ _ _ _ _ _ _ _ (T8.setTop (mkF m 34 #[.val (.ref sx), .val (.ref sy), .val (.ref sy)] [(.ref lc), (.ref la)]))
  refine il_eq hw W8 hx I41 I51 (by omega) S0 hz (g := (mkF m 34 #[.val (.ref sx), .val (.ref sy), .val (.ref sy)] [(.ref lc), (.ref la)])) rfl (by rw [hml]; rfl) rfl (hb hby d22_34) (Wd := 0) (ble_ rfl) (by decide) (by decide) (by decide) (by decide) (fun T9 h9 r9 W9 E9 hr9 => ?_)
  change Fi _ _ _ _ _ _ _ _ _ _ (T9.setTop (mkF m 39 #[.val (.ref sx), .val (.ref sy), .val (.ref sy)] [(.int r9)]))
  have sz9 := E9.1
  by_cases hc39_10 : r9 = (0 : Int32)
  ·refine Fi.by' (st' := T9.setTop (mkF m 63 #[.val (.ref sx), .val (.ref sy), .val (.ref sy)] [(.int 0)])) (fun t k => ?_) ?_
   ·refine XS.ifYes W9.here hx rfl (pc0 := 39) (pc' := 62) rfl (hb hby d22_39) rfl ((if0 _ _).trans (teq hc39_10).1) (by decide) (by decide) ?_
    refine iconstZ W9.here hx rfl (hb hby d22_62) (z := (0 : Int32)) rfl ?_
    exact k
   exact W9.iret hx hlk hret (by simp) rfl (hb hby d22_63) ⟨_, rfl, Or.inl rfl, E9⟩ (by decide) (by decide)
  ·refine Fi.by' (st' := T9.setTop (mkF m 43 #[.val (.ref sx), .val (.ref sy), .val (.ref sy)] [(.ref sx)])) (fun t k => ?_) ?_
   ·refine XS.ifNo W9.here hx rfl (hb hby d22_39) rfl ((if0 _ _).trans (feq hc39_10).1) ?_
    refine XS.aloadN W9.here hx rfl (hb hby d22_42) rfl rfl ?_
    exact k
   refine W9.getF hx (ww hw 93 rfl) (Fld.ext E9 F43) (g := (mkF m 43 #[.val (.ref sx), .val (.ref sy), .val (.ref sy)] [(.ref sx)])) rfl rfl (hb hby d22_43) (fun T11 W11 => ?_)
   change Fi _ _ _ _ _ _ _ _ _ _ (T11.setTop (mkF m 46 #[.val (.ref sx), .val (.ref sy), .val (.ref sy)] [(.ref lb)]))
   refine Fi.by' (st' := T11.setTop (mkF m 47 #[.val (.ref sx), .val (.ref sy), .val (.ref sy)] [(.ref sy), (.ref lb)])) (fun t k => ?_) ?_
   ·refine XS.aloadN W11.here hx rfl (hb hby d22_46) rfl rfl ?_
    exact k
   refine W11.getF hx (ww hw 93 rfl) (Fld.ext E9 F53) (g := (mkF m 47 #[.val (.ref sx), .val (.ref sy), .val (.ref sy)] [(.ref sy), (.ref lb)])) rfl rfl (hb hby d22_47) (fun T12 W12 => ?_)
   change Fi _ _ _ _ _ _ _ _ _ _ (T12.setTop (mkF m 50 #[.val (.ref sx), .val (.ref sy), .val (.ref sy)] [(.ref le), (.ref lb)]))
   refine il_eq hw W12 hx (I42.ext E9) (I52.ext E9) (by omega) (Sta.ext E9 S0) hz (g := (mkF m 50 #[.val (.ref sx), .val (.ref sy), .val (.ref sy)] [(.ref le), (.ref lb)])) rfl (by rw [hml]; rfl) rfl (hb hby d22_50) (Wd := 0) (ble_ rfl) (by decide) (by decide) (by decide) (by decide) (fun T13 h13 r13 W13 E13 hr13 => ?_)
   change Fi _ _ _ _ _ _ _ _ _ _ (T13.setTop (mkF m 55 #[.val (.ref sx), .val (.ref sy), .val (.ref sy)] [(.int r13)]))
   have sz13 := E13.1
   by_cases hc55_14 : r13 = (0 : Int32)
   ·refine Fi.by' (st' := T13.setTop (mkF m 63 #[.val (.ref sx), .val (.ref sy), .val (.ref sy)] [(.int 0)])) (fun t k => ?_) ?_
    ·refine XS.ifYes W13.here hx rfl (pc0 := 55) (pc' := 62) rfl (hb hby d22_55) rfl ((if0 _ _).trans (teq hc55_14).1) (by decide) (by decide) ?_
     refine iconstZ W13.here hx rfl (hb hby d22_62) (z := (0 : Int32)) rfl ?_
     exact k
    have x15 : Ext h0 h13 := ext_trans E9 E13
    exact W13.iret hx hlk hret (by simp) rfl (hb hby d22_63) ⟨_, rfl, Or.inl rfl, x15⟩ (by decide) (by decide)
   ·refine Fi.by' (st' := T13.setTop (mkF m 63 #[.val (.ref sx), .val (.ref sy), .val (.ref sy)] [(.int 1)])) (fun t k => ?_) ?_
    ·refine XS.ifNo W13.here hx rfl (hb hby d22_55) rfl ((if0 _ _).trans (feq hc55_14).1) ?_
     refine iconstZ W13.here hx rfl (hb hby d22_58) (z := (1 : Int32)) rfl ?_
     refine XS.goto W13.here hx rfl (pc0 := 59) (pc' := 63) rfl (hb hby d22_59) (by decide) (by decide) ?_
     exact k
    have x16 : Ext h0 h13 := ext_trans E9 E13
    exact W13.iret hx hlk hret (by simp) rfl (hb hby d22_63) ⟨_, rfl, Or.inr ⟨eq_yes hr5 hc23_6, eq_yes hr9 hc39_10, eq_yes hr13 hc55_14⟩, x16⟩ (by decide) (by decide)
def Q_nam (Z : State) (pa pn zc : Int32) (h0 : Heap) (v : Option Value) (h : Heap) : Prop := ∃ (x : Addr) (cs : List Int32), v = some (.ref x) ∧ Ext h0 h ∧ h0.size ≤ x ∧ StrH Z h x cs
theorem rm_nam (l : Launch) (Z : State) (a0 : Array Value) (hw : ∀ d ∈ tables_1, d.before a0 Z = true) (pa pn zc : Int32) (h0 : Heap) (n0 : Nat) (Z0 : n0 ≤ h0.size) (S0 : Sta Z h0 "java/lang/String" "COMPACT_STRINGS" "Z" (.int zc)) (hz : ¬ zc = 0) :
  Con l Z EL y_33 method_2_code 4 (some (.object "java/lang/String")) [] ({ frames := 4, cells := 6, slots := 12, locals := 66 } : Room) #[(.int pa), (.int pn)] h0 n0 (Q_nam Z pa pn zc h0) := by
 refine Con.intro (own := "com/example/weftwork/weftwork/model/ServiceHashCodePinLaw") rfl (plainFor_of_name plain_com_example_weftwork_weftwork_model_ServiceHashCodePinLaw) (hEL hw) ?_
 intro p e s m below meth c s₁ hx hby hml hret hlk hnm W0
 refine Fi.cast (show entryFrame m #[(.int pa), (.int pn)] 4 = (mkF m 0 #[.val (.int pa), .val (.int pn), .unset, .unset] []) from by first | (simp [entryFrame, mkF, argsToLocals, Value.category]; done) | rfl) ?_
 refine Fi.by' (st' := s₁.setTop (mkF m 18 #[.val (.int pa), .val (.int pn), .val (.int (pa &&& (255 : Int32))), .val (.int (((pa.toUInt32 >>> ((8 : Int32) &&& 31).toUInt32).toInt32) &&& (255 : Int32)))] [(.int pn)])) (fun t k => ?_) ?_
 ·refine XS.iloadN W0.here hx rfl (hb hby d1_0) rfl ?_
  refine sipushZ W0.here hx rfl (hb hby d1_1) (z := (255 : Int32)) rfl ?_
  refine XS.iand W0.here hx rfl (hb hby d1_4) rfl ?_
  refine i2cZ W0.here hx rfl (hb hby d1_5) rfl (z := (pa &&& (255 : Int32))) (i2c_mask _) ?_
  refine XS.istoreN W0.here hx rfl (hb hby d1_6) rfl (l' := #[.val (.int pa), .val (.int pn), .val (.int (pa &&& (255 : Int32))), .unset]) rfl ?_
  refine XS.iloadN W0.here hx rfl (hb hby d1_7) rfl ?_
  refine bipushZ W0.here hx rfl (hb hby d1_8) (z := (8 : Int32)) rfl ?_
  refine XS.iushr W0.here hx rfl (hb hby d1_10) rfl ?_
  refine sipushZ W0.here hx rfl (hb hby d1_11) (z := (255 : Int32)) rfl ?_
  refine XS.iand W0.here hx rfl (hb hby d1_14) rfl ?_
  refine i2cZ W0.here hx rfl (hb hby d1_15) rfl (z := (((pa.toUInt32 >>> ((8 : Int32) &&& 31).toUInt32).toInt32) &&& (255 : Int32))) (i2c_mask _) ?_
  refine XS.istoreN W0.here hx rfl (hb hby d1_16) rfl (l' := #[.val (.int pa), .val (.int pn), .val (.int (pa &&& (255 : Int32))), .val (.int (((pa.toUInt32 >>> ((8 : Int32) &&& 31).toUInt32).toInt32) &&& (255 : Int32)))]) rfl ?_
  refine XS.iloadN W0.here hx rfl (hb hby d1_17) rfl ?_
  exact k
 by_cases hc18_1 : pn = (0 : Int32)
 ·refine Fi.by' (st' := s₁.setTop (mkF m 21 #[.val (.int pa), .val (.int pn), .val (.int (pa &&& (255 : Int32))), .val (.int (((pa.toUInt32 >>> ((8 : Int32) &&& 31).toUInt32).toInt32) &&& (255 : Int32)))] [])) (fun t k => ?_) ?_
  ·refine XS.ifNo W0.here hx rfl (hb hby d1_18) rfl ((if0 _ _).trans (teq hc18_1).2) ?_
   exact k
  refine W0.new hx (ww hw 7 rfl) (ww hw 8 rfl) (ww hw 9 rfl) (g := (mkF m 21 #[.val (.int pa), .val (.int pn), .val (.int (pa &&& (255 : Int32))), .val (.int (((pa.toUInt32 >>> ((8 : Int32) &&& 31).toUInt32).toInt32) &&& (255 : Int32)))] [])) rfl (hb hby d1_21) (by decide) (by decide) (fun T2 h2 a2 ha2 W2 E2 A2 D2 => ?_)
  change Fi _ _ _ _ _ _ _ _ _ _ (T2.setTop (mkF m 24 #[.val (.int pa), .val (.int pn), .val (.int (pa &&& (255 : Int32))), .val (.int (((pa.toUInt32 >>> ((8 : Int32) &&& 31).toUInt32).toInt32) &&& (255 : Int32)))] [(.ref a2)]))
  have sz2 := E2.1
  refine Fi.by' (st' := T2.setTop (mkF m 26 #[.val (.int pa), .val (.int pn), .val (.int (pa &&& (255 : Int32))), .val (.int (((pa.toUInt32 >>> ((8 : Int32) &&& 31).toUInt32).toInt32) &&& (255 : Int32)))] [(.int 0), (.ref a2), (.ref a2)])) (fun t k => ?_) ?_
  ·refine XS.dup W2.here hx rfl (hb hby d1_24) rfl rfl ?_
   refine iconstZ W2.here hx rfl (hb hby d1_25) (z := (0 : Int32)) rfl ?_
   exact k
  refine W2.newP hx (aty := .char) (ww hw 10 rfl) (g := (mkF m 26 #[.val (.int pa), .val (.int pn), .val (.int (pa &&& (255 : Int32))), .val (.int (((pa.toUInt32 >>> ((8 : Int32) &&& 31).toUInt32).toInt32) &&& (255 : Int32)))] [(.int 0), (.ref a2), (.ref a2)])) rfl (hb hby d1_26) rfl (by decide) (cap := 0) (by decide) (by decide) (by decide) (by decide) (fun T3 h3 a3 k3 ha3 W3 E3 A3 => ?_)
  change Fi _ _ _ _ _ _ _ _ _ _ (T3.setTop (mkF m 28 #[.val (.int pa), .val (.int pn), .val (.int (pa &&& (255 : Int32))), .val (.int (((pa.toUInt32 >>> ((8 : Int32) &&& 31).toUInt32).toInt32) &&& (255 : Int32)))] [(.ref a3), (.ref a2), (.ref a2)]))
  have sz3 := E3.1
  have V3 : Arv Z h3 a3 k3 .char (0 : Int32) (([] : List Int32).map Value.int) (.int 0) := A3.pad (pad_rep [] (.int 0) 0)
  have x4 : Ext h0 h3 := ext_trans E2 E3
  refine W3.callI hx (y := y_32) rfl (ww hw 11 rfl) (ww hw 12 rfl) (ww hw 13 rfl) (by decide) (payE (Wd := 1) hw (by omega) (by omega) (Exa.ext E3 A2) (Fld.ext E3 (D2 (Or.inr (ww hw 23 rfl)) (ty := (.array .byte)) (by decide))) (Fld.ext E3 (D2 (Or.inr (ww hw 24 rfl)) (ty := .byte) (by decide))) (Fld.ext E3 (D2 (Or.inl (ww hw 119 rfl)) (ty := .int) (by decide))) (Fld.ext E3 (D2 (Or.inl (ww hw 121 rfl)) (ty := .boolean) (by decide))) V3 (by decide) (by decide)) (a := a2) (g := (mkF m 28 #[.val (.int pa), .val (.int pn), .val (.int (pa &&& (255 : Int32))), .val (.int (((pa.toUInt32 >>> ((8 : Int32) &&& 31).toUInt32).toInt32) &&& (255 : Int32)))] [(.ref a3), (.ref a2), (.ref a2)])) rfl (by rw [hml]; rfl) (argsL := [(.ref a3)]) (rest := [(.ref a2)]) (lenOf pd_14 rfl) rfl rfl (ble_ rfl) (hb hby d1_28) (by decide) (by decide) (fun v5 T5 h5 W5 sz5 q5 => ?_)
  obtain ⟨rfl, K5, F5⟩ := q5
  change Fi _ _ _ _ _ _ _ _ _ _ (T5.setTop (mkF m 31 #[.val (.int pa), .val (.int pn), .val (.int (pa &&& (255 : Int32))), .val (.int (((pa.toUInt32 >>> ((8 : Int32) &&& 31).toUInt32).toInt32) &&& (255 : Int32)))] [(.ref a2)]))
  have x5k : Ext h0 h5 := ext_keep1 x4 K5 (by omega)
  exact W5.aret hx hlk hret rfl rfl (hb hby d1_31) ⟨a2, [], rfl, x5k, by omega, F5⟩ (by decide) (by decide)
 ·refine Fi.by' (st' := s₁.setTop (mkF m 34 #[.val (.int pa), .val (.int pn), .val (.int (pa &&& (255 : Int32))), .val (.int (((pa.toUInt32 >>> ((8 : Int32) &&& 31).toUInt32).toInt32) &&& (255 : Int32)))] [(.int 1), (.int pn)])) (fun t k => ?_) ?_
  ·refine XS.ifYes W0.here hx rfl (pc0 := 18) (pc' := 32) rfl (hb hby d1_18) rfl ((if0 _ _).trans (feq hc18_1).2) (by decide) (by decide) ?_
   refine XS.iloadN W0.here hx rfl (hb hby d1_32) rfl ?_
   refine iconstZ W0.here hx rfl (hb hby d1_33) (z := (1 : Int32)) rfl ?_
   exact k
  by_cases hc34_6 : pn = (1 : Int32)
  ·refine Fi.by' (st' := s₁.setTop (mkF m 37 #[.val (.int pa), .val (.int pn), .val (.int (pa &&& (255 : Int32))), .val (.int (((pa.toUInt32 >>> ((8 : Int32) &&& 31).toUInt32).toInt32) &&& (255 : Int32)))] [])) (fun t k => ?_) ?_
   ·refine XS.icmpNo W0.here hx rfl (hb hby d1_34) rfl (teq hc34_6).2 ?_
    exact k
   refine W0.new hx (ww hw 7 rfl) (ww hw 8 rfl) (ww hw 9 rfl) (g := (mkF m 37 #[.val (.int pa), .val (.int pn), .val (.int (pa &&& (255 : Int32))), .val (.int (((pa.toUInt32 >>> ((8 : Int32) &&& 31).toUInt32).toInt32) &&& (255 : Int32)))] [])) rfl (hb hby d1_37) (by decide) (by decide) (fun T7 h7 a7 ha7 W7 E7 A7 D7 => ?_)
   change Fi _ _ _ _ _ _ _ _ _ _ (T7.setTop (mkF m 40 #[.val (.int pa), .val (.int pn), .val (.int (pa &&& (255 : Int32))), .val (.int (((pa.toUInt32 >>> ((8 : Int32) &&& 31).toUInt32).toInt32) &&& (255 : Int32)))] [(.ref a7)]))
   have sz7 := E7.1
   refine Fi.by' (st' := T7.setTop (mkF m 42 #[.val (.int pa), .val (.int pn), .val (.int (pa &&& (255 : Int32))), .val (.int (((pa.toUInt32 >>> ((8 : Int32) &&& 31).toUInt32).toInt32) &&& (255 : Int32)))] [(.int 1), (.ref a7), (.ref a7)])) (fun t k => ?_) ?_
   ·refine XS.dup W7.here hx rfl (hb hby d1_40) rfl rfl ?_
    refine iconstZ W7.here hx rfl (hb hby d1_41) (z := (1 : Int32)) rfl ?_
    exact k
   refine W7.newP hx (aty := .char) (ww hw 10 rfl) (g := (mkF m 42 #[.val (.int pa), .val (.int pn), .val (.int (pa &&& (255 : Int32))), .val (.int (((pa.toUInt32 >>> ((8 : Int32) &&& 31).toUInt32).toInt32) &&& (255 : Int32)))] [(.int 1), (.ref a7), (.ref a7)])) rfl (hb hby d1_42) rfl (by decide) (cap := 1) (by decide) (by decide) (by decide) (by decide) (fun T8 h8 a8 k8 ha8 W8 E8 A8 => ?_)
   change Fi _ _ _ _ _ _ _ _ _ _ (T8.setTop (mkF m 44 #[.val (.int pa), .val (.int pn), .val (.int (pa &&& (255 : Int32))), .val (.int (((pa.toUInt32 >>> ((8 : Int32) &&& 31).toUInt32).toInt32) &&& (255 : Int32)))] [(.ref a8), (.ref a7), (.ref a7)]))
   have sz8 := E8.1
   have V8 : Arv Z h8 a8 k8 .char (1 : Int32) (([0] : List Int32).map Value.int) (.int 0) := A8.pad (pad_rep [] (.int 0) 1)
   refine Fi.by' (st' := T8.setTop (mkF m 47 #[.val (.int pa), .val (.int pn), .val (.int (pa &&& (255 : Int32))), .val (.int (((pa.toUInt32 >>> ((8 : Int32) &&& 31).toUInt32).toInt32) &&& (255 : Int32)))] [(.int (pa &&& (255 : Int32))), (.int 0), (.ref a8), (.ref a8), (.ref a7), (.ref a7)])) (fun t k => ?_) ?_
   ·refine XS.dup W8.here hx rfl (hb hby d1_44) rfl rfl ?_
    refine iconstZ W8.here hx rfl (hb hby d1_45) (z := (0 : Int32)) rfl ?_
    refine XS.iloadN W8.here hx rfl (hb hby d1_46) rfl ?_
    exact k
   refine W8.castore hx V8 (i := 0) (ble_ rfl) (j := (0 : Int32)) rfl (by decide) rfl (ch_ok (and255 _)) (g := (mkF m 47 #[.val (.int pa), .val (.int pn), .val (.int (pa &&& (255 : Int32))), .val (.int (((pa.toUInt32 >>> ((8 : Int32) &&& 31).toUInt32).toInt32) &&& (255 : Int32)))] [(.int (pa &&& (255 : Int32))), (.int 0), (.ref a8), (.ref a8), (.ref a7), (.ref a7)])) rfl rfl (hb hby d1_47) (by omega) (fun T9 h9 W9 R9 V9 => ?_)
   change Fi _ _ _ _ _ _ _ _ _ _ (T9.setTop (mkF m 48 #[.val (.int pa), .val (.int pn), .val (.int (pa &&& (255 : Int32))), .val (.int (((pa.toUInt32 >>> ((8 : Int32) &&& 31).toUInt32).toInt32) &&& (255 : Int32)))] [(.ref a8), (.ref a7), (.ref a7)]))
   have x9w : Ext h7 h9 := ext_wr E8 R9 (by omega)
   have sz9 := R9.size
   have V9' : Arv Z h9 a8 k8 .char (1 : Int32) (([(pa &&& (255 : Int32))] : List Int32).map Value.int) (.int 0) := V9
   have x10 : Ext h0 h9 := ext_trans E7 x9w
   refine W9.callI hx (y := y_32) rfl (ww hw 11 rfl) (ww hw 12 rfl) (ww hw 13 rfl) (by decide) (payS (Wd := 1) (n := 1) (cs := [(pa &&& (255 : Int32))]) hw (by omega) (by omega) (Exa.ext x9w A7) (Fld.ext x9w (D7 (Or.inr (ww hw 23 rfl)) (ty := (.array .byte)) (by decide))) (Fld.ext x9w (D7 (Or.inr (ww hw 24 rfl)) (ty := .byte) (by decide))) (Fld.ext x9w (D7 (Or.inl (ww hw 119 rfl)) (ty := .int) (by decide))) (Fld.ext x9w (D7 (Or.inl (ww hw 121 rfl)) (ty := .boolean) (by decide))) V9' (Sta.ext x10 S0) hz rfl rfl (by decide) (by decide) (all_cons (and255 _) all_nil) (by decide) (by decide)) (a := a7) (g := (mkF m 48 #[.val (.int pa), .val (.int pn), .val (.int (pa &&& (255 : Int32))), .val (.int (((pa.toUInt32 >>> ((8 : Int32) &&& 31).toUInt32).toInt32) &&& (255 : Int32)))] [(.ref a8), (.ref a7), (.ref a7)])) rfl (by rw [hml]; rfl) (argsL := [(.ref a8)]) (rest := [(.ref a7)]) (lenOf pd_14 rfl) rfl rfl (ble_ rfl) (hb hby d1_48) (by decide) (by decide) (fun v11 T11 h11 W11 sz11 q11 => ?_)
   obtain ⟨rfl, K11, F11⟩ := q11
   change Fi _ _ _ _ _ _ _ _ _ _ (T11.setTop (mkF m 51 #[.val (.int pa), .val (.int pn), .val (.int (pa &&& (255 : Int32))), .val (.int (((pa.toUInt32 >>> ((8 : Int32) &&& 31).toUInt32).toInt32) &&& (255 : Int32)))] [(.ref a7)]))
   have x11k : Ext h0 h11 := ext_keep1 x10 K11 (by omega)
   exact W11.aret hx hlk hret rfl rfl (hb hby d1_51) ⟨a7, [(pa &&& (255 : Int32))], rfl, x11k, by omega, F11⟩ (by decide) (by decide)
  ·refine Fi.by' (st' := s₁.setTop (mkF m 52 #[.val (.int pa), .val (.int pn), .val (.int (pa &&& (255 : Int32))), .val (.int (((pa.toUInt32 >>> ((8 : Int32) &&& 31).toUInt32).toInt32) &&& (255 : Int32)))] [])) (fun t k => ?_) ?_
   ·refine XS.icmpYes W0.here hx rfl (pc0 := 34) (pc' := 52) rfl (hb hby d1_34) rfl (feq hc34_6).2 (by decide) (by decide) ?_
    exact k
   refine W0.new hx (ww hw 7 rfl) (ww hw 8 rfl) (ww hw 9 rfl) (g := (mkF m 52 #[.val (.int pa), .val (.int pn), .val (.int (pa &&& (255 : Int32))), .val (.int (((pa.toUInt32 >>> ((8 : Int32) &&& 31).toUInt32).toInt32) &&& (255 : Int32)))] [])) rfl (hb hby d1_52) (by decide) (by decide) (fun T12 h12 a12 ha12 W12 E12 A12 D12 => ?_)
   change Fi _ _ _ _ _ _ _ _ _ _ (T12.setTop (mkF m 55 #[.val (.int pa), .val (.int pn), .val (.int (pa &&& (255 : Int32))), .val (.int (((pa.toUInt32 >>> ((8 : Int32) &&& 31).toUInt32).toInt32) &&& (255 : Int32)))] [(.ref a12)]))
   have sz12 := E12.1
   refine Fi.by' (st' := T12.setTop (mkF m 57 #[.val (.int pa), .val (.int pn), .val (.int (pa &&& (255 : Int32))), .val (.int (((pa.toUInt32 >>> ((8 : Int32) &&& 31).toUInt32).toInt32) &&& (255 : Int32)))] [(.int 2), (.ref a12), (.ref a12)])) (fun t k => ?_) ?_
   ·refine XS.dup W12.here hx rfl (hb hby d1_55) rfl rfl ?_
    refine iconstZ W12.here hx rfl (hb hby d1_56) (z := (2 : Int32)) rfl ?_
    exact k
   refine W12.newP hx (aty := .char) (ww hw 10 rfl) (g := (mkF m 57 #[.val (.int pa), .val (.int pn), .val (.int (pa &&& (255 : Int32))), .val (.int (((pa.toUInt32 >>> ((8 : Int32) &&& 31).toUInt32).toInt32) &&& (255 : Int32)))] [(.int 2), (.ref a12), (.ref a12)])) rfl (hb hby d1_57) rfl (by decide) (cap := 2) (by decide) (by decide) (by decide) (by decide) (fun T13 h13 a13 k13 ha13 W13 E13 A13 => ?_)
   change Fi _ _ _ _ _ _ _ _ _ _ (T13.setTop (mkF m 59 #[.val (.int pa), .val (.int pn), .val (.int (pa &&& (255 : Int32))), .val (.int (((pa.toUInt32 >>> ((8 : Int32) &&& 31).toUInt32).toInt32) &&& (255 : Int32)))] [(.ref a13), (.ref a12), (.ref a12)]))
   have sz13 := E13.1
   have V13 : Arv Z h13 a13 k13 .char (2 : Int32) (([0, 0] : List Int32).map Value.int) (.int 0) := A13.pad (pad_rep [] (.int 0) 2)
   refine Fi.by' (st' := T13.setTop (mkF m 62 #[.val (.int pa), .val (.int pn), .val (.int (pa &&& (255 : Int32))), .val (.int (((pa.toUInt32 >>> ((8 : Int32) &&& 31).toUInt32).toInt32) &&& (255 : Int32)))] [(.int (pa &&& (255 : Int32))), (.int 0), (.ref a13), (.ref a13), (.ref a12), (.ref a12)])) (fun t k => ?_) ?_
   ·refine XS.dup W13.here hx rfl (hb hby d1_59) rfl rfl ?_
    refine iconstZ W13.here hx rfl (hb hby d1_60) (z := (0 : Int32)) rfl ?_
    refine XS.iloadN W13.here hx rfl (hb hby d1_61) rfl ?_
    exact k
   refine W13.castore hx V13 (i := 0) (ble_ rfl) (j := (0 : Int32)) rfl (by decide) rfl (ch_ok (and255 _)) (g := (mkF m 62 #[.val (.int pa), .val (.int pn), .val (.int (pa &&& (255 : Int32))), .val (.int (((pa.toUInt32 >>> ((8 : Int32) &&& 31).toUInt32).toInt32) &&& (255 : Int32)))] [(.int (pa &&& (255 : Int32))), (.int 0), (.ref a13), (.ref a13), (.ref a12), (.ref a12)])) rfl rfl (hb hby d1_62) (by omega) (fun T14 h14 W14 R14 V14 => ?_)
   change Fi _ _ _ _ _ _ _ _ _ _ (T14.setTop (mkF m 63 #[.val (.int pa), .val (.int pn), .val (.int (pa &&& (255 : Int32))), .val (.int (((pa.toUInt32 >>> ((8 : Int32) &&& 31).toUInt32).toInt32) &&& (255 : Int32)))] [(.ref a13), (.ref a12), (.ref a12)]))
   have x14w : Ext h12 h14 := ext_wr E13 R14 (by omega)
   have sz14 := R14.size
   have V14' : Arv Z h14 a13 k13 .char (2 : Int32) (([(pa &&& (255 : Int32)), 0] : List Int32).map Value.int) (.int 0) := V14
   refine Fi.by' (st' := T14.setTop (mkF m 66 #[.val (.int pa), .val (.int pn), .val (.int (pa &&& (255 : Int32))), .val (.int (((pa.toUInt32 >>> ((8 : Int32) &&& 31).toUInt32).toInt32) &&& (255 : Int32)))] [(.int (((pa.toUInt32 >>> ((8 : Int32) &&& 31).toUInt32).toInt32) &&& (255 : Int32))), (.int 1), (.ref a13), (.ref a13), (.ref a12), (.ref a12)])) (fun t k => ?_) ?_
   ·refine XS.dup W14.here hx rfl (hb hby d1_63) rfl rfl ?_
    refine iconstZ W14.here hx rfl (hb hby d1_64) (z := (1 : Int32)) rfl ?_
    refine XS.iloadN W14.here hx rfl (hb hby d1_65) rfl ?_
    exact k
   refine W14.castore hx V14' (i := 1) (ble_ rfl) (j := (1 : Int32)) rfl (by decide) rfl (ch_ok (and255 _)) (g := (mkF m 66 #[.val (.int pa), .val (.int pn), .val (.int (pa &&& (255 : Int32))), .val (.int (((pa.toUInt32 >>> ((8 : Int32) &&& 31).toUInt32).toInt32) &&& (255 : Int32)))] [(.int (((pa.toUInt32 >>> ((8 : Int32) &&& 31).toUInt32).toInt32) &&& (255 : Int32))), (.int 1), (.ref a13), (.ref a13), (.ref a12), (.ref a12)])) rfl rfl (hb hby d1_66) (by omega) (fun T15 h15 W15 R15 V15 => ?_)
   change Fi _ _ _ _ _ _ _ _ _ _ (T15.setTop (mkF m 67 #[.val (.int pa), .val (.int pn), .val (.int (pa &&& (255 : Int32))), .val (.int (((pa.toUInt32 >>> ((8 : Int32) &&& 31).toUInt32).toInt32) &&& (255 : Int32)))] [(.ref a13), (.ref a12), (.ref a12)]))
   have x15w : Ext h12 h15 := ext_wr x14w R15 (by omega)
   have sz15 := R15.size
   have V15' : Arv Z h15 a13 k13 .char (2 : Int32) (([(pa &&& (255 : Int32)), (((pa.toUInt32 >>> ((8 : Int32) &&& 31).toUInt32).toInt32) &&& (255 : Int32))] : List Int32).map Value.int) (.int 0) := V15
   have x16 : Ext h0 h15 := ext_trans E12 x15w
   refine W15.callI hx (y := y_32) rfl (ww hw 11 rfl) (ww hw 12 rfl) (ww hw 13 rfl) (by decide) (payS (Wd := 1) (n := 2) (cs := [(pa &&& (255 : Int32)), (((pa.toUInt32 >>> ((8 : Int32) &&& 31).toUInt32).toInt32) &&& (255 : Int32))]) hw (by omega) (by omega) (Exa.ext x15w A12) (Fld.ext x15w (D12 (Or.inr (ww hw 23 rfl)) (ty := (.array .byte)) (by decide))) (Fld.ext x15w (D12 (Or.inr (ww hw 24 rfl)) (ty := .byte) (by decide))) (Fld.ext x15w (D12 (Or.inl (ww hw 119 rfl)) (ty := .int) (by decide))) (Fld.ext x15w (D12 (Or.inl (ww hw 121 rfl)) (ty := .boolean) (by decide))) V15' (Sta.ext x16 S0) hz rfl rfl (by decide) (by decide) (all_cons (and255 _) (all_cons (and255 _) all_nil)) (by decide) (by decide)) (a := a12) (g := (mkF m 67 #[.val (.int pa), .val (.int pn), .val (.int (pa &&& (255 : Int32))), .val (.int (((pa.toUInt32 >>> ((8 : Int32) &&& 31).toUInt32).toInt32) &&& (255 : Int32)))] [(.ref a13), (.ref a12), (.ref a12)])) rfl (by rw [hml]; rfl) (argsL := [(.ref a13)]) (rest := [(.ref a12)]) (lenOf pd_14 rfl) rfl rfl (ble_ rfl) (hb hby d1_67) (by decide) (by decide) (fun v17 T17 h17 W17 sz17 q17 => ?_)
   obtain ⟨rfl, K17, F17⟩ := q17
   change Fi _ _ _ _ _ _ _ _ _ _ (T17.setTop (mkF m 70 #[.val (.int pa), .val (.int pn), .val (.int (pa &&& (255 : Int32))), .val (.int (((pa.toUInt32 >>> ((8 : Int32) &&& 31).toUInt32).toInt32) &&& (255 : Int32)))] [(.ref a12)]))
   have x17k : Ext h0 h17 := ext_keep1 x16 K17 (by omega)
   exact W17.aret hx hlk hret rfl rfl (hb hby d1_70) ⟨a12, [(pa &&& (255 : Int32)), (((pa.toUInt32 >>> ((8 : Int32) &&& 31).toUInt32).toInt32) &&& (255 : Int32))], rfl, x17k, by omega, F17⟩ (by decide) (by decide)
def Q_nam2 (Z : State) (pa pn pd zc : Int32) (h0 : Heap) (v : Option Value) (h : Heap) : Prop := ∃ (x : Addr) (cs : List Int32), v = some (.ref x) ∧ Ext h0 h ∧ h0.size ≤ x ∧ StrH Z h x cs
theorem rm_nam2 (l : Launch) (Z : State) (a0 : Array Value) (hw : ∀ d ∈ tables_1, d.before a0 Z = true) (pa pn pd zc : Int32) (h0 : Heap) (n0 : Nat) (Z0 : n0 ≤ h0.size) (S0 : Sta Z h0 "java/lang/String" "COMPACT_STRINGS" "Z" (.int zc)) (hz : ¬ zc = 0) :
  Con l Z EL y_34 method_3_code 5 (some (.object "java/lang/String")) [] ({ frames := 4, cells := 6, slots := 12, locals := 66 } : Room) #[(.int pa), (.int pn), (.int pd)] h0 n0 (Q_nam2 Z pa pn pd zc h0) := by
 refine Con.intro (own := "com/example/weftwork/weftwork/model/ServiceHashCodePinLaw") rfl (plainFor_of_name plain_com_example_weftwork_weftwork_model_ServiceHashCodePinLaw) (hEL hw) ?_
 intro p e s m below meth c s₁ hx hby hml hret hlk hnm W0
 refine Fi.cast (show entryFrame m #[(.int pa), (.int pn), (.int pd)] 5 = (mkF m 0 #[.val (.int pa), .val (.int pn), .val (.int pd), .unset, .unset] []) from by first | (simp [entryFrame, mkF, argsToLocals, Value.category]; done) | rfl) ?_
 refine Fi.by' (st' := s₁.setTop (mkF m 16 #[.val (.int pa), .val (.int pn), .val (.int pd), .val (.int (pa &&& (255 : Int32))), .val (.int (pd &&& (255 : Int32)))] [(.int pn)])) (fun t k => ?_) ?_
 ·refine XS.iloadN W0.here hx rfl (hb hby d61_0) rfl ?_
  refine sipushZ W0.here hx rfl (hb hby d61_1) (z := (255 : Int32)) rfl ?_
  refine XS.iand W0.here hx rfl (hb hby d61_4) rfl ?_
  refine i2cZ W0.here hx rfl (hb hby d61_5) rfl (z := (pa &&& (255 : Int32))) (i2c_mask _) ?_
  refine XS.istoreN W0.here hx rfl (hb hby d61_6) rfl (l' := #[.val (.int pa), .val (.int pn), .val (.int pd), .val (.int (pa &&& (255 : Int32))), .unset]) rfl ?_
  refine XS.iloadN W0.here hx rfl (hb hby d61_7) rfl ?_
  refine sipushZ W0.here hx rfl (hb hby d61_8) (z := (255 : Int32)) rfl ?_
  refine XS.iand W0.here hx rfl (hb hby d61_11) rfl ?_
  refine i2cZ W0.here hx rfl (hb hby d61_12) rfl (z := (pd &&& (255 : Int32))) (i2c_mask _) ?_
  refine XS.istore W0.here hx rfl (hb hby d61_13) rfl (l' := #[.val (.int pa), .val (.int pn), .val (.int pd), .val (.int (pa &&& (255 : Int32))), .val (.int (pd &&& (255 : Int32)))]) rfl ?_
  refine XS.iloadN W0.here hx rfl (hb hby d61_15) rfl ?_
  exact k
 by_cases hc16_1 : pn = (0 : Int32)
 ·refine Fi.by' (st' := s₁.setTop (mkF m 19 #[.val (.int pa), .val (.int pn), .val (.int pd), .val (.int (pa &&& (255 : Int32))), .val (.int (pd &&& (255 : Int32)))] [])) (fun t k => ?_) ?_
  ·refine XS.ifNo W0.here hx rfl (hb hby d61_16) rfl ((if0 _ _).trans (teq hc16_1).2) ?_
   exact k
  refine W0.new hx (ww hw 7 rfl) (ww hw 8 rfl) (ww hw 9 rfl) (g := (mkF m 19 #[.val (.int pa), .val (.int pn), .val (.int pd), .val (.int (pa &&& (255 : Int32))), .val (.int (pd &&& (255 : Int32)))] [])) rfl (hb hby d61_19) (by decide) (by decide) (fun T2 h2 a2 ha2 W2 E2 A2 D2 => ?_)
  change Fi _ _ _ _ _ _ _ _ _ _ (T2.setTop (mkF m 22 #[.val (.int pa), .val (.int pn), .val (.int pd), .val (.int (pa &&& (255 : Int32))), .val (.int (pd &&& (255 : Int32)))] [(.ref a2)]))
  have sz2 := E2.1
  refine Fi.by' (st' := T2.setTop (mkF m 24 #[.val (.int pa), .val (.int pn), .val (.int pd), .val (.int (pa &&& (255 : Int32))), .val (.int (pd &&& (255 : Int32)))] [(.int 0), (.ref a2), (.ref a2)])) (fun t k => ?_) ?_
  ·refine XS.dup W2.here hx rfl (hb hby d61_22) rfl rfl ?_
   refine iconstZ W2.here hx rfl (hb hby d61_23) (z := (0 : Int32)) rfl ?_
   exact k
  refine W2.newP hx (aty := .char) (ww hw 10 rfl) (g := (mkF m 24 #[.val (.int pa), .val (.int pn), .val (.int pd), .val (.int (pa &&& (255 : Int32))), .val (.int (pd &&& (255 : Int32)))] [(.int 0), (.ref a2), (.ref a2)])) rfl (hb hby d61_24) rfl (by decide) (cap := 0) (by decide) (by decide) (by decide) (by decide) (fun T3 h3 a3 k3 ha3 W3 E3 A3 => ?_)
  change Fi _ _ _ _ _ _ _ _ _ _ (T3.setTop (mkF m 26 #[.val (.int pa), .val (.int pn), .val (.int pd), .val (.int (pa &&& (255 : Int32))), .val (.int (pd &&& (255 : Int32)))] [(.ref a3), (.ref a2), (.ref a2)]))
  have sz3 := E3.1
  have V3 : Arv Z h3 a3 k3 .char (0 : Int32) (([] : List Int32).map Value.int) (.int 0) := A3.pad (pad_rep [] (.int 0) 0)
  have x4 : Ext h0 h3 := ext_trans E2 E3
  refine W3.callI hx (y := y_32) rfl (ww hw 11 rfl) (ww hw 12 rfl) (ww hw 13 rfl) (by decide) (payE (Wd := 1) hw (by omega) (by omega) (Exa.ext E3 A2) (Fld.ext E3 (D2 (Or.inr (ww hw 23 rfl)) (ty := (.array .byte)) (by decide))) (Fld.ext E3 (D2 (Or.inr (ww hw 24 rfl)) (ty := .byte) (by decide))) (Fld.ext E3 (D2 (Or.inl (ww hw 119 rfl)) (ty := .int) (by decide))) (Fld.ext E3 (D2 (Or.inl (ww hw 121 rfl)) (ty := .boolean) (by decide))) V3 (by decide) (by decide)) (a := a2) (g := (mkF m 26 #[.val (.int pa), .val (.int pn), .val (.int pd), .val (.int (pa &&& (255 : Int32))), .val (.int (pd &&& (255 : Int32)))] [(.ref a3), (.ref a2), (.ref a2)])) rfl (by rw [hml]; rfl) (argsL := [(.ref a3)]) (rest := [(.ref a2)]) (lenOf pd_14 rfl) rfl rfl (ble_ rfl) (hb hby d61_26) (by decide) (by decide) (fun v5 T5 h5 W5 sz5 q5 => ?_)
  obtain ⟨rfl, K5, F5⟩ := q5
  change Fi _ _ _ _ _ _ _ _ _ _ (T5.setTop (mkF m 29 #[.val (.int pa), .val (.int pn), .val (.int pd), .val (.int (pa &&& (255 : Int32))), .val (.int (pd &&& (255 : Int32)))] [(.ref a2)]))
  have x5k : Ext h0 h5 := ext_keep1 x4 K5 (by omega)
  exact W5.aret hx hlk hret rfl rfl (hb hby d61_29) ⟨a2, [], rfl, x5k, by omega, F5⟩ (by decide) (by decide)
 ·refine Fi.by' (st' := s₁.setTop (mkF m 32 #[.val (.int pa), .val (.int pn), .val (.int pd), .val (.int (pa &&& (255 : Int32))), .val (.int (pd &&& (255 : Int32)))] [(.int 1), (.int pn)])) (fun t k => ?_) ?_
  ·refine XS.ifYes W0.here hx rfl (pc0 := 16) (pc' := 30) rfl (hb hby d61_16) rfl ((if0 _ _).trans (feq hc16_1).2) (by decide) (by decide) ?_
   refine XS.iloadN W0.here hx rfl (hb hby d61_30) rfl ?_
   refine iconstZ W0.here hx rfl (hb hby d61_31) (z := (1 : Int32)) rfl ?_
   exact k
  by_cases hc32_6 : pn = (1 : Int32)
  ·refine Fi.by' (st' := s₁.setTop (mkF m 35 #[.val (.int pa), .val (.int pn), .val (.int pd), .val (.int (pa &&& (255 : Int32))), .val (.int (pd &&& (255 : Int32)))] [])) (fun t k => ?_) ?_
   ·refine XS.icmpNo W0.here hx rfl (hb hby d61_32) rfl (teq hc32_6).2 ?_
    exact k
   refine W0.new hx (ww hw 7 rfl) (ww hw 8 rfl) (ww hw 9 rfl) (g := (mkF m 35 #[.val (.int pa), .val (.int pn), .val (.int pd), .val (.int (pa &&& (255 : Int32))), .val (.int (pd &&& (255 : Int32)))] [])) rfl (hb hby d61_35) (by decide) (by decide) (fun T7 h7 a7 ha7 W7 E7 A7 D7 => ?_)
   change Fi _ _ _ _ _ _ _ _ _ _ (T7.setTop (mkF m 38 #[.val (.int pa), .val (.int pn), .val (.int pd), .val (.int (pa &&& (255 : Int32))), .val (.int (pd &&& (255 : Int32)))] [(.ref a7)]))
   have sz7 := E7.1
   refine Fi.by' (st' := T7.setTop (mkF m 40 #[.val (.int pa), .val (.int pn), .val (.int pd), .val (.int (pa &&& (255 : Int32))), .val (.int (pd &&& (255 : Int32)))] [(.int 1), (.ref a7), (.ref a7)])) (fun t k => ?_) ?_
   ·refine XS.dup W7.here hx rfl (hb hby d61_38) rfl rfl ?_
    refine iconstZ W7.here hx rfl (hb hby d61_39) (z := (1 : Int32)) rfl ?_
    exact k
   refine W7.newP hx (aty := .char) (ww hw 10 rfl) (g := (mkF m 40 #[.val (.int pa), .val (.int pn), .val (.int pd), .val (.int (pa &&& (255 : Int32))), .val (.int (pd &&& (255 : Int32)))] [(.int 1), (.ref a7), (.ref a7)])) rfl (hb hby d61_40) rfl (by decide) (cap := 1) (by decide) (by decide) (by decide) (by decide) (fun T8 h8 a8 k8 ha8 W8 E8 A8 => ?_)
   change Fi _ _ _ _ _ _ _ _ _ _ (T8.setTop (mkF m 42 #[.val (.int pa), .val (.int pn), .val (.int pd), .val (.int (pa &&& (255 : Int32))), .val (.int (pd &&& (255 : Int32)))] [(.ref a8), (.ref a7), (.ref a7)]))
   have sz8 := E8.1
   have V8 : Arv Z h8 a8 k8 .char (1 : Int32) (([0] : List Int32).map Value.int) (.int 0) := A8.pad (pad_rep [] (.int 0) 1)
   refine Fi.by' (st' := T8.setTop (mkF m 46 #[.val (.int pa), .val (.int pn), .val (.int pd), .val (.int (pa &&& (255 : Int32))), .val (.int (pd &&& (255 : Int32)))] [(.int (pd &&& (255 : Int32))), (.int 0), (.ref a8), (.ref a8), (.ref a7), (.ref a7)])) (fun t k => ?_) ?_
   ·refine XS.dup W8.here hx rfl (hb hby d61_42) rfl rfl ?_
    refine iconstZ W8.here hx rfl (hb hby d61_43) (z := (0 : Int32)) rfl ?_
    refine XS.iload W8.here hx rfl (hb hby d61_44) rfl ?_
    exact k
   refine W8.castore hx V8 (i := 0) (ble_ rfl) (j := (0 : Int32)) rfl (by decide) rfl (ch_ok (and255 _)) (g := (mkF m 46 #[.val (.int pa), .val (.int pn), .val (.int pd), .val (.int (pa &&& (255 : Int32))), .val (.int (pd &&& (255 : Int32)))] [(.int (pd &&& (255 : Int32))), (.int 0), (.ref a8), (.ref a8), (.ref a7), (.ref a7)])) rfl rfl (hb hby d61_46) (by omega) (fun T9 h9 W9 R9 V9 => ?_)
   change Fi _ _ _ _ _ _ _ _ _ _ (T9.setTop (mkF m 47 #[.val (.int pa), .val (.int pn), .val (.int pd), .val (.int (pa &&& (255 : Int32))), .val (.int (pd &&& (255 : Int32)))] [(.ref a8), (.ref a7), (.ref a7)]))
   have x9w : Ext h7 h9 := ext_wr E8 R9 (by omega)
   have sz9 := R9.size
   have V9' : Arv Z h9 a8 k8 .char (1 : Int32) (([(pd &&& (255 : Int32))] : List Int32).map Value.int) (.int 0) := V9
   have x10 : Ext h0 h9 := ext_trans E7 x9w
   refine W9.callI hx (y := y_32) rfl (ww hw 11 rfl) (ww hw 12 rfl) (ww hw 13 rfl) (by decide) (payS (Wd := 1) (n := 1) (cs := [(pd &&& (255 : Int32))]) hw (by omega) (by omega) (Exa.ext x9w A7) (Fld.ext x9w (D7 (Or.inr (ww hw 23 rfl)) (ty := (.array .byte)) (by decide))) (Fld.ext x9w (D7 (Or.inr (ww hw 24 rfl)) (ty := .byte) (by decide))) (Fld.ext x9w (D7 (Or.inl (ww hw 119 rfl)) (ty := .int) (by decide))) (Fld.ext x9w (D7 (Or.inl (ww hw 121 rfl)) (ty := .boolean) (by decide))) V9' (Sta.ext x10 S0) hz rfl rfl (by decide) (by decide) (all_cons (and255 _) all_nil) (by decide) (by decide)) (a := a7) (g := (mkF m 47 #[.val (.int pa), .val (.int pn), .val (.int pd), .val (.int (pa &&& (255 : Int32))), .val (.int (pd &&& (255 : Int32)))] [(.ref a8), (.ref a7), (.ref a7)])) rfl (by rw [hml]; rfl) (argsL := [(.ref a8)]) (rest := [(.ref a7)]) (lenOf pd_14 rfl) rfl rfl (ble_ rfl) (hb hby d61_47) (by decide) (by decide) (fun v11 T11 h11 W11 sz11 q11 => ?_)
   obtain ⟨rfl, K11, F11⟩ := q11
   change Fi _ _ _ _ _ _ _ _ _ _ (T11.setTop (mkF m 50 #[.val (.int pa), .val (.int pn), .val (.int pd), .val (.int (pa &&& (255 : Int32))), .val (.int (pd &&& (255 : Int32)))] [(.ref a7)]))
   have x11k : Ext h0 h11 := ext_keep1 x10 K11 (by omega)
   exact W11.aret hx hlk hret rfl rfl (hb hby d61_50) ⟨a7, [(pd &&& (255 : Int32))], rfl, x11k, by omega, F11⟩ (by decide) (by decide)
  ·refine Fi.by' (st' := s₁.setTop (mkF m 51 #[.val (.int pa), .val (.int pn), .val (.int pd), .val (.int (pa &&& (255 : Int32))), .val (.int (pd &&& (255 : Int32)))] [])) (fun t k => ?_) ?_
   ·refine XS.icmpYes W0.here hx rfl (pc0 := 32) (pc' := 51) rfl (hb hby d61_32) rfl (feq hc32_6).2 (by decide) (by decide) ?_
    exact k
   refine W0.new hx (ww hw 7 rfl) (ww hw 8 rfl) (ww hw 9 rfl) (g := (mkF m 51 #[.val (.int pa), .val (.int pn), .val (.int pd), .val (.int (pa &&& (255 : Int32))), .val (.int (pd &&& (255 : Int32)))] [])) rfl (hb hby d61_51) (by decide) (by decide) (fun T12 h12 a12 ha12 W12 E12 A12 D12 => ?_)
   change Fi _ _ _ _ _ _ _ _ _ _ (T12.setTop (mkF m 54 #[.val (.int pa), .val (.int pn), .val (.int pd), .val (.int (pa &&& (255 : Int32))), .val (.int (pd &&& (255 : Int32)))] [(.ref a12)]))
   have sz12 := E12.1
   refine Fi.by' (st' := T12.setTop (mkF m 56 #[.val (.int pa), .val (.int pn), .val (.int pd), .val (.int (pa &&& (255 : Int32))), .val (.int (pd &&& (255 : Int32)))] [(.int 2), (.ref a12), (.ref a12)])) (fun t k => ?_) ?_
   ·refine XS.dup W12.here hx rfl (hb hby d61_54) rfl rfl ?_
    refine iconstZ W12.here hx rfl (hb hby d61_55) (z := (2 : Int32)) rfl ?_
    exact k
   refine W12.newP hx (aty := .char) (ww hw 10 rfl) (g := (mkF m 56 #[.val (.int pa), .val (.int pn), .val (.int pd), .val (.int (pa &&& (255 : Int32))), .val (.int (pd &&& (255 : Int32)))] [(.int 2), (.ref a12), (.ref a12)])) rfl (hb hby d61_56) rfl (by decide) (cap := 2) (by decide) (by decide) (by decide) (by decide) (fun T13 h13 a13 k13 ha13 W13 E13 A13 => ?_)
   change Fi _ _ _ _ _ _ _ _ _ _ (T13.setTop (mkF m 58 #[.val (.int pa), .val (.int pn), .val (.int pd), .val (.int (pa &&& (255 : Int32))), .val (.int (pd &&& (255 : Int32)))] [(.ref a13), (.ref a12), (.ref a12)]))
   have sz13 := E13.1
   have V13 : Arv Z h13 a13 k13 .char (2 : Int32) (([0, 0] : List Int32).map Value.int) (.int 0) := A13.pad (pad_rep [] (.int 0) 2)
   refine Fi.by' (st' := T13.setTop (mkF m 61 #[.val (.int pa), .val (.int pn), .val (.int pd), .val (.int (pa &&& (255 : Int32))), .val (.int (pd &&& (255 : Int32)))] [(.int (pa &&& (255 : Int32))), (.int 0), (.ref a13), (.ref a13), (.ref a12), (.ref a12)])) (fun t k => ?_) ?_
   ·refine XS.dup W13.here hx rfl (hb hby d61_58) rfl rfl ?_
    refine iconstZ W13.here hx rfl (hb hby d61_59) (z := (0 : Int32)) rfl ?_
    refine XS.iloadN W13.here hx rfl (hb hby d61_60) rfl ?_
    exact k
   refine W13.castore hx V13 (i := 0) (ble_ rfl) (j := (0 : Int32)) rfl (by decide) rfl (ch_ok (and255 _)) (g := (mkF m 61 #[.val (.int pa), .val (.int pn), .val (.int pd), .val (.int (pa &&& (255 : Int32))), .val (.int (pd &&& (255 : Int32)))] [(.int (pa &&& (255 : Int32))), (.int 0), (.ref a13), (.ref a13), (.ref a12), (.ref a12)])) rfl rfl (hb hby d61_61) (by omega) (fun T14 h14 W14 R14 V14 => ?_)
   change Fi _ _ _ _ _ _ _ _ _ _ (T14.setTop (mkF m 62 #[.val (.int pa), .val (.int pn), .val (.int pd), .val (.int (pa &&& (255 : Int32))), .val (.int (pd &&& (255 : Int32)))] [(.ref a13), (.ref a12), (.ref a12)]))
   have x14w : Ext h12 h14 := ext_wr E13 R14 (by omega)
   have sz14 := R14.size
   have V14' : Arv Z h14 a13 k13 .char (2 : Int32) (([(pa &&& (255 : Int32)), 0] : List Int32).map Value.int) (.int 0) := V14
   refine Fi.by' (st' := T14.setTop (mkF m 66 #[.val (.int pa), .val (.int pn), .val (.int pd), .val (.int (pa &&& (255 : Int32))), .val (.int (pd &&& (255 : Int32)))] [(.int (pd &&& (255 : Int32))), (.int 1), (.ref a13), (.ref a13), (.ref a12), (.ref a12)])) (fun t k => ?_) ?_
   ·refine XS.dup W14.here hx rfl (hb hby d61_62) rfl rfl ?_
    refine iconstZ W14.here hx rfl (hb hby d61_63) (z := (1 : Int32)) rfl ?_
    refine XS.iload W14.here hx rfl (hb hby d61_64) rfl ?_
    exact k
   refine W14.castore hx V14' (i := 1) (ble_ rfl) (j := (1 : Int32)) rfl (by decide) rfl (ch_ok (and255 _)) (g := (mkF m 66 #[.val (.int pa), .val (.int pn), .val (.int pd), .val (.int (pa &&& (255 : Int32))), .val (.int (pd &&& (255 : Int32)))] [(.int (pd &&& (255 : Int32))), (.int 1), (.ref a13), (.ref a13), (.ref a12), (.ref a12)])) rfl rfl (hb hby d61_66) (by omega) (fun T15 h15 W15 R15 V15 => ?_)
   change Fi _ _ _ _ _ _ _ _ _ _ (T15.setTop (mkF m 67 #[.val (.int pa), .val (.int pn), .val (.int pd), .val (.int (pa &&& (255 : Int32))), .val (.int (pd &&& (255 : Int32)))] [(.ref a13), (.ref a12), (.ref a12)]))
   have x15w : Ext h12 h15 := ext_wr x14w R15 (by omega)
   have sz15 := R15.size
   have V15' : Arv Z h15 a13 k13 .char (2 : Int32) (([(pa &&& (255 : Int32)), (pd &&& (255 : Int32))] : List Int32).map Value.int) (.int 0) := V15
   have x16 : Ext h0 h15 := ext_trans E12 x15w
   refine W15.callI hx (y := y_32) rfl (ww hw 11 rfl) (ww hw 12 rfl) (ww hw 13 rfl) (by decide) (payS (Wd := 1) (n := 2) (cs := [(pa &&& (255 : Int32)), (pd &&& (255 : Int32))]) hw (by omega) (by omega) (Exa.ext x15w A12) (Fld.ext x15w (D12 (Or.inr (ww hw 23 rfl)) (ty := (.array .byte)) (by decide))) (Fld.ext x15w (D12 (Or.inr (ww hw 24 rfl)) (ty := .byte) (by decide))) (Fld.ext x15w (D12 (Or.inl (ww hw 119 rfl)) (ty := .int) (by decide))) (Fld.ext x15w (D12 (Or.inl (ww hw 121 rfl)) (ty := .boolean) (by decide))) V15' (Sta.ext x16 S0) hz rfl rfl (by decide) (by decide) (all_cons (and255 _) (all_cons (and255 _) all_nil)) (by decide) (by decide)) (a := a12) (g := (mkF m 67 #[.val (.int pa), .val (.int pn), .val (.int pd), .val (.int (pa &&& (255 : Int32))), .val (.int (pd &&& (255 : Int32)))] [(.ref a13), (.ref a12), (.ref a12)])) rfl (by rw [hml]; rfl) (argsL := [(.ref a13)]) (rest := [(.ref a12)]) (lenOf pd_14 rfl) rfl rfl (ble_ rfl) (hb hby d61_67) (by decide) (by decide) (fun v17 T17 h17 W17 sz17 q17 => ?_)
   obtain ⟨rfl, K17, F17⟩ := q17
   change Fi _ _ _ _ _ _ _ _ _ _ (T17.setTop (mkF m 70 #[.val (.int pa), .val (.int pn), .val (.int pd), .val (.int (pa &&& (255 : Int32))), .val (.int (pd &&& (255 : Int32)))] [(.ref a12)]))
   have x17k : Ext h0 h17 := ext_keep1 x16 K17 (by omega)
   exact W17.aret hx hlk hret rfl rfl (hb hby d61_70) ⟨a12, [(pa &&& (255 : Int32)), (pd &&& (255 : Int32))], rfl, x17k, by omega, F17⟩ (by decide) (by decide)
def Q_canEnc (Z : State) (ch : Int32) (h0 : Heap) (v : Option Value) (h : Heap) : Prop := v = some (.int 1) ∧ h0 = h
theorem rm_canEnc (l : Launch) (Z : State) (a0 : Array Value) (hw : ∀ d ∈ tables_1, d.before a0 Z = true) (ch : Int32) (h0 : Heap) (n0 : Nat) (Z0 : n0 ≤ h0.size) (P_ch : ¬ ch < 0 ∧ ¬ (255 : Int32) < ch) :
  Con l Z EL y_35 jdk_43_method_3_code 1 (some .boolean) [] ({ frames := 0, cells := 0, slots := 0, locals := 0 } : Room) #[(.int ch)] h0 n0 (Q_canEnc Z ch h0) := by
 refine Con.intro (own := "java/lang/StringLatin1") rfl (plainFor_of_name plain_java_lang_StringLatin1) (hEL hw) ?_
 intro p e s m below meth c s₁ hx hby hml hret hlk hnm W0
 refine Fi.cast (show entryFrame m #[(.int ch)] 1 = (mkF m 0 #[.val (.int ch)] []) from by first | (simp [entryFrame, mkF, argsToLocals, Value.category]; done) | rfl) ?_
 refine Fi.by' (st' := s₁.setTop (mkF m 4 #[.val (.int ch)] [(.int 255), (.int ch)])) (fun t k => ?_) ?_
 ·refine XS.iloadN W0.here hx rfl (hb hby d30_0) rfl ?_
  refine sipushZ W0.here hx rfl (hb hby d30_1) (z := (255 : Int32)) rfl ?_
  exact k
 refine Fi.by' (st' := s₁.setTop (mkF m 12 #[.val (.int ch)] [(.int 1)])) (fun t k => ?_) ?_
 ·refine XS.icmpNo W0.here hx rfl (hb hby d30_4) rfl (flt P_ch.2).2.2.1 ?_
  refine iconstZ W0.here hx rfl (hb hby d30_7) (z := (1 : Int32)) rfl ?_
  refine XS.goto W0.here hx rfl (pc0 := 8) (pc' := 12) rfl (hb hby d30_8) (by decide) (by decide) ?_
  exact k
 exact W0.iret hx hlk hret (by simp) rfl (hb hby d30_12) ⟨rfl, rfl⟩ (by decide) (by decide)
def Q_toByt (Z : State) (ch : Int32) (h0 : Heap) (v : Option Value) (h : Heap) : Prop := ∃ (b : Addr) (k : ClassId), v = some (.ref b) ∧ Ext h0 h ∧ h0.size ≤ b ∧ Arv Z h b k .byte (1 : Int32) (([low8 ch] : List Int32).map Value.int) (.int 0)
theorem rm_toByt (l : Launch) (Z : State) (a0 : Array Value) (hw : ∀ d ∈ tables_1, d.before a0 Z = true) (ch : Int32) (h0 : Heap) (n0 : Nat) (Z0 : n0 ≤ h0.size) :
  Con l Z EL y_36 jdk_43_method_46_code 1 (some (.array .byte)) [] ({ frames := 0, cells := 1, slots := 1, locals := 0 } : Room) #[.int ch] h0 n0 (Q_toByt Z ch h0) := by
 refine Con.intro (own := "java/lang/StringLatin1") rfl (plainFor_of_name plain_java_lang_StringLatin1) (hEL hw) ?_
 intro p e s m below meth c s₁ hx hby hml hret hlk hnm W0
 refine Fi.cast (show entryFrame m #[.int ch] 1 = (mkF m 0 #[.val (.int ch)] []) from by first | (simp [entryFrame, mkF, argsToLocals, Value.category]; done) | rfl) ?_
 refine Fi.by' (st' := (s₁.setTop (mkF m 1 #[.val (.int ch)] [.int (1 : Int32)]))) (fun t k => iconstZ W0.here hx rfl (hb hby d31_0) (z := (1 : Int32)) rfl k) ?_
 refine W0.newPS hx (aty := .byte) (ww hw 22 rfl) (g := (mkF m 1 #[.val (.int ch)] [.int (1 : Int32)])) rfl (hb hby d31_1) rfl (by decide) (cap := 1) (by decide) (by decide) (by decide) (by decide) (fun T1 h1 a1 k1 ha1 W1 E1 A1 => ?_)
 have sz1 := E1.1
 have V1 : Arv Z h1 a1 k1 .byte (1 : Int32) (([0] : List Int32).map Value.int) (.int 0) := A1.pad (pad_rep [] (.int 0) 1)
 refine Fi.by' (st' := (T1.setTop (mkF m 7 #[.val (.int ch)] [.int (low8 ch), .int (0 : Int32), .ref a1, .ref a1]))) (fun t k => ?_) ?_
 ·refine XS.dup W1.wk.here hx rfl (hb hby d31_3) rfl rfl ?_
  refine iconstZ W1.wk.here hx rfl (hb hby d31_4) (z := (0 : Int32)) rfl ?_
  refine XS.iloadN W1.wk.here hx rfl (hb hby d31_5) rfl ?_
  refine XS.i2b W1.wk.here hx rfl (hb hby d31_6) rfl ?_
  exact k
 refine W1.bastore hx V1 (i := 0) (ble_ rfl) (j := (0 : Int32)) rfl (by decide) rfl (low_ok ch) (g := (mkF m 7 #[.val (.int ch)] [.int (low8 ch), .int (0 : Int32), .ref a1, .ref a1])) rfl rfl (hb hby d31_7) (by omega) (fun T2 h2 W2 R2 V2 => ?_)
 exact W2.wk.aret hx hlk hret rfl rfl (hb hby d31_8) ⟨a1, k1, rfl, ext_wr E1 R2 (by omega), by omega, V2⟩ (by decide) (by decide)
def Q_iniBB (Z : State) (x b : Addr) (cs : List Int32) (h0 : Heap) (v : Option Value) (h : Heap) : Prop := v = none ∧ Keep h0 h [x] ∧ StrH Z h x cs
theorem rm_iniBB (l : Launch) (Z : State) (a0 : Array Value) (hw : ∀ d ∈ tables_1, d.before a0 Z = true) (x b : Addr) (cs : List Int32) (h0 : Heap) (n0 : Nat) (Z0 : n0 ≤ h0.size) (g0 : n0 ≤ x) (A0 : Exa Z h0 x "java/lang/String") (V0 : Fld Z h0 x "java/lang/String" "value" "[B" .null) (C0 : Fld Z h0 x "java/lang/String" "coder" "B" (.int 0)) (H0 : Fld Z h0 x "java/lang/String" "hash" "I" (.int 0)) (J0 : Fld Z h0 x "java/lang/String" "hashIsZero" "Z" (.int 0)) {kb : ClassId} (B0 : Arv Z h0 b kb .byte (Int32.ofNat cs.length) ((cs.map low8).map Value.int) (.int 0)) (hcs : (∀ c ∈ cs, ¬ c < 0 ∧ ¬ (255 : Int32) < c) ∧ cs.length ≤ 1) :
  Con l Z EL y_37 jdk_42_method_151_code 3 none [] ({ frames := 1, cells := 0, slots := 0, locals := 12 } : Room) #[.ref x, .ref b, .int (0 : Int32)] h0 n0 (Q_iniBB Z x b cs h0) := by
 refine Con.intro (own := "java/lang/String") rfl (plainFor_of_name plain_java_lang_String) (hEL hw) ?_
 intro p e s m below meth c s₁ hx hby hml hret hlk hnm W0
 refine Fi.cast (show entryFrame m #[.ref x, .ref b, .int (0 : Int32)] 3 = (mkF m 0 #[.val (.ref x), .val (.ref b), .val (.int 0)] []) from by first | (simp [entryFrame, mkF, argsToLocals, Value.category]; done) | rfl) ?_
 refine Fi.by' (st' := (s₁.setTop (mkF m 1 #[.val (.ref x), .val (.ref b), .val (.int 0)] [.ref x]))) (fun t k => XS.aloadN W0.here hx rfl (hb hby d32_0) rfl rfl k) ?_
 refine W0.initO hx (ww hw 18 rfl) (ww hw 19 rfl) (ww hw 20 rfl) (g := (mkF m 1 #[.val (.ref x), .val (.ref b), .val (.int 0)] [.ref x])) rfl (by rw [hml]; rfl) rfl (hb hby d32_1) (by decide) (Wd := 0) (ble_ rfl) (by decide) (fun T1 W1 => ?_)
 refine Fi.by' (st' := (T1.setTop (mkF m 6 #[.val (.ref x), .val (.ref b), .val (.int 0)] [.ref b, .ref x]))) (fun t k => ?_) ?_
 ·refine XS.aloadN W1.here hx rfl (hb hby d32_4) rfl rfl ?_
  refine XS.aloadN W1.here hx rfl (hb hby d32_5) rfl rfl ?_
  exact k
 refine W1.putF hx (ww hw 27 rfl) V0 A0 (Or.inr ⟨(ww hw 23 rfl), rfl, hnm⟩) (ww hw 8 rfl) (ty := .array .byte) (by decide) rfl rfl (g := (mkF m 6 #[.val (.ref x), .val (.ref b), .val (.int 0)] [.ref b, .ref x])) rfl rfl (hb hby d32_6) g0 (safe_null A0 V0 (ww hw 8 rfl)) (fun T2 h2 W2 R2 => ?_)
 have A2 := Exa.wr R2 A0
 have V2 : Fld Z h2 x "java/lang/String" "value" "[B" (.ref b) := Fld.same R2 V0
 have C2 : Fld Z h2 x "java/lang/String" "coder" "B" (.int 0) := Fld.other R2 C0 (Or.inr (slot_ne (Or.inr (ww hw 24 rfl)) (Or.inr (ww hw 23 rfl)) (by decide) (t := .byte) (t' := .array .byte) (by decide) (by decide)))
 have H2 := Fld.other R2 H0 (Or.inr (slot_ne (Or.inl (ww hw 119 rfl)) (Or.inr (ww hw 23 rfl)) (by decide) (t := .int) (t' := .array .byte) (by decide) (by decide)))
 have J2 := Fld.other R2 J0 (Or.inr (slot_ne (Or.inl (ww hw 121 rfl)) (Or.inr (ww hw 23 rfl)) (by decide) (t := .boolean) (t' := .array .byte) (by decide) (by decide)))
 have B2 := Arv.other B0 R2 (Ne.symm (Exa.neArv A0 B0 (ww hw 8 rfl)))
 refine Fi.by' (st' := (T2.setTop (mkF m 11 #[.val (.ref x), .val (.ref b), .val (.int 0)] [.int (0 : Int32), .ref x]))) (fun t k => ?_) ?_
 ·refine XS.aloadN W2.here hx rfl (hb hby d32_9) rfl rfl ?_
  refine XS.iloadN W2.here hx rfl (hb hby d32_10) rfl ?_
  exact k
 refine W2.putSame hx (ww hw 28 rfl) C2 A2 (Or.inr ⟨(ww hw 24 rfl), rfl, hnm⟩) (ww hw 8 rfl) (ty := .byte) (by decide) rfl rfl (g := (mkF m 11 #[.val (.ref x), .val (.ref b), .val (.int 0)] [.int (0 : Int32), .ref x])) rfl rfl (hb hby d32_11) g0 (fun T3 W3 => ?_)
 exact W3.vret hx hlk hret (hb hby d32_14) ⟨rfl, (Keep.refl h0 [x]).wr R2 (Or.inl (List.mem_singleton.mpr rfl)), b, kb, 0, 0, A2, V2, C2, B2, H2, J2, hcs.1, by have := hcs.2; omega, Or.inl hcs.2, Or.inl rfl, Or.inl rfl⟩ (by decide) (by decide)
def Q_valOf (Z : State) (ch zc : Int32) (h0 : Heap) (v : Option Value) (h : Heap) : Prop := ∃ a : Addr, v = some (.ref a) ∧ Ext h0 h ∧ h0.size ≤ a ∧ StrH Z h a [ch]
theorem rm_valOf (l : Launch) (Z : State) (a0 : Array Value) (hw : ∀ d ∈ tables_1, d.before a0 Z = true) (ch zc : Int32) (h0 : Heap) (n0 : Nat) (Z0 : n0 ≤ h0.size) (S0 : Sta Z h0 "java/lang/String" "COMPACT_STRINGS" "Z" (.int zc)) (hz : ¬ zc = 0) (P_ch : ¬ ch < 0 ∧ ¬ (255 : Int32) < ch) :
  Con l Z EL y_38 jdk_42_method_139_code 1 (some (.object "java/lang/String")) [] ({ frames := 2, cells := 2, slots := 5, locals := 27 } : Room) #[(.int ch)] h0 n0 (Q_valOf Z ch zc h0) := by
 refine Con.intro (own := "java/lang/String") rfl (plainFor_of_name plain_java_lang_String) (hEL hw) ?_
 intro p e s m below meth c s₁ hx hby hml hret hlk hnm W0
 refine Fi.cast (show entryFrame m #[(.int ch)] 1 = (mkF m 0 #[.val (.int ch)] []) from by first | (simp [entryFrame, mkF, argsToLocals, Value.category]; done) | rfl) ?_
 refine W0.getS hx (ww hw 127 rfl) S0 (g := (mkF m 0 #[.val (.int ch)] [])) rfl (hb hby d29_0) (fun T1 W1 => ?_)
 change Fi _ _ _ _ _ _ _ _ _ _ (T1.setTop (mkF m 3 #[.val (.int ch)] [(.int zc)]))
 refine Fi.by' (st' := T1.setTop (mkF m 7 #[.val (.int ch)] [(.int ch)])) (fun t k => ?_) ?_
 ·refine XS.ifNo W1.here hx rfl (hb hby d29_3) rfl ((if0 _ _).trans (feq hz).1) ?_
  refine XS.iloadN W1.here hx rfl (hb hby d29_6) rfl ?_
  exact k
 refine W1.callS hx (y := y_35) (ww hw 183 rfl) (ww hw 184 rfl) (ww hw 130 rfl) (ww hw 185 rfl) (by decide) (Pay.of_con (Wd := 0) (rm_canEnc l Z a0 hw ch h0 n0 (by omega) P_ch) (ww hw 185 rfl) (ww hw 130 rfl) (hEL hw) (by decide) (by decide)) (g := (mkF m 7 #[.val (.int ch)] [(.int ch)])) rfl (by rw [hml]; rfl) (argsL := [(.int ch)]) (rest := []) (lenOf pd_15 rfl) rfl rfl (ble_ rfl) (hb hby d29_7) (by decide) (by decide) (fun v2 T2 h2 W2 sz2 q2 => ?_)
 obtain ⟨rfl, rfl⟩ := q2
 change Fi _ _ _ _ _ _ _ _ _ _ (T2.setTop (mkF m 10 #[.val (.int ch)] [(.int 1)]))
 refine Fi.by' (st' := T2.setTop (mkF m 13 #[.val (.int ch)] [])) (fun t k => ?_) ?_
 ·refine XS.ifNo W2.here hx rfl (hb hby d29_10) rfl ((if0 _ _).trans (feq (by decide : ¬ ((1 : Int32) = (0 : Int32)))).1) ?_
  exact k
 refine W2.new hx (ww hw 157 rfl) (ww hw 8 rfl) (ww hw 9 rfl) (g := (mkF m 13 #[.val (.int ch)] [])) rfl (hb hby d29_13) (by decide) (by decide) (fun T3 h3 a3 ha3 W3 E3 A3 D3 => ?_)
 change Fi _ _ _ _ _ _ _ _ _ _ (T3.setTop (mkF m 16 #[.val (.int ch)] [(.ref a3)]))
 have sz3 := E3.1
 refine Fi.by' (st' := T3.setTop (mkF m 18 #[.val (.int ch)] [(.int ch), (.ref a3), (.ref a3)])) (fun t k => ?_) ?_
 ·refine XS.dup W3.here hx rfl (hb hby d29_16) rfl rfl ?_
  refine XS.iloadN W3.here hx rfl (hb hby d29_17) rfl ?_
  exact k
 refine W3.callS hx (y := y_36) (ww hw 186 rfl) (ww hw 187 rfl) (ww hw 130 rfl) (ww hw 188 rfl) (by decide) (Pay.of_con (Wd := 2) (rm_toByt l Z a0 hw ch h3 n0 (by omega)) (ww hw 188 rfl) (ww hw 130 rfl) (hEL hw) (by decide) (by decide)) (g := (mkF m 18 #[.val (.int ch)] [(.int ch), (.ref a3), (.ref a3)])) rfl (by rw [hml]; rfl) (argsL := [(.int ch)]) (rest := [(.ref a3), (.ref a3)]) (lenOf pd_16 rfl) rfl rfl (ble_ rfl) (hb hby d29_18) (by decide) (by decide) (fun v4 T4 h4 W4 sz4 q4 => ?_)
 obtain ⟨a4, k4, rfl, E4, g4, B4⟩ := q4
 change Fi _ _ _ _ _ _ _ _ _ _ (T4.setTop (mkF m 21 #[.val (.int ch)] [(.ref a4), (.ref a3), (.ref a3)]))
 refine Fi.by' (st' := T4.setTop (mkF m 22 #[.val (.int ch)] [(.int 0), (.ref a4), (.ref a3), (.ref a3)])) (fun t k => ?_) ?_
 ·refine iconstZ W4.here hx rfl (hb hby d29_21) (z := (0 : Int32)) rfl ?_
  exact k
 have x5 : Ext h0 h4 := ext_trans E3 E4
 refine W4.callI hx (y := y_37) rfl (ww hw 189 rfl) (ww hw 190 rfl) (ww hw 191 rfl) (by decide) (Pay.of_con (Wd := 1) (rm_iniBB l Z a0 hw a3 a4 [ch] h4 n0 (by omega) (by omega) (Exa.ext E4 A3) (Fld.ext E4 (D3 (Or.inr (ww hw 23 rfl)) (ty := (.array .byte)) (by decide))) (Fld.ext E4 (D3 (Or.inr (ww hw 24 rfl)) (ty := .byte) (by decide))) (Fld.ext E4 (D3 (Or.inl (ww hw 119 rfl)) (ty := .int) (by decide))) (Fld.ext E4 (D3 (Or.inl (ww hw 121 rfl)) (ty := .boolean) (by decide))) B4 ⟨all_cons P_ch all_nil, ble_ rfl⟩) (ww hw 191 rfl) (ww hw 9 rfl) (hEL hw) (by decide) (by decide)) (a := a3) (g := (mkF m 22 #[.val (.int ch)] [(.int 0), (.ref a4), (.ref a3), (.ref a3)])) rfl (by rw [hml]; rfl) (argsL := [(.ref a4), (.int 0)]) (rest := [(.ref a3)]) (lenOf pd_17 rfl) rfl rfl (ble_ rfl) (hb hby d29_22) (by decide) (by decide) (fun v6 T6 h6 W6 sz6 q6 => ?_)
 obtain ⟨rfl, K6, F6⟩ := q6
 change Fi _ _ _ _ _ _ _ _ _ _ (T6.setTop (mkF m 25 #[.val (.int ch)] [(.ref a3)]))
 have x6k : Ext h0 h6 := ext_keep1 x5 K6 (by omega)
 exact W6.aret hx hlk hret rfl rfl (hb hby d29_25) ⟨a3, rfl, x6k, by omega, F6⟩ (by decide) (by decide)
/-! lists that grow -/
def Ovf (Z : State) (k : ClassId) : Prop := Ovr Z k "java/lang/Object" ∧ Z.vm.findClass "[Ljava/lang/Object;" = some k
theorem exa_cls {Z : State} {h : Heap} {a : Addr} {k : ClassId} {ty : FieldType} {N : Int32} {vs : List Value} {d : Value} {C : String} (E : Exa Z h a C) (F : Arv Z h a k ty N vs d) : Z.vm.findClass C = some k := by
  obtain ⟨cell, k', e1, e2, -⟩ := E
  obtain ⟨c, A, e, -⟩ := F
  cases e1.symm.trans A.1
  rw [← e]; exact e2
theorem exa_arv {Z : State} {h : Heap} {t : Addr} {kb : ClassId} {ty : FieldType} {N : Int32} {vs : List Value} {d : Value} {C : String} (F : Arv Z h t kb ty N vs d) (q : Z.vm.findClass C = some kb) : Exa Z h t C := by
  obtain ⟨c, A, e, -⟩ := F
  obtain ⟨h1, ⟨hs, k, hk, comp, hkind⟩, -⟩ := A
  refine ⟨c, k, h1, by rw [e]; exact q, hk, ?_, fun e => by rw [hkind] at e; cases e⟩
  cases q : c.vm <;> first | rfl | exact absurd q (hs _)
theorem stoV {Z : State} {h : Heap} {a y : Addr} {k : ClassId} {C : String} {N : Int32} {vs : List Value} {d : Value} (A : Arv Z h a k (.object C) N vs d) (O : Ovr Z k C) (I : Ins Z h y C true) : Sto Z h a (.ref y) := by
  obtain ⟨cl, A1, A2, -⟩ := A
  exact Sto.ofV A1 A2 O I
theorem Sta.keep1 {Z : State} {h h' : Heap} {x : Addr} {C O n d : String} {v : Value} (F : Sta Z h O n d v) (K : Keep h h' [x]) (E : Exa Z h x C) : Sta Z h' O n d v := by
  obtain ⟨cf, i, k, f, st, cell, h1, h2, h3, h4, h5, h6, h7⟩ := F
  have ne : st ∉ [x] := fun q => by
    cases List.mem_singleton.mp q
    obtain ⟨cell', k', e1, -, -, e4, -⟩ := E
    cases e1.symm.trans h5
    rw [h6] at e4; cases e4
  exact ⟨cf, i, k, f, st, cell, h1, h2, h3, h4, K.2.1 _ _ h5 ne, h6, h7⟩
def Q_acn (Z : State) (x : Addr) (h0 : Heap) (v : Option Value) (h : Heap) : Prop := v = none ∧ h0 = h
theorem rm_acn (l : Launch) (Z : State) (a0 : Array Value) (hw : ∀ d ∈ tables_1, d.before a0 Z = true) (x : Addr) (h0 : Heap) (n0 : Nat) (Z0 : n0 ≤ h0.size)  :
  Con l Z EL y_39 jdk_22_method_1_code 1 none [] ({ frames := 1, cells := 0, slots := 0, locals := 12 } : Room) #[(.ref x)] h0 n0 (Q_acn Z x h0) := by
 refine Con.intro (own := "java/util/AbstractCollection") rfl (plainFor_of_name plain_java_util_AbstractCollection) (hEL hw) ?_
 intro p e s m below meth c s₁ hx hby hml hret hlk hnm W0
 refine Fi.cast (show entryFrame m #[(.ref x)] 1 = (mkF m 0 #[.val (.ref x)] []) from by first | (simp [entryFrame, mkF, argsToLocals, Value.category]; done) | rfl) ?_
 refine Fi.by' (st' := s₁.setTop (mkF m 1 #[.val (.ref x)] [(.ref x)])) (fun t k => ?_) ?_
 ·refine XS.aloadN W0.here hx rfl (hb hby d8_0) rfl rfl ?_
  exact k
 refine W0.initO hx (ww hw 50 rfl) (ww hw 19 rfl) (ww hw 20 rfl) (g := (mkF m 1 #[.val (.ref x)] [(.ref x)])) rfl (by rw [hml]; rfl) rfl (hb hby d8_1) (by decide) (Wd := 0) (ble_ rfl) (by decide) (fun T1 W1 => ?_)
 change Fi _ _ _ _ _ _ _ _ _ _ (T1.setTop (mkF m 4 #[.val (.ref x)] []))
 exact W1.vret hx hlk hret (hb hby d8_4) ⟨rfl, rfl⟩ (by decide) (by decide)
def Q_abl (Z : State) (al : Addr) (h0 : Heap) (v : Option Value) (h : Heap) : Prop := v = none ∧ Keep h0 h [al] ∧ Exa Z h al "java/util/ArrayList" ∧ Fld Z h al "java/util/AbstractList" "modCount" "I" (.int 0) ∧ Fld Z h al "java/util/ArrayList" "elementData" "[Ljava/lang/Object;" .null ∧ Fld Z h al "java/util/ArrayList" "size" "I" (.int 0)
theorem rm_abl (l : Launch) (Z : State) (a0 : Array Value) (hw : ∀ d ∈ tables_1, d.before a0 Z = true) (al : Addr) (h0 : Heap) (n0 : Nat) (Z0 : n0 ≤ h0.size) (g0 : n0 ≤ al) (A0 : Exa Z h0 al "java/util/ArrayList") (F0_modCount : Fld Z h0 al "java/util/AbstractList" "modCount" "I" (.int 0)) (F0_elementData : Fld Z h0 al "java/util/ArrayList" "elementData" "[Ljava/lang/Object;" .null) (F0_size : Fld Z h0 al "java/util/ArrayList" "size" "I" (.int 0)) :
  Con l Z EL y_40 jdk_39_method_1_code 1 none [] ({ frames := 2, cells := 0, slots := 0, locals := 24 } : Room) #[(.ref al)] h0 n0 (Q_abl Z al h0) := by
 refine Con.intro (own := "java/util/AbstractList") rfl (plainFor_of_name plain_java_util_AbstractList) (hEL hw) ?_
 intro p e s m below meth c s₁ hx hby hml hret hlk hnm W0
 refine Fi.cast (show entryFrame m #[(.ref al)] 1 = (mkF m 0 #[.val (.ref al)] []) from by first | (simp [entryFrame, mkF, argsToLocals, Value.category]; done) | rfl) ?_
 refine Fi.by' (st' := s₁.setTop (mkF m 1 #[.val (.ref al)] [(.ref al)])) (fun t k => ?_) ?_
 ·refine XS.aloadN W0.here hx rfl (hb hby d7_0) rfl rfl ?_
  exact k
 refine W0.callI hx (y := y_39) rfl (ww hw 44 rfl) (ww hw 45 rfl) (ww hw 49 rfl) (by decide) (Pay.of_con (Wd := 0) (rm_acn l Z a0 hw al h0 n0 (by omega)) (ww hw 49 rfl) (ww hw 48 rfl) (hEL hw) (by decide) (by decide)) (a := al) (g := (mkF m 1 #[.val (.ref al)] [(.ref al)])) rfl (by rw [hml]; rfl) (argsL := []) (rest := []) (lenOf pd_18 rfl) rfl rfl (ble_ rfl) (hb hby d7_1) (by decide) (by decide) (fun v1 T1 h1 W1 sz1 q1 => ?_)
 obtain ⟨rfl, rfl⟩ := q1
 change Fi _ _ _ _ _ _ _ _ _ _ (T1.setTop (mkF m 4 #[.val (.ref al)] []))
 refine Fi.by' (st' := T1.setTop (mkF m 6 #[.val (.ref al)] [(.int 0), (.ref al)])) (fun t k => ?_) ?_
 ·refine XS.aloadN W1.here hx rfl (hb hby d7_4) rfl rfl ?_
  refine iconstZ W1.here hx rfl (hb hby d7_5) (z := (0 : Int32)) rfl ?_
  exact k
 refine W1.putF hx (ww hw 51 rfl) F0_modCount A0 (Or.inl (ww hw 52 rfl)) (ww hw 33 rfl) (ty := .int) (by decide) rfl rfl (g := (mkF m 6 #[.val (.ref al)] [(.int 0), (.ref al)])) rfl rfl (hb hby d7_6) g0 (safe_exa A0 (by decide) (by decide)) (fun T2 h2 W2 R2 => ?_)
 change Fi _ _ _ _ _ _ _ _ _ _ (T2.setTop (mkF m 9 #[.val (.ref al)] []))
 have K2 := (Keep.refl h0 [al]).wr R2 (Or.inl (List.mem_singleton.mpr rfl))
 have A2 := Exa.wr R2 A0
 have F2_modCount := Fld.same R2 F0_modCount
 have F2_elementData := Fld.other R2 F0_elementData (Or.inr (slot_ne (Or.inl (ww hw 55 rfl)) (Or.inl (ww hw 52 rfl)) (by decide) (t := (.array (.object "java/lang/Object"))) (t' := .int) (by decide) (by decide)))
 have F2_size := Fld.other R2 F0_size (Or.inr (slot_ne (Or.inl (ww hw 86 rfl)) (Or.inl (ww hw 52 rfl)) (by decide) (t := .int) (t' := .int) (by decide) (by decide)))
 exact W2.vret hx hlk hret (hb hby d7_9) ⟨rfl, K2, A2, F2_modCount, F2_elementData, F2_size⟩ (by decide) (by decide)
def Q_alc (Z : State) (al dc : Addr) (h0 : Heap) (v : Option Value) (h : Heap) : Prop := v = none ∧ Keep h0 h [al] ∧ Exa Z h al "java/util/ArrayList" ∧ Fld Z h al "java/util/AbstractList" "modCount" "I" (.int 0) ∧ Fld Z h al "java/util/ArrayList" "elementData" "[Ljava/lang/Object;" (.ref dc) ∧ Fld Z h al "java/util/ArrayList" "size" "I" (.int 0)
theorem rm_alc (l : Launch) (Z : State) (a0 : Array Value) (hw : ∀ d ∈ tables_1, d.before a0 Z = true) (al dc : Addr) (h0 : Heap) (n0 : Nat) (Z0 : n0 ≤ h0.size) (g0 : n0 ≤ al) (A0 : Exa Z h0 al "java/util/ArrayList") (F0_modCount : Fld Z h0 al "java/util/AbstractList" "modCount" "I" (.int 0)) (F0_elementData : Fld Z h0 al "java/util/ArrayList" "elementData" "[Ljava/lang/Object;" .null) (F0_size : Fld Z h0 al "java/util/ArrayList" "size" "I" (.int 0)) (D0 : Sta Z h0 "java/util/ArrayList" "DEFAULTCAPACITY_EMPTY_ELEMENTDATA" "[Ljava/lang/Object;" (.ref dc)) :
  Con l Z EL y_41 jdk_38_method_2_code 1 none [] ({ frames := 3, cells := 0, slots := 0, locals := 36 } : Room) #[(.ref al)] h0 n0 (Q_alc Z al dc h0) := by
 refine Con.intro (own := "java/util/ArrayList") rfl (plainFor_of_name plain_java_util_ArrayList) (hEL hw) ?_
 intro p e s m below meth c s₁ hx hby hml hret hlk hnm W0
 refine Fi.cast (show entryFrame m #[(.ref al)] 1 = (mkF m 0 #[.val (.ref al)] []) from by first | (simp [entryFrame, mkF, argsToLocals, Value.category]; done) | rfl) ?_
 refine Fi.by' (st' := s₁.setTop (mkF m 1 #[.val (.ref al)] [(.ref al)])) (fun t k => ?_) ?_
 ·refine XS.aloadN W0.here hx rfl (hb hby d6_0) rfl rfl ?_
  exact k
 refine W0.callI hx (y := y_40) rfl (ww hw 38 rfl) (ww hw 39 rfl) (ww hw 43 rfl) (by decide) (Pay.of_con (Wd := 0) (rm_abl l Z a0 hw al h0 n0 (by omega) g0 A0 F0_modCount F0_elementData F0_size) (ww hw 43 rfl) (ww hw 42 rfl) (hEL hw) (by decide) (by decide)) (a := al) (g := (mkF m 1 #[.val (.ref al)] [(.ref al)])) rfl (by rw [hml]; rfl) (argsL := []) (rest := []) (lenOf pd_18 rfl) rfl rfl (ble_ rfl) (hb hby d6_1) (by decide) (by decide) (fun v1 T1 h1 W1 sz1 q1 => ?_)
 obtain ⟨rfl, K1, A1, F1_modCount, F1_elementData, F1_size⟩ := q1
 change Fi _ _ _ _ _ _ _ _ _ _ (T1.setTop (mkF m 4 #[.val (.ref al)] []))
 have D1 := Sta.keep1 D0 K1 A0
 refine Fi.by' (st' := T1.setTop (mkF m 5 #[.val (.ref al)] [(.ref al)])) (fun t k => ?_) ?_
 ·refine XS.aloadN W1.here hx rfl (hb hby d6_4) rfl rfl ?_
  exact k
 refine W1.getS hx (ww hw 53 rfl) D1 (g := (mkF m 5 #[.val (.ref al)] [(.ref al)])) rfl (hb hby d6_5) (fun T2 W2 => ?_)
 change Fi _ _ _ _ _ _ _ _ _ _ (T2.setTop (mkF m 8 #[.val (.ref al)] [(.ref dc), (.ref al)]))
 refine W2.putF hx (ww hw 54 rfl) F1_elementData A1 (Or.inl (ww hw 55 rfl)) (ww hw 33 rfl) (ty := (.array (.object "java/lang/Object"))) (by decide) rfl rfl (g := (mkF m 8 #[.val (.ref al)] [(.ref dc), (.ref al)])) rfl rfl (hb hby d6_8) g0 (safe_exa A1 (by decide) (by decide)) (fun T3 h3 W3 R3 => ?_)
 change Fi _ _ _ _ _ _ _ _ _ _ (T3.setTop (mkF m 11 #[.val (.ref al)] []))
 have K3 := K1.wr R3 (Or.inl (List.mem_singleton.mpr rfl))
 have A3 := Exa.wr R3 A1
 have F3_modCount := Fld.other R3 F1_modCount (Or.inr (slot_ne (Or.inl (ww hw 52 rfl)) (Or.inl (ww hw 55 rfl)) (by decide) (t := .int) (t' := (.array (.object "java/lang/Object"))) (by decide) (by decide)))
 have F3_elementData := Fld.same R3 F1_elementData
 have F3_size := Fld.other R3 F1_size (Or.inr (slot_ne (Or.inl (ww hw 86 rfl)) (Or.inl (ww hw 55 rfl)) (by decide) (t := .int) (t' := (.array (.object "java/lang/Object"))) (by decide) (by decide)))
 exact W3.vret hx hlk hret (hb hby d6_11) ⟨rfl, K3, A3, F3_modCount, F3_elementData, F3_size⟩ (by decide) (by decide)
def Q_mmax (Z : State)  (h0 : Heap) (v : Option Value) (h : Heap) : Prop := v = some (.int 10) ∧ h0 = h
theorem rm_mmax (l : Launch) (Z : State) (a0 : Array Value) (hw : ∀ d ∈ tables_1, d.before a0 Z = true)  (h0 : Heap) (n0 : Nat) (Z0 : n0 ≤ h0.size)  :
  Con l Z EL y_42 jdk_29_method_65_code 2 (some .int) [] ({ frames := 0, cells := 0, slots := 0, locals := 0 } : Room) #[(.int 10), (.int 1)] h0 n0 (Q_mmax Z  h0) := by
 refine Con.intro (own := "java/lang/Math") rfl (by decide +kernel) (hEL hw) ?_
 intro p e s m below meth c s₁ hx hby hml hret hlk hnm W0
 refine Fi.cast (show entryFrame m #[(.int 10), (.int 1)] 2 = (mkF m 0 #[.val (.int 10), .val (.int 1)] []) from by first | (simp [entryFrame, mkF, argsToLocals, Value.category]; done) | rfl) ?_
 refine Fi.by' (st' := s₁.setTop (mkF m 10 #[.val (.int 10), .val (.int 1)] [(.int 10)])) (fun t k => ?_) ?_
 ·refine XS.iloadN W0.here hx rfl (hb hby d37_0) rfl ?_
  refine XS.iloadN W0.here hx rfl (hb hby d37_1) rfl ?_
  refine XS.icmpNo W0.here hx rfl (hb hby d37_2) rfl (flt (by decide : ¬ ((10 : Int32) < (1 : Int32)))).1 ?_
  refine XS.iloadN W0.here hx rfl (hb hby d37_5) rfl ?_
  refine XS.goto W0.here hx rfl (pc0 := 6) (pc' := 10) rfl (hb hby d37_6) (by decide) (by decide) ?_
  exact k
 exact W0.iret hx hlk hret (by simp) rfl (hb hby d37_10) ⟨rfl, rfl⟩ (by decide) (by decide)
def Q_gri (Z : State) (al dc : Addr) (mc : Int32) (kd : ClassId) (h0 : Heap) (v : Option Value) (h : Heap) : Prop := ∃ (na : Addr) (kn : ClassId), v = some (.ref na) ∧ Keep h0 h [al] ∧ Exa Z h al "java/util/ArrayList" ∧ Fld Z h al "java/util/AbstractList" "modCount" "I" (.int mc) ∧ Fld Z h al "java/util/ArrayList" "elementData" "[Ljava/lang/Object;" (.ref na) ∧ Fld Z h al "java/util/ArrayList" "size" "I" (.int 0) ∧ h0.size ≤ na ∧ Arv Z h na kn (.object "java/lang/Object") (10 : Int32) [.null, .null, .null, .null, .null, .null, .null, .null, .null, .null] .null ∧ Ovf Z kn
theorem rm_gri (l : Launch) (Z : State) (a0 : Array Value) (hw : ∀ d ∈ tables_1, d.before a0 Z = true) (al dc : Addr) (mc : Int32) (kd : ClassId) (h0 : Heap) (n0 : Nat) (Z0 : n0 ≤ h0.size) (g0 : n0 ≤ al) (A0 : Exa Z h0 al "java/util/ArrayList") (F0_modCount : Fld Z h0 al "java/util/AbstractList" "modCount" "I" (.int mc)) (F0_elementData : Fld Z h0 al "java/util/ArrayList" "elementData" "[Ljava/lang/Object;" (.ref dc)) (F0_size : Fld Z h0 al "java/util/ArrayList" "size" "I" (.int 0)) (D0 : Sta Z h0 "java/util/ArrayList" "DEFAULTCAPACITY_EMPTY_ELEMENTDATA" "[Ljava/lang/Object;" (.ref dc)) (B0 : Arv Z h0 dc kd (.object "java/lang/Object") (0 : Int32) [] .null) :
  Con l Z EL y_43 jdk_38_method_6_code 4 (some (.array (.object "java/lang/Object"))) [] ({ frames := 1, cells := 1, slots := 10, locals := 14 } : Room) #[(.ref al), (.int 1)] h0 n0 (Q_gri Z al dc mc kd h0) := by
 refine Con.intro (own := "java/util/ArrayList") rfl (plainFor_of_name plain_java_util_ArrayList) (hEL hw) ?_
 intro p e s m below meth c s₁ hx hby hml hret hlk hnm W0
 refine Fi.cast (show entryFrame m #[(.ref al), (.int 1)] 4 = (mkF m 0 #[.val (.ref al), .val (.int 1), .unset, .unset] []) from by first | (simp [entryFrame, mkF, argsToLocals, Value.category]; done) | rfl) ?_
 refine Fi.by' (st' := s₁.setTop (mkF m 1 #[.val (.ref al), .val (.int 1), .unset, .unset] [(.ref al)])) (fun t k => ?_) ?_
 ·refine XS.aloadN W0.here hx rfl (hb hby d36_0) rfl rfl ?_
  exact k
 refine W0.getF hx (ww hw 54 rfl) F0_elementData (g := (mkF m 1 #[.val (.ref al), .val (.int 1), .unset, .unset] [(.ref al)])) rfl rfl (hb hby d36_1) (fun T1 W1 => ?_)
 change Fi _ _ _ _ _ _ _ _ _ _ (T1.setTop (mkF m 4 #[.val (.ref al), .val (.int 1), .unset, .unset] [(.ref dc)]))
 refine W1.alen hx B0 (g := (mkF m 4 #[.val (.ref al), .val (.int 1), .unset, .unset] [(.ref dc)])) rfl rfl (hb hby d36_4) ?_
 change Fi _ _ _ _ _ _ _ _ _ _ (T1.setTop (mkF m 5 #[.val (.ref al), .val (.int 1), .unset, .unset] [(.int 0)]))
 refine Fi.by' (st' := T1.setTop (mkF m 11 #[.val (.ref al), .val (.int 1), .val (.int 0), .unset] [(.ref al)])) (fun t k => ?_) ?_
 ·refine XS.istoreN W1.here hx rfl (hb hby d36_5) rfl (l' := #[.val (.ref al), .val (.int 1), .val (.int 0), .unset]) rfl ?_
  refine XS.iloadN W1.here hx rfl (hb hby d36_6) rfl ?_
  refine XS.ifNo W1.here hx rfl (hb hby d36_7) rfl ((if0 _ _).trans (flt (by decide : ¬ ((0 : Int32) < (0 : Int32)))).2.2.1) ?_
  refine XS.aloadN W1.here hx rfl (hb hby d36_10) rfl rfl ?_
  exact k
 refine W1.getF hx (ww hw 54 rfl) F0_elementData (g := (mkF m 11 #[.val (.ref al), .val (.int 1), .val (.int 0), .unset] [(.ref al)])) rfl rfl (hb hby d36_11) (fun T3 W3 => ?_)
 change Fi _ _ _ _ _ _ _ _ _ _ (T3.setTop (mkF m 14 #[.val (.ref al), .val (.int 1), .val (.int 0), .unset] [(.ref dc)]))
 refine W3.getS hx (ww hw 53 rfl) D0 (g := (mkF m 14 #[.val (.ref al), .val (.int 1), .val (.int 0), .unset] [(.ref dc)])) rfl (hb hby d36_14) (fun T4 W4 => ?_)
 change Fi _ _ _ _ _ _ _ _ _ _ (T4.setTop (mkF m 17 #[.val (.ref al), .val (.int 1), .val (.int 0), .unset] [(.ref dc), (.ref dc)]))
 refine Fi.by' (st' := T4.setTop (mkF m 49 #[.val (.ref al), .val (.int 1), .val (.int 0), .unset] [(.int 1), (.int 10), (.ref al)])) (fun t k => ?_) ?_
 ·refine XS.acmpYes W4.here hx rfl (pc0 := 17) (pc' := 45) rfl (hb hby d36_17) rfl (acmpTEq (rfl : dc = dc)) (by decide) (by decide) ?_
  refine XS.aloadN W4.here hx rfl (hb hby d36_45) rfl rfl ?_
  refine bipushZ W4.here hx rfl (hb hby d36_46) (z := (10 : Int32)) rfl ?_
  refine XS.iloadN W4.here hx rfl (hb hby d36_48) rfl ?_
  exact k
 refine W4.callS hx (y := y_42) (ww hw 214 rfl) (ww hw 215 rfl) (ww hw 216 rfl) (ww hw 217 rfl) (by decide) (Pay.of_con (Wd := 1) (rm_mmax l Z a0 hw h0 n0 (by omega)) (ww hw 217 rfl) (ww hw 216 rfl) (hEL hw) (by decide) (by decide)) (g := (mkF m 49 #[.val (.ref al), .val (.int 1), .val (.int 0), .unset] [(.int 1), (.int 10), (.ref al)])) rfl (by rw [hml]; rfl) (argsL := [(.int 10), (.int 1)]) (rest := [(.ref al)]) (lenOf pd_19 rfl) rfl rfl (ble_ rfl) (hb hby d36_49) (by decide) (by decide) (fun v5 T5 h5 W5 sz5 q5 => ?_)
 obtain ⟨rfl, rfl⟩ := q5
 change Fi _ _ _ _ _ _ _ _ _ _ (T5.setTop (mkF m 52 #[.val (.ref al), .val (.int 1), .val (.int 0), .unset] [(.int 10), (.ref al)]))
 refine W5.newR hx (ww hw 218 rfl) (ww hw 101 rfl) (ad := "[Ljava/lang/Object;") rfl (g := (mkF m 52 #[.val (.ref al), .val (.int 1), .val (.int 0), .unset] [(.int 10), (.ref al)])) rfl (hb hby d36_52) rfl (by decide) (cap := 10) (by decide) (by decide) (by decide) (by decide) (fun T6 h6 a6 k6 ha6 W6 E6 A6 X6 O6 => ?_)
 change Fi _ _ _ _ _ _ _ _ _ _ (T6.setTop (mkF m 55 #[.val (.ref al), .val (.int 1), .val (.int 0), .unset] [(.ref a6), (.ref al)]))
 have sz6 := E6.1
 have V6 : Arv Z h6 a6 k6 (.object "java/lang/Object") (10 : Int32) [.null, .null, .null, .null, .null, .null, .null, .null, .null, .null] .null := A6.pad (pad_rep [] .null 10)
 refine Fi.by' (st' := T6.setTop (mkF m 56 #[.val (.ref al), .val (.int 1), .val (.int 0), .unset] [(.ref a6), (.ref al), (.ref a6)])) (fun t k => ?_) ?_
 ·refine XS.dupX1 W6.here hx rfl (hb hby d36_55) rfl rfl rfl ?_
  exact k
 refine W6.putF hx (ww hw 54 rfl) (Fld.ext E6 F0_elementData) (Exa.ext E6 A0) (Or.inl (ww hw 55 rfl)) (ww hw 33 rfl) (ty := (.array (.object "java/lang/Object"))) (by decide) rfl rfl (g := (mkF m 56 #[.val (.ref al), .val (.int 1), .val (.int 0), .unset] [(.ref a6), (.ref al), (.ref a6)])) rfl rfl (hb hby d36_56) g0 (safe_exa (Exa.ext E6 A0) (by decide) (by decide)) (fun T7 h7 W7 R7 => ?_)
 change Fi _ _ _ _ _ _ _ _ _ _ (T7.setTop (mkF m 59 #[.val (.ref al), .val (.int 1), .val (.int 0), .unset] [(.ref a6)]))
 have K7 := ((Keep.refl h0 [al]).ext E6).wr R7 (Or.inl (List.mem_singleton.mpr rfl))
 have A7 := Exa.wr R7 (Exa.ext E6 A0)
 have F7_modCount := Fld.other R7 (Fld.ext E6 F0_modCount) (Or.inr (slot_ne (Or.inl (ww hw 52 rfl)) (Or.inl (ww hw 55 rfl)) (by decide) (t := .int) (t' := (.array (.object "java/lang/Object"))) (by decide) (by decide)))
 have F7_elementData := Fld.same R7 (Fld.ext E6 F0_elementData)
 have F7_size := Fld.other R7 (Fld.ext E6 F0_size) (Or.inr (slot_ne (Or.inl (ww hw 86 rfl)) (Or.inl (ww hw 55 rfl)) (by decide) (t := .int) (t' := (.array (.object "java/lang/Object"))) (by decide) (by decide)))
 have V7_a6 := Arv.other V6 R7 (Ne.symm (Exa.neArv (Exa.ext E6 A0) V6 (ww hw 33 rfl)))
 exact W7.aret hx hlk hret rfl rfl (hb hby d36_59) ⟨a6, k6, rfl, K7, A7, F7_modCount, F7_elementData, F7_size, by omega, V7_a6, ⟨O6, exa_cls X6 V6⟩⟩ (by decide) (by decide)
def Q_gr0 (Z : State) (al dc : Addr) (mc : Int32) (kd : ClassId) (h0 : Heap) (v : Option Value) (h : Heap) : Prop := ∃ (na : Addr) (kn : ClassId), v = some (.ref na) ∧ Keep h0 h [al] ∧ Exa Z h al "java/util/ArrayList" ∧ Fld Z h al "java/util/AbstractList" "modCount" "I" (.int mc) ∧ Fld Z h al "java/util/ArrayList" "elementData" "[Ljava/lang/Object;" (.ref na) ∧ Fld Z h al "java/util/ArrayList" "size" "I" (.int 0) ∧ h0.size ≤ na ∧ Arv Z h na kn (.object "java/lang/Object") (10 : Int32) [.null, .null, .null, .null, .null, .null, .null, .null, .null, .null] .null ∧ Ovf Z kn
theorem rm_gr0 (l : Launch) (Z : State) (a0 : Array Value) (hw : ∀ d ∈ tables_1, d.before a0 Z = true) (al dc : Addr) (mc : Int32) (kd : ClassId) (h0 : Heap) (n0 : Nat) (Z0 : n0 ≤ h0.size) (g0 : n0 ≤ al) (A0 : Exa Z h0 al "java/util/ArrayList") (F0_modCount : Fld Z h0 al "java/util/AbstractList" "modCount" "I" (.int mc)) (F0_elementData : Fld Z h0 al "java/util/ArrayList" "elementData" "[Ljava/lang/Object;" (.ref dc)) (F0_size : Fld Z h0 al "java/util/ArrayList" "size" "I" (.int 0)) (D0 : Sta Z h0 "java/util/ArrayList" "DEFAULTCAPACITY_EMPTY_ELEMENTDATA" "[Ljava/lang/Object;" (.ref dc)) (B0 : Arv Z h0 dc kd (.object "java/lang/Object") (0 : Int32) [] .null) :
  Con l Z EL y_44 jdk_38_method_7_code 1 (some (.array (.object "java/lang/Object"))) [] ({ frames := 2, cells := 1, slots := 10, locals := 29 } : Room) #[(.ref al)] h0 n0 (Q_gr0 Z al dc mc kd h0) := by
 refine Con.intro (own := "java/util/ArrayList") rfl (plainFor_of_name plain_java_util_ArrayList) (hEL hw) ?_
 intro p e s m below meth c s₁ hx hby hml hret hlk hnm W0
 refine Fi.cast (show entryFrame m #[(.ref al)] 1 = (mkF m 0 #[.val (.ref al)] []) from by first | (simp [entryFrame, mkF, argsToLocals, Value.category]; done) | rfl) ?_
 refine Fi.by' (st' := s₁.setTop (mkF m 2 #[.val (.ref al)] [(.ref al), (.ref al)])) (fun t k => ?_) ?_
 ·refine XS.aloadN W0.here hx rfl (hb hby d35_0) rfl rfl ?_
  refine XS.aloadN W0.here hx rfl (hb hby d35_1) rfl rfl ?_
  exact k
 refine W0.getF hx (ww hw 85 rfl) F0_size (g := (mkF m 2 #[.val (.ref al)] [(.ref al), (.ref al)])) rfl rfl (hb hby d35_2) (fun T1 W1 => ?_)
 change Fi _ _ _ _ _ _ _ _ _ _ (T1.setTop (mkF m 5 #[.val (.ref al)] [(.int 0), (.ref al)]))
 refine Fi.by' (st' := T1.setTop (mkF m 7 #[.val (.ref al)] [(.int 1), (.ref al)])) (fun t k => ?_) ?_
 ·refine iconstZ W1.here hx rfl (hb hby d35_5) (z := (1 : Int32)) rfl ?_
  refine XS.iadd W1.here hx rfl (hb hby d35_6) rfl ?_
  exact k
 refine W1.callP hx (y := y_43) (ww hw 209 rfl) (ww hw 210 rfl) (ww hw 211 rfl) (ww hw 213 rfl) (ww hw 33 rfl) (by decide) (Pay.of_con (Wd := 0) (rm_gri l Z a0 hw al dc mc kd h0 n0 (by omega) g0 A0 F0_modCount F0_elementData F0_size D0 B0) (ww hw 213 rfl) (ww hw 34 rfl) (hEL hw) (by decide) (by decide)) A0 (g := (mkF m 7 #[.val (.ref al)] [(.int 1), (.ref al)])) rfl (by rw [hml]; rfl) (argsL := [(.int 1)]) (rest := []) (lenOf pd_20 rfl) rfl rfl (ble_ rfl) (hb hby d35_7) (by decide) (by decide) (fun v2 T2 h2 W2 sz2 q2 => ?_)
 obtain ⟨na, kn, rfl, Y2⟩ := q2
 change Fi _ _ _ _ _ _ _ _ _ _ (T2.setTop (mkF m 10 #[.val (.ref al)] [(.ref na)]))
 exact W2.aret hx hlk hret rfl rfl (hb hby d35_10) ⟨na, kn, rfl, Y2⟩ (by decide) (by decide)
def Q_adh0 (Z : State) (al x dc : Addr) (mc : Int32) (kd : ClassId) (h0 : Heap) (v : Option Value) (h : Heap) : Prop := v = none ∧ ∃ (na : Addr) (kn : ClassId), Keep h0 h [al] ∧ Exa Z h al "java/util/ArrayList" ∧ Fld Z h al "java/util/AbstractList" "modCount" "I" (.int mc) ∧ Fld Z h al "java/util/ArrayList" "elementData" "[Ljava/lang/Object;" (.ref na) ∧ Fld Z h al "java/util/ArrayList" "size" "I" (.int 1) ∧ h0.size ≤ na ∧ Arv Z h na kn (.object "java/lang/Object") (10 : Int32) [(.ref x), .null, .null, .null, .null, .null, .null, .null, .null, .null] .null ∧ Ovf Z kn
theorem rm_adh0 (l : Launch) (Z : State) (a0 : Array Value) (hw : ∀ d ∈ tables_1, d.before a0 Z = true) (al x dc : Addr) (mc : Int32) (kd : ClassId) (h0 : Heap) (n0 : Nat) (Z0 : n0 ≤ h0.size) (g0 : n0 ≤ al) (A0 : Exa Z h0 al "java/util/ArrayList") (F0_modCount : Fld Z h0 al "java/util/AbstractList" "modCount" "I" (.int mc)) (F0_elementData : Fld Z h0 al "java/util/ArrayList" "elementData" "[Ljava/lang/Object;" (.ref dc)) (F0_size : Fld Z h0 al "java/util/ArrayList" "size" "I" (.int 0)) (XI : Exa Z h0 x "java/lang/String") (D0 : Sta Z h0 "java/util/ArrayList" "DEFAULTCAPACITY_EMPTY_ELEMENTDATA" "[Ljava/lang/Object;" (.ref dc)) (B0 : Arv Z h0 dc kd (.object "java/lang/Object") (0 : Int32) [] .null) :
  Con l Z EL y_45 jdk_38_method_24_code 4 none [] ({ frames := 3, cells := 1, slots := 10, locals := 41 } : Room) #[(.ref al), (.ref x), (.ref dc), (.int 0)] h0 n0 (Q_adh0 Z al x dc mc kd h0) := by
 refine Con.intro (own := "java/util/ArrayList") rfl (plainFor_of_name plain_java_util_ArrayList) (hEL hw) ?_
 intro p e s m below meth c s₁ hx hby hml hret hlk hnm W0
 refine Fi.cast (show entryFrame m #[(.ref al), (.ref x), (.ref dc), (.int 0)] 4 = (mkF m 0 #[.val (.ref al), .val (.ref x), .val (.ref dc), .val (.int 0)] []) from by first | (simp [entryFrame, mkF, argsToLocals, Value.category]; done) | rfl) ?_
 refine Fi.by' (st' := s₁.setTop (mkF m 2 #[.val (.ref al), .val (.ref x), .val (.ref dc), .val (.int 0)] [(.ref dc), (.int 0)])) (fun t k => ?_) ?_
 ·refine XS.iloadN W0.here hx rfl (hb hby d34_0) rfl ?_
  refine XS.aloadN W0.here hx rfl (hb hby d34_1) rfl rfl ?_
  exact k
 refine W0.alen hx B0 (g := (mkF m 2 #[.val (.ref al), .val (.ref x), .val (.ref dc), .val (.int 0)] [(.ref dc), (.int 0)])) rfl rfl (hb hby d34_2) ?_
 change Fi _ _ _ _ _ _ _ _ _ _ (s₁.setTop (mkF m 3 #[.val (.ref al), .val (.ref x), .val (.ref dc), .val (.int 0)] [(.int 0), (.int 0)]))
 refine Fi.by' (st' := s₁.setTop (mkF m 7 #[.val (.ref al), .val (.ref x), .val (.ref dc), .val (.int 0)] [(.ref al)])) (fun t k => ?_) ?_
 ·refine XS.icmpNo W0.here hx rfl (hb hby d34_3) rfl (teq (by decide : ((0 : Int32) = (0 : Int32)))).2 ?_
  refine XS.aloadN W0.here hx rfl (hb hby d34_6) rfl rfl ?_
  exact k
 refine W0.callP hx (y := y_44) (ww hw 204 rfl) (ww hw 205 rfl) (ww hw 206 rfl) (ww hw 208 rfl) (ww hw 33 rfl) (by decide) (Pay.of_con (Wd := 0) (rm_gr0 l Z a0 hw al dc mc kd h0 n0 (by omega) g0 A0 F0_modCount F0_elementData F0_size D0 B0) (ww hw 208 rfl) (ww hw 34 rfl) (hEL hw) (by decide) (by decide)) A0 (g := (mkF m 7 #[.val (.ref al), .val (.ref x), .val (.ref dc), .val (.int 0)] [(.ref al)])) rfl (by rw [hml]; rfl) (argsL := []) (rest := []) (lenOf pd_21 rfl) rfl rfl (ble_ rfl) (hb hby d34_7) (by decide) (by decide) (fun v2 T2 h2 W2 sz2 q2 => ?_)
 obtain ⟨na, kn, rfl, K2, A2, F2_modCount, F2_elementData, F2_size, gn, V2, On⟩ := q2
 change Fi _ _ _ _ _ _ _ _ _ _ (T2.setTop (mkF m 10 #[.val (.ref al), .val (.ref x), .val (.ref dc), .val (.int 0)] [(.ref na)]))
 refine Fi.by' (st' := T2.setTop (mkF m 14 #[.val (.ref al), .val (.ref x), .val (.ref na), .val (.int 0)] [(.ref x), (.int 0), (.ref na)])) (fun t k => ?_) ?_
 ·refine XS.astoreN W2.here hx rfl (hb hby d34_10) rfl rfl (l' := #[.val (.ref al), .val (.ref x), .val (.ref na), .val (.int 0)]) rfl ?_
  refine XS.aloadN W2.here hx rfl (hb hby d34_11) rfl rfl ?_
  refine XS.iloadN W2.here hx rfl (hb hby d34_12) rfl ?_
  refine XS.aloadN W2.here hx rfl (hb hby d34_13) rfl rfl ?_
  exact k
 refine W2.aastore hx V2 On.1 (Ins.of_exa (XI.keep K2) (ww hw 102 rfl)) (i := 0) (ble_ rfl) (j := (0 : Int32)) rfl (by decide) (g := (mkF m 14 #[.val (.ref al), .val (.ref x), .val (.ref na), .val (.int 0)] [(.ref x), (.int 0), (.ref na)])) rfl rfl (hb hby d34_14) (by omega) (fun T3 h3 W3 R3 V3 => ?_)
 change Fi _ _ _ _ _ _ _ _ _ _ (T3.setTop (mkF m 15 #[.val (.ref al), .val (.ref x), .val (.ref na), .val (.int 0)] []))
 have ne3 : al ≠ na := Exa.neArv A2 V2 (ww hw 33 rfl)
 have K3 := K2.wr R3 (Or.inr (by omega))
 have A3 := Exa.wr R3 A2
 have F3_modCount := Fld.other R3 F2_modCount (Or.inl ne3)
 have F3_elementData := Fld.other R3 F2_elementData (Or.inl ne3)
 have F3_size := Fld.other R3 F2_size (Or.inl ne3)
 have V3' : Arv Z h3 na kn (.object "java/lang/Object") (10 : Int32) [(.ref x), .null, .null, .null, .null, .null, .null, .null, .null, .null] .null := V3
 refine Fi.by' (st' := T3.setTop (mkF m 19 #[.val (.ref al), .val (.ref x), .val (.ref na), .val (.int 0)] [(.int 1), (.ref al)])) (fun t k => ?_) ?_
 ·refine XS.aloadN W3.here hx rfl (hb hby d34_15) rfl rfl ?_
  refine XS.iloadN W3.here hx rfl (hb hby d34_16) rfl ?_
  refine iconstZ W3.here hx rfl (hb hby d34_17) (z := (1 : Int32)) rfl ?_
  refine XS.iadd W3.here hx rfl (hb hby d34_18) rfl ?_
  exact k
 refine W3.putF hx (ww hw 85 rfl) F3_size A3 (Or.inl (ww hw 86 rfl)) (ww hw 33 rfl) (ty := .int) (by decide) rfl rfl (g := (mkF m 19 #[.val (.ref al), .val (.ref x), .val (.ref na), .val (.int 0)] [(.int 1), (.ref al)])) rfl rfl (hb hby d34_19) g0 (safe_exa A3 (by decide) (by decide)) (fun T4 h4 W4 R4 => ?_)
 change Fi _ _ _ _ _ _ _ _ _ _ (T4.setTop (mkF m 22 #[.val (.ref al), .val (.ref x), .val (.ref na), .val (.int 0)] []))
 have K4 := K3.wr R4 (Or.inl (by simp))
 have A4 := Exa.wr R4 A3
 have F4_modCount := Fld.other R4 F3_modCount (Or.inr (slot_ne (Or.inl (ww hw 52 rfl)) (Or.inl (ww hw 86 rfl)) (by decide) (t := .int) (t' := .int) (by decide) (by decide)))
 have F4_elementData := Fld.other R4 F3_elementData (Or.inr (slot_ne (Or.inl (ww hw 55 rfl)) (Or.inl (ww hw 86 rfl)) (by decide) (t := (.array (.object "java/lang/Object"))) (t' := .int) (by decide) (by decide)))
 have F4_size := Fld.same R4 F3_size
 have V4_na := Arv.other V3' R4 (Ne.symm (Exa.neArv A3 V3' (ww hw 33 rfl)))
 exact W4.vret hx hlk hret (hb hby d34_22) ⟨rfl, na, kn, K4, A4, F4_modCount, F4_elementData, F4_size, by omega, V4_na, On⟩ (by decide) (by decide)
def Q_add0 (Z : State) (al x dc : Addr) (mc : Int32) (kd : ClassId) (h0 : Heap) (v : Option Value) (h : Heap) : Prop := v = some (.int 1) ∧ ∃ (na : Addr) (kn : ClassId), Keep h0 h [al] ∧ Exa Z h al "java/util/ArrayList" ∧ Fld Z h al "java/util/AbstractList" "modCount" "I" (.int (mc + (1 : Int32))) ∧ Fld Z h al "java/util/ArrayList" "elementData" "[Ljava/lang/Object;" (.ref na) ∧ Fld Z h al "java/util/ArrayList" "size" "I" (.int 1) ∧ h0.size ≤ na ∧ Arv Z h na kn (.object "java/lang/Object") (10 : Int32) [(.ref x), .null, .null, .null, .null, .null, .null, .null, .null, .null] .null ∧ Ovf Z kn
theorem rm_add0 (l : Launch) (Z : State) (a0 : Array Value) (hw : ∀ d ∈ tables_1, d.before a0 Z = true) (al x dc : Addr) (mc : Int32) (kd : ClassId) (h0 : Heap) (n0 : Nat) (Z0 : n0 ≤ h0.size) (g0 : n0 ≤ al) (A0 : Exa Z h0 al "java/util/ArrayList") (F0_modCount : Fld Z h0 al "java/util/AbstractList" "modCount" "I" (.int mc)) (F0_elementData : Fld Z h0 al "java/util/ArrayList" "elementData" "[Ljava/lang/Object;" (.ref dc)) (F0_size : Fld Z h0 al "java/util/ArrayList" "size" "I" (.int 0)) (XI : Exa Z h0 x "java/lang/String") (D0 : Sta Z h0 "java/util/ArrayList" "DEFAULTCAPACITY_EMPTY_ELEMENTDATA" "[Ljava/lang/Object;" (.ref dc)) (B0 : Arv Z h0 dc kd (.object "java/lang/Object") (0 : Int32) [] .null) :
  Con l Z EL y_46 jdk_38_method_25_code 2 (some .boolean) [] ({ frames := 4, cells := 1, slots := 10, locals := 56 } : Room) #[(.ref al), (.ref x)] h0 n0 (Q_add0 Z al x dc mc kd h0) := by
 refine Con.intro (own := "java/util/ArrayList") rfl (plainFor_of_name plain_java_util_ArrayList) (hEL hw) ?_
 intro p e s m below meth c s₁ hx hby hml hret hlk hnm W0
 refine Fi.cast (show entryFrame m #[(.ref al), (.ref x)] 2 = (mkF m 0 #[.val (.ref al), .val (.ref x)] []) from by first | (simp [entryFrame, mkF, argsToLocals, Value.category]; done) | rfl) ?_
 refine Fi.by' (st' := s₁.setTop (mkF m 2 #[.val (.ref al), .val (.ref x)] [(.ref al), (.ref al)])) (fun t k => ?_) ?_
 ·refine XS.aloadN W0.here hx rfl (hb hby d33_0) rfl rfl ?_
  refine XS.dup W0.here hx rfl (hb hby d33_1) rfl rfl ?_
  exact k
 refine W0.getFV hx (ww hw 197 rfl) (ww hw 198 rfl) F0_modCount (g := (mkF m 2 #[.val (.ref al), .val (.ref x)] [(.ref al), (.ref al)])) rfl rfl (hb hby d33_2) (fun T1 W1 => ?_)
 change Fi _ _ _ _ _ _ _ _ _ _ (T1.setTop (mkF m 5 #[.val (.ref al), .val (.ref x)] [(.int mc), (.ref al)]))
 refine Fi.by' (st' := T1.setTop (mkF m 7 #[.val (.ref al), .val (.ref x)] [(.int (mc + (1 : Int32))), (.ref al)])) (fun t k => ?_) ?_
 ·refine iconstZ W1.here hx rfl (hb hby d33_5) (z := (1 : Int32)) rfl ?_
  refine XS.iadd W1.here hx rfl (hb hby d33_6) rfl ?_
  exact k
 refine W1.putFV hx (ww hw 197 rfl) (ww hw 198 rfl) F0_modCount A0 (ww hw 52 rfl) (ww hw 33 rfl) (ty := .int) (by decide) rfl rfl (g := (mkF m 7 #[.val (.ref al), .val (.ref x)] [(.int (mc + (1 : Int32))), (.ref al)])) rfl rfl (hb hby d33_7) g0 (safe_exa A0 (by decide) (by decide)) (fun T2 h2 W2 R2 => ?_)
 change Fi _ _ _ _ _ _ _ _ _ _ (T2.setTop (mkF m 10 #[.val (.ref al), .val (.ref x)] []))
 have K2 := (Keep.refl h0 [al]).wr R2 (Or.inl (by simp))
 have A2 := Exa.wr R2 A0
 have F2_modCount := Fld.same R2 F0_modCount
 have F2_elementData := Fld.other R2 F0_elementData (Or.inr (slot_ne (Or.inl (ww hw 55 rfl)) (Or.inl (ww hw 52 rfl)) (by decide) (t := (.array (.object "java/lang/Object"))) (t' := .int) (by decide) (by decide)))
 have F2_size := Fld.other R2 F0_size (Or.inr (slot_ne (Or.inl (ww hw 86 rfl)) (Or.inl (ww hw 52 rfl)) (by decide) (t := .int) (t' := .int) (by decide) (by decide)))
 refine Fi.by' (st' := T2.setTop (mkF m 13 #[.val (.ref al), .val (.ref x)] [(.ref al), (.ref x), (.ref al)])) (fun t k => ?_) ?_
 ·refine XS.aloadN W2.here hx rfl (hb hby d33_10) rfl rfl ?_
  refine XS.aloadN W2.here hx rfl (hb hby d33_11) rfl rfl ?_
  refine XS.aloadN W2.here hx rfl (hb hby d33_12) rfl rfl ?_
  exact k
 refine W2.getF hx (ww hw 54 rfl) F2_elementData (g := (mkF m 13 #[.val (.ref al), .val (.ref x)] [(.ref al), (.ref x), (.ref al)])) rfl rfl (hb hby d33_13) (fun T3 W3 => ?_)
 change Fi _ _ _ _ _ _ _ _ _ _ (T3.setTop (mkF m 16 #[.val (.ref al), .val (.ref x)] [(.ref dc), (.ref x), (.ref al)]))
 refine Fi.by' (st' := T3.setTop (mkF m 17 #[.val (.ref al), .val (.ref x)] [(.ref al), (.ref dc), (.ref x), (.ref al)])) (fun t k => ?_) ?_
 ·refine XS.aloadN W3.here hx rfl (hb hby d33_16) rfl rfl ?_
  exact k
 refine W3.getF hx (ww hw 85 rfl) F2_size (g := (mkF m 17 #[.val (.ref al), .val (.ref x)] [(.ref al), (.ref dc), (.ref x), (.ref al)])) rfl rfl (hb hby d33_17) (fun T4 W4 => ?_)
 change Fi _ _ _ _ _ _ _ _ _ _ (T4.setTop (mkF m 20 #[.val (.ref al), .val (.ref x)] [(.int 0), (.ref dc), (.ref x), (.ref al)]))
 refine W4.callP hx (y := y_45) (ww hw 199 rfl) (ww hw 200 rfl) (ww hw 201 rfl) (ww hw 203 rfl) (ww hw 33 rfl) (by decide) (Pay.of_con (Wd := 0) (rm_adh0 l Z a0 hw al x dc (mc + (1 : Int32)) kd h2 n0 (by rw [R2.size]; exact Z0) g0 A2 F2_modCount F2_elementData F2_size (Exa.wr R2 XI) (Sta.wr R2 D0) (Arv.other B0 R2 (Ne.symm (Exa.neArv A0 B0 (ww hw 33 rfl))))) (ww hw 203 rfl) (ww hw 34 rfl) (hEL hw) (by decide) (by decide)) A2 (g := (mkF m 20 #[.val (.ref al), .val (.ref x)] [(.int 0), (.ref dc), (.ref x), (.ref al)])) rfl (by rw [hml]; rfl) (argsL := [(.ref x), (.ref dc), (.int 0)]) (rest := []) (lenOf pd_22 rfl) rfl rfl (ble_ rfl) (hb hby d33_20) (by decide) (by decide) (fun v5 T5 h5 W5 sz5 q5 => ?_)
 obtain ⟨rfl, na, kn, K5, A5, F5_modCount, F5_elementData, F5_size, gn, V5, On⟩ := q5
 change Fi _ _ _ _ _ _ _ _ _ _ (T5.setTop (mkF m 23 #[.val (.ref al), .val (.ref x)] []))
 have KK := K2.trans K5 (fun y hy => Or.inl hy)
 have gn2 : h0.size ≤ na := by have := R2.size; omega
 refine Fi.by' (st' := T5.setTop (mkF m 24 #[.val (.ref al), .val (.ref x)] [(.int 1)])) (fun t k => ?_) ?_
 ·refine iconstZ W5.here hx rfl (hb hby d33_23) (z := (1 : Int32)) rfl ?_
  exact k
 exact W5.iret hx hlk hret (by simp) rfl (hb hby d33_24) ⟨rfl, na, kn, KK, A5, F5_modCount, F5_elementData, F5_size, gn2, V5, On⟩ (by decide) (by decide)
def Q_adh1 (Z : State) (al x ea x0_ : Addr) (mc : Int32) (ke : ClassId) (h0 : Heap) (v : Option Value) (h : Heap) : Prop := v = none ∧ Keep h0 h [al, ea] ∧ Exa Z h al "java/util/ArrayList" ∧ Fld Z h al "java/util/AbstractList" "modCount" "I" (.int mc) ∧ Fld Z h al "java/util/ArrayList" "elementData" "[Ljava/lang/Object;" (.ref ea) ∧ Fld Z h al "java/util/ArrayList" "size" "I" (.int 2) ∧ Arv Z h ea ke (.object "java/lang/Object") (10 : Int32) [(.ref x0_), (.ref x), .null, .null, .null, .null, .null, .null, .null, .null] .null
theorem rm_adh1 (l : Launch) (Z : State) (a0 : Array Value) (hw : ∀ d ∈ tables_1, d.before a0 Z = true) (al x ea x0_ : Addr) (mc : Int32) (ke : ClassId) (h0 : Heap) (n0 : Nat) (Z0 : n0 ≤ h0.size) (g0 : n0 ≤ al) (A0 : Exa Z h0 al "java/util/ArrayList") (F0_modCount : Fld Z h0 al "java/util/AbstractList" "modCount" "I" (.int mc)) (F0_elementData : Fld Z h0 al "java/util/ArrayList" "elementData" "[Ljava/lang/Object;" (.ref ea)) (F0_size : Fld Z h0 al "java/util/ArrayList" "size" "I" (.int 1)) (XI : Exa Z h0 x "java/lang/String") (B0 : Arv Z h0 ea ke (.object "java/lang/Object") (10 : Int32) [(.ref x0_), .null, .null, .null, .null, .null, .null, .null, .null, .null] .null) (O0 : Ovf Z ke) (ge : n0 ≤ ea) :
  Con l Z EL y_45 jdk_38_method_24_code 4 none [] ({ frames := 0, cells := 0, slots := 0, locals := 0 } : Room) #[(.ref al), (.ref x), (.ref ea), (.int 1)] h0 n0 (Q_adh1 Z al x ea x0_ mc ke h0) := by
 refine Con.intro (own := "java/util/ArrayList") rfl (plainFor_of_name plain_java_util_ArrayList) (hEL hw) ?_
 intro p e s m below meth c s₁ hx hby hml hret hlk hnm W0
 refine Fi.cast (show entryFrame m #[(.ref al), (.ref x), (.ref ea), (.int 1)] 4 = (mkF m 0 #[.val (.ref al), .val (.ref x), .val (.ref ea), .val (.int 1)] []) from by first | (simp [entryFrame, mkF, argsToLocals, Value.category]; done) | rfl) ?_
 refine Fi.by' (st' := s₁.setTop (mkF m 2 #[.val (.ref al), .val (.ref x), .val (.ref ea), .val (.int 1)] [(.ref ea), (.int 1)])) (fun t k => ?_) ?_
 ·refine XS.iloadN W0.here hx rfl (hb hby d34_0) rfl ?_
  refine XS.aloadN W0.here hx rfl (hb hby d34_1) rfl rfl ?_
  exact k
 refine W0.alen hx B0 (g := (mkF m 2 #[.val (.ref al), .val (.ref x), .val (.ref ea), .val (.int 1)] [(.ref ea), (.int 1)])) rfl rfl (hb hby d34_2) ?_
 change Fi _ _ _ _ _ _ _ _ _ _ (s₁.setTop (mkF m 3 #[.val (.ref al), .val (.ref x), .val (.ref ea), .val (.int 1)] [(.int 10), (.int 1)]))
 refine Fi.by' (st' := s₁.setTop (mkF m 14 #[.val (.ref al), .val (.ref x), .val (.ref ea), .val (.int 1)] [(.ref x), (.int 1), (.ref ea)])) (fun t k => ?_) ?_
 ·refine XS.icmpYes W0.here hx rfl (pc0 := 3) (pc' := 11) rfl (hb hby d34_3) rfl (feq (by decide : ¬ ((1 : Int32) = (10 : Int32)))).2 (by decide) (by decide) ?_
  refine XS.aloadN W0.here hx rfl (hb hby d34_11) rfl rfl ?_
  refine XS.iloadN W0.here hx rfl (hb hby d34_12) rfl ?_
  refine XS.aloadN W0.here hx rfl (hb hby d34_13) rfl rfl ?_
  exact k
 refine W0.aastore hx B0 O0.1 (Ins.of_exa XI (ww hw 102 rfl)) (i := 1) (ble_ rfl) (j := (1 : Int32)) rfl (by decide) (g := (mkF m 14 #[.val (.ref al), .val (.ref x), .val (.ref ea), .val (.int 1)] [(.ref x), (.int 1), (.ref ea)])) rfl rfl (hb hby d34_14) ge (fun T2 h2 W2 R2 V2 => ?_)
 change Fi _ _ _ _ _ _ _ _ _ _ (T2.setTop (mkF m 15 #[.val (.ref al), .val (.ref x), .val (.ref ea), .val (.int 1)] []))
 have ne2 : al ≠ ea := Exa.neArv A0 B0 (ww hw 33 rfl)
 have K2 := (Keep.refl h0 [al, ea]).wr R2 (Or.inl (by simp))
 have A2 := Exa.wr R2 A0
 have F2_modCount := Fld.other R2 F0_modCount (Or.inl ne2)
 have F2_elementData := Fld.other R2 F0_elementData (Or.inl ne2)
 have F2_size := Fld.other R2 F0_size (Or.inl ne2)
 have V2' : Arv Z h2 ea ke (.object "java/lang/Object") (10 : Int32) [(.ref x0_), (.ref x), .null, .null, .null, .null, .null, .null, .null, .null] .null := V2
 refine Fi.by' (st' := T2.setTop (mkF m 19 #[.val (.ref al), .val (.ref x), .val (.ref ea), .val (.int 1)] [(.int 2), (.ref al)])) (fun t k => ?_) ?_
 ·refine XS.aloadN W2.here hx rfl (hb hby d34_15) rfl rfl ?_
  refine XS.iloadN W2.here hx rfl (hb hby d34_16) rfl ?_
  refine iconstZ W2.here hx rfl (hb hby d34_17) (z := (1 : Int32)) rfl ?_
  refine XS.iadd W2.here hx rfl (hb hby d34_18) rfl ?_
  exact k
 refine W2.putF hx (ww hw 85 rfl) F2_size A2 (Or.inl (ww hw 86 rfl)) (ww hw 33 rfl) (ty := .int) (by decide) rfl rfl (g := (mkF m 19 #[.val (.ref al), .val (.ref x), .val (.ref ea), .val (.int 1)] [(.int 2), (.ref al)])) rfl rfl (hb hby d34_19) g0 (safe_exa A2 (by decide) (by decide)) (fun T3 h3 W3 R3 => ?_)
 change Fi _ _ _ _ _ _ _ _ _ _ (T3.setTop (mkF m 22 #[.val (.ref al), .val (.ref x), .val (.ref ea), .val (.int 1)] []))
 have K3 := K2.wr R3 (Or.inl (by simp))
 have A3 := Exa.wr R3 A2
 have F3_modCount := Fld.other R3 F2_modCount (Or.inr (slot_ne (Or.inl (ww hw 52 rfl)) (Or.inl (ww hw 86 rfl)) (by decide) (t := .int) (t' := .int) (by decide) (by decide)))
 have F3_elementData := Fld.other R3 F2_elementData (Or.inr (slot_ne (Or.inl (ww hw 55 rfl)) (Or.inl (ww hw 86 rfl)) (by decide) (t := (.array (.object "java/lang/Object"))) (t' := .int) (by decide) (by decide)))
 have F3_size := Fld.same R3 F2_size
 have V3_ea := Arv.other V2' R3 (Ne.symm (Exa.neArv A2 V2' (ww hw 33 rfl)))
 exact W3.vret hx hlk hret (hb hby d34_22) ⟨rfl, K3, A3, F3_modCount, F3_elementData, F3_size, V3_ea⟩ (by decide) (by decide)
def Q_add1 (Z : State) (al x ea x0_ : Addr) (mc : Int32) (ke : ClassId) (h0 : Heap) (v : Option Value) (h : Heap) : Prop := v = some (.int 1) ∧ Keep h0 h [al, ea] ∧ Exa Z h al "java/util/ArrayList" ∧ Fld Z h al "java/util/AbstractList" "modCount" "I" (.int (mc + (1 : Int32))) ∧ Fld Z h al "java/util/ArrayList" "elementData" "[Ljava/lang/Object;" (.ref ea) ∧ Fld Z h al "java/util/ArrayList" "size" "I" (.int 2) ∧ Arv Z h ea ke (.object "java/lang/Object") (10 : Int32) [(.ref x0_), (.ref x), .null, .null, .null, .null, .null, .null, .null, .null] .null
theorem rm_add1 (l : Launch) (Z : State) (a0 : Array Value) (hw : ∀ d ∈ tables_1, d.before a0 Z = true) (al x ea x0_ : Addr) (mc : Int32) (ke : ClassId) (h0 : Heap) (n0 : Nat) (Z0 : n0 ≤ h0.size) (g0 : n0 ≤ al) (A0 : Exa Z h0 al "java/util/ArrayList") (F0_modCount : Fld Z h0 al "java/util/AbstractList" "modCount" "I" (.int mc)) (F0_elementData : Fld Z h0 al "java/util/ArrayList" "elementData" "[Ljava/lang/Object;" (.ref ea)) (F0_size : Fld Z h0 al "java/util/ArrayList" "size" "I" (.int 1)) (XI : Exa Z h0 x "java/lang/String") (B0 : Arv Z h0 ea ke (.object "java/lang/Object") (10 : Int32) [(.ref x0_), .null, .null, .null, .null, .null, .null, .null, .null, .null] .null) (O0 : Ovf Z ke) (ge : n0 ≤ ea) :
  Con l Z EL y_46 jdk_38_method_25_code 2 (some .boolean) [] ({ frames := 1, cells := 0, slots := 0, locals := 15 } : Room) #[(.ref al), (.ref x)] h0 n0 (Q_add1 Z al x ea x0_ mc ke h0) := by
 refine Con.intro (own := "java/util/ArrayList") rfl (plainFor_of_name plain_java_util_ArrayList) (hEL hw) ?_
 intro p e s m below meth c s₁ hx hby hml hret hlk hnm W0
 refine Fi.cast (show entryFrame m #[(.ref al), (.ref x)] 2 = (mkF m 0 #[.val (.ref al), .val (.ref x)] []) from by first | (simp [entryFrame, mkF, argsToLocals, Value.category]; done) | rfl) ?_
 refine Fi.by' (st' := s₁.setTop (mkF m 2 #[.val (.ref al), .val (.ref x)] [(.ref al), (.ref al)])) (fun t k => ?_) ?_
 ·refine XS.aloadN W0.here hx rfl (hb hby d33_0) rfl rfl ?_
  refine XS.dup W0.here hx rfl (hb hby d33_1) rfl rfl ?_
  exact k
 refine W0.getFV hx (ww hw 197 rfl) (ww hw 198 rfl) F0_modCount (g := (mkF m 2 #[.val (.ref al), .val (.ref x)] [(.ref al), (.ref al)])) rfl rfl (hb hby d33_2) (fun T1 W1 => ?_)
 change Fi _ _ _ _ _ _ _ _ _ _ (T1.setTop (mkF m 5 #[.val (.ref al), .val (.ref x)] [(.int mc), (.ref al)]))
 refine Fi.by' (st' := T1.setTop (mkF m 7 #[.val (.ref al), .val (.ref x)] [(.int (mc + (1 : Int32))), (.ref al)])) (fun t k => ?_) ?_
 ·refine iconstZ W1.here hx rfl (hb hby d33_5) (z := (1 : Int32)) rfl ?_
  refine XS.iadd W1.here hx rfl (hb hby d33_6) rfl ?_
  exact k
 refine W1.putFV hx (ww hw 197 rfl) (ww hw 198 rfl) F0_modCount A0 (ww hw 52 rfl) (ww hw 33 rfl) (ty := .int) (by decide) rfl rfl (g := (mkF m 7 #[.val (.ref al), .val (.ref x)] [(.int (mc + (1 : Int32))), (.ref al)])) rfl rfl (hb hby d33_7) g0 (safe_exa A0 (by decide) (by decide)) (fun T2 h2 W2 R2 => ?_)
 change Fi _ _ _ _ _ _ _ _ _ _ (T2.setTop (mkF m 10 #[.val (.ref al), .val (.ref x)] []))
 have K2 := (Keep.refl h0 [al, ea]).wr R2 (Or.inl (by simp))
 have A2 := Exa.wr R2 A0
 have F2_modCount := Fld.same R2 F0_modCount
 have F2_elementData := Fld.other R2 F0_elementData (Or.inr (slot_ne (Or.inl (ww hw 55 rfl)) (Or.inl (ww hw 52 rfl)) (by decide) (t := (.array (.object "java/lang/Object"))) (t' := .int) (by decide) (by decide)))
 have F2_size := Fld.other R2 F0_size (Or.inr (slot_ne (Or.inl (ww hw 86 rfl)) (Or.inl (ww hw 52 rfl)) (by decide) (t := .int) (t' := .int) (by decide) (by decide)))
 refine Fi.by' (st' := T2.setTop (mkF m 13 #[.val (.ref al), .val (.ref x)] [(.ref al), (.ref x), (.ref al)])) (fun t k => ?_) ?_
 ·refine XS.aloadN W2.here hx rfl (hb hby d33_10) rfl rfl ?_
  refine XS.aloadN W2.here hx rfl (hb hby d33_11) rfl rfl ?_
  refine XS.aloadN W2.here hx rfl (hb hby d33_12) rfl rfl ?_
  exact k
 refine W2.getF hx (ww hw 54 rfl) F2_elementData (g := (mkF m 13 #[.val (.ref al), .val (.ref x)] [(.ref al), (.ref x), (.ref al)])) rfl rfl (hb hby d33_13) (fun T3 W3 => ?_)
 change Fi _ _ _ _ _ _ _ _ _ _ (T3.setTop (mkF m 16 #[.val (.ref al), .val (.ref x)] [(.ref ea), (.ref x), (.ref al)]))
 refine Fi.by' (st' := T3.setTop (mkF m 17 #[.val (.ref al), .val (.ref x)] [(.ref al), (.ref ea), (.ref x), (.ref al)])) (fun t k => ?_) ?_
 ·refine XS.aloadN W3.here hx rfl (hb hby d33_16) rfl rfl ?_
  exact k
 refine W3.getF hx (ww hw 85 rfl) F2_size (g := (mkF m 17 #[.val (.ref al), .val (.ref x)] [(.ref al), (.ref ea), (.ref x), (.ref al)])) rfl rfl (hb hby d33_17) (fun T4 W4 => ?_)
 change Fi _ _ _ _ _ _ _ _ _ _ (T4.setTop (mkF m 20 #[.val (.ref al), .val (.ref x)] [(.int 1), (.ref ea), (.ref x), (.ref al)]))
 refine W4.callP hx (y := y_45) (ww hw 199 rfl) (ww hw 200 rfl) (ww hw 201 rfl) (ww hw 203 rfl) (ww hw 33 rfl) (by decide) (Pay.of_con (Wd := 0) (rm_adh1 l Z a0 hw al x ea x0_ (mc + (1 : Int32)) ke h2 n0 (by rw [R2.size]; exact Z0) g0 A2 F2_modCount F2_elementData F2_size (Exa.wr R2 XI) (Arv.other B0 R2 (Ne.symm (Exa.neArv A0 B0 (ww hw 33 rfl)))) O0 ge) (ww hw 203 rfl) (ww hw 34 rfl) (hEL hw) (by decide) (by decide)) A2 (g := (mkF m 20 #[.val (.ref al), .val (.ref x)] [(.int 1), (.ref ea), (.ref x), (.ref al)])) rfl (by rw [hml]; rfl) (argsL := [(.ref x), (.ref ea), (.int 1)]) (rest := []) (lenOf pd_22 rfl) rfl rfl (ble_ rfl) (hb hby d33_20) (by decide) (by decide) (fun v5 T5 h5 W5 sz5 q5 => ?_)
 obtain ⟨rfl, K5, A5, F5_modCount, F5_elementData, F5_size, V5⟩ := q5
 change Fi _ _ _ _ _ _ _ _ _ _ (T5.setTop (mkF m 23 #[.val (.ref al), .val (.ref x)] []))
 have KK := K2.trans K5 (fun y hy => Or.inl hy)
 refine Fi.by' (st' := T5.setTop (mkF m 24 #[.val (.ref al), .val (.ref x)] [(.int 1)])) (fun t k => ?_) ?_
 ·refine iconstZ W5.here hx rfl (hb hby d33_23) (z := (1 : Int32)) rfl ?_
  exact k
 exact W5.iret hx hlk hret (by simp) rfl (hb hby d33_24) ⟨rfl, KK, A5, F5_modCount, F5_elementData, F5_size, V5⟩ (by decide) (by decide)
def Q_adh2 (Z : State) (al x ea x0_ x1_ : Addr) (mc : Int32) (ke : ClassId) (h0 : Heap) (v : Option Value) (h : Heap) : Prop := v = none ∧ Keep h0 h [al, ea] ∧ Exa Z h al "java/util/ArrayList" ∧ Fld Z h al "java/util/AbstractList" "modCount" "I" (.int mc) ∧ Fld Z h al "java/util/ArrayList" "elementData" "[Ljava/lang/Object;" (.ref ea) ∧ Fld Z h al "java/util/ArrayList" "size" "I" (.int 3) ∧ Arv Z h ea ke (.object "java/lang/Object") (10 : Int32) [(.ref x0_), (.ref x1_), (.ref x), .null, .null, .null, .null, .null, .null, .null] .null
theorem rm_adh2 (l : Launch) (Z : State) (a0 : Array Value) (hw : ∀ d ∈ tables_1, d.before a0 Z = true) (al x ea x0_ x1_ : Addr) (mc : Int32) (ke : ClassId) (h0 : Heap) (n0 : Nat) (Z0 : n0 ≤ h0.size) (g0 : n0 ≤ al) (A0 : Exa Z h0 al "java/util/ArrayList") (F0_modCount : Fld Z h0 al "java/util/AbstractList" "modCount" "I" (.int mc)) (F0_elementData : Fld Z h0 al "java/util/ArrayList" "elementData" "[Ljava/lang/Object;" (.ref ea)) (F0_size : Fld Z h0 al "java/util/ArrayList" "size" "I" (.int 2)) (XI : Exa Z h0 x "java/lang/String") (B0 : Arv Z h0 ea ke (.object "java/lang/Object") (10 : Int32) [(.ref x0_), (.ref x1_), .null, .null, .null, .null, .null, .null, .null, .null] .null) (O0 : Ovf Z ke) (ge : n0 ≤ ea) :
  Con l Z EL y_45 jdk_38_method_24_code 4 none [] ({ frames := 0, cells := 0, slots := 0, locals := 0 } : Room) #[(.ref al), (.ref x), (.ref ea), (.int 2)] h0 n0 (Q_adh2 Z al x ea x0_ x1_ mc ke h0) := by
 refine Con.intro (own := "java/util/ArrayList") rfl (plainFor_of_name plain_java_util_ArrayList) (hEL hw) ?_
 intro p e s m below meth c s₁ hx hby hml hret hlk hnm W0
 refine Fi.cast (show entryFrame m #[(.ref al), (.ref x), (.ref ea), (.int 2)] 4 = (mkF m 0 #[.val (.ref al), .val (.ref x), .val (.ref ea), .val (.int 2)] []) from by first | (simp [entryFrame, mkF, argsToLocals, Value.category]; done) | rfl) ?_
 refine Fi.by' (st' := s₁.setTop (mkF m 2 #[.val (.ref al), .val (.ref x), .val (.ref ea), .val (.int 2)] [(.ref ea), (.int 2)])) (fun t k => ?_) ?_
 ·refine XS.iloadN W0.here hx rfl (hb hby d34_0) rfl ?_
  refine XS.aloadN W0.here hx rfl (hb hby d34_1) rfl rfl ?_
  exact k
 refine W0.alen hx B0 (g := (mkF m 2 #[.val (.ref al), .val (.ref x), .val (.ref ea), .val (.int 2)] [(.ref ea), (.int 2)])) rfl rfl (hb hby d34_2) ?_
 change Fi _ _ _ _ _ _ _ _ _ _ (s₁.setTop (mkF m 3 #[.val (.ref al), .val (.ref x), .val (.ref ea), .val (.int 2)] [(.int 10), (.int 2)]))
 refine Fi.by' (st' := s₁.setTop (mkF m 14 #[.val (.ref al), .val (.ref x), .val (.ref ea), .val (.int 2)] [(.ref x), (.int 2), (.ref ea)])) (fun t k => ?_) ?_
 ·refine XS.icmpYes W0.here hx rfl (pc0 := 3) (pc' := 11) rfl (hb hby d34_3) rfl (feq (by decide : ¬ ((2 : Int32) = (10 : Int32)))).2 (by decide) (by decide) ?_
  refine XS.aloadN W0.here hx rfl (hb hby d34_11) rfl rfl ?_
  refine XS.iloadN W0.here hx rfl (hb hby d34_12) rfl ?_
  refine XS.aloadN W0.here hx rfl (hb hby d34_13) rfl rfl ?_
  exact k
 refine W0.aastore hx B0 O0.1 (Ins.of_exa XI (ww hw 102 rfl)) (i := 2) (ble_ rfl) (j := (2 : Int32)) rfl (by decide) (g := (mkF m 14 #[.val (.ref al), .val (.ref x), .val (.ref ea), .val (.int 2)] [(.ref x), (.int 2), (.ref ea)])) rfl rfl (hb hby d34_14) ge (fun T2 h2 W2 R2 V2 => ?_)
 change Fi _ _ _ _ _ _ _ _ _ _ (T2.setTop (mkF m 15 #[.val (.ref al), .val (.ref x), .val (.ref ea), .val (.int 2)] []))
 have ne2 : al ≠ ea := Exa.neArv A0 B0 (ww hw 33 rfl)
 have K2 := (Keep.refl h0 [al, ea]).wr R2 (Or.inl (by simp))
 have A2 := Exa.wr R2 A0
 have F2_modCount := Fld.other R2 F0_modCount (Or.inl ne2)
 have F2_elementData := Fld.other R2 F0_elementData (Or.inl ne2)
 have F2_size := Fld.other R2 F0_size (Or.inl ne2)
 have V2' : Arv Z h2 ea ke (.object "java/lang/Object") (10 : Int32) [(.ref x0_), (.ref x1_), (.ref x), .null, .null, .null, .null, .null, .null, .null] .null := V2
 refine Fi.by' (st' := T2.setTop (mkF m 19 #[.val (.ref al), .val (.ref x), .val (.ref ea), .val (.int 2)] [(.int 3), (.ref al)])) (fun t k => ?_) ?_
 ·refine XS.aloadN W2.here hx rfl (hb hby d34_15) rfl rfl ?_
  refine XS.iloadN W2.here hx rfl (hb hby d34_16) rfl ?_
  refine iconstZ W2.here hx rfl (hb hby d34_17) (z := (1 : Int32)) rfl ?_
  refine XS.iadd W2.here hx rfl (hb hby d34_18) rfl ?_
  exact k
 refine W2.putF hx (ww hw 85 rfl) F2_size A2 (Or.inl (ww hw 86 rfl)) (ww hw 33 rfl) (ty := .int) (by decide) rfl rfl (g := (mkF m 19 #[.val (.ref al), .val (.ref x), .val (.ref ea), .val (.int 2)] [(.int 3), (.ref al)])) rfl rfl (hb hby d34_19) g0 (safe_exa A2 (by decide) (by decide)) (fun T3 h3 W3 R3 => ?_)
 change Fi _ _ _ _ _ _ _ _ _ _ (T3.setTop (mkF m 22 #[.val (.ref al), .val (.ref x), .val (.ref ea), .val (.int 2)] []))
 have K3 := K2.wr R3 (Or.inl (by simp))
 have A3 := Exa.wr R3 A2
 have F3_modCount := Fld.other R3 F2_modCount (Or.inr (slot_ne (Or.inl (ww hw 52 rfl)) (Or.inl (ww hw 86 rfl)) (by decide) (t := .int) (t' := .int) (by decide) (by decide)))
 have F3_elementData := Fld.other R3 F2_elementData (Or.inr (slot_ne (Or.inl (ww hw 55 rfl)) (Or.inl (ww hw 86 rfl)) (by decide) (t := (.array (.object "java/lang/Object"))) (t' := .int) (by decide) (by decide)))
 have F3_size := Fld.same R3 F2_size
 have V3_ea := Arv.other V2' R3 (Ne.symm (Exa.neArv A2 V2' (ww hw 33 rfl)))
 exact W3.vret hx hlk hret (hb hby d34_22) ⟨rfl, K3, A3, F3_modCount, F3_elementData, F3_size, V3_ea⟩ (by decide) (by decide)
def Q_add2 (Z : State) (al x ea x0_ x1_ : Addr) (mc : Int32) (ke : ClassId) (h0 : Heap) (v : Option Value) (h : Heap) : Prop := v = some (.int 1) ∧ Keep h0 h [al, ea] ∧ Exa Z h al "java/util/ArrayList" ∧ Fld Z h al "java/util/AbstractList" "modCount" "I" (.int (mc + (1 : Int32))) ∧ Fld Z h al "java/util/ArrayList" "elementData" "[Ljava/lang/Object;" (.ref ea) ∧ Fld Z h al "java/util/ArrayList" "size" "I" (.int 3) ∧ Arv Z h ea ke (.object "java/lang/Object") (10 : Int32) [(.ref x0_), (.ref x1_), (.ref x), .null, .null, .null, .null, .null, .null, .null] .null
theorem rm_add2 (l : Launch) (Z : State) (a0 : Array Value) (hw : ∀ d ∈ tables_1, d.before a0 Z = true) (al x ea x0_ x1_ : Addr) (mc : Int32) (ke : ClassId) (h0 : Heap) (n0 : Nat) (Z0 : n0 ≤ h0.size) (g0 : n0 ≤ al) (A0 : Exa Z h0 al "java/util/ArrayList") (F0_modCount : Fld Z h0 al "java/util/AbstractList" "modCount" "I" (.int mc)) (F0_elementData : Fld Z h0 al "java/util/ArrayList" "elementData" "[Ljava/lang/Object;" (.ref ea)) (F0_size : Fld Z h0 al "java/util/ArrayList" "size" "I" (.int 2)) (XI : Exa Z h0 x "java/lang/String") (B0 : Arv Z h0 ea ke (.object "java/lang/Object") (10 : Int32) [(.ref x0_), (.ref x1_), .null, .null, .null, .null, .null, .null, .null, .null] .null) (O0 : Ovf Z ke) (ge : n0 ≤ ea) :
  Con l Z EL y_46 jdk_38_method_25_code 2 (some .boolean) [] ({ frames := 1, cells := 0, slots := 0, locals := 15 } : Room) #[(.ref al), (.ref x)] h0 n0 (Q_add2 Z al x ea x0_ x1_ mc ke h0) := by
 refine Con.intro (own := "java/util/ArrayList") rfl (plainFor_of_name plain_java_util_ArrayList) (hEL hw) ?_
 intro p e s m below meth c s₁ hx hby hml hret hlk hnm W0
 refine Fi.cast (show entryFrame m #[(.ref al), (.ref x)] 2 = (mkF m 0 #[.val (.ref al), .val (.ref x)] []) from by first | (simp [entryFrame, mkF, argsToLocals, Value.category]; done) | rfl) ?_
 refine Fi.by' (st' := s₁.setTop (mkF m 2 #[.val (.ref al), .val (.ref x)] [(.ref al), (.ref al)])) (fun t k => ?_) ?_
 ·refine XS.aloadN W0.here hx rfl (hb hby d33_0) rfl rfl ?_
  refine XS.dup W0.here hx rfl (hb hby d33_1) rfl rfl ?_
  exact k
 refine W0.getFV hx (ww hw 197 rfl) (ww hw 198 rfl) F0_modCount (g := (mkF m 2 #[.val (.ref al), .val (.ref x)] [(.ref al), (.ref al)])) rfl rfl (hb hby d33_2) (fun T1 W1 => ?_)
 change Fi _ _ _ _ _ _ _ _ _ _ (T1.setTop (mkF m 5 #[.val (.ref al), .val (.ref x)] [(.int mc), (.ref al)]))
 refine Fi.by' (st' := T1.setTop (mkF m 7 #[.val (.ref al), .val (.ref x)] [(.int (mc + (1 : Int32))), (.ref al)])) (fun t k => ?_) ?_
 ·refine iconstZ W1.here hx rfl (hb hby d33_5) (z := (1 : Int32)) rfl ?_
  refine XS.iadd W1.here hx rfl (hb hby d33_6) rfl ?_
  exact k
 refine W1.putFV hx (ww hw 197 rfl) (ww hw 198 rfl) F0_modCount A0 (ww hw 52 rfl) (ww hw 33 rfl) (ty := .int) (by decide) rfl rfl (g := (mkF m 7 #[.val (.ref al), .val (.ref x)] [(.int (mc + (1 : Int32))), (.ref al)])) rfl rfl (hb hby d33_7) g0 (safe_exa A0 (by decide) (by decide)) (fun T2 h2 W2 R2 => ?_)
 change Fi _ _ _ _ _ _ _ _ _ _ (T2.setTop (mkF m 10 #[.val (.ref al), .val (.ref x)] []))
 have K2 := (Keep.refl h0 [al, ea]).wr R2 (Or.inl (by simp))
 have A2 := Exa.wr R2 A0
 have F2_modCount := Fld.same R2 F0_modCount
 have F2_elementData := Fld.other R2 F0_elementData (Or.inr (slot_ne (Or.inl (ww hw 55 rfl)) (Or.inl (ww hw 52 rfl)) (by decide) (t := (.array (.object "java/lang/Object"))) (t' := .int) (by decide) (by decide)))
 have F2_size := Fld.other R2 F0_size (Or.inr (slot_ne (Or.inl (ww hw 86 rfl)) (Or.inl (ww hw 52 rfl)) (by decide) (t := .int) (t' := .int) (by decide) (by decide)))
 refine Fi.by' (st' := T2.setTop (mkF m 13 #[.val (.ref al), .val (.ref x)] [(.ref al), (.ref x), (.ref al)])) (fun t k => ?_) ?_
 ·refine XS.aloadN W2.here hx rfl (hb hby d33_10) rfl rfl ?_
  refine XS.aloadN W2.here hx rfl (hb hby d33_11) rfl rfl ?_
  refine XS.aloadN W2.here hx rfl (hb hby d33_12) rfl rfl ?_
  exact k
 refine W2.getF hx (ww hw 54 rfl) F2_elementData (g := (mkF m 13 #[.val (.ref al), .val (.ref x)] [(.ref al), (.ref x), (.ref al)])) rfl rfl (hb hby d33_13) (fun T3 W3 => ?_)
 change Fi _ _ _ _ _ _ _ _ _ _ (T3.setTop (mkF m 16 #[.val (.ref al), .val (.ref x)] [(.ref ea), (.ref x), (.ref al)]))
 refine Fi.by' (st' := T3.setTop (mkF m 17 #[.val (.ref al), .val (.ref x)] [(.ref al), (.ref ea), (.ref x), (.ref al)])) (fun t k => ?_) ?_
 ·refine XS.aloadN W3.here hx rfl (hb hby d33_16) rfl rfl ?_
  exact k
 refine W3.getF hx (ww hw 85 rfl) F2_size (g := (mkF m 17 #[.val (.ref al), .val (.ref x)] [(.ref al), (.ref ea), (.ref x), (.ref al)])) rfl rfl (hb hby d33_17) (fun T4 W4 => ?_)
 change Fi _ _ _ _ _ _ _ _ _ _ (T4.setTop (mkF m 20 #[.val (.ref al), .val (.ref x)] [(.int 2), (.ref ea), (.ref x), (.ref al)]))
 refine W4.callP hx (y := y_45) (ww hw 199 rfl) (ww hw 200 rfl) (ww hw 201 rfl) (ww hw 203 rfl) (ww hw 33 rfl) (by decide) (Pay.of_con (Wd := 0) (rm_adh2 l Z a0 hw al x ea x0_ x1_ (mc + (1 : Int32)) ke h2 n0 (by rw [R2.size]; exact Z0) g0 A2 F2_modCount F2_elementData F2_size (Exa.wr R2 XI) (Arv.other B0 R2 (Ne.symm (Exa.neArv A0 B0 (ww hw 33 rfl)))) O0 ge) (ww hw 203 rfl) (ww hw 34 rfl) (hEL hw) (by decide) (by decide)) A2 (g := (mkF m 20 #[.val (.ref al), .val (.ref x)] [(.int 2), (.ref ea), (.ref x), (.ref al)])) rfl (by rw [hml]; rfl) (argsL := [(.ref x), (.ref ea), (.int 2)]) (rest := []) (lenOf pd_22 rfl) rfl rfl (ble_ rfl) (hb hby d33_20) (by decide) (by decide) (fun v5 T5 h5 W5 sz5 q5 => ?_)
 obtain ⟨rfl, K5, A5, F5_modCount, F5_elementData, F5_size, V5⟩ := q5
 change Fi _ _ _ _ _ _ _ _ _ _ (T5.setTop (mkF m 23 #[.val (.ref al), .val (.ref x)] []))
 have KK := K2.trans K5 (fun y hy => Or.inl hy)
 refine Fi.by' (st' := T5.setTop (mkF m 24 #[.val (.ref al), .val (.ref x)] [(.int 1)])) (fun t k => ?_) ?_
 ·refine iconstZ W5.here hx rfl (hb hby d33_23) (z := (1 : Int32)) rfl ?_
  exact k
 exact W5.iret hx hlk hret (by simp) rfl (hb hby d33_24) ⟨rfl, KK, A5, F5_modCount, F5_elementData, F5_size, V5⟩ (by decide) (by decide)
/-! an ArrayList of Strings of one char -/
theorem arv_ne {Z : State} {h : Heap} {a b : Addr} {k k' : ClassId} {ty ty' : FieldType} {N N' : Int32} {vs vs' : List Value} {d d' : Value} (F : Arv Z h a k ty N vs d) (G : Arv Z h b k' ty' N' vs' d') (hn : ty ≠ ty') : a ≠ b := fun e => by
  subst e
  obtain ⟨c1, A, -⟩ := F
  obtain ⟨c2, B, -⟩ := G
  cases A.1.symm.trans B.1
  obtain ⟨-, k1, q1, p1, r1⟩ := A.2.1
  obtain ⟨-, k2, q2, p2, r2⟩ := B.2.1
  cases q1.symm.trans q2
  rw [r1] at r2
  cases r2
  exact hn rfl
theorem StrH.keep2 {Z : State} {h h' : Heap} {a0 : Array Value} {al ea t : Addr} {cs : List Int32} {ke : ClassId} {N : Int32} {vs : List Value} {d : Value} {C : String} {k k2 : Nat} (F : StrH Z h t cs) (K : Keep h h' [al, ea]) (E : Exa Z h al C) (hC : C ≠ STN) (wa : (Jvm.Cond.instantiable C k).before a0 Z = true) (A : Arv Z h ea ke (.object "java/lang/Object") N vs d) (wi : (Jvm.Cond.instantiable STN k2).before a0 Z = true) : StrH Z h' t cs := by
  obtain ⟨b, kb, hv, zv, a1, a2, a3, a4, a5, a6, r⟩ := F
  have n1 : t ∉ [al, ea] := fun q => by
    rcases List.mem_cons.mp q with q | q
    · exact Exa.ne a1 E (Ne.symm hC) q
    · exact Exa.neArv a1 A wi (List.mem_singleton.mp q)
  have n2 : b ∉ [al, ea] := fun q => by
    rcases List.mem_cons.mp q with q | q
    · exact Exa.neArv E a4 wa q.symm
    · exact arv_ne a4 A (by simp) (List.mem_singleton.mp q)
  exact ⟨b, kb, hv, zv, a1.keep K, a2.keep K n1, a3.keep K n1, a4.keep K n2, a5.keep K n1, a6.keep K n1, r⟩
def AS (Z : State) (h : Heap) (m0 : Nat) (dc al : Addr) (ds : List Int32) : Prop := ∃ (es : List Addr) (mc : Int32), Els Z h m0 es ds ∧ ds.length ≤ 3 ∧ Exa Z h al "java/util/ArrayList" ∧ Fld Z h al "java/util/AbstractList" "modCount" "I" (.int mc) ∧ Fld Z h al "java/util/ArrayList" "size" "I" (.int (Int32.ofNat ds.length)) ∧
  ((ds = [] ∧ Fld Z h al "java/util/ArrayList" "elementData" "[Ljava/lang/Object;" (.ref dc)) ∨ (0 < ds.length ∧ ∃ (ea : Addr) (ke : ClassId), Fld Z h al "java/util/ArrayList" "elementData" "[Ljava/lang/Object;" (.ref ea) ∧ Arv Z h ea ke (.object "java/lang/Object") (10 : Int32) (es.map Value.ref ++ List.replicate (10 - ds.length) .null) .null ∧ Ovf Z ke))
theorem els0 {Z : State} {h : Heap} {m : Nat} : ∀ {es : List Addr}, Els Z h m es [] → es = []
  | [], _ => rfl
  | _ :: _, H => H.elim
theorem els1 {Z : State} {h : Heap} {m : Nat} {a : Int32} : ∀ {es : List Addr}, Els Z h m es [a] → ∃ x, es = [x] ∧ StrH Z h x [a] ∧ m ≤ x
  | [], H => H.elim
  | x :: es, H => ⟨x, by rw [els0 H.2], H.1.1, H.1.2⟩
theorem els2 {Z : State} {h : Heap} {m : Nat} {a b : Int32} : ∀ {es : List Addr}, Els Z h m es [a, b] → ∃ x y, es = [x, y] ∧ StrH Z h x [a] ∧ m ≤ x ∧ StrH Z h y [b] ∧ m ≤ y
  | [], H => H.elim
  | x :: es, H => by
    obtain ⟨y, e, q⟩ := els1 H.2
    exact ⟨x, y, by rw [e], H.1.1, H.1.2, q⟩
theorem els3 {Z : State} {h : Heap} {m : Nat} {a b c : Int32} : ∀ {es : List Addr}, Els Z h m es [a, b, c] → ∃ x y z, es = [x, y, z] ∧ StrH Z h x [a] ∧ m ≤ x ∧ StrH Z h y [b] ∧ m ≤ y ∧ StrH Z h z [c] ∧ m ≤ z
  | [], H => H.elim
  | x :: es, H => by
    obtain ⟨y, z, e, q⟩ := els2 H.2
    exact ⟨x, y, z, by rw [e], H.1.1, H.1.2, q⟩
theorem Els.keep {Z : State} {h h' : Heap} {n0 : Nat} {a0 : Array Value} {x : Addr} {C : String} {k : Nat} (K : Keep h h' [x]) (E : Exa Z h x C) (hC : C ≠ STN) (wi : (Jvm.Cond.instantiable C k).before a0 Z = true) : ∀ {es : List Addr} {ds : List Int32}, Els Z h n0 es ds → Els Z h' n0 es ds
  | [], [], _ => trivial
  | _ :: _, _ :: _, H => ⟨⟨StrH.keep H.1.1 K E hC wi, H.1.2⟩, Els.keep K E hC wi H.2⟩
  | [], _ :: _, H => H.elim
  | _ :: _, [], H => H.elim
theorem AS.keep {Z : State} {h h' : Heap} {m0 : Nat} {dc al x : Addr} {ds : List Int32} {a0 : Array Value} {C : String} {k : Nat} (F : AS Z h m0 dc al ds) (K : Keep h h' [x]) (E : Exa Z h x C) (hC : C ≠ STN) (hA : C ≠ "java/util/ArrayList") (wi : (Jvm.Cond.instantiable C k).before a0 Z = true) : AS Z h' m0 dc al ds := by
  obtain ⟨es, mc, a1, a2, a3, a4, a5, a6⟩ := F
  have n1 : al ∉ [x] := fun q => Exa.ne a3 E (Ne.symm hA) (List.mem_singleton.mp q)
  refine ⟨es, mc, a1.keep K E hC wi, a2, a3.keep K, a4.keep K n1, a5.keep K n1, ?_⟩
  rcases a6 with ⟨q, b⟩ | ⟨q, ea, ke, b1, b2, b3⟩
  · exact Or.inl ⟨q, b.keep K n1⟩
  · exact Or.inr ⟨q, ea, ke, b1.keep K n1, b2.keep K (fun q => Exa.neArv E b2 wi (List.mem_singleton.mp q).symm), b3⟩
theorem AS.ext {Z : State} {h h' : Heap} {m0 : Nat} {dc al : Addr} {ds : List Int32} (F : AS Z h m0 dc al ds) (E : Ext h h') : AS Z h' m0 dc al ds := by
  obtain ⟨es, mc, a1, a2, a3, a4, a5, a6⟩ := F
  refine ⟨es, mc, a1.ext E, a2, a3.ext E, a4.ext E, a5.ext E, ?_⟩
  rcases a6 with ⟨q, b⟩ | ⟨q, ea, ke, b1, b2, b3⟩
  · exact Or.inl ⟨q, b.ext E⟩
  · exact Or.inr ⟨q, ea, ke, b1.ext E, b2.ext E, b3⟩
theorem IL.keep {Z : State} {h h' : Heap} {m0 : Nat} {la x : Addr} {ds : List Int32} {a0 : Array Value} {C : String} {k : Nat} (F : IL Z h m0 la ds) (K : Keep h h' [x]) (E : Exa Z h x C) (hC : C ≠ STN) (h1 : C ≠ "java/util/ImmutableCollections$ListN") (h2 : C ≠ "java/util/ImmutableCollections$List12") (wi : (Jvm.Cond.instantiable C k).before a0 Z = true) : IL Z h' m0 la ds := by
  obtain ⟨es, a1, a2, a3⟩ := F
  refine ⟨es, a1.keep K E hC wi, a2, ?_⟩
  rcases a3 with ⟨ea, k, b1, b2, b3⟩ | ⟨x', em, b0, b1, b2, b3, b4⟩ | ⟨x', y, em, b0, b1, b2, b3, b4, b5⟩
  · exact Or.inl ⟨ea, k, b1.keep K, b2.keep K (fun q => Exa.ne b1 E (Ne.symm h1) (List.mem_singleton.mp q)), b3.keep K (fun q => Exa.neArv E b3 wi (List.mem_singleton.mp q).symm)⟩
  · have n1 : la ∉ [x] := fun q => Exa.ne b1 E (Ne.symm h2) (List.mem_singleton.mp q)
    exact Or.inr (Or.inl ⟨x', em, b0, b1.keep K, b2.keep K n1, b3.keep K n1, Sta.keep1 b4 K E⟩)
  · have n1 : la ∉ [x] := fun q => Exa.ne b1 E (Ne.symm h2) (List.mem_singleton.mp q)
    exact Or.inr (Or.inr ⟨x', y, em, b0, b1.keep K, b2.keep K n1, b3.keep K n1, Sta.keep1 b4 K E, b5⟩)
def Q_lst (Z : State) (ct xx zc : Int32) (dc : Addr) (kd : ClassId) (m0 : Nat) (h0 : Heap) (v : Option Value) (h : Heap) : Prop := ∃ (al : Addr) (ds : List Int32), v = some (.ref al) ∧ Ext h0 h ∧ h0.size ≤ al ∧ AS Z h m0 dc al ds
theorem rm_lst (l : Launch) (Z : State) (a0 : Array Value) (hw : ∀ d ∈ tables_1, d.before a0 Z = true) (ct xx zc : Int32) (dc : Addr) (kd : ClassId) (m0 : Nat) (h0 : Heap) (n0 : Nat) (Z0 : n0 ≤ h0.size) (hm0 : m0 ≤ h0.size) (S0 : Sta Z h0 "java/lang/String" "COMPACT_STRINGS" "Z" (.int zc)) (hz : ¬ zc = 0) (D0 : Sta Z h0 "java/util/ArrayList" "DEFAULTCAPACITY_EMPTY_ELEMENTDATA" "[Ljava/lang/Object;" (.ref dc)) (B0 : Arv Z h0 dc kd (.object "java/lang/Object") (0 : Int32) [] .null) (hct : ct = 0 ∨ ct = 1 ∨ ct = 2 ∨ ct = 3) :
  Con l Z EL y_47 method_4_code 3 (some (.object "java/util/ArrayList")) [] ({ frames := 5, cells := 8, slots := 28, locals := 69 } : Room) #[(.int ct), (.int xx)] h0 n0 (Q_lst Z ct xx zc dc kd m0 h0) := by
 refine Con.intro (own := "com/example/weftwork/weftwork/model/ServiceHashCodePinLaw") rfl (plainFor_of_name plain_com_example_weftwork_weftwork_model_ServiceHashCodePinLaw) (hEL hw) ?_
 intro p e s m below meth c s₁ hx hby hml hret hlk hnm W0
 refine Fi.cast (show entryFrame m #[(.int ct), (.int xx)] 3 = (mkF m 0 #[.val (.int ct), .val (.int xx), .unset] []) from by first | (simp [entryFrame, mkF, argsToLocals, Value.category]; done) | rfl) ?_
 rcases hct with rfl | rfl | rfl | rfl
 ·refine W0.new hx (ww hw 32 rfl) (ww hw 33 rfl) (ww hw 34 rfl) (g := (mkF m 0 #[.val (.int 0), .val (.int xx), .unset] [])) rfl (hb hby d5_0) (by decide) (by decide) (fun T1 h1 a1 ha1 W1 E1 A1 D1 => ?_)
  change Fi _ _ _ _ _ _ _ _ _ _ (T1.setTop (mkF m 3 #[.val (.int 0), .val (.int xx), .unset] [(.ref a1)]))
  have sz1 := E1.1
  refine Fi.by' (st' := T1.setTop (mkF m 4 #[.val (.int 0), .val (.int xx), .unset] [(.ref a1), (.ref a1)])) (fun t k => ?_) ?_
  ·refine XS.dup W1.here hx rfl (hb hby d5_3) rfl rfl ?_
   exact k
  refine W1.callI hx (y := y_41) rfl (ww hw 35 rfl) (ww hw 36 rfl) (ww hw 37 rfl) (by decide) (Pay.of_con (Wd := 1) (rm_alc l Z a0 hw a1 dc h1 n0 (by omega) (by omega) A1 (D1 (Or.inl (ww hw 52 rfl)) (ty := .int) (by decide)) (D1 (Or.inl (ww hw 55 rfl)) (ty := (.array (.object "java/lang/Object"))) (by decide)) (D1 (Or.inl (ww hw 86 rfl)) (ty := .int) (by decide)) (Sta.ext E1 D0)) (ww hw 37 rfl) (ww hw 34 rfl) (hEL hw) (by decide) (by decide)) (a := a1) (g := (mkF m 4 #[.val (.int 0), .val (.int xx), .unset] [(.ref a1), (.ref a1)])) rfl (by rw [hml]; rfl) (argsL := []) (rest := [(.ref a1)]) (lenOf pd_18 rfl) rfl rfl (ble_ rfl) (hb hby d5_4) (by decide) (by decide) (fun v2 T2 h2 W2 sz2 q2 => ?_)
  obtain ⟨rfl, K2, A2, F2_modCount, F2_elementData, F2_size⟩ := q2
  change Fi _ _ _ _ _ _ _ _ _ _ (T2.setTop (mkF m 7 #[.val (.int 0), .val (.int xx), .unset] [(.ref a1)]))
  have x2k : Ext h0 h2 := ext_keep1 E1 K2 (by omega)
  refine Fi.by' (st' := T2.setTop (mkF m 72 #[.val (.int 0), .val (.int xx), .val (.ref a1)] [(.ref a1)])) (fun t k => ?_) ?_
  ·refine XS.astoreN W2.here hx rfl (hb hby d5_7) rfl rfl (l' := #[.val (.int 0), .val (.int xx), .val (.ref a1)]) rfl ?_
   refine XS.iloadN W2.here hx rfl (hb hby d5_8) rfl ?_
   refine iconstZ W2.here hx rfl (hb hby d5_9) (z := (1 : Int32)) rfl ?_
   refine XS.icmpYes W2.here hx rfl (pc0 := 10) (pc' := 27) rfl (hb hby d5_10) rfl (tlt (by decide : ((0 : Int32) < (1 : Int32)))).1 (by decide) (by decide) ?_
   refine XS.iloadN W2.here hx rfl (hb hby d5_27) rfl ?_
   refine iconstZ W2.here hx rfl (hb hby d5_28) (z := (2 : Int32)) rfl ?_
   refine XS.icmpYes W2.here hx rfl (pc0 := 29) (pc' := 49) rfl (hb hby d5_29) rfl (tlt (by decide : ((0 : Int32) < (2 : Int32)))).1 (by decide) (by decide) ?_
   refine XS.iloadN W2.here hx rfl (hb hby d5_49) rfl ?_
   refine iconstZ W2.here hx rfl (hb hby d5_50) (z := (3 : Int32)) rfl ?_
   refine XS.icmpYes W2.here hx rfl (pc0 := 51) (pc' := 71) rfl (hb hby d5_51) rfl (tlt (by decide : ((0 : Int32) < (3 : Int32)))).1 (by decide) (by decide) ?_
   refine XS.aloadN W2.here hx rfl (hb hby d5_71) rfl rfl ?_
   exact k
  exact W2.aret hx hlk hret rfl rfl (hb hby d5_72) ⟨a1, [], rfl, x2k, by omega, [], (0 : Int32), trivial, ble_ rfl, A2, F2_modCount, F2_size, Or.inl ⟨rfl, F2_elementData⟩⟩ (by decide) (by decide)
 ·refine W0.new hx (ww hw 32 rfl) (ww hw 33 rfl) (ww hw 34 rfl) (g := (mkF m 0 #[.val (.int 1), .val (.int xx), .unset] [])) rfl (hb hby d5_0) (by decide) (by decide) (fun T3 h3 a3 ha3 W3 E3 A3 D3 => ?_)
  change Fi _ _ _ _ _ _ _ _ _ _ (T3.setTop (mkF m 3 #[.val (.int 1), .val (.int xx), .unset] [(.ref a3)]))
  have sz3 := E3.1
  refine Fi.by' (st' := T3.setTop (mkF m 4 #[.val (.int 1), .val (.int xx), .unset] [(.ref a3), (.ref a3)])) (fun t k => ?_) ?_
  ·refine XS.dup W3.here hx rfl (hb hby d5_3) rfl rfl ?_
   exact k
  refine W3.callI hx (y := y_41) rfl (ww hw 35 rfl) (ww hw 36 rfl) (ww hw 37 rfl) (by decide) (Pay.of_con (Wd := 1) (rm_alc l Z a0 hw a3 dc h3 n0 (by omega) (by omega) A3 (D3 (Or.inl (ww hw 52 rfl)) (ty := .int) (by decide)) (D3 (Or.inl (ww hw 55 rfl)) (ty := (.array (.object "java/lang/Object"))) (by decide)) (D3 (Or.inl (ww hw 86 rfl)) (ty := .int) (by decide)) (Sta.ext E3 D0)) (ww hw 37 rfl) (ww hw 34 rfl) (hEL hw) (by decide) (by decide)) (a := a3) (g := (mkF m 4 #[.val (.int 1), .val (.int xx), .unset] [(.ref a3), (.ref a3)])) rfl (by rw [hml]; rfl) (argsL := []) (rest := [(.ref a3)]) (lenOf pd_18 rfl) rfl rfl (ble_ rfl) (hb hby d5_4) (by decide) (by decide) (fun v4 T4 h4 W4 sz4 q4 => ?_)
  obtain ⟨rfl, K4, A4, F4_modCount, F4_elementData, F4_size⟩ := q4
  change Fi _ _ _ _ _ _ _ _ _ _ (T4.setTop (mkF m 7 #[.val (.int 1), .val (.int xx), .unset] [(.ref a3)]))
  have x4k : Ext h0 h4 := ext_keep1 E3 K4 (by omega)
  refine Fi.by' (st' := T4.setTop (mkF m 20 #[.val (.int 1), .val (.int xx), .val (.ref a3)] [(.int (xx &&& (255 : Int32))), (.ref a3)])) (fun t k => ?_) ?_
  ·refine XS.astoreN W4.here hx rfl (hb hby d5_7) rfl rfl (l' := #[.val (.int 1), .val (.int xx), .val (.ref a3)]) rfl ?_
   refine XS.iloadN W4.here hx rfl (hb hby d5_8) rfl ?_
   refine iconstZ W4.here hx rfl (hb hby d5_9) (z := (1 : Int32)) rfl ?_
   refine XS.icmpNo W4.here hx rfl (hb hby d5_10) rfl (flt (by decide : ¬ ((1 : Int32) < (1 : Int32)))).1 ?_
   refine XS.aloadN W4.here hx rfl (hb hby d5_13) rfl rfl ?_
   refine XS.iloadN W4.here hx rfl (hb hby d5_14) rfl ?_
   refine sipushZ W4.here hx rfl (hb hby d5_15) (z := (255 : Int32)) rfl ?_
   refine XS.iand W4.here hx rfl (hb hby d5_18) rfl ?_
   refine i2cZ W4.here hx rfl (hb hby d5_19) rfl (z := (xx &&& (255 : Int32))) (i2c_mask _) ?_
   exact k
  refine W4.callS hx (y := y_38) (ww hw 180 rfl) (ww hw 181 rfl) (ww hw 9 rfl) (ww hw 182 rfl) (by decide) (Pay.of_con (Wd := 1) (rm_valOf l Z a0 hw (xx &&& (255 : Int32)) zc h4 n0 (by omega) (Sta.ext x4k S0) hz (and255 _)) (ww hw 182 rfl) (ww hw 9 rfl) (hEL hw) (by decide) (by decide)) (g := (mkF m 20 #[.val (.int 1), .val (.int xx), .val (.ref a3)] [(.int (xx &&& (255 : Int32))), (.ref a3)])) rfl (by rw [hml]; rfl) (argsL := [(.int (xx &&& (255 : Int32)))]) (rest := [(.ref a3)]) (lenOf pd_23 rfl) rfl rfl (ble_ rfl) (hb hby d5_20) (by decide) (by decide) (fun v5 T5 h5 W5 sz5 q5 => ?_)
  obtain ⟨a5, rfl, E5, g5, F5⟩ := q5
  change Fi _ _ _ _ _ _ _ _ _ _ (T5.setTop (mkF m 23 #[.val (.int 1), .val (.int xx), .val (.ref a3)] [(.ref a5), (.ref a3)]))
  have sz5 := E5.1
  have x6 : Ext h0 h5 := ext_trans x4k E5
  refine W5.callV hx (y := y_46) (C := "java/util/ArrayList") (ww hw 192 rfl) (ww hw 193 rfl) (ww hw 195 rfl) (ww hw 194 rfl) (by decide) (Pay.of_con (Wd := 0) (rm_add0 l Z a0 hw a3 a5 dc (0 : Int32) kd h5 n0 (by omega) (by omega) (Exa.ext E5 A4) (Fld.ext E5 F4_modCount) (Fld.ext E5 F4_elementData) (Fld.ext E5 F4_size) (F5).exa (Sta.ext x6 D0) (B0.ext x6)) (ww hw 196 rfl) (ww hw 34 rfl) (hEL hw) (by decide) (by decide)) (Exa.ext E5 A4) (g := (mkF m 23 #[.val (.int 1), .val (.int xx), .val (.ref a3)] [(.ref a5), (.ref a3)])) rfl (by rw [hml]; rfl) (argsL := [(.ref a5)]) (rest := []) (lenOf pd_9 rfl) rfl rfl (ble_ rfl) (hb hby d5_23) (by decide) (by decide) (fun v7 T7 h7 W7 sz7 q7 => ?_)
  obtain ⟨rfl, ea, ke, K7, A7, F7_modCount, F7_elementData, F7_size, gn, V7, Oe⟩ := q7
  change Fi _ _ _ _ _ _ _ _ _ _ (T7.setTop (mkF m 26 #[.val (.int 1), .val (.int xx), .val (.ref a3)] [(.int 1)]))
  have x7k : Ext h0 h7 := ext_keep1 x6 K7 (by omega)
  refine Fi.by' (st' := T7.setTop (mkF m 72 #[.val (.int 1), .val (.int xx), .val (.ref a3)] [(.ref a3)])) (fun t k => ?_) ?_
  ·refine XS.pop W7.here hx rfl (hb hby d5_26) rfl rfl ?_
   refine XS.iloadN W7.here hx rfl (hb hby d5_27) rfl ?_
   refine iconstZ W7.here hx rfl (hb hby d5_28) (z := (2 : Int32)) rfl ?_
   refine XS.icmpYes W7.here hx rfl (pc0 := 29) (pc' := 49) rfl (hb hby d5_29) rfl (tlt (by decide : ((1 : Int32) < (2 : Int32)))).1 (by decide) (by decide) ?_
   refine XS.iloadN W7.here hx rfl (hb hby d5_49) rfl ?_
   refine iconstZ W7.here hx rfl (hb hby d5_50) (z := (3 : Int32)) rfl ?_
   refine XS.icmpYes W7.here hx rfl (pc0 := 51) (pc' := 71) rfl (hb hby d5_51) rfl (tlt (by decide : ((1 : Int32) < (3 : Int32)))).1 (by decide) (by decide) ?_
   refine XS.aloadN W7.here hx rfl (hb hby d5_71) rfl rfl ?_
   exact k
  exact W7.aret hx hlk hret rfl rfl (hb hby d5_72) ⟨a3, [(xx &&& (255 : Int32))], rfl, x7k, by omega, [a5], ((0 : Int32) + (1 : Int32)), ⟨⟨(StrH.keep F5 K7 (Exa.ext E5 A4) (by decide) (ww hw 33 rfl)), by omega⟩, trivial⟩, ble_ rfl, A7, F7_modCount, F7_size, Or.inr ⟨ble_ rfl, ea, ke, F7_elementData, V7, Oe⟩⟩ (by decide) (by decide)
 ·refine W0.new hx (ww hw 32 rfl) (ww hw 33 rfl) (ww hw 34 rfl) (g := (mkF m 0 #[.val (.int 2), .val (.int xx), .unset] [])) rfl (hb hby d5_0) (by decide) (by decide) (fun T8 h8 a8 ha8 W8 E8 A8 D8 => ?_)
  change Fi _ _ _ _ _ _ _ _ _ _ (T8.setTop (mkF m 3 #[.val (.int 2), .val (.int xx), .unset] [(.ref a8)]))
  have sz8 := E8.1
  refine Fi.by' (st' := T8.setTop (mkF m 4 #[.val (.int 2), .val (.int xx), .unset] [(.ref a8), (.ref a8)])) (fun t k => ?_) ?_
  ·refine XS.dup W8.here hx rfl (hb hby d5_3) rfl rfl ?_
   exact k
  refine W8.callI hx (y := y_41) rfl (ww hw 35 rfl) (ww hw 36 rfl) (ww hw 37 rfl) (by decide) (Pay.of_con (Wd := 1) (rm_alc l Z a0 hw a8 dc h8 n0 (by omega) (by omega) A8 (D8 (Or.inl (ww hw 52 rfl)) (ty := .int) (by decide)) (D8 (Or.inl (ww hw 55 rfl)) (ty := (.array (.object "java/lang/Object"))) (by decide)) (D8 (Or.inl (ww hw 86 rfl)) (ty := .int) (by decide)) (Sta.ext E8 D0)) (ww hw 37 rfl) (ww hw 34 rfl) (hEL hw) (by decide) (by decide)) (a := a8) (g := (mkF m 4 #[.val (.int 2), .val (.int xx), .unset] [(.ref a8), (.ref a8)])) rfl (by rw [hml]; rfl) (argsL := []) (rest := [(.ref a8)]) (lenOf pd_18 rfl) rfl rfl (ble_ rfl) (hb hby d5_4) (by decide) (by decide) (fun v9 T9 h9 W9 sz9 q9 => ?_)
  obtain ⟨rfl, K9, A9, F9_modCount, F9_elementData, F9_size⟩ := q9
  change Fi _ _ _ _ _ _ _ _ _ _ (T9.setTop (mkF m 7 #[.val (.int 2), .val (.int xx), .unset] [(.ref a8)]))
  have x9k : Ext h0 h9 := ext_keep1 E8 K9 (by omega)
  refine Fi.by' (st' := T9.setTop (mkF m 20 #[.val (.int 2), .val (.int xx), .val (.ref a8)] [(.int (xx &&& (255 : Int32))), (.ref a8)])) (fun t k => ?_) ?_
  ·refine XS.astoreN W9.here hx rfl (hb hby d5_7) rfl rfl (l' := #[.val (.int 2), .val (.int xx), .val (.ref a8)]) rfl ?_
   refine XS.iloadN W9.here hx rfl (hb hby d5_8) rfl ?_
   refine iconstZ W9.here hx rfl (hb hby d5_9) (z := (1 : Int32)) rfl ?_
   refine XS.icmpNo W9.here hx rfl (hb hby d5_10) rfl (flt (by decide : ¬ ((2 : Int32) < (1 : Int32)))).1 ?_
   refine XS.aloadN W9.here hx rfl (hb hby d5_13) rfl rfl ?_
   refine XS.iloadN W9.here hx rfl (hb hby d5_14) rfl ?_
   refine sipushZ W9.here hx rfl (hb hby d5_15) (z := (255 : Int32)) rfl ?_
   refine XS.iand W9.here hx rfl (hb hby d5_18) rfl ?_
   refine i2cZ W9.here hx rfl (hb hby d5_19) rfl (z := (xx &&& (255 : Int32))) (i2c_mask _) ?_
   exact k
  refine W9.callS hx (y := y_38) (ww hw 180 rfl) (ww hw 181 rfl) (ww hw 9 rfl) (ww hw 182 rfl) (by decide) (Pay.of_con (Wd := 1) (rm_valOf l Z a0 hw (xx &&& (255 : Int32)) zc h9 n0 (by omega) (Sta.ext x9k S0) hz (and255 _)) (ww hw 182 rfl) (ww hw 9 rfl) (hEL hw) (by decide) (by decide)) (g := (mkF m 20 #[.val (.int 2), .val (.int xx), .val (.ref a8)] [(.int (xx &&& (255 : Int32))), (.ref a8)])) rfl (by rw [hml]; rfl) (argsL := [(.int (xx &&& (255 : Int32)))]) (rest := [(.ref a8)]) (lenOf pd_23 rfl) rfl rfl (ble_ rfl) (hb hby d5_20) (by decide) (by decide) (fun v10 T10 h10 W10 sz10 q10 => ?_)
  obtain ⟨a10, rfl, E10, g10, F10⟩ := q10
  change Fi _ _ _ _ _ _ _ _ _ _ (T10.setTop (mkF m 23 #[.val (.int 2), .val (.int xx), .val (.ref a8)] [(.ref a10), (.ref a8)]))
  have sz10 := E10.1
  have x11 : Ext h0 h10 := ext_trans x9k E10
  refine W10.callV hx (y := y_46) (C := "java/util/ArrayList") (ww hw 192 rfl) (ww hw 193 rfl) (ww hw 195 rfl) (ww hw 194 rfl) (by decide) (Pay.of_con (Wd := 0) (rm_add0 l Z a0 hw a8 a10 dc (0 : Int32) kd h10 n0 (by omega) (by omega) (Exa.ext E10 A9) (Fld.ext E10 F9_modCount) (Fld.ext E10 F9_elementData) (Fld.ext E10 F9_size) (F10).exa (Sta.ext x11 D0) (B0.ext x11)) (ww hw 196 rfl) (ww hw 34 rfl) (hEL hw) (by decide) (by decide)) (Exa.ext E10 A9) (g := (mkF m 23 #[.val (.int 2), .val (.int xx), .val (.ref a8)] [(.ref a10), (.ref a8)])) rfl (by rw [hml]; rfl) (argsL := [(.ref a10)]) (rest := []) (lenOf pd_9 rfl) rfl rfl (ble_ rfl) (hb hby d5_23) (by decide) (by decide) (fun v12 T12 h12 W12 sz12 q12 => ?_)
  obtain ⟨rfl, ea, ke, K12, A12, F12_modCount, F12_elementData, F12_size, gn, V12, Oe⟩ := q12
  change Fi _ _ _ _ _ _ _ _ _ _ (T12.setTop (mkF m 26 #[.val (.int 2), .val (.int xx), .val (.ref a8)] [(.int 1)]))
  have x12k : Ext h0 h12 := ext_keep1 x11 K12 (by omega)
  refine Fi.by' (st' := T12.setTop (mkF m 42 #[.val (.int 2), .val (.int xx), .val (.ref a8)] [(.int (((xx.toUInt32 >>> ((8 : Int32) &&& 31).toUInt32).toInt32) &&& (255 : Int32))), (.ref a8)])) (fun t k => ?_) ?_
  ·refine XS.pop W12.here hx rfl (hb hby d5_26) rfl rfl ?_
   refine XS.iloadN W12.here hx rfl (hb hby d5_27) rfl ?_
   refine iconstZ W12.here hx rfl (hb hby d5_28) (z := (2 : Int32)) rfl ?_
   refine XS.icmpNo W12.here hx rfl (hb hby d5_29) rfl (flt (by decide : ¬ ((2 : Int32) < (2 : Int32)))).1 ?_
   refine XS.aloadN W12.here hx rfl (hb hby d5_32) rfl rfl ?_
   refine XS.iloadN W12.here hx rfl (hb hby d5_33) rfl ?_
   refine bipushZ W12.here hx rfl (hb hby d5_34) (z := (8 : Int32)) rfl ?_
   refine XS.iushr W12.here hx rfl (hb hby d5_36) rfl ?_
   refine sipushZ W12.here hx rfl (hb hby d5_37) (z := (255 : Int32)) rfl ?_
   refine XS.iand W12.here hx rfl (hb hby d5_40) rfl ?_
   refine i2cZ W12.here hx rfl (hb hby d5_41) rfl (z := (((xx.toUInt32 >>> ((8 : Int32) &&& 31).toUInt32).toInt32) &&& (255 : Int32))) (i2c_mask _) ?_
   exact k
  refine W12.callS hx (y := y_38) (ww hw 180 rfl) (ww hw 181 rfl) (ww hw 9 rfl) (ww hw 182 rfl) (by decide) (Pay.of_con (Wd := 1) (rm_valOf l Z a0 hw (((xx.toUInt32 >>> ((8 : Int32) &&& 31).toUInt32).toInt32) &&& (255 : Int32)) zc h12 n0 (by omega) (Sta.ext x12k S0) hz (and255 _)) (ww hw 182 rfl) (ww hw 9 rfl) (hEL hw) (by decide) (by decide)) (g := (mkF m 42 #[.val (.int 2), .val (.int xx), .val (.ref a8)] [(.int (((xx.toUInt32 >>> ((8 : Int32) &&& 31).toUInt32).toInt32) &&& (255 : Int32))), (.ref a8)])) rfl (by rw [hml]; rfl) (argsL := [(.int (((xx.toUInt32 >>> ((8 : Int32) &&& 31).toUInt32).toInt32) &&& (255 : Int32)))]) (rest := [(.ref a8)]) (lenOf pd_23 rfl) rfl rfl (ble_ rfl) (hb hby d5_42) (by decide) (by decide) (fun v13 T13 h13 W13 sz13 q13 => ?_)
  obtain ⟨a13, rfl, E13, g13, F13⟩ := q13
  change Fi _ _ _ _ _ _ _ _ _ _ (T13.setTop (mkF m 45 #[.val (.int 2), .val (.int xx), .val (.ref a8)] [(.ref a13), (.ref a8)]))
  have sz13 := E13.1
  have x14 : Ext h0 h13 := ext_trans x12k E13
  refine W13.callV hx (y := y_46) (C := "java/util/ArrayList") (ww hw 192 rfl) (ww hw 193 rfl) (ww hw 195 rfl) (ww hw 194 rfl) (by decide) (Pay.of_con (Wd := 0) (rm_add1 l Z a0 hw a8 a13 ea a10 ((0 : Int32) + (1 : Int32)) ke h13 n0 (by omega) (by omega) (Exa.ext E13 A12) (Fld.ext E13 F12_modCount) (Fld.ext E13 F12_elementData) (Fld.ext E13 F12_size) (F13).exa (V12.ext E13) Oe (by omega)) (ww hw 196 rfl) (ww hw 34 rfl) (hEL hw) (by decide) (by decide)) (Exa.ext E13 A12) (g := (mkF m 45 #[.val (.int 2), .val (.int xx), .val (.ref a8)] [(.ref a13), (.ref a8)])) rfl (by rw [hml]; rfl) (argsL := [(.ref a13)]) (rest := []) (lenOf pd_9 rfl) rfl rfl (ble_ rfl) (hb hby d5_45) (by decide) (by decide) (fun v15 T15 h15 W15 sz15 q15 => ?_)
  obtain ⟨rfl, K15, A15, F15_modCount, F15_elementData, F15_size, V15⟩ := q15
  change Fi _ _ _ _ _ _ _ _ _ _ (T15.setTop (mkF m 48 #[.val (.int 2), .val (.int xx), .val (.ref a8)] [(.int 1)]))
  have x15k : Ext h0 h15 := ext_keep x14 K15 (fun y hy => by rcases List.mem_cons.mp hy with q | q; (rw [q]; omega); (rw [List.mem_singleton.mp q]; omega))
  refine Fi.by' (st' := T15.setTop (mkF m 72 #[.val (.int 2), .val (.int xx), .val (.ref a8)] [(.ref a8)])) (fun t k => ?_) ?_
  ·refine XS.pop W15.here hx rfl (hb hby d5_48) rfl rfl ?_
   refine XS.iloadN W15.here hx rfl (hb hby d5_49) rfl ?_
   refine iconstZ W15.here hx rfl (hb hby d5_50) (z := (3 : Int32)) rfl ?_
   refine XS.icmpYes W15.here hx rfl (pc0 := 51) (pc' := 71) rfl (hb hby d5_51) rfl (tlt (by decide : ((2 : Int32) < (3 : Int32)))).1 (by decide) (by decide) ?_
   refine XS.aloadN W15.here hx rfl (hb hby d5_71) rfl rfl ?_
   exact k
  exact W15.aret hx hlk hret rfl rfl (hb hby d5_72) ⟨a8, [(xx &&& (255 : Int32)), (((xx.toUInt32 >>> ((8 : Int32) &&& 31).toUInt32).toInt32) &&& (255 : Int32))], rfl, x15k, by omega, [a10, a13], (((0 : Int32) + (1 : Int32)) + (1 : Int32)), ⟨⟨(StrH.keep2 ((StrH.keep F10 K12 (Exa.ext E10 A9) (by decide) (ww hw 33 rfl)).ext E13) K15 (Exa.ext E13 A12) (by decide) (ww hw 33 rfl) (V12.ext E13) (ww hw 8 rfl)), by omega⟩, ⟨⟨(StrH.keep2 F13 K15 (Exa.ext E13 A12) (by decide) (ww hw 33 rfl) (V12.ext E13) (ww hw 8 rfl)), by omega⟩, trivial⟩⟩, ble_ rfl, A15, F15_modCount, F15_size, Or.inr ⟨ble_ rfl, ea, ke, F15_elementData, V15, Oe⟩⟩ (by decide) (by decide)
 ·refine W0.new hx (ww hw 32 rfl) (ww hw 33 rfl) (ww hw 34 rfl) (g := (mkF m 0 #[.val (.int 3), .val (.int xx), .unset] [])) rfl (hb hby d5_0) (by decide) (by decide) (fun T16 h16 a16 ha16 W16 E16 A16 D16 => ?_)
  change Fi _ _ _ _ _ _ _ _ _ _ (T16.setTop (mkF m 3 #[.val (.int 3), .val (.int xx), .unset] [(.ref a16)]))
  have sz16 := E16.1
  refine Fi.by' (st' := T16.setTop (mkF m 4 #[.val (.int 3), .val (.int xx), .unset] [(.ref a16), (.ref a16)])) (fun t k => ?_) ?_
  ·refine XS.dup W16.here hx rfl (hb hby d5_3) rfl rfl ?_
   exact k
  refine W16.callI hx (y := y_41) rfl (ww hw 35 rfl) (ww hw 36 rfl) (ww hw 37 rfl) (by decide) (Pay.of_con (Wd := 1) (rm_alc l Z a0 hw a16 dc h16 n0 (by omega) (by omega) A16 (D16 (Or.inl (ww hw 52 rfl)) (ty := .int) (by decide)) (D16 (Or.inl (ww hw 55 rfl)) (ty := (.array (.object "java/lang/Object"))) (by decide)) (D16 (Or.inl (ww hw 86 rfl)) (ty := .int) (by decide)) (Sta.ext E16 D0)) (ww hw 37 rfl) (ww hw 34 rfl) (hEL hw) (by decide) (by decide)) (a := a16) (g := (mkF m 4 #[.val (.int 3), .val (.int xx), .unset] [(.ref a16), (.ref a16)])) rfl (by rw [hml]; rfl) (argsL := []) (rest := [(.ref a16)]) (lenOf pd_18 rfl) rfl rfl (ble_ rfl) (hb hby d5_4) (by decide) (by decide) (fun v17 T17 h17 W17 sz17 q17 => ?_)
  obtain ⟨rfl, K17, A17, F17_modCount, F17_elementData, F17_size⟩ := q17
  change Fi _ _ _ _ _ _ _ _ _ _ (T17.setTop (mkF m 7 #[.val (.int 3), .val (.int xx), .unset] [(.ref a16)]))
  have x17k : Ext h0 h17 := ext_keep1 E16 K17 (by omega)
  refine Fi.by' (st' := T17.setTop (mkF m 20 #[.val (.int 3), .val (.int xx), .val (.ref a16)] [(.int (xx &&& (255 : Int32))), (.ref a16)])) (fun t k => ?_) ?_
  ·refine XS.astoreN W17.here hx rfl (hb hby d5_7) rfl rfl (l' := #[.val (.int 3), .val (.int xx), .val (.ref a16)]) rfl ?_
   refine XS.iloadN W17.here hx rfl (hb hby d5_8) rfl ?_
   refine iconstZ W17.here hx rfl (hb hby d5_9) (z := (1 : Int32)) rfl ?_
   refine XS.icmpNo W17.here hx rfl (hb hby d5_10) rfl (flt (by decide : ¬ ((3 : Int32) < (1 : Int32)))).1 ?_
   refine XS.aloadN W17.here hx rfl (hb hby d5_13) rfl rfl ?_
   refine XS.iloadN W17.here hx rfl (hb hby d5_14) rfl ?_
   refine sipushZ W17.here hx rfl (hb hby d5_15) (z := (255 : Int32)) rfl ?_
   refine XS.iand W17.here hx rfl (hb hby d5_18) rfl ?_
   refine i2cZ W17.here hx rfl (hb hby d5_19) rfl (z := (xx &&& (255 : Int32))) (i2c_mask _) ?_
   exact k
  refine W17.callS hx (y := y_38) (ww hw 180 rfl) (ww hw 181 rfl) (ww hw 9 rfl) (ww hw 182 rfl) (by decide) (Pay.of_con (Wd := 1) (rm_valOf l Z a0 hw (xx &&& (255 : Int32)) zc h17 n0 (by omega) (Sta.ext x17k S0) hz (and255 _)) (ww hw 182 rfl) (ww hw 9 rfl) (hEL hw) (by decide) (by decide)) (g := (mkF m 20 #[.val (.int 3), .val (.int xx), .val (.ref a16)] [(.int (xx &&& (255 : Int32))), (.ref a16)])) rfl (by rw [hml]; rfl) (argsL := [(.int (xx &&& (255 : Int32)))]) (rest := [(.ref a16)]) (lenOf pd_23 rfl) rfl rfl (ble_ rfl) (hb hby d5_20) (by decide) (by decide) (fun v18 T18 h18 W18 sz18 q18 => ?_)
  obtain ⟨a18, rfl, E18, g18, F18⟩ := q18
  change Fi _ _ _ _ _ _ _ _ _ _ (T18.setTop (mkF m 23 #[.val (.int 3), .val (.int xx), .val (.ref a16)] [(.ref a18), (.ref a16)]))
  have sz18 := E18.1
  have x19 : Ext h0 h18 := ext_trans x17k E18
  refine W18.callV hx (y := y_46) (C := "java/util/ArrayList") (ww hw 192 rfl) (ww hw 193 rfl) (ww hw 195 rfl) (ww hw 194 rfl) (by decide) (Pay.of_con (Wd := 0) (rm_add0 l Z a0 hw a16 a18 dc (0 : Int32) kd h18 n0 (by omega) (by omega) (Exa.ext E18 A17) (Fld.ext E18 F17_modCount) (Fld.ext E18 F17_elementData) (Fld.ext E18 F17_size) (F18).exa (Sta.ext x19 D0) (B0.ext x19)) (ww hw 196 rfl) (ww hw 34 rfl) (hEL hw) (by decide) (by decide)) (Exa.ext E18 A17) (g := (mkF m 23 #[.val (.int 3), .val (.int xx), .val (.ref a16)] [(.ref a18), (.ref a16)])) rfl (by rw [hml]; rfl) (argsL := [(.ref a18)]) (rest := []) (lenOf pd_9 rfl) rfl rfl (ble_ rfl) (hb hby d5_23) (by decide) (by decide) (fun v20 T20 h20 W20 sz20 q20 => ?_)
  obtain ⟨rfl, ea, ke, K20, A20, F20_modCount, F20_elementData, F20_size, gn, V20, Oe⟩ := q20
  change Fi _ _ _ _ _ _ _ _ _ _ (T20.setTop (mkF m 26 #[.val (.int 3), .val (.int xx), .val (.ref a16)] [(.int 1)]))
  have x20k : Ext h0 h20 := ext_keep1 x19 K20 (by omega)
  refine Fi.by' (st' := T20.setTop (mkF m 42 #[.val (.int 3), .val (.int xx), .val (.ref a16)] [(.int (((xx.toUInt32 >>> ((8 : Int32) &&& 31).toUInt32).toInt32) &&& (255 : Int32))), (.ref a16)])) (fun t k => ?_) ?_
  ·refine XS.pop W20.here hx rfl (hb hby d5_26) rfl rfl ?_
   refine XS.iloadN W20.here hx rfl (hb hby d5_27) rfl ?_
   refine iconstZ W20.here hx rfl (hb hby d5_28) (z := (2 : Int32)) rfl ?_
   refine XS.icmpNo W20.here hx rfl (hb hby d5_29) rfl (flt (by decide : ¬ ((3 : Int32) < (2 : Int32)))).1 ?_
   refine XS.aloadN W20.here hx rfl (hb hby d5_32) rfl rfl ?_
   refine XS.iloadN W20.here hx rfl (hb hby d5_33) rfl ?_
   refine bipushZ W20.here hx rfl (hb hby d5_34) (z := (8 : Int32)) rfl ?_
   refine XS.iushr W20.here hx rfl (hb hby d5_36) rfl ?_
   refine sipushZ W20.here hx rfl (hb hby d5_37) (z := (255 : Int32)) rfl ?_
   refine XS.iand W20.here hx rfl (hb hby d5_40) rfl ?_
   refine i2cZ W20.here hx rfl (hb hby d5_41) rfl (z := (((xx.toUInt32 >>> ((8 : Int32) &&& 31).toUInt32).toInt32) &&& (255 : Int32))) (i2c_mask _) ?_
   exact k
  refine W20.callS hx (y := y_38) (ww hw 180 rfl) (ww hw 181 rfl) (ww hw 9 rfl) (ww hw 182 rfl) (by decide) (Pay.of_con (Wd := 1) (rm_valOf l Z a0 hw (((xx.toUInt32 >>> ((8 : Int32) &&& 31).toUInt32).toInt32) &&& (255 : Int32)) zc h20 n0 (by omega) (Sta.ext x20k S0) hz (and255 _)) (ww hw 182 rfl) (ww hw 9 rfl) (hEL hw) (by decide) (by decide)) (g := (mkF m 42 #[.val (.int 3), .val (.int xx), .val (.ref a16)] [(.int (((xx.toUInt32 >>> ((8 : Int32) &&& 31).toUInt32).toInt32) &&& (255 : Int32))), (.ref a16)])) rfl (by rw [hml]; rfl) (argsL := [(.int (((xx.toUInt32 >>> ((8 : Int32) &&& 31).toUInt32).toInt32) &&& (255 : Int32)))]) (rest := [(.ref a16)]) (lenOf pd_23 rfl) rfl rfl (ble_ rfl) (hb hby d5_42) (by decide) (by decide) (fun v21 T21 h21 W21 sz21 q21 => ?_)
  obtain ⟨a21, rfl, E21, g21, F21⟩ := q21
  change Fi _ _ _ _ _ _ _ _ _ _ (T21.setTop (mkF m 45 #[.val (.int 3), .val (.int xx), .val (.ref a16)] [(.ref a21), (.ref a16)]))
  have sz21 := E21.1
  have x22 : Ext h0 h21 := ext_trans x20k E21
  refine W21.callV hx (y := y_46) (C := "java/util/ArrayList") (ww hw 192 rfl) (ww hw 193 rfl) (ww hw 195 rfl) (ww hw 194 rfl) (by decide) (Pay.of_con (Wd := 0) (rm_add1 l Z a0 hw a16 a21 ea a18 ((0 : Int32) + (1 : Int32)) ke h21 n0 (by omega) (by omega) (Exa.ext E21 A20) (Fld.ext E21 F20_modCount) (Fld.ext E21 F20_elementData) (Fld.ext E21 F20_size) (F21).exa (V20.ext E21) Oe (by omega)) (ww hw 196 rfl) (ww hw 34 rfl) (hEL hw) (by decide) (by decide)) (Exa.ext E21 A20) (g := (mkF m 45 #[.val (.int 3), .val (.int xx), .val (.ref a16)] [(.ref a21), (.ref a16)])) rfl (by rw [hml]; rfl) (argsL := [(.ref a21)]) (rest := []) (lenOf pd_9 rfl) rfl rfl (ble_ rfl) (hb hby d5_45) (by decide) (by decide) (fun v23 T23 h23 W23 sz23 q23 => ?_)
  obtain ⟨rfl, K23, A23, F23_modCount, F23_elementData, F23_size, V23⟩ := q23
  change Fi _ _ _ _ _ _ _ _ _ _ (T23.setTop (mkF m 48 #[.val (.int 3), .val (.int xx), .val (.ref a16)] [(.int 1)]))
  have x23k : Ext h0 h23 := ext_keep x22 K23 (fun y hy => by rcases List.mem_cons.mp hy with q | q; (rw [q]; omega); (rw [List.mem_singleton.mp q]; omega))
  refine Fi.by' (st' := T23.setTop (mkF m 64 #[.val (.int 3), .val (.int xx), .val (.ref a16)] [(.int (((xx.toUInt32 >>> ((16 : Int32) &&& 31).toUInt32).toInt32) &&& (255 : Int32))), (.ref a16)])) (fun t k => ?_) ?_
  ·refine XS.pop W23.here hx rfl (hb hby d5_48) rfl rfl ?_
   refine XS.iloadN W23.here hx rfl (hb hby d5_49) rfl ?_
   refine iconstZ W23.here hx rfl (hb hby d5_50) (z := (3 : Int32)) rfl ?_
   refine XS.icmpNo W23.here hx rfl (hb hby d5_51) rfl (flt (by decide : ¬ ((3 : Int32) < (3 : Int32)))).1 ?_
   refine XS.aloadN W23.here hx rfl (hb hby d5_54) rfl rfl ?_
   refine XS.iloadN W23.here hx rfl (hb hby d5_55) rfl ?_
   refine bipushZ W23.here hx rfl (hb hby d5_56) (z := (16 : Int32)) rfl ?_
   refine XS.iushr W23.here hx rfl (hb hby d5_58) rfl ?_
   refine sipushZ W23.here hx rfl (hb hby d5_59) (z := (255 : Int32)) rfl ?_
   refine XS.iand W23.here hx rfl (hb hby d5_62) rfl ?_
   refine i2cZ W23.here hx rfl (hb hby d5_63) rfl (z := (((xx.toUInt32 >>> ((16 : Int32) &&& 31).toUInt32).toInt32) &&& (255 : Int32))) (i2c_mask _) ?_
   exact k
  refine W23.callS hx (y := y_38) (ww hw 180 rfl) (ww hw 181 rfl) (ww hw 9 rfl) (ww hw 182 rfl) (by decide) (Pay.of_con (Wd := 1) (rm_valOf l Z a0 hw (((xx.toUInt32 >>> ((16 : Int32) &&& 31).toUInt32).toInt32) &&& (255 : Int32)) zc h23 n0 (by omega) (Sta.ext x23k S0) hz (and255 _)) (ww hw 182 rfl) (ww hw 9 rfl) (hEL hw) (by decide) (by decide)) (g := (mkF m 64 #[.val (.int 3), .val (.int xx), .val (.ref a16)] [(.int (((xx.toUInt32 >>> ((16 : Int32) &&& 31).toUInt32).toInt32) &&& (255 : Int32))), (.ref a16)])) rfl (by rw [hml]; rfl) (argsL := [(.int (((xx.toUInt32 >>> ((16 : Int32) &&& 31).toUInt32).toInt32) &&& (255 : Int32)))]) (rest := [(.ref a16)]) (lenOf pd_23 rfl) rfl rfl (ble_ rfl) (hb hby d5_64) (by decide) (by decide) (fun v24 T24 h24 W24 sz24 q24 => ?_)
  obtain ⟨a24, rfl, E24, g24, F24⟩ := q24
  change Fi _ _ _ _ _ _ _ _ _ _ (T24.setTop (mkF m 67 #[.val (.int 3), .val (.int xx), .val (.ref a16)] [(.ref a24), (.ref a16)]))
  have sz24 := E24.1
  have x25 : Ext h0 h24 := ext_trans x23k E24
  refine W24.callV hx (y := y_46) (C := "java/util/ArrayList") (ww hw 192 rfl) (ww hw 193 rfl) (ww hw 195 rfl) (ww hw 194 rfl) (by decide) (Pay.of_con (Wd := 0) (rm_add2 l Z a0 hw a16 a24 ea a18 a21 (((0 : Int32) + (1 : Int32)) + (1 : Int32)) ke h24 n0 (by omega) (by omega) (Exa.ext E24 A23) (Fld.ext E24 F23_modCount) (Fld.ext E24 F23_elementData) (Fld.ext E24 F23_size) (F24).exa (V23.ext E24) Oe (by omega)) (ww hw 196 rfl) (ww hw 34 rfl) (hEL hw) (by decide) (by decide)) (Exa.ext E24 A23) (g := (mkF m 67 #[.val (.int 3), .val (.int xx), .val (.ref a16)] [(.ref a24), (.ref a16)])) rfl (by rw [hml]; rfl) (argsL := [(.ref a24)]) (rest := []) (lenOf pd_9 rfl) rfl rfl (ble_ rfl) (hb hby d5_67) (by decide) (by decide) (fun v26 T26 h26 W26 sz26 q26 => ?_)
  obtain ⟨rfl, K26, A26, F26_modCount, F26_elementData, F26_size, V26⟩ := q26
  change Fi _ _ _ _ _ _ _ _ _ _ (T26.setTop (mkF m 70 #[.val (.int 3), .val (.int xx), .val (.ref a16)] [(.int 1)]))
  have x26k : Ext h0 h26 := ext_keep x25 K26 (fun y hy => by rcases List.mem_cons.mp hy with q | q; (rw [q]; omega); (rw [List.mem_singleton.mp q]; omega))
  refine Fi.by' (st' := T26.setTop (mkF m 72 #[.val (.int 3), .val (.int xx), .val (.ref a16)] [(.ref a16)])) (fun t k => ?_) ?_
  ·refine XS.pop W26.here hx rfl (hb hby d5_70) rfl rfl ?_
   refine XS.aloadN W26.here hx rfl (hb hby d5_71) rfl rfl ?_
   exact k
  exact W26.aret hx hlk hret rfl rfl (hb hby d5_72) ⟨a16, [(xx &&& (255 : Int32)), (((xx.toUInt32 >>> ((8 : Int32) &&& 31).toUInt32).toInt32) &&& (255 : Int32)), (((xx.toUInt32 >>> ((16 : Int32) &&& 31).toUInt32).toInt32) &&& (255 : Int32))], rfl, x26k, by omega, [a18, a21, a24], ((((0 : Int32) + (1 : Int32)) + (1 : Int32)) + (1 : Int32)), ⟨⟨(StrH.keep2 ((StrH.keep2 ((StrH.keep F18 K20 (Exa.ext E18 A17) (by decide) (ww hw 33 rfl)).ext E21) K23 (Exa.ext E21 A20) (by decide) (ww hw 33 rfl) (V20.ext E21) (ww hw 8 rfl)).ext E24) K26 (Exa.ext E24 A23) (by decide) (ww hw 33 rfl) (V23.ext E24) (ww hw 8 rfl)), by omega⟩, ⟨⟨(StrH.keep2 ((StrH.keep2 F21 K23 (Exa.ext E21 A20) (by decide) (ww hw 33 rfl) (V20.ext E21) (ww hw 8 rfl)).ext E24) K26 (Exa.ext E24 A23) (by decide) (ww hw 33 rfl) (V23.ext E24) (ww hw 8 rfl)), by omega⟩, ⟨⟨(StrH.keep2 F24 K26 (Exa.ext E24 A23) (by decide) (ww hw 33 rfl) (V23.ext E24) (ww hw 8 rfl)), by omega⟩, trivial⟩⟩⟩, ble_ rfl, A26, F26_modCount, F26_size, Or.inr ⟨ble_ rfl, ea, ke, F26_elementData, V26, Oe⟩⟩ (by decide) (by decide)
def Q_mmin1 (Z : State)  (h0 : Heap) (v : Option Value) (h : Heap) : Prop := v = some (.int 1) ∧ h0 = h
theorem rm_mmin1 (l : Launch) (Z : State) (a0 : Array Value) (hw : ∀ d ∈ tables_1, d.before a0 Z = true)  (h0 : Heap) (n0 : Nat) (Z0 : n0 ≤ h0.size)  :
  Con l Z EL y_48 jdk_29_method_69_code 2 (some .int) [] ({ frames := 0, cells := 0, slots := 0, locals := 0 } : Room) #[(.int 10), (.int 1)] h0 n0 (Q_mmin1 Z  h0) := by
 refine Con.intro (own := "java/lang/Math") rfl (by decide +kernel) (hEL hw) ?_
 intro p e s m below meth c s₁ hx hby hml hret hlk hnm W0
 refine Fi.cast (show entryFrame m #[(.int 10), (.int 1)] 2 = (mkF m 0 #[.val (.int 10), .val (.int 1)] []) from by first | (simp [entryFrame, mkF, argsToLocals, Value.category]; done) | rfl) ?_
 refine Fi.by' (st' := s₁.setTop (mkF m 10 #[.val (.int 10), .val (.int 1)] [(.int 1)])) (fun t k => ?_) ?_
 ·refine XS.iloadN W0.here hx rfl (hb hby d41_0) rfl ?_
  refine XS.iloadN W0.here hx rfl (hb hby d41_1) rfl ?_
  refine XS.icmpYes W0.here hx rfl (pc0 := 2) (pc' := 9) rfl (hb hby d41_2) rfl (tlt (by decide : ((1 : Int32) < (10 : Int32)))).2.2.1 (by decide) (by decide) ?_
  refine XS.iloadN W0.here hx rfl (hb hby d41_9) rfl ?_
  exact k
 exact W0.iret hx hlk hret (by simp) rfl (hb hby d41_10) ⟨rfl, rfl⟩ (by decide) (by decide)
def Q_cpc1 (Z : State) (ea x0_ mr : Addr) (ke : ClassId) (h0 : Heap) (v : Option Value) (h : Heap) : Prop := ∃ (ra : Addr) (kr : ClassId), v = some (.ref ra) ∧ Ext h0 h ∧ h0.size ≤ ra ∧ Arv Z h ra kr (.object "java/lang/Object") (1 : Int32) [(.ref x0_)] .null
theorem rm_cpc1 (l : Launch) (Z : State) (a0 : Array Value) (hw : ∀ d ∈ tables_1, d.before a0 Z = true) (ea x0_ mr : Addr) (ke : ClassId) (h0 : Heap) (n0 : Nat) (Z0 : n0 ≤ h0.size) (B0 : Arv Z h0 ea ke (.object "java/lang/Object") (10 : Int32) [(.ref x0_), .null, .null, .null, .null, .null, .null, .null, .null, .null] .null) (M0 : Mir Z "[Ljava/lang/Object;" mr) (XE0 : Exa Z h0 x0_ "java/lang/String") :
  Con l Z EL y_49 jdk_65_method_120_code 4 (some (.array (.object "java/lang/Object"))) [] ({ frames := 1, cells := 1, slots := 1, locals := 18 } : Room) #[(.ref ea), (.int 1), (.ref mr)] h0 n0 (Q_cpc1 Z ea x0_ mr ke h0) := by
 refine Con.intro (own := "java/util/Arrays") rfl (plainFor_of_name plain_java_util_Arrays) (hEL hw) ?_
 intro p e s m below meth c s₁ hx hby hml hret hlk hnm W0
 refine Fi.cast (show entryFrame m #[(.ref ea), (.int 1), (.ref mr)] 4 = (mkF m 0 #[.val (.ref ea), .val (.int 1), .val (.ref mr), .unset] []) from by first | (simp [entryFrame, mkF, argsToLocals, Value.category]; done) | rfl) ?_
 refine Fi.by' (st' := s₁.setTop (mkF m 1 #[.val (.ref ea), .val (.int 1), .val (.ref mr), .unset] [(.ref mr)])) (fun t k => ?_) ?_
 ·refine XS.aloadN W0.here hx rfl (hb hby d40_0) rfl rfl ?_
  exact k
 refine W0.ldcM hx (ww hw 239 rfl) M0 (g := (mkF m 1 #[.val (.ref ea), .val (.int 1), .val (.ref mr), .unset] [(.ref mr)])) rfl (hb hby d40_1) (fun T1 W1 => ?_)
 change Fi _ _ _ _ _ _ _ _ _ _ (T1.setTop (mkF m 3 #[.val (.ref ea), .val (.int 1), .val (.ref mr), .unset] [(.ref mr), (.ref mr)]))
 refine Fi.by' (st' := T1.setTop (mkF m 7 #[.val (.ref ea), .val (.int 1), .val (.ref mr), .unset] [(.int 1)])) (fun t k => ?_) ?_
 ·refine XS.acmpNo W1.here hx rfl (hb hby d40_3) rfl (acmpTNe (rfl : mr = mr)) ?_
  refine XS.iloadN W1.here hx rfl (hb hby d40_6) rfl ?_
  exact k
 refine W1.newR hx (ww hw 240 rfl) (ww hw 101 rfl) (ad := "[Ljava/lang/Object;") rfl (g := (mkF m 7 #[.val (.ref ea), .val (.int 1), .val (.ref mr), .unset] [(.int 1)])) rfl (hb hby d40_7) rfl (by decide) (cap := 1) (by decide) (by decide) (by decide) (by decide) (fun T2 h2 a2 k2 ha2 W2 E2 A2 X2 O2 => ?_)
 change Fi _ _ _ _ _ _ _ _ _ _ (T2.setTop (mkF m 10 #[.val (.ref ea), .val (.int 1), .val (.ref mr), .unset] [(.ref a2)]))
 have sz2 := E2.1
 have V2 : Arv Z h2 a2 k2 (.object "java/lang/Object") (1 : Int32) [.null] .null := A2.pad (pad_rep [] .null 1)
 refine Fi.by' (st' := T2.setTop (mkF m 30 #[.val (.ref ea), .val (.int 1), .val (.ref mr), .val (.ref a2)] [(.ref ea), (.int 0), (.ref a2), (.int 0), (.ref ea)])) (fun t k => ?_) ?_
 ·refine XS.goto W2.here hx rfl (pc0 := 10) (pc' := 24) rfl (hb hby d40_10) (by decide) (by decide) ?_
  refine XS.astoreN W2.here hx rfl (hb hby d40_24) rfl rfl (l' := #[.val (.ref ea), .val (.int 1), .val (.ref mr), .val (.ref a2)]) rfl ?_
  refine XS.aloadN W2.here hx rfl (hb hby d40_25) rfl rfl ?_
  refine iconstZ W2.here hx rfl (hb hby d40_26) (z := (0 : Int32)) rfl ?_
  refine XS.aloadN W2.here hx rfl (hb hby d40_27) rfl rfl ?_
  refine iconstZ W2.here hx rfl (hb hby d40_28) (z := (0 : Int32)) rfl ?_
  refine XS.aloadN W2.here hx rfl (hb hby d40_29) rfl rfl ?_
  exact k
 refine W2.alen hx (B0.ext E2) (g := (mkF m 30 #[.val (.ref ea), .val (.int 1), .val (.ref mr), .val (.ref a2)] [(.ref ea), (.int 0), (.ref a2), (.int 0), (.ref ea)])) rfl rfl (hb hby d40_30) ?_
 change Fi _ _ _ _ _ _ _ _ _ _ (T2.setTop (mkF m 31 #[.val (.ref ea), .val (.int 1), .val (.ref mr), .val (.ref a2)] [(.int 10), (.int 0), (.ref a2), (.int 0), (.ref ea)]))
 refine Fi.by' (st' := T2.setTop (mkF m 32 #[.val (.ref ea), .val (.int 1), .val (.ref mr), .val (.ref a2)] [(.int 1), (.int 10), (.int 0), (.ref a2), (.int 0), (.ref ea)])) (fun t k => ?_) ?_
 ·refine XS.iloadN W2.here hx rfl (hb hby d40_31) rfl ?_
  exact k
 refine W2.callS hx (y := y_48) (ww hw 241 rfl) (ww hw 242 rfl) (ww hw 216 rfl) (ww hw 243 rfl) (by decide) (Pay.of_con (Wd := 4) (rm_mmin1 l Z a0 hw h2 n0 (by omega)) (ww hw 243 rfl) (ww hw 216 rfl) (hEL hw) (by decide) (by decide)) (g := (mkF m 32 #[.val (.ref ea), .val (.int 1), .val (.ref mr), .val (.ref a2)] [(.int 1), (.int 10), (.int 0), (.ref a2), (.int 0), (.ref ea)])) rfl (by rw [hml]; rfl) (argsL := [(.int 10), (.int 1)]) (rest := [(.int 0), (.ref a2), (.int 0), (.ref ea)]) (lenOf pd_19 rfl) rfl rfl (ble_ rfl) (hb hby d40_32) (by decide) (by decide) (fun v4 T4 h4 W4 sz4 q4 => ?_)
 obtain ⟨rfl, rfl⟩ := q4
 change Fi _ _ _ _ _ _ _ _ _ _ (T4.setTop (mkF m 35 #[.val (.ref ea), .val (.int 1), .val (.ref mr), .val (.ref a2)] [(.int 1), (.int 0), (.ref a2), (.int 0), (.ref ea)]))
 refine W4.cpR hx (ww hw 244 rfl) (ww hw 247 rfl) (ww hw 245 rfl) (ww hw 246 rfl) (B0.ext E2) V2 (sp := 0) (dp := 0) (nn := 1) (us := [(.ref x0_)]) ⟨stoV V2 O2 (Ins.of_exa (Exa.ext E2 XE0) (ww hw 102 rfl)), trivial⟩ (by decide) (by decide) (by decide) (by decide) (by decide) rfl (by decide) (by omega) (g := (mkF m 35 #[.val (.ref ea), .val (.int 1), .val (.ref mr), .val (.ref a2)] [(.int 1), (.int 0), (.ref a2), (.int 0), (.ref ea)])) rfl (by rw [hml]; rfl) rfl (hb hby d40_35) (by decide) (Wd := 0) (ble_ rfl) (by decide) (fun T5 h5 W5 K5 V5 => ?_)
 change Fi _ _ _ _ _ _ _ _ _ _ (T5.setTop (mkF m 38 #[.val (.ref ea), .val (.int 1), .val (.ref mr), .val (.ref a2)] []))
 have x5k : Ext h0 h5 := ext_keep1 E2 K5 (by omega)
 have V5' : Arv Z h5 a2 k2 (.object "java/lang/Object") (1 : Int32) [(.ref x0_)] .null := V5
 refine Fi.by' (st' := T5.setTop (mkF m 39 #[.val (.ref ea), .val (.int 1), .val (.ref mr), .val (.ref a2)] [(.ref a2)])) (fun t k => ?_) ?_
 ·refine XS.aloadN W5.here hx rfl (hb hby d40_38) rfl rfl ?_
  exact k
 exact W5.aret hx hlk hret rfl rfl (hb hby d40_39) ⟨a2, k2, rfl, x5k, by omega, V5'⟩ (by decide) (by decide)
def Q_cpb1 (Z : State) (ea x0_ mr : Addr) (ke : ClassId) (h0 : Heap) (v : Option Value) (h : Heap) : Prop := ∃ (ra : Addr) (kr : ClassId), v = some (.ref ra) ∧ Ext h0 h ∧ h0.size ≤ ra ∧ Arv Z h ra kr (.object "java/lang/Object") (1 : Int32) [(.ref x0_)] .null
theorem rm_cpb1 (l : Launch) (Z : State) (a0 : Array Value) (hw : ∀ d ∈ tables_1, d.before a0 Z = true) (ea x0_ mr : Addr) (ke : ClassId) (h0 : Heap) (n0 : Nat) (Z0 : n0 ≤ h0.size) (B0 : Arv Z h0 ea ke (.object "java/lang/Object") (10 : Int32) [(.ref x0_), .null, .null, .null, .null, .null, .null, .null, .null, .null] .null) (M0 : Mir Z "[Ljava/lang/Object;" mr) (XE0 : Exa Z h0 x0_ "java/lang/String") (X0 : Exa Z h0 ea "[Ljava/lang/Object;") :
  Con l Z EL y_50 jdk_65_method_119_code 2 (some (.array (.object "java/lang/Object"))) [] ({ frames := 2, cells := 1, slots := 1, locals := 33 } : Room) #[(.ref ea), (.int 1)] h0 n0 (Q_cpb1 Z ea x0_ mr ke h0) := by
 refine Con.intro (own := "java/util/Arrays") rfl (plainFor_of_name plain_java_util_Arrays) (hEL hw) ?_
 intro p e s m below meth c s₁ hx hby hml hret hlk hnm W0
 refine Fi.cast (show entryFrame m #[(.ref ea), (.int 1)] 2 = (mkF m 0 #[.val (.ref ea), .val (.int 1)] []) from by first | (simp [entryFrame, mkF, argsToLocals, Value.category]; done) | rfl) ?_
 refine Fi.by' (st' := s₁.setTop (mkF m 3 #[.val (.ref ea), .val (.int 1)] [(.ref ea), (.int 1), (.ref ea)])) (fun t k => ?_) ?_
 ·refine XS.aloadN W0.here hx rfl (hb hby d39_0) rfl rfl ?_
  refine XS.iloadN W0.here hx rfl (hb hby d39_1) rfl ?_
  refine XS.aloadN W0.here hx rfl (hb hby d39_2) rfl rfl ?_
  exact k
 refine W0.gcls hx (ww hw 230 rfl) (ww hw 231 rfl) (ww hw 74 rfl) (ww hw 233 rfl) (ww hw 232 rfl) (ww hw 234 rfl) X0 M0 (g := (mkF m 3 #[.val (.ref ea), .val (.int 1)] [(.ref ea), (.int 1), (.ref ea)])) rfl (by rw [hml]; rfl) rfl (hb hby d39_3) (by decide) (Wd := 2) (ble_ rfl) (by decide) (fun T1 W1 => ?_)
 change Fi _ _ _ _ _ _ _ _ _ _ (T1.setTop (mkF m 6 #[.val (.ref ea), .val (.int 1)] [(.ref mr), (.int 1), (.ref ea)]))
 refine W1.callS hx (y := y_49) (ww hw 236 rfl) (ww hw 237 rfl) (ww hw 110 rfl) (ww hw 238 rfl) (by decide) (Pay.of_con (Wd := 0) (rm_cpc1 l Z a0 hw ea x0_ mr ke h0 n0 (by omega) B0 M0 XE0) (ww hw 238 rfl) (ww hw 110 rfl) (hEL hw) (by decide) (by decide)) (g := (mkF m 6 #[.val (.ref ea), .val (.int 1)] [(.ref mr), (.int 1), (.ref ea)])) rfl (by rw [hml]; rfl) (argsL := [(.ref ea), (.int 1), (.ref mr)]) (rest := []) (lenOf pd_24 rfl) rfl rfl (ble_ rfl) (hb hby d39_6) (by decide) (by decide) (fun v2 T2 h2 W2 sz2 q2 => ?_)
 obtain ⟨a2, k2, rfl, E2, g2, V2⟩ := q2
 change Fi _ _ _ _ _ _ _ _ _ _ (T2.setTop (mkF m 9 #[.val (.ref ea), .val (.int 1)] [(.ref a2)]))
 have sz2 := E2.1
 exact W2.aret hx hlk hret rfl rfl (hb hby d39_9) ⟨a2, k2, rfl, E2, by omega, V2⟩ (by decide) (by decide)
def Q_toa1 (Z : State) (al ea x0_ mr : Addr) (ke : ClassId) (h0 : Heap) (v : Option Value) (h : Heap) : Prop := ∃ (ra : Addr) (kr : ClassId), v = some (.ref ra) ∧ Ext h0 h ∧ h0.size ≤ ra ∧ Arv Z h ra kr (.object "java/lang/Object") (1 : Int32) [(.ref x0_)] .null
theorem rm_toa1 (l : Launch) (Z : State) (a0 : Array Value) (hw : ∀ d ∈ tables_1, d.before a0 Z = true) (al ea x0_ mr : Addr) (ke : ClassId) (h0 : Heap) (n0 : Nat) (Z0 : n0 ≤ h0.size) (F1 : Fld Z h0 al "java/util/ArrayList" "elementData" "[Ljava/lang/Object;" (.ref ea)) (F2 : Fld Z h0 al "java/util/ArrayList" "size" "I" (.int 1)) (B0 : Arv Z h0 ea ke (.object "java/lang/Object") (10 : Int32) [(.ref x0_), .null, .null, .null, .null, .null, .null, .null, .null, .null] .null) (M0 : Mir Z "[Ljava/lang/Object;" mr) (XE0 : Exa Z h0 x0_ "java/lang/String") (X0 : Exa Z h0 ea "[Ljava/lang/Object;") :
  Con l Z EL y_51 jdk_38_method_16_code 1 (some (.array (.object "java/lang/Object"))) [] ({ frames := 3, cells := 1, slots := 1, locals := 46 } : Room) #[(.ref al)] h0 n0 (Q_toa1 Z al ea x0_ mr ke h0) := by
 refine Con.intro (own := "java/util/ArrayList") rfl (plainFor_of_name plain_java_util_ArrayList) (hEL hw) ?_
 intro p e s m below meth c s₁ hx hby hml hret hlk hnm W0
 refine Fi.cast (show entryFrame m #[(.ref al)] 1 = (mkF m 0 #[.val (.ref al)] []) from by first | (simp [entryFrame, mkF, argsToLocals, Value.category]; done) | rfl) ?_
 refine Fi.by' (st' := s₁.setTop (mkF m 1 #[.val (.ref al)] [(.ref al)])) (fun t k => ?_) ?_
 ·refine XS.aloadN W0.here hx rfl (hb hby d38_0) rfl rfl ?_
  exact k
 refine W0.getF hx (ww hw 54 rfl) F1 (g := (mkF m 1 #[.val (.ref al)] [(.ref al)])) rfl rfl (hb hby d38_1) (fun T1 W1 => ?_)
 change Fi _ _ _ _ _ _ _ _ _ _ (T1.setTop (mkF m 4 #[.val (.ref al)] [(.ref ea)]))
 refine Fi.by' (st' := T1.setTop (mkF m 5 #[.val (.ref al)] [(.ref al), (.ref ea)])) (fun t k => ?_) ?_
 ·refine XS.aloadN W1.here hx rfl (hb hby d38_4) rfl rfl ?_
  exact k
 refine W1.getF hx (ww hw 85 rfl) F2 (g := (mkF m 5 #[.val (.ref al)] [(.ref al), (.ref ea)])) rfl rfl (hb hby d38_5) (fun T2 W2 => ?_)
 change Fi _ _ _ _ _ _ _ _ _ _ (T2.setTop (mkF m 8 #[.val (.ref al)] [(.int 1), (.ref ea)]))
 refine W2.callS hx (y := y_50) (ww hw 227 rfl) (ww hw 228 rfl) (ww hw 110 rfl) (ww hw 229 rfl) (by decide) (Pay.of_con (Wd := 0) (rm_cpb1 l Z a0 hw ea x0_ mr ke h0 n0 (by omega) B0 M0 XE0 X0) (ww hw 229 rfl) (ww hw 110 rfl) (hEL hw) (by decide) (by decide)) (g := (mkF m 8 #[.val (.ref al)] [(.int 1), (.ref ea)])) rfl (by rw [hml]; rfl) (argsL := [(.ref ea), (.int 1)]) (rest := []) (lenOf pd_25 rfl) rfl rfl (ble_ rfl) (hb hby d38_8) (by decide) (by decide) (fun v3 T3 h3 W3 sz3 q3 => ?_)
 obtain ⟨a3, k3, rfl, E3, g3, V3⟩ := q3
 change Fi _ _ _ _ _ _ _ _ _ _ (T3.setTop (mkF m 11 #[.val (.ref al)] [(.ref a3)]))
 have sz3 := E3.1
 exact W3.aret hx hlk hret rfl rfl (hb hby d38_11) ⟨a3, k3, rfl, E3, by omega, V3⟩ (by decide) (by decide)
def Q_mmin2 (Z : State)  (h0 : Heap) (v : Option Value) (h : Heap) : Prop := v = some (.int 2) ∧ h0 = h
theorem rm_mmin2 (l : Launch) (Z : State) (a0 : Array Value) (hw : ∀ d ∈ tables_1, d.before a0 Z = true)  (h0 : Heap) (n0 : Nat) (Z0 : n0 ≤ h0.size)  :
  Con l Z EL y_48 jdk_29_method_69_code 2 (some .int) [] ({ frames := 0, cells := 0, slots := 0, locals := 0 } : Room) #[(.int 10), (.int 2)] h0 n0 (Q_mmin2 Z  h0) := by
 refine Con.intro (own := "java/lang/Math") rfl (by decide +kernel) (hEL hw) ?_
 intro p e s m below meth c s₁ hx hby hml hret hlk hnm W0
 refine Fi.cast (show entryFrame m #[(.int 10), (.int 2)] 2 = (mkF m 0 #[.val (.int 10), .val (.int 2)] []) from by first | (simp [entryFrame, mkF, argsToLocals, Value.category]; done) | rfl) ?_
 refine Fi.by' (st' := s₁.setTop (mkF m 10 #[.val (.int 10), .val (.int 2)] [(.int 2)])) (fun t k => ?_) ?_
 ·refine XS.iloadN W0.here hx rfl (hb hby d41_0) rfl ?_
  refine XS.iloadN W0.here hx rfl (hb hby d41_1) rfl ?_
  refine XS.icmpYes W0.here hx rfl (pc0 := 2) (pc' := 9) rfl (hb hby d41_2) rfl (tlt (by decide : ((2 : Int32) < (10 : Int32)))).2.2.1 (by decide) (by decide) ?_
  refine XS.iloadN W0.here hx rfl (hb hby d41_9) rfl ?_
  exact k
 exact W0.iret hx hlk hret (by simp) rfl (hb hby d41_10) ⟨rfl, rfl⟩ (by decide) (by decide)
def Q_cpc2 (Z : State) (ea x0_ x1_ mr : Addr) (ke : ClassId) (h0 : Heap) (v : Option Value) (h : Heap) : Prop := ∃ (ra : Addr) (kr : ClassId), v = some (.ref ra) ∧ Ext h0 h ∧ h0.size ≤ ra ∧ Arv Z h ra kr (.object "java/lang/Object") (2 : Int32) [(.ref x0_), (.ref x1_)] .null
theorem rm_cpc2 (l : Launch) (Z : State) (a0 : Array Value) (hw : ∀ d ∈ tables_1, d.before a0 Z = true) (ea x0_ x1_ mr : Addr) (ke : ClassId) (h0 : Heap) (n0 : Nat) (Z0 : n0 ≤ h0.size) (B0 : Arv Z h0 ea ke (.object "java/lang/Object") (10 : Int32) [(.ref x0_), (.ref x1_), .null, .null, .null, .null, .null, .null, .null, .null] .null) (M0 : Mir Z "[Ljava/lang/Object;" mr) (XE0 : Exa Z h0 x0_ "java/lang/String") (XE1 : Exa Z h0 x1_ "java/lang/String") :
  Con l Z EL y_49 jdk_65_method_120_code 4 (some (.array (.object "java/lang/Object"))) [] ({ frames := 1, cells := 1, slots := 2, locals := 18 } : Room) #[(.ref ea), (.int 2), (.ref mr)] h0 n0 (Q_cpc2 Z ea x0_ x1_ mr ke h0) := by
 refine Con.intro (own := "java/util/Arrays") rfl (plainFor_of_name plain_java_util_Arrays) (hEL hw) ?_
 intro p e s m below meth c s₁ hx hby hml hret hlk hnm W0
 refine Fi.cast (show entryFrame m #[(.ref ea), (.int 2), (.ref mr)] 4 = (mkF m 0 #[.val (.ref ea), .val (.int 2), .val (.ref mr), .unset] []) from by first | (simp [entryFrame, mkF, argsToLocals, Value.category]; done) | rfl) ?_
 refine Fi.by' (st' := s₁.setTop (mkF m 1 #[.val (.ref ea), .val (.int 2), .val (.ref mr), .unset] [(.ref mr)])) (fun t k => ?_) ?_
 ·refine XS.aloadN W0.here hx rfl (hb hby d40_0) rfl rfl ?_
  exact k
 refine W0.ldcM hx (ww hw 239 rfl) M0 (g := (mkF m 1 #[.val (.ref ea), .val (.int 2), .val (.ref mr), .unset] [(.ref mr)])) rfl (hb hby d40_1) (fun T1 W1 => ?_)
 change Fi _ _ _ _ _ _ _ _ _ _ (T1.setTop (mkF m 3 #[.val (.ref ea), .val (.int 2), .val (.ref mr), .unset] [(.ref mr), (.ref mr)]))
 refine Fi.by' (st' := T1.setTop (mkF m 7 #[.val (.ref ea), .val (.int 2), .val (.ref mr), .unset] [(.int 2)])) (fun t k => ?_) ?_
 ·refine XS.acmpNo W1.here hx rfl (hb hby d40_3) rfl (acmpTNe (rfl : mr = mr)) ?_
  refine XS.iloadN W1.here hx rfl (hb hby d40_6) rfl ?_
  exact k
 refine W1.newR hx (ww hw 240 rfl) (ww hw 101 rfl) (ad := "[Ljava/lang/Object;") rfl (g := (mkF m 7 #[.val (.ref ea), .val (.int 2), .val (.ref mr), .unset] [(.int 2)])) rfl (hb hby d40_7) rfl (by decide) (cap := 2) (by decide) (by decide) (by decide) (by decide) (fun T2 h2 a2 k2 ha2 W2 E2 A2 X2 O2 => ?_)
 change Fi _ _ _ _ _ _ _ _ _ _ (T2.setTop (mkF m 10 #[.val (.ref ea), .val (.int 2), .val (.ref mr), .unset] [(.ref a2)]))
 have sz2 := E2.1
 have V2 : Arv Z h2 a2 k2 (.object "java/lang/Object") (2 : Int32) [.null, .null] .null := A2.pad (pad_rep [] .null 2)
 refine Fi.by' (st' := T2.setTop (mkF m 30 #[.val (.ref ea), .val (.int 2), .val (.ref mr), .val (.ref a2)] [(.ref ea), (.int 0), (.ref a2), (.int 0), (.ref ea)])) (fun t k => ?_) ?_
 ·refine XS.goto W2.here hx rfl (pc0 := 10) (pc' := 24) rfl (hb hby d40_10) (by decide) (by decide) ?_
  refine XS.astoreN W2.here hx rfl (hb hby d40_24) rfl rfl (l' := #[.val (.ref ea), .val (.int 2), .val (.ref mr), .val (.ref a2)]) rfl ?_
  refine XS.aloadN W2.here hx rfl (hb hby d40_25) rfl rfl ?_
  refine iconstZ W2.here hx rfl (hb hby d40_26) (z := (0 : Int32)) rfl ?_
  refine XS.aloadN W2.here hx rfl (hb hby d40_27) rfl rfl ?_
  refine iconstZ W2.here hx rfl (hb hby d40_28) (z := (0 : Int32)) rfl ?_
  refine XS.aloadN W2.here hx rfl (hb hby d40_29) rfl rfl ?_
  exact k
 refine W2.alen hx (B0.ext E2) (g := (mkF m 30 #[.val (.ref ea), .val (.int 2), .val (.ref mr), .val (.ref a2)] [(.ref ea), (.int 0), (.ref a2), (.int 0), (.ref ea)])) rfl rfl (hb hby d40_30) ?_
 change Fi _ _ _ _ _ _ _ _ _ _ (T2.setTop (mkF m 31 #[.val (.ref ea), .val (.int 2), .val (.ref mr), .val (.ref a2)] [(.int 10), (.int 0), (.ref a2), (.int 0), (.ref ea)]))
 refine Fi.by' (st' := T2.setTop (mkF m 32 #[.val (.ref ea), .val (.int 2), .val (.ref mr), .val (.ref a2)] [(.int 2), (.int 10), (.int 0), (.ref a2), (.int 0), (.ref ea)])) (fun t k => ?_) ?_
 ·refine XS.iloadN W2.here hx rfl (hb hby d40_31) rfl ?_
  exact k
 refine W2.callS hx (y := y_48) (ww hw 241 rfl) (ww hw 242 rfl) (ww hw 216 rfl) (ww hw 243 rfl) (by decide) (Pay.of_con (Wd := 4) (rm_mmin2 l Z a0 hw h2 n0 (by omega)) (ww hw 243 rfl) (ww hw 216 rfl) (hEL hw) (by decide) (by decide)) (g := (mkF m 32 #[.val (.ref ea), .val (.int 2), .val (.ref mr), .val (.ref a2)] [(.int 2), (.int 10), (.int 0), (.ref a2), (.int 0), (.ref ea)])) rfl (by rw [hml]; rfl) (argsL := [(.int 10), (.int 2)]) (rest := [(.int 0), (.ref a2), (.int 0), (.ref ea)]) (lenOf pd_19 rfl) rfl rfl (ble_ rfl) (hb hby d40_32) (by decide) (by decide) (fun v4 T4 h4 W4 sz4 q4 => ?_)
 obtain ⟨rfl, rfl⟩ := q4
 change Fi _ _ _ _ _ _ _ _ _ _ (T4.setTop (mkF m 35 #[.val (.ref ea), .val (.int 2), .val (.ref mr), .val (.ref a2)] [(.int 2), (.int 0), (.ref a2), (.int 0), (.ref ea)]))
 refine W4.cpR hx (ww hw 244 rfl) (ww hw 247 rfl) (ww hw 245 rfl) (ww hw 246 rfl) (B0.ext E2) V2 (sp := 0) (dp := 0) (nn := 2) (us := [(.ref x0_), (.ref x1_)]) ⟨stoV V2 O2 (Ins.of_exa (Exa.ext E2 XE0) (ww hw 102 rfl)), ⟨stoV V2 O2 (Ins.of_exa (Exa.ext E2 XE1) (ww hw 102 rfl)), trivial⟩⟩ (by decide) (by decide) (by decide) (by decide) (by decide) rfl (by decide) (by omega) (g := (mkF m 35 #[.val (.ref ea), .val (.int 2), .val (.ref mr), .val (.ref a2)] [(.int 2), (.int 0), (.ref a2), (.int 0), (.ref ea)])) rfl (by rw [hml]; rfl) rfl (hb hby d40_35) (by decide) (Wd := 0) (ble_ rfl) (by decide) (fun T5 h5 W5 K5 V5 => ?_)
 change Fi _ _ _ _ _ _ _ _ _ _ (T5.setTop (mkF m 38 #[.val (.ref ea), .val (.int 2), .val (.ref mr), .val (.ref a2)] []))
 have x5k : Ext h0 h5 := ext_keep1 E2 K5 (by omega)
 have V5' : Arv Z h5 a2 k2 (.object "java/lang/Object") (2 : Int32) [(.ref x0_), (.ref x1_)] .null := V5
 refine Fi.by' (st' := T5.setTop (mkF m 39 #[.val (.ref ea), .val (.int 2), .val (.ref mr), .val (.ref a2)] [(.ref a2)])) (fun t k => ?_) ?_
 ·refine XS.aloadN W5.here hx rfl (hb hby d40_38) rfl rfl ?_
  exact k
 exact W5.aret hx hlk hret rfl rfl (hb hby d40_39) ⟨a2, k2, rfl, x5k, by omega, V5'⟩ (by decide) (by decide)
def Q_cpb2 (Z : State) (ea x0_ x1_ mr : Addr) (ke : ClassId) (h0 : Heap) (v : Option Value) (h : Heap) : Prop := ∃ (ra : Addr) (kr : ClassId), v = some (.ref ra) ∧ Ext h0 h ∧ h0.size ≤ ra ∧ Arv Z h ra kr (.object "java/lang/Object") (2 : Int32) [(.ref x0_), (.ref x1_)] .null
theorem rm_cpb2 (l : Launch) (Z : State) (a0 : Array Value) (hw : ∀ d ∈ tables_1, d.before a0 Z = true) (ea x0_ x1_ mr : Addr) (ke : ClassId) (h0 : Heap) (n0 : Nat) (Z0 : n0 ≤ h0.size) (B0 : Arv Z h0 ea ke (.object "java/lang/Object") (10 : Int32) [(.ref x0_), (.ref x1_), .null, .null, .null, .null, .null, .null, .null, .null] .null) (M0 : Mir Z "[Ljava/lang/Object;" mr) (XE0 : Exa Z h0 x0_ "java/lang/String") (XE1 : Exa Z h0 x1_ "java/lang/String") (X0 : Exa Z h0 ea "[Ljava/lang/Object;") :
  Con l Z EL y_50 jdk_65_method_119_code 2 (some (.array (.object "java/lang/Object"))) [] ({ frames := 2, cells := 1, slots := 2, locals := 33 } : Room) #[(.ref ea), (.int 2)] h0 n0 (Q_cpb2 Z ea x0_ x1_ mr ke h0) := by
 refine Con.intro (own := "java/util/Arrays") rfl (plainFor_of_name plain_java_util_Arrays) (hEL hw) ?_
 intro p e s m below meth c s₁ hx hby hml hret hlk hnm W0
 refine Fi.cast (show entryFrame m #[(.ref ea), (.int 2)] 2 = (mkF m 0 #[.val (.ref ea), .val (.int 2)] []) from by first | (simp [entryFrame, mkF, argsToLocals, Value.category]; done) | rfl) ?_
 refine Fi.by' (st' := s₁.setTop (mkF m 3 #[.val (.ref ea), .val (.int 2)] [(.ref ea), (.int 2), (.ref ea)])) (fun t k => ?_) ?_
 ·refine XS.aloadN W0.here hx rfl (hb hby d39_0) rfl rfl ?_
  refine XS.iloadN W0.here hx rfl (hb hby d39_1) rfl ?_
  refine XS.aloadN W0.here hx rfl (hb hby d39_2) rfl rfl ?_
  exact k
 refine W0.gcls hx (ww hw 230 rfl) (ww hw 231 rfl) (ww hw 74 rfl) (ww hw 233 rfl) (ww hw 232 rfl) (ww hw 234 rfl) X0 M0 (g := (mkF m 3 #[.val (.ref ea), .val (.int 2)] [(.ref ea), (.int 2), (.ref ea)])) rfl (by rw [hml]; rfl) rfl (hb hby d39_3) (by decide) (Wd := 2) (ble_ rfl) (by decide) (fun T1 W1 => ?_)
 change Fi _ _ _ _ _ _ _ _ _ _ (T1.setTop (mkF m 6 #[.val (.ref ea), .val (.int 2)] [(.ref mr), (.int 2), (.ref ea)]))
 refine W1.callS hx (y := y_49) (ww hw 236 rfl) (ww hw 237 rfl) (ww hw 110 rfl) (ww hw 238 rfl) (by decide) (Pay.of_con (Wd := 0) (rm_cpc2 l Z a0 hw ea x0_ x1_ mr ke h0 n0 (by omega) B0 M0 XE0 XE1) (ww hw 238 rfl) (ww hw 110 rfl) (hEL hw) (by decide) (by decide)) (g := (mkF m 6 #[.val (.ref ea), .val (.int 2)] [(.ref mr), (.int 2), (.ref ea)])) rfl (by rw [hml]; rfl) (argsL := [(.ref ea), (.int 2), (.ref mr)]) (rest := []) (lenOf pd_24 rfl) rfl rfl (ble_ rfl) (hb hby d39_6) (by decide) (by decide) (fun v2 T2 h2 W2 sz2 q2 => ?_)
 obtain ⟨a2, k2, rfl, E2, g2, V2⟩ := q2
 change Fi _ _ _ _ _ _ _ _ _ _ (T2.setTop (mkF m 9 #[.val (.ref ea), .val (.int 2)] [(.ref a2)]))
 have sz2 := E2.1
 exact W2.aret hx hlk hret rfl rfl (hb hby d39_9) ⟨a2, k2, rfl, E2, by omega, V2⟩ (by decide) (by decide)
def Q_toa2 (Z : State) (al ea x0_ x1_ mr : Addr) (ke : ClassId) (h0 : Heap) (v : Option Value) (h : Heap) : Prop := ∃ (ra : Addr) (kr : ClassId), v = some (.ref ra) ∧ Ext h0 h ∧ h0.size ≤ ra ∧ Arv Z h ra kr (.object "java/lang/Object") (2 : Int32) [(.ref x0_), (.ref x1_)] .null
theorem rm_toa2 (l : Launch) (Z : State) (a0 : Array Value) (hw : ∀ d ∈ tables_1, d.before a0 Z = true) (al ea x0_ x1_ mr : Addr) (ke : ClassId) (h0 : Heap) (n0 : Nat) (Z0 : n0 ≤ h0.size) (F1 : Fld Z h0 al "java/util/ArrayList" "elementData" "[Ljava/lang/Object;" (.ref ea)) (F2 : Fld Z h0 al "java/util/ArrayList" "size" "I" (.int 2)) (B0 : Arv Z h0 ea ke (.object "java/lang/Object") (10 : Int32) [(.ref x0_), (.ref x1_), .null, .null, .null, .null, .null, .null, .null, .null] .null) (M0 : Mir Z "[Ljava/lang/Object;" mr) (XE0 : Exa Z h0 x0_ "java/lang/String") (XE1 : Exa Z h0 x1_ "java/lang/String") (X0 : Exa Z h0 ea "[Ljava/lang/Object;") :
  Con l Z EL y_51 jdk_38_method_16_code 1 (some (.array (.object "java/lang/Object"))) [] ({ frames := 3, cells := 1, slots := 2, locals := 46 } : Room) #[(.ref al)] h0 n0 (Q_toa2 Z al ea x0_ x1_ mr ke h0) := by
 refine Con.intro (own := "java/util/ArrayList") rfl (plainFor_of_name plain_java_util_ArrayList) (hEL hw) ?_
 intro p e s m below meth c s₁ hx hby hml hret hlk hnm W0
 refine Fi.cast (show entryFrame m #[(.ref al)] 1 = (mkF m 0 #[.val (.ref al)] []) from by first | (simp [entryFrame, mkF, argsToLocals, Value.category]; done) | rfl) ?_
 refine Fi.by' (st' := s₁.setTop (mkF m 1 #[.val (.ref al)] [(.ref al)])) (fun t k => ?_) ?_
 ·refine XS.aloadN W0.here hx rfl (hb hby d38_0) rfl rfl ?_
  exact k
 refine W0.getF hx (ww hw 54 rfl) F1 (g := (mkF m 1 #[.val (.ref al)] [(.ref al)])) rfl rfl (hb hby d38_1) (fun T1 W1 => ?_)
 change Fi _ _ _ _ _ _ _ _ _ _ (T1.setTop (mkF m 4 #[.val (.ref al)] [(.ref ea)]))
 refine Fi.by' (st' := T1.setTop (mkF m 5 #[.val (.ref al)] [(.ref al), (.ref ea)])) (fun t k => ?_) ?_
 ·refine XS.aloadN W1.here hx rfl (hb hby d38_4) rfl rfl ?_
  exact k
 refine W1.getF hx (ww hw 85 rfl) F2 (g := (mkF m 5 #[.val (.ref al)] [(.ref al), (.ref ea)])) rfl rfl (hb hby d38_5) (fun T2 W2 => ?_)
 change Fi _ _ _ _ _ _ _ _ _ _ (T2.setTop (mkF m 8 #[.val (.ref al)] [(.int 2), (.ref ea)]))
 refine W2.callS hx (y := y_50) (ww hw 227 rfl) (ww hw 228 rfl) (ww hw 110 rfl) (ww hw 229 rfl) (by decide) (Pay.of_con (Wd := 0) (rm_cpb2 l Z a0 hw ea x0_ x1_ mr ke h0 n0 (by omega) B0 M0 XE0 XE1 X0) (ww hw 229 rfl) (ww hw 110 rfl) (hEL hw) (by decide) (by decide)) (g := (mkF m 8 #[.val (.ref al)] [(.int 2), (.ref ea)])) rfl (by rw [hml]; rfl) (argsL := [(.ref ea), (.int 2)]) (rest := []) (lenOf pd_25 rfl) rfl rfl (ble_ rfl) (hb hby d38_8) (by decide) (by decide) (fun v3 T3 h3 W3 sz3 q3 => ?_)
 obtain ⟨a3, k3, rfl, E3, g3, V3⟩ := q3
 change Fi _ _ _ _ _ _ _ _ _ _ (T3.setTop (mkF m 11 #[.val (.ref al)] [(.ref a3)]))
 have sz3 := E3.1
 exact W3.aret hx hlk hret rfl rfl (hb hby d38_11) ⟨a3, k3, rfl, E3, by omega, V3⟩ (by decide) (by decide)
def Q_mmin3 (Z : State)  (h0 : Heap) (v : Option Value) (h : Heap) : Prop := v = some (.int 3) ∧ h0 = h
theorem rm_mmin3 (l : Launch) (Z : State) (a0 : Array Value) (hw : ∀ d ∈ tables_1, d.before a0 Z = true)  (h0 : Heap) (n0 : Nat) (Z0 : n0 ≤ h0.size)  :
  Con l Z EL y_48 jdk_29_method_69_code 2 (some .int) [] ({ frames := 0, cells := 0, slots := 0, locals := 0 } : Room) #[(.int 10), (.int 3)] h0 n0 (Q_mmin3 Z  h0) := by
 refine Con.intro (own := "java/lang/Math") rfl (by decide +kernel) (hEL hw) ?_
 intro p e s m below meth c s₁ hx hby hml hret hlk hnm W0
 refine Fi.cast (show entryFrame m #[(.int 10), (.int 3)] 2 = (mkF m 0 #[.val (.int 10), .val (.int 3)] []) from by first | (simp [entryFrame, mkF, argsToLocals, Value.category]; done) | rfl) ?_
 refine Fi.by' (st' := s₁.setTop (mkF m 10 #[.val (.int 10), .val (.int 3)] [(.int 3)])) (fun t k => ?_) ?_
 ·refine XS.iloadN W0.here hx rfl (hb hby d41_0) rfl ?_
  refine XS.iloadN W0.here hx rfl (hb hby d41_1) rfl ?_
  refine XS.icmpYes W0.here hx rfl (pc0 := 2) (pc' := 9) rfl (hb hby d41_2) rfl (tlt (by decide : ((3 : Int32) < (10 : Int32)))).2.2.1 (by decide) (by decide) ?_
  refine XS.iloadN W0.here hx rfl (hb hby d41_9) rfl ?_
  exact k
 exact W0.iret hx hlk hret (by simp) rfl (hb hby d41_10) ⟨rfl, rfl⟩ (by decide) (by decide)
def Q_cpc3 (Z : State) (ea x0_ x1_ x2_ mr : Addr) (ke : ClassId) (h0 : Heap) (v : Option Value) (h : Heap) : Prop := ∃ (ra : Addr) (kr : ClassId), v = some (.ref ra) ∧ Ext h0 h ∧ h0.size ≤ ra ∧ Arv Z h ra kr (.object "java/lang/Object") (3 : Int32) [(.ref x0_), (.ref x1_), (.ref x2_)] .null
theorem rm_cpc3 (l : Launch) (Z : State) (a0 : Array Value) (hw : ∀ d ∈ tables_1, d.before a0 Z = true) (ea x0_ x1_ x2_ mr : Addr) (ke : ClassId) (h0 : Heap) (n0 : Nat) (Z0 : n0 ≤ h0.size) (B0 : Arv Z h0 ea ke (.object "java/lang/Object") (10 : Int32) [(.ref x0_), (.ref x1_), (.ref x2_), .null, .null, .null, .null, .null, .null, .null] .null) (M0 : Mir Z "[Ljava/lang/Object;" mr) (XE0 : Exa Z h0 x0_ "java/lang/String") (XE1 : Exa Z h0 x1_ "java/lang/String") (XE2 : Exa Z h0 x2_ "java/lang/String") :
  Con l Z EL y_49 jdk_65_method_120_code 4 (some (.array (.object "java/lang/Object"))) [] ({ frames := 1, cells := 1, slots := 3, locals := 18 } : Room) #[(.ref ea), (.int 3), (.ref mr)] h0 n0 (Q_cpc3 Z ea x0_ x1_ x2_ mr ke h0) := by
 refine Con.intro (own := "java/util/Arrays") rfl (plainFor_of_name plain_java_util_Arrays) (hEL hw) ?_
 intro p e s m below meth c s₁ hx hby hml hret hlk hnm W0
 refine Fi.cast (show entryFrame m #[(.ref ea), (.int 3), (.ref mr)] 4 = (mkF m 0 #[.val (.ref ea), .val (.int 3), .val (.ref mr), .unset] []) from by first | (simp [entryFrame, mkF, argsToLocals, Value.category]; done) | rfl) ?_
 refine Fi.by' (st' := s₁.setTop (mkF m 1 #[.val (.ref ea), .val (.int 3), .val (.ref mr), .unset] [(.ref mr)])) (fun t k => ?_) ?_
 ·refine XS.aloadN W0.here hx rfl (hb hby d40_0) rfl rfl ?_
  exact k
 refine W0.ldcM hx (ww hw 239 rfl) M0 (g := (mkF m 1 #[.val (.ref ea), .val (.int 3), .val (.ref mr), .unset] [(.ref mr)])) rfl (hb hby d40_1) (fun T1 W1 => ?_)
 change Fi _ _ _ _ _ _ _ _ _ _ (T1.setTop (mkF m 3 #[.val (.ref ea), .val (.int 3), .val (.ref mr), .unset] [(.ref mr), (.ref mr)]))
 refine Fi.by' (st' := T1.setTop (mkF m 7 #[.val (.ref ea), .val (.int 3), .val (.ref mr), .unset] [(.int 3)])) (fun t k => ?_) ?_
 ·refine XS.acmpNo W1.here hx rfl (hb hby d40_3) rfl (acmpTNe (rfl : mr = mr)) ?_
  refine XS.iloadN W1.here hx rfl (hb hby d40_6) rfl ?_
  exact k
 refine W1.newR hx (ww hw 240 rfl) (ww hw 101 rfl) (ad := "[Ljava/lang/Object;") rfl (g := (mkF m 7 #[.val (.ref ea), .val (.int 3), .val (.ref mr), .unset] [(.int 3)])) rfl (hb hby d40_7) rfl (by decide) (cap := 3) (by decide) (by decide) (by decide) (by decide) (fun T2 h2 a2 k2 ha2 W2 E2 A2 X2 O2 => ?_)
 change Fi _ _ _ _ _ _ _ _ _ _ (T2.setTop (mkF m 10 #[.val (.ref ea), .val (.int 3), .val (.ref mr), .unset] [(.ref a2)]))
 have sz2 := E2.1
 have V2 : Arv Z h2 a2 k2 (.object "java/lang/Object") (3 : Int32) [.null, .null, .null] .null := A2.pad (pad_rep [] .null 3)
 refine Fi.by' (st' := T2.setTop (mkF m 30 #[.val (.ref ea), .val (.int 3), .val (.ref mr), .val (.ref a2)] [(.ref ea), (.int 0), (.ref a2), (.int 0), (.ref ea)])) (fun t k => ?_) ?_
 ·refine XS.goto W2.here hx rfl (pc0 := 10) (pc' := 24) rfl (hb hby d40_10) (by decide) (by decide) ?_
  refine XS.astoreN W2.here hx rfl (hb hby d40_24) rfl rfl (l' := #[.val (.ref ea), .val (.int 3), .val (.ref mr), .val (.ref a2)]) rfl ?_
  refine XS.aloadN W2.here hx rfl (hb hby d40_25) rfl rfl ?_
  refine iconstZ W2.here hx rfl (hb hby d40_26) (z := (0 : Int32)) rfl ?_
  refine XS.aloadN W2.here hx rfl (hb hby d40_27) rfl rfl ?_
  refine iconstZ W2.here hx rfl (hb hby d40_28) (z := (0 : Int32)) rfl ?_
  refine XS.aloadN W2.here hx rfl (hb hby d40_29) rfl rfl ?_
  exact k
 refine W2.alen hx (B0.ext E2) (g := (mkF m 30 #[.val (.ref ea), .val (.int 3), .val (.ref mr), .val (.ref a2)] [(.ref ea), (.int 0), (.ref a2), (.int 0), (.ref ea)])) rfl rfl (hb hby d40_30) ?_
 change Fi _ _ _ _ _ _ _ _ _ _ (T2.setTop (mkF m 31 #[.val (.ref ea), .val (.int 3), .val (.ref mr), .val (.ref a2)] [(.int 10), (.int 0), (.ref a2), (.int 0), (.ref ea)]))
 refine Fi.by' (st' := T2.setTop (mkF m 32 #[.val (.ref ea), .val (.int 3), .val (.ref mr), .val (.ref a2)] [(.int 3), (.int 10), (.int 0), (.ref a2), (.int 0), (.ref ea)])) (fun t k => ?_) ?_
 ·refine XS.iloadN W2.here hx rfl (hb hby d40_31) rfl ?_
  exact k
 refine W2.callS hx (y := y_48) (ww hw 241 rfl) (ww hw 242 rfl) (ww hw 216 rfl) (ww hw 243 rfl) (by decide) (Pay.of_con (Wd := 4) (rm_mmin3 l Z a0 hw h2 n0 (by omega)) (ww hw 243 rfl) (ww hw 216 rfl) (hEL hw) (by decide) (by decide)) (g := (mkF m 32 #[.val (.ref ea), .val (.int 3), .val (.ref mr), .val (.ref a2)] [(.int 3), (.int 10), (.int 0), (.ref a2), (.int 0), (.ref ea)])) rfl (by rw [hml]; rfl) (argsL := [(.int 10), (.int 3)]) (rest := [(.int 0), (.ref a2), (.int 0), (.ref ea)]) (lenOf pd_19 rfl) rfl rfl (ble_ rfl) (hb hby d40_32) (by decide) (by decide) (fun v4 T4 h4 W4 sz4 q4 => ?_)
 obtain ⟨rfl, rfl⟩ := q4
 change Fi _ _ _ _ _ _ _ _ _ _ (T4.setTop (mkF m 35 #[.val (.ref ea), .val (.int 3), .val (.ref mr), .val (.ref a2)] [(.int 3), (.int 0), (.ref a2), (.int 0), (.ref ea)]))
 refine W4.cpR hx (ww hw 244 rfl) (ww hw 247 rfl) (ww hw 245 rfl) (ww hw 246 rfl) (B0.ext E2) V2 (sp := 0) (dp := 0) (nn := 3) (us := [(.ref x0_), (.ref x1_), (.ref x2_)]) ⟨stoV V2 O2 (Ins.of_exa (Exa.ext E2 XE0) (ww hw 102 rfl)), ⟨stoV V2 O2 (Ins.of_exa (Exa.ext E2 XE1) (ww hw 102 rfl)), ⟨stoV V2 O2 (Ins.of_exa (Exa.ext E2 XE2) (ww hw 102 rfl)), trivial⟩⟩⟩ (by decide) (by decide) (by decide) (by decide) (by decide) rfl (by decide) (by omega) (g := (mkF m 35 #[.val (.ref ea), .val (.int 3), .val (.ref mr), .val (.ref a2)] [(.int 3), (.int 0), (.ref a2), (.int 0), (.ref ea)])) rfl (by rw [hml]; rfl) rfl (hb hby d40_35) (by decide) (Wd := 0) (ble_ rfl) (by decide) (fun T5 h5 W5 K5 V5 => ?_)
 change Fi _ _ _ _ _ _ _ _ _ _ (T5.setTop (mkF m 38 #[.val (.ref ea), .val (.int 3), .val (.ref mr), .val (.ref a2)] []))
 have x5k : Ext h0 h5 := ext_keep1 E2 K5 (by omega)
 have V5' : Arv Z h5 a2 k2 (.object "java/lang/Object") (3 : Int32) [(.ref x0_), (.ref x1_), (.ref x2_)] .null := V5
 refine Fi.by' (st' := T5.setTop (mkF m 39 #[.val (.ref ea), .val (.int 3), .val (.ref mr), .val (.ref a2)] [(.ref a2)])) (fun t k => ?_) ?_
 ·refine XS.aloadN W5.here hx rfl (hb hby d40_38) rfl rfl ?_
  exact k
 exact W5.aret hx hlk hret rfl rfl (hb hby d40_39) ⟨a2, k2, rfl, x5k, by omega, V5'⟩ (by decide) (by decide)
def Q_cpb3 (Z : State) (ea x0_ x1_ x2_ mr : Addr) (ke : ClassId) (h0 : Heap) (v : Option Value) (h : Heap) : Prop := ∃ (ra : Addr) (kr : ClassId), v = some (.ref ra) ∧ Ext h0 h ∧ h0.size ≤ ra ∧ Arv Z h ra kr (.object "java/lang/Object") (3 : Int32) [(.ref x0_), (.ref x1_), (.ref x2_)] .null
theorem rm_cpb3 (l : Launch) (Z : State) (a0 : Array Value) (hw : ∀ d ∈ tables_1, d.before a0 Z = true) (ea x0_ x1_ x2_ mr : Addr) (ke : ClassId) (h0 : Heap) (n0 : Nat) (Z0 : n0 ≤ h0.size) (B0 : Arv Z h0 ea ke (.object "java/lang/Object") (10 : Int32) [(.ref x0_), (.ref x1_), (.ref x2_), .null, .null, .null, .null, .null, .null, .null] .null) (M0 : Mir Z "[Ljava/lang/Object;" mr) (XE0 : Exa Z h0 x0_ "java/lang/String") (XE1 : Exa Z h0 x1_ "java/lang/String") (XE2 : Exa Z h0 x2_ "java/lang/String") (X0 : Exa Z h0 ea "[Ljava/lang/Object;") :
  Con l Z EL y_50 jdk_65_method_119_code 2 (some (.array (.object "java/lang/Object"))) [] ({ frames := 2, cells := 1, slots := 3, locals := 33 } : Room) #[(.ref ea), (.int 3)] h0 n0 (Q_cpb3 Z ea x0_ x1_ x2_ mr ke h0) := by
 refine Con.intro (own := "java/util/Arrays") rfl (plainFor_of_name plain_java_util_Arrays) (hEL hw) ?_
 intro p e s m below meth c s₁ hx hby hml hret hlk hnm W0
 refine Fi.cast (show entryFrame m #[(.ref ea), (.int 3)] 2 = (mkF m 0 #[.val (.ref ea), .val (.int 3)] []) from by first | (simp [entryFrame, mkF, argsToLocals, Value.category]; done) | rfl) ?_
 refine Fi.by' (st' := s₁.setTop (mkF m 3 #[.val (.ref ea), .val (.int 3)] [(.ref ea), (.int 3), (.ref ea)])) (fun t k => ?_) ?_
 ·refine XS.aloadN W0.here hx rfl (hb hby d39_0) rfl rfl ?_
  refine XS.iloadN W0.here hx rfl (hb hby d39_1) rfl ?_
  refine XS.aloadN W0.here hx rfl (hb hby d39_2) rfl rfl ?_
  exact k
 refine W0.gcls hx (ww hw 230 rfl) (ww hw 231 rfl) (ww hw 74 rfl) (ww hw 233 rfl) (ww hw 232 rfl) (ww hw 234 rfl) X0 M0 (g := (mkF m 3 #[.val (.ref ea), .val (.int 3)] [(.ref ea), (.int 3), (.ref ea)])) rfl (by rw [hml]; rfl) rfl (hb hby d39_3) (by decide) (Wd := 2) (ble_ rfl) (by decide) (fun T1 W1 => ?_)
 change Fi _ _ _ _ _ _ _ _ _ _ (T1.setTop (mkF m 6 #[.val (.ref ea), .val (.int 3)] [(.ref mr), (.int 3), (.ref ea)]))
 refine W1.callS hx (y := y_49) (ww hw 236 rfl) (ww hw 237 rfl) (ww hw 110 rfl) (ww hw 238 rfl) (by decide) (Pay.of_con (Wd := 0) (rm_cpc3 l Z a0 hw ea x0_ x1_ x2_ mr ke h0 n0 (by omega) B0 M0 XE0 XE1 XE2) (ww hw 238 rfl) (ww hw 110 rfl) (hEL hw) (by decide) (by decide)) (g := (mkF m 6 #[.val (.ref ea), .val (.int 3)] [(.ref mr), (.int 3), (.ref ea)])) rfl (by rw [hml]; rfl) (argsL := [(.ref ea), (.int 3), (.ref mr)]) (rest := []) (lenOf pd_24 rfl) rfl rfl (ble_ rfl) (hb hby d39_6) (by decide) (by decide) (fun v2 T2 h2 W2 sz2 q2 => ?_)
 obtain ⟨a2, k2, rfl, E2, g2, V2⟩ := q2
 change Fi _ _ _ _ _ _ _ _ _ _ (T2.setTop (mkF m 9 #[.val (.ref ea), .val (.int 3)] [(.ref a2)]))
 have sz2 := E2.1
 exact W2.aret hx hlk hret rfl rfl (hb hby d39_9) ⟨a2, k2, rfl, E2, by omega, V2⟩ (by decide) (by decide)
def Q_toa3 (Z : State) (al ea x0_ x1_ x2_ mr : Addr) (ke : ClassId) (h0 : Heap) (v : Option Value) (h : Heap) : Prop := ∃ (ra : Addr) (kr : ClassId), v = some (.ref ra) ∧ Ext h0 h ∧ h0.size ≤ ra ∧ Arv Z h ra kr (.object "java/lang/Object") (3 : Int32) [(.ref x0_), (.ref x1_), (.ref x2_)] .null
theorem rm_toa3 (l : Launch) (Z : State) (a0 : Array Value) (hw : ∀ d ∈ tables_1, d.before a0 Z = true) (al ea x0_ x1_ x2_ mr : Addr) (ke : ClassId) (h0 : Heap) (n0 : Nat) (Z0 : n0 ≤ h0.size) (F1 : Fld Z h0 al "java/util/ArrayList" "elementData" "[Ljava/lang/Object;" (.ref ea)) (F2 : Fld Z h0 al "java/util/ArrayList" "size" "I" (.int 3)) (B0 : Arv Z h0 ea ke (.object "java/lang/Object") (10 : Int32) [(.ref x0_), (.ref x1_), (.ref x2_), .null, .null, .null, .null, .null, .null, .null] .null) (M0 : Mir Z "[Ljava/lang/Object;" mr) (XE0 : Exa Z h0 x0_ "java/lang/String") (XE1 : Exa Z h0 x1_ "java/lang/String") (XE2 : Exa Z h0 x2_ "java/lang/String") (X0 : Exa Z h0 ea "[Ljava/lang/Object;") :
  Con l Z EL y_51 jdk_38_method_16_code 1 (some (.array (.object "java/lang/Object"))) [] ({ frames := 3, cells := 1, slots := 3, locals := 46 } : Room) #[(.ref al)] h0 n0 (Q_toa3 Z al ea x0_ x1_ x2_ mr ke h0) := by
 refine Con.intro (own := "java/util/ArrayList") rfl (plainFor_of_name plain_java_util_ArrayList) (hEL hw) ?_
 intro p e s m below meth c s₁ hx hby hml hret hlk hnm W0
 refine Fi.cast (show entryFrame m #[(.ref al)] 1 = (mkF m 0 #[.val (.ref al)] []) from by first | (simp [entryFrame, mkF, argsToLocals, Value.category]; done) | rfl) ?_
 refine Fi.by' (st' := s₁.setTop (mkF m 1 #[.val (.ref al)] [(.ref al)])) (fun t k => ?_) ?_
 ·refine XS.aloadN W0.here hx rfl (hb hby d38_0) rfl rfl ?_
  exact k
 refine W0.getF hx (ww hw 54 rfl) F1 (g := (mkF m 1 #[.val (.ref al)] [(.ref al)])) rfl rfl (hb hby d38_1) (fun T1 W1 => ?_)
 change Fi _ _ _ _ _ _ _ _ _ _ (T1.setTop (mkF m 4 #[.val (.ref al)] [(.ref ea)]))
 refine Fi.by' (st' := T1.setTop (mkF m 5 #[.val (.ref al)] [(.ref al), (.ref ea)])) (fun t k => ?_) ?_
 ·refine XS.aloadN W1.here hx rfl (hb hby d38_4) rfl rfl ?_
  exact k
 refine W1.getF hx (ww hw 85 rfl) F2 (g := (mkF m 5 #[.val (.ref al)] [(.ref al), (.ref ea)])) rfl rfl (hb hby d38_5) (fun T2 W2 => ?_)
 change Fi _ _ _ _ _ _ _ _ _ _ (T2.setTop (mkF m 8 #[.val (.ref al)] [(.int 3), (.ref ea)]))
 refine W2.callS hx (y := y_50) (ww hw 227 rfl) (ww hw 228 rfl) (ww hw 110 rfl) (ww hw 229 rfl) (by decide) (Pay.of_con (Wd := 0) (rm_cpb3 l Z a0 hw ea x0_ x1_ x2_ mr ke h0 n0 (by omega) B0 M0 XE0 XE1 XE2 X0) (ww hw 229 rfl) (ww hw 110 rfl) (hEL hw) (by decide) (by decide)) (g := (mkF m 8 #[.val (.ref al)] [(.int 3), (.ref ea)])) rfl (by rw [hml]; rfl) (argsL := [(.ref ea), (.int 3)]) (rest := []) (lenOf pd_25 rfl) rfl rfl (ble_ rfl) (hb hby d38_8) (by decide) (by decide) (fun v3 T3 h3 W3 sz3 q3 => ?_)
 obtain ⟨a3, k3, rfl, E3, g3, V3⟩ := q3
 change Fi _ _ _ _ _ _ _ _ _ _ (T3.setTop (mkF m 11 #[.val (.ref al)] [(.ref a3)]))
 have sz3 := E3.1
 exact W3.aret hx hlk hret rfl rfl (hb hby d38_11) ⟨a3, k3, rfl, E3, by omega, V3⟩ (by decide) (by decide)
def Q_ie0 (Z : State) (al : Addr) (h0 : Heap) (v : Option Value) (h : Heap) : Prop := v = some (.int 1) ∧ h0 = h
theorem rm_ie0 (l : Launch) (Z : State) (a0 : Array Value) (hw : ∀ d ∈ tables_1, d.before a0 Z = true) (al : Addr) (h0 : Heap) (n0 : Nat) (Z0 : n0 ≤ h0.size) (F2 : Fld Z h0 al "java/util/ArrayList" "size" "I" (.int 0)) :
  Con l Z EL y_52 jdk_38_method_9_code 1 (some .boolean) [] ({ frames := 0, cells := 0, slots := 0, locals := 0 } : Room) #[(.ref al)] h0 n0 (Q_ie0 Z al h0) := by
 refine Con.intro (own := "java/util/ArrayList") rfl (plainFor_of_name plain_java_util_ArrayList) (hEL hw) ?_
 intro p e s m below meth c s₁ hx hby hml hret hlk hnm W0
 refine Fi.cast (show entryFrame m #[(.ref al)] 1 = (mkF m 0 #[.val (.ref al)] []) from by first | (simp [entryFrame, mkF, argsToLocals, Value.category]; done) | rfl) ?_
 refine Fi.by' (st' := s₁.setTop (mkF m 1 #[.val (.ref al)] [(.ref al)])) (fun t k => ?_) ?_
 ·refine XS.aloadN W0.here hx rfl (hb hby d12_0) rfl rfl ?_
  exact k
 refine W0.getF hx (ww hw 85 rfl) F2 (g := (mkF m 1 #[.val (.ref al)] [(.ref al)])) rfl rfl (hb hby d12_1) (fun T1 W1 => ?_)
 change Fi _ _ _ _ _ _ _ _ _ _ (T1.setTop (mkF m 4 #[.val (.ref al)] [(.int 0)]))
 refine Fi.by' (st' := T1.setTop (mkF m 12 #[.val (.ref al)] [(.int 1)])) (fun t k => ?_) ?_
 ·refine XS.ifNo W1.here hx rfl (hb hby d12_4) rfl ((if0 _ _).trans (teq (by decide : ((0 : Int32) = (0 : Int32)))).2) ?_
  refine iconstZ W1.here hx rfl (hb hby d12_7) (z := (1 : Int32)) rfl ?_
  refine XS.goto W1.here hx rfl (pc0 := 8) (pc' := 12) rfl (hb hby d12_8) (by decide) (by decide) ?_
  exact k
 exact W1.iret hx hlk hret (by simp) rfl (hb hby d12_12) ⟨rfl, rfl⟩ (by decide) (by decide)
def Q_ie1 (Z : State) (al : Addr) (sz : Int32) (h0 : Heap) (v : Option Value) (h : Heap) : Prop := v = some (.int 0) ∧ h0 = h
theorem rm_ie1 (l : Launch) (Z : State) (a0 : Array Value) (hw : ∀ d ∈ tables_1, d.before a0 Z = true) (al : Addr) (sz : Int32) (h0 : Heap) (n0 : Nat) (Z0 : n0 ≤ h0.size) (F2 : Fld Z h0 al "java/util/ArrayList" "size" "I" (.int sz)) (hne : ¬ sz = 0) :
  Con l Z EL y_52 jdk_38_method_9_code 1 (some .boolean) [] ({ frames := 0, cells := 0, slots := 0, locals := 0 } : Room) #[(.ref al)] h0 n0 (Q_ie1 Z al sz h0) := by
 refine Con.intro (own := "java/util/ArrayList") rfl (plainFor_of_name plain_java_util_ArrayList) (hEL hw) ?_
 intro p e s m below meth c s₁ hx hby hml hret hlk hnm W0
 refine Fi.cast (show entryFrame m #[(.ref al)] 1 = (mkF m 0 #[.val (.ref al)] []) from by first | (simp [entryFrame, mkF, argsToLocals, Value.category]; done) | rfl) ?_
 refine Fi.by' (st' := s₁.setTop (mkF m 1 #[.val (.ref al)] [(.ref al)])) (fun t k => ?_) ?_
 ·refine XS.aloadN W0.here hx rfl (hb hby d12_0) rfl rfl ?_
  exact k
 refine W0.getF hx (ww hw 85 rfl) F2 (g := (mkF m 1 #[.val (.ref al)] [(.ref al)])) rfl rfl (hb hby d12_1) (fun T1 W1 => ?_)
 change Fi _ _ _ _ _ _ _ _ _ _ (T1.setTop (mkF m 4 #[.val (.ref al)] [(.int sz)]))
 refine Fi.by' (st' := T1.setTop (mkF m 12 #[.val (.ref al)] [(.int 0)])) (fun t k => ?_) ?_
 ·refine XS.ifYes W1.here hx rfl (pc0 := 4) (pc' := 11) rfl (hb hby d12_4) rfl ((if0 _ _).trans (feq hne).2) (by decide) (by decide) ?_
  refine iconstZ W1.here hx rfl (hb hby d12_11) (z := (0 : Int32)) rfl ?_
  exact k
 exact W1.iret hx hlk hret (by simp) rfl (hb hby d12_12) ⟨rfl, rfl⟩ (by decide) (by decide)
def Q_lo0 (Z : State) (el : Addr) (h0 : Heap) (v : Option Value) (h : Heap) : Prop := v = some (.ref el) ∧ h0 = h
theorem rm_lo0 (l : Launch) (Z : State) (a0 : Array Value) (hw : ∀ d ∈ tables_1, d.before a0 Z = true) (el : Addr) (h0 : Heap) (n0 : Nat) (Z0 : n0 ≤ h0.size) (P1 : Sta Z h0 "java/util/ImmutableCollections" "EMPTY_LIST" "Ljava/util/ImmutableCollections$ListN;" (.ref el)) :
  Con l Z EL y_53 jdk_40_method_36_code 0 (some (.object "java/util/List")) [] ({ frames := 0, cells := 0, slots := 0, locals := 0 } : Room) #[] h0 n0 (Q_lo0 Z el h0) := by
 refine Con.intro (own := "java/util/List") rfl (plainFor_of_name plain_java_util_List) (hEL hw) ?_
 intro p e s m below meth c s₁ hx hby hml hret hlk hnm W0
 refine Fi.cast (show entryFrame m #[] 0 = (mkF m 0 #[] []) from by first | (simp [entryFrame, mkF, argsToLocals, Value.category]; done) | rfl) ?_
 refine W0.getS hx (ww hw 90 rfl) P1 (g := (mkF m 0 #[] [])) rfl (hb hby d13_0) (fun T1 W1 => ?_)
 change Fi _ _ _ _ _ _ _ _ _ _ (T1.setTop (mkF m 3 #[] [(.ref el)]))
 exact W1.aret hx hlk hret rfl rfl (hb hby d13_3) ⟨rfl, rfl⟩ (by decide) (by decide)
def Q_rnn (Z : State) (x : Addr) (h0 : Heap) (v : Option Value) (h : Heap) : Prop := v = some (.ref x) ∧ h0 = h
theorem rm_rnn (l : Launch) (Z : State) (a0 : Array Value) (hw : ∀ d ∈ tables_1, d.before a0 Z = true) (x : Addr) (h0 : Heap) (n0 : Nat) (Z0 : n0 ≤ h0.size)  :
  Con l Z EL y_54 jdk_31_method_10_code 1 (some (.object "java/lang/Object")) [] ({ frames := 0, cells := 0, slots := 0, locals := 0 } : Room) #[(.ref x)] h0 n0 (Q_rnn Z x h0) := by
 refine Con.intro (own := "java/util/Objects") rfl (plainFor_of_name plain_java_util_Objects) (hEL hw) ?_
 intro p e s m below meth c s₁ hx hby hml hret hlk hnm W0
 refine Fi.cast (show entryFrame m #[(.ref x)] 1 = (mkF m 0 #[.val (.ref x)] []) from by first | (simp [entryFrame, mkF, argsToLocals, Value.category]; done) | rfl) ?_
 refine Fi.by' (st' := s₁.setTop (mkF m 13 #[.val (.ref x)] [(.ref x)])) (fun t k => ?_) ?_
 ·refine XS.aloadN W0.here hx rfl (hb hby d46_0) rfl rfl ?_
  refine XS.ifnonnullYes W0.here hx rfl (pc0 := 1) (pc' := 12) rfl (hb hby d46_1) rfl (by decide) (by decide) ?_
  refine XS.aloadN W0.here hx rfl (hb hby d46_12) rfl rfl ?_
  exact k
 exact W0.aret hx hlk hret rfl rfl (hb hby d46_13) ⟨rfl, rfl⟩ (by decide) (by decide)
def Q_aic (Z : State) (x : Addr) (h0 : Heap) (v : Option Value) (h : Heap) : Prop := v = none ∧ h0 = h
theorem rm_aic (l : Launch) (Z : State) (a0 : Array Value) (hw : ∀ d ∈ tables_1, d.before a0 Z = true) (x : Addr) (h0 : Heap) (n0 : Nat) (Z0 : n0 ≤ h0.size)  :
  Con l Z EL y_55 jdk_47_method_1_code 1 none [] ({ frames := 2, cells := 0, slots := 0, locals := 24 } : Room) #[(.ref x)] h0 n0 (Q_aic Z x h0) := by
 refine Con.intro (own := "java/util/ImmutableCollections$AbstractImmutableCollection") rfl (plainFor_of_name plain_java_util_ImmutableCollections_AbstractImmutableCollection) (hEL hw) ?_
 intro p e s m below meth c s₁ hx hby hml hret hlk hnm W0
 refine Fi.cast (show entryFrame m #[(.ref x)] 1 = (mkF m 0 #[.val (.ref x)] []) from by first | (simp [entryFrame, mkF, argsToLocals, Value.category]; done) | rfl) ?_
 refine Fi.by' (st' := s₁.setTop (mkF m 1 #[.val (.ref x)] [(.ref x)])) (fun t k => ?_) ?_
 ·refine XS.aloadN W0.here hx rfl (hb hby d45_0) rfl rfl ?_
  exact k
 refine W0.callI hx (y := y_39) rfl (ww hw 269 rfl) (ww hw 45 rfl) (ww hw 49 rfl) (by decide) (Pay.of_con (Wd := 0) (rm_acn l Z a0 hw x h0 n0 (by omega)) (ww hw 49 rfl) (ww hw 48 rfl) (hEL hw) (by decide) (by decide)) (a := x) (g := (mkF m 1 #[.val (.ref x)] [(.ref x)])) rfl (by rw [hml]; rfl) (argsL := []) (rest := []) (lenOf pd_18 rfl) rfl rfl (ble_ rfl) (hb hby d45_1) (by decide) (by decide) (fun v1 T1 h1 W1 sz1 q1 => ?_)
 obtain ⟨rfl, rfl⟩ := q1
 change Fi _ _ _ _ _ _ _ _ _ _ (T1.setTop (mkF m 4 #[.val (.ref x)] []))
 exact W1.vret hx hlk hret (hb hby d45_4) ⟨rfl, rfl⟩ (by decide) (by decide)
def Q_ail (Z : State) (x : Addr) (h0 : Heap) (v : Option Value) (h : Heap) : Prop := v = none ∧ h0 = h
theorem rm_ail (l : Launch) (Z : State) (a0 : Array Value) (hw : ∀ d ∈ tables_1, d.before a0 Z = true) (x : Addr) (h0 : Heap) (n0 : Nat) (Z0 : n0 ≤ h0.size)  :
  Con l Z EL y_56 jdk_46_method_1_code 1 none [] ({ frames := 3, cells := 0, slots := 0, locals := 36 } : Room) #[(.ref x)] h0 n0 (Q_ail Z x h0) := by
 refine Con.intro (own := "java/util/ImmutableCollections$AbstractImmutableList") rfl (plainFor_of_name plain_java_util_ImmutableCollections_AbstractImmutableList) (hEL hw) ?_
 intro p e s m below meth c s₁ hx hby hml hret hlk hnm W0
 refine Fi.cast (show entryFrame m #[(.ref x)] 1 = (mkF m 0 #[.val (.ref x)] []) from by first | (simp [entryFrame, mkF, argsToLocals, Value.category]; done) | rfl) ?_
 refine Fi.by' (st' := s₁.setTop (mkF m 1 #[.val (.ref x)] [(.ref x)])) (fun t k => ?_) ?_
 ·refine XS.aloadN W0.here hx rfl (hb hby d44_0) rfl rfl ?_
  exact k
 refine W0.callI hx (y := y_55) rfl (ww hw 263 rfl) (ww hw 264 rfl) (ww hw 268 rfl) (by decide) (Pay.of_con (Wd := 0) (rm_aic l Z a0 hw x h0 n0 (by omega)) (ww hw 268 rfl) (ww hw 267 rfl) (hEL hw) (by decide) (by decide)) (a := x) (g := (mkF m 1 #[.val (.ref x)] [(.ref x)])) rfl (by rw [hml]; rfl) (argsL := []) (rest := []) (lenOf pd_18 rfl) rfl rfl (ble_ rfl) (hb hby d44_1) (by decide) (by decide) (fun v1 T1 h1 W1 sz1 q1 => ?_)
 obtain ⟨rfl, rfl⟩ := q1
 change Fi _ _ _ _ _ _ _ _ _ _ (T1.setTop (mkF m 4 #[.val (.ref x)] []))
 exact W1.vret hx hlk hret (hb hby d44_4) ⟨rfl, rfl⟩ (by decide) (by decide)
def Q_l12a (Z : State) (x : Addr) (u0 em : Addr) (h0 : Heap) (v : Option Value) (h : Heap) : Prop := v = none ∧ Keep h0 h [x] ∧ Exa Z h x "java/util/ImmutableCollections$List12" ∧ Fld Z h x "java/util/ImmutableCollections$List12" "e0" "Ljava/lang/Object;" (.ref u0) ∧ Fld Z h x "java/util/ImmutableCollections$List12" "e1" "Ljava/lang/Object;" (.ref em)
theorem rm_l12a (l : Launch) (Z : State) (a0 : Array Value) (hw : ∀ d ∈ tables_1, d.before a0 Z = true) (x : Addr) (u0 em : Addr) (h0 : Heap) (n0 : Nat) (Z0 : n0 ≤ h0.size) (g0 : n0 ≤ x) (A0 : Exa Z h0 x "java/util/ImmutableCollections$List12") (F0_e0 : Fld Z h0 x "java/util/ImmutableCollections$List12" "e0" "Ljava/lang/Object;" .null) (F0_e1 : Fld Z h0 x "java/util/ImmutableCollections$List12" "e1" "Ljava/lang/Object;" .null) (M1 : Sta Z h0 "java/util/ImmutableCollections" "EMPTY" "Ljava/lang/Object;" (.ref em)) :
  Con l Z EL y_57 jdk_44_method_1_code 2 none [] ({ frames := 4, cells := 0, slots := 0, locals := 48 } : Room) #[(.ref x), (.ref u0)] h0 n0 (Q_l12a Z x u0 em h0) := by
 refine Con.intro (own := "java/util/ImmutableCollections$List12") rfl (plainFor_of_name plain_java_util_ImmutableCollections_List12) (hEL hw) ?_
 intro p e s m below meth c s₁ hx hby hml hret hlk hnm W0
 refine Fi.cast (show entryFrame m #[(.ref x), (.ref u0)] 2 = (mkF m 0 #[.val (.ref x), .val (.ref u0)] []) from by first | (simp [entryFrame, mkF, argsToLocals, Value.category]; done) | rfl) ?_
 refine Fi.by' (st' := s₁.setTop (mkF m 1 #[.val (.ref x), .val (.ref u0)] [(.ref x)])) (fun t k => ?_) ?_
 ·refine XS.aloadN W0.here hx rfl (hb hby d43_0) rfl rfl ?_
  exact k
 refine W0.callI hx (y := y_56) rfl (ww hw 258 rfl) (ww hw 259 rfl) (ww hw 262 rfl) (by decide) (Pay.of_con (Wd := 0) (rm_ail l Z a0 hw x h0 n0 (by omega)) (ww hw 262 rfl) (ww hw 134 rfl) (hEL hw) (by decide) (by decide)) (a := x) (g := (mkF m 1 #[.val (.ref x), .val (.ref u0)] [(.ref x)])) rfl (by rw [hml]; rfl) (argsL := []) (rest := []) (lenOf pd_18 rfl) rfl rfl (ble_ rfl) (hb hby d43_1) (by decide) (by decide) (fun v1 T1 h1 W1 sz1 q1 => ?_)
 obtain ⟨rfl, rfl⟩ := q1
 change Fi _ _ _ _ _ _ _ _ _ _ (T1.setTop (mkF m 4 #[.val (.ref x), .val (.ref u0)] []))
 refine Fi.by' (st' := T1.setTop (mkF m 6 #[.val (.ref x), .val (.ref u0)] [(.ref u0), (.ref x)])) (fun t k => ?_) ?_
 ·refine XS.aloadN W1.here hx rfl (hb hby d43_4) rfl rfl ?_
  refine XS.aloadN W1.here hx rfl (hb hby d43_5) rfl rfl ?_
  exact k
 refine W1.callS hx (y := y_54) (ww hw 271 rfl) (ww hw 272 rfl) (ww hw 106 rfl) (ww hw 273 rfl) (by decide) (Pay.of_con (Wd := 1) (rm_rnn l Z a0 hw u0 h0 n0 (by omega)) (ww hw 273 rfl) (ww hw 106 rfl) (hEL hw) (by decide) (by decide)) (g := (mkF m 6 #[.val (.ref x), .val (.ref u0)] [(.ref u0), (.ref x)])) rfl (by rw [hml]; rfl) (argsL := [(.ref u0)]) (rest := [(.ref x)]) (lenOf pd_26 rfl) rfl rfl (ble_ rfl) (hb hby d43_6) (by decide) (by decide) (fun v2 T2 h2 W2 sz2 q2 => ?_)
 obtain ⟨rfl, rfl⟩ := q2
 change Fi _ _ _ _ _ _ _ _ _ _ (T2.setTop (mkF m 9 #[.val (.ref x), .val (.ref u0)] [(.ref u0), (.ref x)]))
 refine W2.putF hx (ww hw 274 rfl) F0_e0 A0 (Or.inr ⟨(ww hw 275 rfl), rfl, hnm⟩) (ww hw 252 rfl) (ty := (.object "java/lang/Object")) (by decide) rfl rfl (g := (mkF m 9 #[.val (.ref x), .val (.ref u0)] [(.ref u0), (.ref x)])) rfl rfl (hb hby d43_9) g0 (safe_exa A0 (by decide) (by decide)) (fun T3 h3 W3 R3 => ?_)
 change Fi _ _ _ _ _ _ _ _ _ _ (T3.setTop (mkF m 12 #[.val (.ref x), .val (.ref u0)] []))
 have K3 := (Keep.refl h0 [x]).wr R3 (Or.inl (List.mem_singleton.mpr rfl))
 have A3 := Exa.wr R3 A0
 have F3_e0 := Fld.same R3 F0_e0
 have F3_e1 := Fld.other R3 F0_e1 (Or.inr (slot_ne (Or.inr (ww hw 278 rfl)) (Or.inr (ww hw 275 rfl)) (by decide) (t := (.object "java/lang/Object")) (t' := (.object "java/lang/Object")) (by decide) (by decide)))
 have sz3 := R3.size
 have M3 := Sta.wr R3 M1
 refine Fi.by' (st' := T3.setTop (mkF m 13 #[.val (.ref x), .val (.ref u0)] [(.ref x)])) (fun t k => ?_) ?_
 ·refine XS.aloadN W3.here hx rfl (hb hby d43_12) rfl rfl ?_
  exact k
 refine W3.getSN hx (ww hw 276 rfl) M3 (g := (mkF m 13 #[.val (.ref x), .val (.ref u0)] [(.ref x)])) rfl (hb hby d43_13) (fun T4 W4 => ?_)
 change Fi _ _ _ _ _ _ _ _ _ _ (T4.setTop (mkF m 16 #[.val (.ref x), .val (.ref u0)] [(.ref em), (.ref x)]))
 refine W4.putF hx (ww hw 277 rfl) F3_e1 A3 (Or.inr ⟨(ww hw 278 rfl), rfl, hnm⟩) (ww hw 252 rfl) (ty := (.object "java/lang/Object")) (by decide) rfl rfl (g := (mkF m 16 #[.val (.ref x), .val (.ref u0)] [(.ref em), (.ref x)])) rfl rfl (hb hby d43_16) g0 (safe_exa A3 (by decide) (by decide)) (fun T5 h5 W5 R5 => ?_)
 change Fi _ _ _ _ _ _ _ _ _ _ (T5.setTop (mkF m 19 #[.val (.ref x), .val (.ref u0)] []))
 have K5 := K3.wr R5 (Or.inl (List.mem_singleton.mpr rfl))
 have A5 := Exa.wr R5 A3
 have F5_e0 := Fld.other R5 F3_e0 (Or.inr (slot_ne (Or.inr (ww hw 275 rfl)) (Or.inr (ww hw 278 rfl)) (by decide) (t := (.object "java/lang/Object")) (t' := (.object "java/lang/Object")) (by decide) (by decide)))
 have F5_e1 := Fld.same R5 F3_e1
 have sz5 := R5.size
 have M5 := Sta.wr R5 M3
 exact W5.vret hx hlk hret (hb hby d43_19) ⟨rfl, K5, A5, F5_e0, F5_e1⟩ (by decide) (by decide)
def Q_l12b (Z : State) (x : Addr) (u0 u1 : Addr) (h0 : Heap) (v : Option Value) (h : Heap) : Prop := v = none ∧ Keep h0 h [x] ∧ Exa Z h x "java/util/ImmutableCollections$List12" ∧ Fld Z h x "java/util/ImmutableCollections$List12" "e0" "Ljava/lang/Object;" (.ref u0) ∧ Fld Z h x "java/util/ImmutableCollections$List12" "e1" "Ljava/lang/Object;" (.ref u1)
theorem rm_l12b (l : Launch) (Z : State) (a0 : Array Value) (hw : ∀ d ∈ tables_1, d.before a0 Z = true) (x : Addr) (u0 u1 : Addr) (h0 : Heap) (n0 : Nat) (Z0 : n0 ≤ h0.size) (g0 : n0 ≤ x) (A0 : Exa Z h0 x "java/util/ImmutableCollections$List12") (F0_e0 : Fld Z h0 x "java/util/ImmutableCollections$List12" "e0" "Ljava/lang/Object;" .null) (F0_e1 : Fld Z h0 x "java/util/ImmutableCollections$List12" "e1" "Ljava/lang/Object;" .null)  :
  Con l Z EL y_58 jdk_44_method_2_code 3 none [] ({ frames := 4, cells := 0, slots := 0, locals := 48 } : Room) #[(.ref x), (.ref u0), (.ref u1)] h0 n0 (Q_l12b Z x u0 u1 h0) := by
 refine Con.intro (own := "java/util/ImmutableCollections$List12") rfl (plainFor_of_name plain_java_util_ImmutableCollections_List12) (hEL hw) ?_
 intro p e s m below meth c s₁ hx hby hml hret hlk hnm W0
 refine Fi.cast (show entryFrame m #[(.ref x), (.ref u0), (.ref u1)] 3 = (mkF m 0 #[.val (.ref x), .val (.ref u0), .val (.ref u1)] []) from by first | (simp [entryFrame, mkF, argsToLocals, Value.category]; done) | rfl) ?_
 refine Fi.by' (st' := s₁.setTop (mkF m 1 #[.val (.ref x), .val (.ref u0), .val (.ref u1)] [(.ref x)])) (fun t k => ?_) ?_
 ·refine XS.aloadN W0.here hx rfl (hb hby d57_0) rfl rfl ?_
  exact k
 refine W0.callI hx (y := y_56) rfl (ww hw 258 rfl) (ww hw 259 rfl) (ww hw 262 rfl) (by decide) (Pay.of_con (Wd := 0) (rm_ail l Z a0 hw x h0 n0 (by omega)) (ww hw 262 rfl) (ww hw 134 rfl) (hEL hw) (by decide) (by decide)) (a := x) (g := (mkF m 1 #[.val (.ref x), .val (.ref u0), .val (.ref u1)] [(.ref x)])) rfl (by rw [hml]; rfl) (argsL := []) (rest := []) (lenOf pd_18 rfl) rfl rfl (ble_ rfl) (hb hby d57_1) (by decide) (by decide) (fun v1 T1 h1 W1 sz1 q1 => ?_)
 obtain ⟨rfl, rfl⟩ := q1
 change Fi _ _ _ _ _ _ _ _ _ _ (T1.setTop (mkF m 4 #[.val (.ref x), .val (.ref u0), .val (.ref u1)] []))
 refine Fi.by' (st' := T1.setTop (mkF m 6 #[.val (.ref x), .val (.ref u0), .val (.ref u1)] [(.ref u0), (.ref x)])) (fun t k => ?_) ?_
 ·refine XS.aloadN W1.here hx rfl (hb hby d57_4) rfl rfl ?_
  refine XS.aloadN W1.here hx rfl (hb hby d57_5) rfl rfl ?_
  exact k
 refine W1.callS hx (y := y_54) (ww hw 271 rfl) (ww hw 272 rfl) (ww hw 106 rfl) (ww hw 273 rfl) (by decide) (Pay.of_con (Wd := 1) (rm_rnn l Z a0 hw u0 h0 n0 (by omega)) (ww hw 273 rfl) (ww hw 106 rfl) (hEL hw) (by decide) (by decide)) (g := (mkF m 6 #[.val (.ref x), .val (.ref u0), .val (.ref u1)] [(.ref u0), (.ref x)])) rfl (by rw [hml]; rfl) (argsL := [(.ref u0)]) (rest := [(.ref x)]) (lenOf pd_26 rfl) rfl rfl (ble_ rfl) (hb hby d57_6) (by decide) (by decide) (fun v2 T2 h2 W2 sz2 q2 => ?_)
 obtain ⟨rfl, rfl⟩ := q2
 change Fi _ _ _ _ _ _ _ _ _ _ (T2.setTop (mkF m 9 #[.val (.ref x), .val (.ref u0), .val (.ref u1)] [(.ref u0), (.ref x)]))
 refine W2.putF hx (ww hw 274 rfl) F0_e0 A0 (Or.inr ⟨(ww hw 275 rfl), rfl, hnm⟩) (ww hw 252 rfl) (ty := (.object "java/lang/Object")) (by decide) rfl rfl (g := (mkF m 9 #[.val (.ref x), .val (.ref u0), .val (.ref u1)] [(.ref u0), (.ref x)])) rfl rfl (hb hby d57_9) g0 (safe_exa A0 (by decide) (by decide)) (fun T3 h3 W3 R3 => ?_)
 change Fi _ _ _ _ _ _ _ _ _ _ (T3.setTop (mkF m 12 #[.val (.ref x), .val (.ref u0), .val (.ref u1)] []))
 have K3 := (Keep.refl h0 [x]).wr R3 (Or.inl (List.mem_singleton.mpr rfl))
 have A3 := Exa.wr R3 A0
 have F3_e0 := Fld.same R3 F0_e0
 have F3_e1 := Fld.other R3 F0_e1 (Or.inr (slot_ne (Or.inr (ww hw 278 rfl)) (Or.inr (ww hw 275 rfl)) (by decide) (t := (.object "java/lang/Object")) (t' := (.object "java/lang/Object")) (by decide) (by decide)))
 have sz3 := R3.size
 refine Fi.by' (st' := T3.setTop (mkF m 14 #[.val (.ref x), .val (.ref u0), .val (.ref u1)] [(.ref u1), (.ref x)])) (fun t k => ?_) ?_
 ·refine XS.aloadN W3.here hx rfl (hb hby d57_12) rfl rfl ?_
  refine XS.aloadN W3.here hx rfl (hb hby d57_13) rfl rfl ?_
  exact k
 refine W3.callS hx (y := y_54) (ww hw 271 rfl) (ww hw 272 rfl) (ww hw 106 rfl) (ww hw 273 rfl) (by decide) (Pay.of_con (Wd := 1) (rm_rnn l Z a0 hw u1 h3 n0 (by omega)) (ww hw 273 rfl) (ww hw 106 rfl) (hEL hw) (by decide) (by decide)) (g := (mkF m 14 #[.val (.ref x), .val (.ref u0), .val (.ref u1)] [(.ref u1), (.ref x)])) rfl (by rw [hml]; rfl) (argsL := [(.ref u1)]) (rest := [(.ref x)]) (lenOf pd_26 rfl) rfl rfl (ble_ rfl) (hb hby d57_14) (by decide) (by decide) (fun v4 T4 h4 W4 sz4 q4 => ?_)
 obtain ⟨rfl, rfl⟩ := q4
 change Fi _ _ _ _ _ _ _ _ _ _ (T4.setTop (mkF m 17 #[.val (.ref x), .val (.ref u0), .val (.ref u1)] [(.ref u1), (.ref x)]))
 refine W4.putF hx (ww hw 277 rfl) F3_e1 A3 (Or.inr ⟨(ww hw 278 rfl), rfl, hnm⟩) (ww hw 252 rfl) (ty := (.object "java/lang/Object")) (by decide) rfl rfl (g := (mkF m 17 #[.val (.ref x), .val (.ref u0), .val (.ref u1)] [(.ref u1), (.ref x)])) rfl rfl (hb hby d57_17) g0 (safe_exa A3 (by decide) (by decide)) (fun T5 h5 W5 R5 => ?_)
 change Fi _ _ _ _ _ _ _ _ _ _ (T5.setTop (mkF m 20 #[.val (.ref x), .val (.ref u0), .val (.ref u1)] []))
 have K5 := K3.wr R5 (Or.inl (List.mem_singleton.mpr rfl))
 have A5 := Exa.wr R5 A3
 have F5_e0 := Fld.other R5 F3_e0 (Or.inr (slot_ne (Or.inr (ww hw 275 rfl)) (Or.inr (ww hw 278 rfl)) (by decide) (t := (.object "java/lang/Object")) (t' := (.object "java/lang/Object")) (by decide) (by decide)))
 have F5_e1 := Fld.same R5 F3_e1
 have sz5 := R5.size
 exact W5.vret hx hlk hret (hb hby d57_20) ⟨rfl, K5, A5, F5_e0, F5_e1⟩ (by decide) (by decide)
def Q_lnn (Z : State) (x : Addr) (ea : Addr) (h0 : Heap) (v : Option Value) (h : Heap) : Prop := v = none ∧ Keep h0 h [x] ∧ Exa Z h x "java/util/ImmutableCollections$ListN" ∧ Fld Z h x "java/util/ImmutableCollections$ListN" "elements" "[Ljava/lang/Object;" (.ref ea) ∧ Fld Z h x "java/util/ImmutableCollections$ListN" "allowNulls" "Z" (.int 0)
theorem rm_lnn (l : Launch) (Z : State) (a0 : Array Value) (hw : ∀ d ∈ tables_1, d.before a0 Z = true) (x : Addr) (ea : Addr) (h0 : Heap) (n0 : Nat) (Z0 : n0 ≤ h0.size) (g0 : n0 ≤ x) (A0 : Exa Z h0 x "java/util/ImmutableCollections$ListN") (F0_elements : Fld Z h0 x "java/util/ImmutableCollections$ListN" "elements" "[Ljava/lang/Object;" .null) (F0_allowNulls : Fld Z h0 x "java/util/ImmutableCollections$ListN" "allowNulls" "Z" (.int 0))  :
  Con l Z EL y_59 jdk_45_method_1_code 3 none [] ({ frames := 4, cells := 0, slots := 0, locals := 48 } : Room) #[(.ref x), (.ref ea), (.int 0)] h0 n0 (Q_lnn Z x ea h0) := by
 refine Con.intro (own := "java/util/ImmutableCollections$ListN") rfl (plainFor_of_name plain_java_util_ImmutableCollections_ListN) (hEL hw) ?_
 intro p e s m below meth c s₁ hx hby hml hret hlk hnm W0
 refine Fi.cast (show entryFrame m #[(.ref x), (.ref ea), (.int 0)] 3 = (mkF m 0 #[.val (.ref x), .val (.ref ea), .val (.int 0)] []) from by first | (simp [entryFrame, mkF, argsToLocals, Value.category]; done) | rfl) ?_
 refine Fi.by' (st' := s₁.setTop (mkF m 1 #[.val (.ref x), .val (.ref ea), .val (.int 0)] [(.ref x)])) (fun t k => ?_) ?_
 ·refine XS.aloadN W0.here hx rfl (hb hby d59_0) rfl rfl ?_
  exact k
 refine W0.callI hx (y := y_56) rfl (ww hw 373 rfl) (ww hw 259 rfl) (ww hw 262 rfl) (by decide) (Pay.of_con (Wd := 0) (rm_ail l Z a0 hw x h0 n0 (by omega)) (ww hw 262 rfl) (ww hw 134 rfl) (hEL hw) (by decide) (by decide)) (a := x) (g := (mkF m 1 #[.val (.ref x), .val (.ref ea), .val (.int 0)] [(.ref x)])) rfl (by rw [hml]; rfl) (argsL := []) (rest := []) (lenOf pd_18 rfl) rfl rfl (ble_ rfl) (hb hby d59_1) (by decide) (by decide) (fun v1 T1 h1 W1 sz1 q1 => ?_)
 obtain ⟨rfl, rfl⟩ := q1
 change Fi _ _ _ _ _ _ _ _ _ _ (T1.setTop (mkF m 4 #[.val (.ref x), .val (.ref ea), .val (.int 0)] []))
 refine Fi.by' (st' := T1.setTop (mkF m 6 #[.val (.ref x), .val (.ref ea), .val (.int 0)] [(.ref ea), (.ref x)])) (fun t k => ?_) ?_
 ·refine XS.aloadN W1.here hx rfl (hb hby d59_4) rfl rfl ?_
  refine XS.aloadN W1.here hx rfl (hb hby d59_5) rfl rfl ?_
  exact k
 refine W1.putF hx (ww hw 143 rfl) F0_elements A0 (Or.inr ⟨(ww hw 144 rfl), rfl, hnm⟩) (ww hw 368 rfl) (ty := (.array (.object "java/lang/Object"))) (by decide) rfl rfl (g := (mkF m 6 #[.val (.ref x), .val (.ref ea), .val (.int 0)] [(.ref ea), (.ref x)])) rfl rfl (hb hby d59_6) g0 (safe_exa A0 (by decide) (by decide)) (fun T2 h2 W2 R2 => ?_)
 change Fi _ _ _ _ _ _ _ _ _ _ (T2.setTop (mkF m 9 #[.val (.ref x), .val (.ref ea), .val (.int 0)] []))
 have K2 := (Keep.refl h0 [x]).wr R2 (Or.inl (List.mem_singleton.mpr rfl))
 have A2 := Exa.wr R2 A0
 have F2_elements := Fld.same R2 F0_elements
 have F2_allowNulls := Fld.other R2 F0_allowNulls (Or.inr (slot_ne (Or.inr (ww hw 378 rfl)) (Or.inr (ww hw 144 rfl)) (by decide) (t := .boolean) (t' := (.array (.object "java/lang/Object"))) (by decide) (by decide)))
 have sz2 := R2.size
 refine Fi.by' (st' := T2.setTop (mkF m 11 #[.val (.ref x), .val (.ref ea), .val (.int 0)] [(.int 0), (.ref x)])) (fun t k => ?_) ?_
 ·refine XS.aloadN W2.here hx rfl (hb hby d59_9) rfl rfl ?_
  refine XS.iloadN W2.here hx rfl (hb hby d59_10) rfl ?_
  exact k
 refine W2.putF hx (ww hw 377 rfl) F2_allowNulls A2 (Or.inr ⟨(ww hw 378 rfl), rfl, hnm⟩) (ww hw 368 rfl) (ty := .boolean) (by decide) rfl rfl (g := (mkF m 11 #[.val (.ref x), .val (.ref ea), .val (.int 0)] [(.int 0), (.ref x)])) rfl rfl (hb hby d59_11) g0 (safe_exa A2 (by decide) (by decide)) (fun T3 h3 W3 R3 => ?_)
 change Fi _ _ _ _ _ _ _ _ _ _ (T3.setTop (mkF m 14 #[.val (.ref x), .val (.ref ea), .val (.int 0)] []))
 have K3 := K2.wr R3 (Or.inl (List.mem_singleton.mpr rfl))
 have A3 := Exa.wr R3 A2
 have F3_elements := Fld.other R3 F2_elements (Or.inr (slot_ne (Or.inr (ww hw 144 rfl)) (Or.inr (ww hw 378 rfl)) (by decide) (t := (.array (.object "java/lang/Object"))) (t' := .boolean) (by decide) (by decide)))
 have F3_allowNulls := Fld.same R3 F2_allowNulls
 have sz3 := R3.size
 exact W3.vret hx hlk hret (hb hby d59_14) ⟨rfl, K3, A3, F3_elements, F3_allowNulls⟩ (by decide) (by decide)
def Q_lfa (Z : State) (sa x0_ x1_ x2_ : Addr) (ks : ClassId) (h0 : Heap) (v : Option Value) (h : Heap) : Prop := ∃ la : Addr, v = some (.ref la) ∧ Ext h0 h ∧ h0.size ≤ la ∧ Exa Z h la "java/util/ImmutableCollections$ListN" ∧ ∃ (na : Addr) (kn : ClassId), Fld Z h la "java/util/ImmutableCollections$ListN" "elements" "[Ljava/lang/Object;" (.ref na) ∧ Arv Z h na kn (.object "java/lang/Object") (3 : Int32) [(.ref x0_), (.ref x1_), (.ref x2_)] .null
theorem rm_lfa (l : Launch) (Z : State) (a0 : Array Value) (hw : ∀ d ∈ tables_1, d.before a0 Z = true) (sa x0_ x1_ x2_ : Addr) (ks : ClassId) (h0 : Heap) (n0 : Nat) (Z0 : n0 ≤ h0.size) (B0 : Arv Z h0 sa ks (.object "java/lang/Object") (3 : Int32) [(.ref x0_), (.ref x1_), (.ref x2_)] .null) (XE0 : Exa Z h0 x0_ "java/lang/String") (XE1 : Exa Z h0 x1_ "java/lang/String") (XE2 : Exa Z h0 x2_ "java/lang/String") :
  Con l Z EL y_60 jdk_56_method_4_code 3 (some (.object "java/util/List")) [] ({ frames := 5, cells := 2, slots := 5, locals := 63 } : Room) #[(.ref sa)] h0 n0 (Q_lfa Z sa x0_ x1_ x2_ ks h0) := by
 refine Con.intro (own := "java/util/ImmutableCollections") rfl (plainFor_of_name plain_java_util_ImmutableCollections) (hEL hw) ?_
 intro p e s m below meth c s₁ hx hby hml hret hlk hnm W0
 refine Fi.cast (show entryFrame m #[(.ref sa)] 3 = (mkF m 0 #[.val (.ref sa), .unset, .unset] []) from by first | (simp [entryFrame, mkF, argsToLocals, Value.category]; done) | rfl) ?_
 refine Fi.by' (st' := s₁.setTop (mkF m 1 #[.val (.ref sa), .unset, .unset] [(.ref sa)])) (fun t k => ?_) ?_
 ·refine XS.aloadN W0.here hx rfl (hb hby d58_0) rfl rfl ?_
  exact k
 refine W0.alen hx B0 (g := (mkF m 1 #[.val (.ref sa), .unset, .unset] [(.ref sa)])) rfl rfl (hb hby d58_1) ?_
 change Fi _ _ _ _ _ _ _ _ _ _ (s₁.setTop (mkF m 2 #[.val (.ref sa), .unset, .unset] [(.int 3)]))
 refine W0.newR hx (ww hw 366 rfl) (ww hw 101 rfl) (ad := "[Ljava/lang/Object;") rfl (g := (mkF m 2 #[.val (.ref sa), .unset, .unset] [(.int 3)])) rfl (hb hby d58_2) rfl (by decide) (cap := 3) (by decide) (by decide) (by decide) (by decide) (fun T2 h2 a2 k2 ha2 W2 E2 A2 X2 O2 => ?_)
 change Fi _ _ _ _ _ _ _ _ _ _ (T2.setTop (mkF m 5 #[.val (.ref sa), .unset, .unset] [(.ref a2)]))
 have sz2 := E2.1
 have V2 : Arv Z h2 a2 k2 (.object "java/lang/Object") (3 : Int32) [.null, .null, .null] .null := A2.pad (pad_rep [] .null 3)
 refine Fi.by' (st' := T2.setTop (mkF m 10 #[.val (.ref sa), .val (.ref a2), .val (.int 0)] [(.ref sa), (.int 0)])) (fun t k => ?_) ?_
 ·refine XS.astoreN W2.here hx rfl (hb hby d58_5) rfl rfl (l' := #[.val (.ref sa), .val (.ref a2), .unset]) rfl ?_
  refine iconstZ W2.here hx rfl (hb hby d58_6) (z := (0 : Int32)) rfl ?_
  refine XS.istoreN W2.here hx rfl (hb hby d58_7) rfl (l' := #[.val (.ref sa), .val (.ref a2), .val (.int 0)]) rfl ?_
  refine XS.iloadN W2.here hx rfl (hb hby d58_8) rfl ?_
  refine XS.aloadN W2.here hx rfl (hb hby d58_9) rfl rfl ?_
  exact k
 refine W2.alen hx (B0.ext E2) (g := (mkF m 10 #[.val (.ref sa), .val (.ref a2), .val (.int 0)] [(.ref sa), (.int 0)])) rfl rfl (hb hby d58_10) ?_
 change Fi _ _ _ _ _ _ _ _ _ _ (T2.setTop (mkF m 11 #[.val (.ref sa), .val (.ref a2), .val (.int 0)] [(.int 3), (.int 0)]))
 refine Fi.by' (st' := T2.setTop (mkF m 18 #[.val (.ref sa), .val (.ref a2), .val (.int 0)] [(.int 0), (.ref sa), (.int 0), (.ref a2)])) (fun t k => ?_) ?_
 ·refine XS.icmpNo W2.here hx rfl (hb hby d58_11) rfl (tlt (by decide : ((0 : Int32) < (3 : Int32)))).2.1 ?_
  refine XS.aloadN W2.here hx rfl (hb hby d58_14) rfl rfl ?_
  refine XS.iloadN W2.here hx rfl (hb hby d58_15) rfl ?_
  refine XS.aloadN W2.here hx rfl (hb hby d58_16) rfl rfl ?_
  refine XS.iloadN W2.here hx rfl (hb hby d58_17) rfl ?_
  exact k
 refine W2.aaload hx (B0.ext E2) rfl (j := (0 : Int32)) (v := (.ref x0_)) (by decide) rfl (g := (mkF m 18 #[.val (.ref sa), .val (.ref a2), .val (.int 0)] [(.int 0), (.ref sa), (.int 0), (.ref a2)])) rfl rfl (hb hby d58_18) ?_
 change Fi _ _ _ _ _ _ _ _ _ _ (T2.setTop (mkF m 19 #[.val (.ref sa), .val (.ref a2), .val (.int 0)] [(.ref x0_), (.int 0), (.ref a2)]))
 refine W2.callS hx (y := y_54) (ww hw 367 rfl) (ww hw 272 rfl) (ww hw 106 rfl) (ww hw 273 rfl) (by decide) (Pay.of_con (Wd := 2) (rm_rnn l Z a0 hw x0_ h2 n0 (by omega)) (ww hw 273 rfl) (ww hw 106 rfl) (hEL hw) (by decide) (by decide)) (g := (mkF m 19 #[.val (.ref sa), .val (.ref a2), .val (.int 0)] [(.ref x0_), (.int 0), (.ref a2)])) rfl (by rw [hml]; rfl) (argsL := [(.ref x0_)]) (rest := [(.int 0), (.ref a2)]) (lenOf pd_26 rfl) rfl rfl (ble_ rfl) (hb hby d58_19) (by decide) (by decide) (fun v4 T4 h4 W4 sz4 q4 => ?_)
 obtain ⟨rfl, rfl⟩ := q4
 change Fi _ _ _ _ _ _ _ _ _ _ (T4.setTop (mkF m 22 #[.val (.ref sa), .val (.ref a2), .val (.int 0)] [(.ref x0_), (.int 0), (.ref a2)]))
 refine W4.aastore hx V2 O2 (Ins.of_exa (Exa.ext E2 XE0) (ww hw 102 rfl)) (i := 0) (ble_ rfl) (j := (0 : Int32)) rfl (by decide) (g := (mkF m 22 #[.val (.ref sa), .val (.ref a2), .val (.int 0)] [(.ref x0_), (.int 0), (.ref a2)])) rfl rfl (hb hby d58_22) (by omega) (fun T5 h5 W5 R5 V5 => ?_)
 change Fi _ _ _ _ _ _ _ _ _ _ (T5.setTop (mkF m 23 #[.val (.ref sa), .val (.ref a2), .val (.int 0)] []))
 have x5w : Ext h0 h5 := ext_wr E2 R5 (by omega)
 have sz5 := R5.size
 have V5' : Arv Z h5 a2 k2 (.object "java/lang/Object") (3 : Int32) [(.ref x0_), .null, .null] .null := V5
 refine Fi.by' (st' := T5.setTop (mkF m 10 #[.val (.ref sa), .val (.ref a2), .val (.int 1)] [(.ref sa), (.int 1)])) (fun t k => ?_) ?_
 ·refine XS.iinc W5.here hx rfl (hb hby d58_23) rfl (l' := #[.val (.ref sa), .val (.ref a2), .val (.int 1)]) rfl ?_
  refine XS.goto W5.here hx rfl (pc0 := 26) (pc' := 8) rfl (hb hby d58_26) (by decide) (by decide) ?_
  refine XS.iloadN W5.here hx rfl (hb hby d58_8) rfl ?_
  refine XS.aloadN W5.here hx rfl (hb hby d58_9) rfl rfl ?_
  exact k
 refine W5.alen hx (B0.ext x5w) (g := (mkF m 10 #[.val (.ref sa), .val (.ref a2), .val (.int 1)] [(.ref sa), (.int 1)])) rfl rfl (hb hby d58_10) ?_
 change Fi _ _ _ _ _ _ _ _ _ _ (T5.setTop (mkF m 11 #[.val (.ref sa), .val (.ref a2), .val (.int 1)] [(.int 3), (.int 1)]))
 refine Fi.by' (st' := T5.setTop (mkF m 18 #[.val (.ref sa), .val (.ref a2), .val (.int 1)] [(.int 1), (.ref sa), (.int 1), (.ref a2)])) (fun t k => ?_) ?_
 ·refine XS.icmpNo W5.here hx rfl (hb hby d58_11) rfl (tlt (by decide : ((1 : Int32) < (3 : Int32)))).2.1 ?_
  refine XS.aloadN W5.here hx rfl (hb hby d58_14) rfl rfl ?_
  refine XS.iloadN W5.here hx rfl (hb hby d58_15) rfl ?_
  refine XS.aloadN W5.here hx rfl (hb hby d58_16) rfl rfl ?_
  refine XS.iloadN W5.here hx rfl (hb hby d58_17) rfl ?_
  exact k
 refine W5.aaload hx (B0.ext x5w) rfl (j := (1 : Int32)) (v := (.ref x1_)) (by decide) rfl (g := (mkF m 18 #[.val (.ref sa), .val (.ref a2), .val (.int 1)] [(.int 1), (.ref sa), (.int 1), (.ref a2)])) rfl rfl (hb hby d58_18) ?_
 change Fi _ _ _ _ _ _ _ _ _ _ (T5.setTop (mkF m 19 #[.val (.ref sa), .val (.ref a2), .val (.int 1)] [(.ref x1_), (.int 1), (.ref a2)]))
 refine W5.callS hx (y := y_54) (ww hw 367 rfl) (ww hw 272 rfl) (ww hw 106 rfl) (ww hw 273 rfl) (by decide) (Pay.of_con (Wd := 2) (rm_rnn l Z a0 hw x1_ h5 n0 (by omega)) (ww hw 273 rfl) (ww hw 106 rfl) (hEL hw) (by decide) (by decide)) (g := (mkF m 19 #[.val (.ref sa), .val (.ref a2), .val (.int 1)] [(.ref x1_), (.int 1), (.ref a2)])) rfl (by rw [hml]; rfl) (argsL := [(.ref x1_)]) (rest := [(.int 1), (.ref a2)]) (lenOf pd_26 rfl) rfl rfl (ble_ rfl) (hb hby d58_19) (by decide) (by decide) (fun v7 T7 h7 W7 sz7 q7 => ?_)
 obtain ⟨rfl, rfl⟩ := q7
 change Fi _ _ _ _ _ _ _ _ _ _ (T7.setTop (mkF m 22 #[.val (.ref sa), .val (.ref a2), .val (.int 1)] [(.ref x1_), (.int 1), (.ref a2)]))
 refine W7.aastore hx V5' O2 (Ins.of_exa (Exa.ext x5w XE1) (ww hw 102 rfl)) (i := 1) (ble_ rfl) (j := (1 : Int32)) rfl (by decide) (g := (mkF m 22 #[.val (.ref sa), .val (.ref a2), .val (.int 1)] [(.ref x1_), (.int 1), (.ref a2)])) rfl rfl (hb hby d58_22) (by omega) (fun T8 h8 W8 R8 V8 => ?_)
 change Fi _ _ _ _ _ _ _ _ _ _ (T8.setTop (mkF m 23 #[.val (.ref sa), .val (.ref a2), .val (.int 1)] []))
 have x8w : Ext h0 h8 := ext_wr x5w R8 (by omega)
 have sz8 := R8.size
 have V8' : Arv Z h8 a2 k2 (.object "java/lang/Object") (3 : Int32) [(.ref x0_), (.ref x1_), .null] .null := V8
 refine Fi.by' (st' := T8.setTop (mkF m 10 #[.val (.ref sa), .val (.ref a2), .val (.int 2)] [(.ref sa), (.int 2)])) (fun t k => ?_) ?_
 ·refine XS.iinc W8.here hx rfl (hb hby d58_23) rfl (l' := #[.val (.ref sa), .val (.ref a2), .val (.int 2)]) rfl ?_
  refine XS.goto W8.here hx rfl (pc0 := 26) (pc' := 8) rfl (hb hby d58_26) (by decide) (by decide) ?_
  refine XS.iloadN W8.here hx rfl (hb hby d58_8) rfl ?_
  refine XS.aloadN W8.here hx rfl (hb hby d58_9) rfl rfl ?_
  exact k
 refine W8.alen hx (B0.ext x8w) (g := (mkF m 10 #[.val (.ref sa), .val (.ref a2), .val (.int 2)] [(.ref sa), (.int 2)])) rfl rfl (hb hby d58_10) ?_
 change Fi _ _ _ _ _ _ _ _ _ _ (T8.setTop (mkF m 11 #[.val (.ref sa), .val (.ref a2), .val (.int 2)] [(.int 3), (.int 2)]))
 refine Fi.by' (st' := T8.setTop (mkF m 18 #[.val (.ref sa), .val (.ref a2), .val (.int 2)] [(.int 2), (.ref sa), (.int 2), (.ref a2)])) (fun t k => ?_) ?_
 ·refine XS.icmpNo W8.here hx rfl (hb hby d58_11) rfl (tlt (by decide : ((2 : Int32) < (3 : Int32)))).2.1 ?_
  refine XS.aloadN W8.here hx rfl (hb hby d58_14) rfl rfl ?_
  refine XS.iloadN W8.here hx rfl (hb hby d58_15) rfl ?_
  refine XS.aloadN W8.here hx rfl (hb hby d58_16) rfl rfl ?_
  refine XS.iloadN W8.here hx rfl (hb hby d58_17) rfl ?_
  exact k
 refine W8.aaload hx (B0.ext x8w) rfl (j := (2 : Int32)) (v := (.ref x2_)) (by decide) rfl (g := (mkF m 18 #[.val (.ref sa), .val (.ref a2), .val (.int 2)] [(.int 2), (.ref sa), (.int 2), (.ref a2)])) rfl rfl (hb hby d58_18) ?_
 change Fi _ _ _ _ _ _ _ _ _ _ (T8.setTop (mkF m 19 #[.val (.ref sa), .val (.ref a2), .val (.int 2)] [(.ref x2_), (.int 2), (.ref a2)]))
 refine W8.callS hx (y := y_54) (ww hw 367 rfl) (ww hw 272 rfl) (ww hw 106 rfl) (ww hw 273 rfl) (by decide) (Pay.of_con (Wd := 2) (rm_rnn l Z a0 hw x2_ h8 n0 (by omega)) (ww hw 273 rfl) (ww hw 106 rfl) (hEL hw) (by decide) (by decide)) (g := (mkF m 19 #[.val (.ref sa), .val (.ref a2), .val (.int 2)] [(.ref x2_), (.int 2), (.ref a2)])) rfl (by rw [hml]; rfl) (argsL := [(.ref x2_)]) (rest := [(.int 2), (.ref a2)]) (lenOf pd_26 rfl) rfl rfl (ble_ rfl) (hb hby d58_19) (by decide) (by decide) (fun v10 T10 h10 W10 sz10 q10 => ?_)
 obtain ⟨rfl, rfl⟩ := q10
 change Fi _ _ _ _ _ _ _ _ _ _ (T10.setTop (mkF m 22 #[.val (.ref sa), .val (.ref a2), .val (.int 2)] [(.ref x2_), (.int 2), (.ref a2)]))
 refine W10.aastore hx V8' O2 (Ins.of_exa (Exa.ext x8w XE2) (ww hw 102 rfl)) (i := 2) (ble_ rfl) (j := (2 : Int32)) rfl (by decide) (g := (mkF m 22 #[.val (.ref sa), .val (.ref a2), .val (.int 2)] [(.ref x2_), (.int 2), (.ref a2)])) rfl rfl (hb hby d58_22) (by omega) (fun T11 h11 W11 R11 V11 => ?_)
 change Fi _ _ _ _ _ _ _ _ _ _ (T11.setTop (mkF m 23 #[.val (.ref sa), .val (.ref a2), .val (.int 2)] []))
 have x11w : Ext h0 h11 := ext_wr x8w R11 (by omega)
 have sz11 := R11.size
 have V11' : Arv Z h11 a2 k2 (.object "java/lang/Object") (3 : Int32) [(.ref x0_), (.ref x1_), (.ref x2_)] .null := V11
 refine Fi.by' (st' := T11.setTop (mkF m 10 #[.val (.ref sa), .val (.ref a2), .val (.int 3)] [(.ref sa), (.int 3)])) (fun t k => ?_) ?_
 ·refine XS.iinc W11.here hx rfl (hb hby d58_23) rfl (l' := #[.val (.ref sa), .val (.ref a2), .val (.int 3)]) rfl ?_
  refine XS.goto W11.here hx rfl (pc0 := 26) (pc' := 8) rfl (hb hby d58_26) (by decide) (by decide) ?_
  refine XS.iloadN W11.here hx rfl (hb hby d58_8) rfl ?_
  refine XS.aloadN W11.here hx rfl (hb hby d58_9) rfl rfl ?_
  exact k
 refine W11.alen hx (B0.ext x11w) (g := (mkF m 10 #[.val (.ref sa), .val (.ref a2), .val (.int 3)] [(.ref sa), (.int 3)])) rfl rfl (hb hby d58_10) ?_
 change Fi _ _ _ _ _ _ _ _ _ _ (T11.setTop (mkF m 11 #[.val (.ref sa), .val (.ref a2), .val (.int 3)] [(.int 3), (.int 3)]))
 refine Fi.by' (st' := T11.setTop (mkF m 29 #[.val (.ref sa), .val (.ref a2), .val (.int 3)] [])) (fun t k => ?_) ?_
 ·refine XS.icmpYes W11.here hx rfl (pc0 := 11) (pc' := 29) rfl (hb hby d58_11) rfl (flt (by decide : ¬ ((3 : Int32) < (3 : Int32)))).2.1 (by decide) (by decide) ?_
  exact k
 refine W11.new hx (ww hw 75 rfl) (ww hw 368 rfl) (ww hw 141 rfl) (g := (mkF m 29 #[.val (.ref sa), .val (.ref a2), .val (.int 3)] [])) rfl (hb hby d58_29) (by decide) (by decide) (fun T13 h13 a13 ha13 W13 E13 A13 D13 => ?_)
 change Fi _ _ _ _ _ _ _ _ _ _ (T13.setTop (mkF m 32 #[.val (.ref sa), .val (.ref a2), .val (.int 3)] [(.ref a13)]))
 have sz13 := E13.1
 refine Fi.by' (st' := T13.setTop (mkF m 35 #[.val (.ref sa), .val (.ref a2), .val (.int 3)] [(.int 0), (.ref a2), (.ref a13), (.ref a13)])) (fun t k => ?_) ?_
 ·refine XS.dup W13.here hx rfl (hb hby d58_32) rfl rfl ?_
  refine XS.aloadN W13.here hx rfl (hb hby d58_33) rfl rfl ?_
  refine iconstZ W13.here hx rfl (hb hby d58_34) (z := (0 : Int32)) rfl ?_
  exact k
 refine W13.callIN hx (y := y_59) rfl (ww hw 369 rfl) (ww hw 370 rfl) (ww hw 372 rfl) (by decide) (Pay.of_con (Wd := 1) (rm_lnn l Z a0 hw a13 a2 h13 n0 (by omega) (by omega) A13 (D13 (Or.inr (ww hw 144 rfl)) (ty := (.array (.object "java/lang/Object"))) (by decide)) (D13 (Or.inr (ww hw 378 rfl)) (ty := .boolean) (by decide)) ) (ww hw 372 rfl) (ww hw 141 rfl) (hEL hw) (by decide) (by decide)) (a := a13) (g := (mkF m 35 #[.val (.ref sa), .val (.ref a2), .val (.int 3)] [(.int 0), (.ref a2), (.ref a13), (.ref a13)])) rfl (by rw [hml]; rfl) (argsL := [(.ref a2), (.int 0)]) (rest := [(.ref a13)]) (lenOf pd_27 rfl) rfl rfl (ble_ rfl) (hb hby d58_35) (by decide) (by decide) (fun v14 T14 h14 W14 sz14 q14 => ?_)
 obtain ⟨rfl, K14, A14, F14_elements, F14_allowNulls⟩ := q14
 change Fi _ _ _ _ _ _ _ _ _ _ (T14.setTop (mkF m 38 #[.val (.ref sa), .val (.ref a2), .val (.int 3)] [(.ref a13)]))
 have x14k : Ext h11 h14 := ext_keep1 E13 K14 (by omega)
 have x15 : Ext h0 h14 := ext_trans x11w x14k
 exact W14.aret hx hlk hret rfl rfl (hb hby d58_38) ⟨a13, rfl, x15, by omega, A14, a2, k2, F14_elements, (V11'.ext x14k)⟩ (by decide) (by decide)
def Q_lof1 (Z : State) (sa x0_ em : Addr) (ks : ClassId) (h0 : Heap) (v : Option Value) (h : Heap) : Prop := ∃ la : Addr, v = some (.ref la) ∧ Ext h0 h ∧ h0.size ≤ la ∧ Exa Z h la "java/util/ImmutableCollections$List12" ∧ Fld Z h la "java/util/ImmutableCollections$List12" "e0" "Ljava/lang/Object;" (.ref x0_) ∧ Fld Z h la "java/util/ImmutableCollections$List12" "e1" "Ljava/lang/Object;" (.ref em)
theorem rm_lof1 (l : Launch) (Z : State) (a0 : Array Value) (hw : ∀ d ∈ tables_1, d.before a0 Z = true) (sa x0_ em : Addr) (ks : ClassId) (h0 : Heap) (n0 : Nat) (Z0 : n0 ≤ h0.size) (B0 : Arv Z h0 sa ks (.object "java/lang/Object") (1 : Int32) [(.ref x0_)] .null) (XE0 : Exa Z h0 x0_ "java/lang/String") (M1 : Sta Z h0 "java/util/ImmutableCollections" "EMPTY" "Ljava/lang/Object;" (.ref em)) :
  Con l Z EL y_61 jdk_40_method_47_code 2 (some (.object "java/util/List")) [] ({ frames := 5, cells := 1, slots := 2, locals := 62 } : Room) #[(.ref sa)] h0 n0 (Q_lof1 Z sa x0_ em ks h0) := by
 refine Con.intro (own := "java/util/List") rfl (plainFor_of_name plain_java_util_List) (hEL hw) ?_
 intro p e s m below meth c s₁ hx hby hml hret hlk hnm W0
 refine Fi.cast (show entryFrame m #[(.ref sa)] 2 = (mkF m 0 #[.val (.ref sa), .unset] []) from by first | (simp [entryFrame, mkF, argsToLocals, Value.category]; done) | rfl) ?_
 refine Fi.by' (st' := s₁.setTop (mkF m 1 #[.val (.ref sa), .unset] [(.ref sa)])) (fun t k => ?_) ?_
 ·refine XS.aloadN W0.here hx rfl (hb hby d42_0) rfl rfl ?_
  exact k
 refine W0.alen hx B0 (g := (mkF m 1 #[.val (.ref sa), .unset] [(.ref sa)])) rfl rfl (hb hby d42_1) ?_
 change Fi _ _ _ _ _ _ _ _ _ _ (s₁.setTop (mkF m 2 #[.val (.ref sa), .unset] [(.int 1)]))
 refine Fi.by' (st' := s₁.setTop (mkF m 34 #[.val (.ref sa), .unset] [])) (fun t k => ?_) ?_
 ·refine XS.tswIn W0.here hx rfl (pc0 := 2) (pc' := 34) rfl (hb hby d42_2) rfl (by decide) (o := 32) rfl (by decide) (by decide) ?_
  exact k
 refine W0.new hx (ww hw 251 rfl) (ww hw 252 rfl) (ww hw 253 rfl) (g := (mkF m 34 #[.val (.ref sa), .unset] [])) rfl (hb hby d42_34) (by decide) (by decide) (fun T2 h2 a2 ha2 W2 E2 A2 D2 => ?_)
 change Fi _ _ _ _ _ _ _ _ _ _ (T2.setTop (mkF m 37 #[.val (.ref sa), .unset] [(.ref a2)]))
 have sz2 := E2.1
 refine Fi.by' (st' := T2.setTop (mkF m 40 #[.val (.ref sa), .unset] [(.int 0), (.ref sa), (.ref a2), (.ref a2)])) (fun t k => ?_) ?_
 ·refine XS.dup W2.here hx rfl (hb hby d42_37) rfl rfl ?_
  refine XS.aloadN W2.here hx rfl (hb hby d42_38) rfl rfl ?_
  refine iconstZ W2.here hx rfl (hb hby d42_39) (z := (0 : Int32)) rfl ?_
  exact k
 refine W2.aaload hx (B0.ext E2) rfl (j := (0 : Int32)) (v := (.ref x0_)) (by decide) rfl (g := (mkF m 40 #[.val (.ref sa), .unset] [(.int 0), (.ref sa), (.ref a2), (.ref a2)])) rfl rfl (hb hby d42_40) ?_
 change Fi _ _ _ _ _ _ _ _ _ _ (T2.setTop (mkF m 41 #[.val (.ref sa), .unset] [(.ref x0_), (.ref a2), (.ref a2)]))
 refine W2.callI hx (y := y_57) rfl (ww hw 254 rfl) (ww hw 255 rfl) (ww hw 257 rfl) (by decide) (Pay.of_con (Wd := 1) (rm_l12a l Z a0 hw a2 x0_ em h2 n0 (by omega) (by omega) A2 (D2 (Or.inr (ww hw 275 rfl)) (ty := (.object "java/lang/Object")) (by decide)) (D2 (Or.inr (ww hw 278 rfl)) (ty := (.object "java/lang/Object")) (by decide)) (Sta.ext E2 M1)) (ww hw 257 rfl) (ww hw 253 rfl) (hEL hw) (by decide) (by decide)) (a := a2) (g := (mkF m 41 #[.val (.ref sa), .unset] [(.ref x0_), (.ref a2), (.ref a2)])) rfl (by rw [hml]; rfl) (argsL := [(.ref x0_)]) (rest := [(.ref a2)]) (lenOf pd_28 rfl) rfl rfl (ble_ rfl) (hb hby d42_41) (by decide) (by decide) (fun v3 T3 h3 W3 sz3 q3 => ?_)
 obtain ⟨rfl, K3, A3, F3_e0, F3_e1⟩ := q3
 change Fi _ _ _ _ _ _ _ _ _ _ (T3.setTop (mkF m 44 #[.val (.ref sa), .unset] [(.ref a2)]))
 have x3k : Ext h0 h3 := ext_keep1 E2 K3 (by omega)
 exact W3.aret hx hlk hret rfl rfl (hb hby d42_44) ⟨a2, rfl, x3k, by omega, A3, F3_e0, F3_e1⟩ (by decide) (by decide)
def Q_lof2 (Z : State) (sa x0_ x1_ em : Addr) (ks : ClassId) (h0 : Heap) (v : Option Value) (h : Heap) : Prop := ∃ la : Addr, v = some (.ref la) ∧ Ext h0 h ∧ h0.size ≤ la ∧ Exa Z h la "java/util/ImmutableCollections$List12" ∧ Fld Z h la "java/util/ImmutableCollections$List12" "e0" "Ljava/lang/Object;" (.ref x0_) ∧ Fld Z h la "java/util/ImmutableCollections$List12" "e1" "Ljava/lang/Object;" (.ref x1_)
theorem rm_lof2 (l : Launch) (Z : State) (a0 : Array Value) (hw : ∀ d ∈ tables_1, d.before a0 Z = true) (sa x0_ x1_ em : Addr) (ks : ClassId) (h0 : Heap) (n0 : Nat) (Z0 : n0 ≤ h0.size) (B0 : Arv Z h0 sa ks (.object "java/lang/Object") (2 : Int32) [(.ref x0_), (.ref x1_)] .null) (XE0 : Exa Z h0 x0_ "java/lang/String") (XE1 : Exa Z h0 x1_ "java/lang/String") (M1 : Sta Z h0 "java/util/ImmutableCollections" "EMPTY" "Ljava/lang/Object;" (.ref em)) :
  Con l Z EL y_61 jdk_40_method_47_code 2 (some (.object "java/util/List")) [] ({ frames := 5, cells := 1, slots := 2, locals := 63 } : Room) #[(.ref sa)] h0 n0 (Q_lof2 Z sa x0_ x1_ em ks h0) := by
 refine Con.intro (own := "java/util/List") rfl (plainFor_of_name plain_java_util_List) (hEL hw) ?_
 intro p e s m below meth c s₁ hx hby hml hret hlk hnm W0
 refine Fi.cast (show entryFrame m #[(.ref sa)] 2 = (mkF m 0 #[.val (.ref sa), .unset] []) from by first | (simp [entryFrame, mkF, argsToLocals, Value.category]; done) | rfl) ?_
 refine Fi.by' (st' := s₁.setTop (mkF m 1 #[.val (.ref sa), .unset] [(.ref sa)])) (fun t k => ?_) ?_
 ·refine XS.aloadN W0.here hx rfl (hb hby d42_0) rfl rfl ?_
  exact k
 refine W0.alen hx B0 (g := (mkF m 1 #[.val (.ref sa), .unset] [(.ref sa)])) rfl rfl (hb hby d42_1) ?_
 change Fi _ _ _ _ _ _ _ _ _ _ (s₁.setTop (mkF m 2 #[.val (.ref sa), .unset] [(.int 2)]))
 refine Fi.by' (st' := s₁.setTop (mkF m 45 #[.val (.ref sa), .unset] [])) (fun t k => ?_) ?_
 ·refine XS.tswIn W0.here hx rfl (pc0 := 2) (pc' := 45) rfl (hb hby d42_2) rfl (by decide) (o := 43) rfl (by decide) (by decide) ?_
  exact k
 refine W0.new hx (ww hw 251 rfl) (ww hw 252 rfl) (ww hw 253 rfl) (g := (mkF m 45 #[.val (.ref sa), .unset] [])) rfl (hb hby d42_45) (by decide) (by decide) (fun T2 h2 a2 ha2 W2 E2 A2 D2 => ?_)
 change Fi _ _ _ _ _ _ _ _ _ _ (T2.setTop (mkF m 48 #[.val (.ref sa), .unset] [(.ref a2)]))
 have sz2 := E2.1
 refine Fi.by' (st' := T2.setTop (mkF m 51 #[.val (.ref sa), .unset] [(.int 0), (.ref sa), (.ref a2), (.ref a2)])) (fun t k => ?_) ?_
 ·refine XS.dup W2.here hx rfl (hb hby d42_48) rfl rfl ?_
  refine XS.aloadN W2.here hx rfl (hb hby d42_49) rfl rfl ?_
  refine iconstZ W2.here hx rfl (hb hby d42_50) (z := (0 : Int32)) rfl ?_
  exact k
 refine W2.aaload hx (B0.ext E2) rfl (j := (0 : Int32)) (v := (.ref x0_)) (by decide) rfl (g := (mkF m 51 #[.val (.ref sa), .unset] [(.int 0), (.ref sa), (.ref a2), (.ref a2)])) rfl rfl (hb hby d42_51) ?_
 change Fi _ _ _ _ _ _ _ _ _ _ (T2.setTop (mkF m 52 #[.val (.ref sa), .unset] [(.ref x0_), (.ref a2), (.ref a2)]))
 refine Fi.by' (st' := T2.setTop (mkF m 54 #[.val (.ref sa), .unset] [(.int 1), (.ref sa), (.ref x0_), (.ref a2), (.ref a2)])) (fun t k => ?_) ?_
 ·refine XS.aloadN W2.here hx rfl (hb hby d42_52) rfl rfl ?_
  refine iconstZ W2.here hx rfl (hb hby d42_53) (z := (1 : Int32)) rfl ?_
  exact k
 refine W2.aaload hx (B0.ext E2) rfl (j := (1 : Int32)) (v := (.ref x1_)) (by decide) rfl (g := (mkF m 54 #[.val (.ref sa), .unset] [(.int 1), (.ref sa), (.ref x0_), (.ref a2), (.ref a2)])) rfl rfl (hb hby d42_54) ?_
 change Fi _ _ _ _ _ _ _ _ _ _ (T2.setTop (mkF m 55 #[.val (.ref sa), .unset] [(.ref x1_), (.ref x0_), (.ref a2), (.ref a2)]))
 refine W2.callI hx (y := y_58) rfl (ww hw 360 rfl) (ww hw 361 rfl) (ww hw 362 rfl) (by decide) (Pay.of_con (Wd := 1) (rm_l12b l Z a0 hw a2 x0_ x1_ h2 n0 (by omega) (by omega) A2 (D2 (Or.inr (ww hw 275 rfl)) (ty := (.object "java/lang/Object")) (by decide)) (D2 (Or.inr (ww hw 278 rfl)) (ty := (.object "java/lang/Object")) (by decide)) ) (ww hw 362 rfl) (ww hw 253 rfl) (hEL hw) (by decide) (by decide)) (a := a2) (g := (mkF m 55 #[.val (.ref sa), .unset] [(.ref x1_), (.ref x0_), (.ref a2), (.ref a2)])) rfl (by rw [hml]; rfl) (argsL := [(.ref x0_), (.ref x1_)]) (rest := [(.ref a2)]) (lenOf pd_29 rfl) rfl rfl (ble_ rfl) (hb hby d42_55) (by decide) (by decide) (fun v3 T3 h3 W3 sz3 q3 => ?_)
 obtain ⟨rfl, K3, A3, F3_e0, F3_e1⟩ := q3
 change Fi _ _ _ _ _ _ _ _ _ _ (T3.setTop (mkF m 58 #[.val (.ref sa), .unset] [(.ref a2)]))
 have x3k : Ext h0 h3 := ext_keep1 E2 K3 (by omega)
 exact W3.aret hx hlk hret rfl rfl (hb hby d42_58) ⟨a2, rfl, x3k, by omega, A3, F3_e0, F3_e1⟩ (by decide) (by decide)
def Q_lof3 (Z : State) (sa x0_ x1_ x2_ em : Addr) (ks : ClassId) (h0 : Heap) (v : Option Value) (h : Heap) : Prop := ∃ la : Addr, v = some (.ref la) ∧ Ext h0 h ∧ h0.size ≤ la ∧ Exa Z h la "java/util/ImmutableCollections$ListN" ∧ ∃ (na : Addr) (kn : ClassId), Fld Z h la "java/util/ImmutableCollections$ListN" "elements" "[Ljava/lang/Object;" (.ref na) ∧ Arv Z h na kn (.object "java/lang/Object") (3 : Int32) [(.ref x0_), (.ref x1_), (.ref x2_)] .null
theorem rm_lof3 (l : Launch) (Z : State) (a0 : Array Value) (hw : ∀ d ∈ tables_1, d.before a0 Z = true) (sa x0_ x1_ x2_ em : Addr) (ks : ClassId) (h0 : Heap) (n0 : Nat) (Z0 : n0 ≤ h0.size) (B0 : Arv Z h0 sa ks (.object "java/lang/Object") (3 : Int32) [(.ref x0_), (.ref x1_), (.ref x2_)] .null) (XE0 : Exa Z h0 x0_ "java/lang/String") (XE1 : Exa Z h0 x1_ "java/lang/String") (XE2 : Exa Z h0 x2_ "java/lang/String") (M1 : Sta Z h0 "java/util/ImmutableCollections" "EMPTY" "Ljava/lang/Object;" (.ref em)) :
  Con l Z EL y_61 jdk_40_method_47_code 2 (some (.object "java/util/List")) [] ({ frames := 6, cells := 2, slots := 5, locals := 77 } : Room) #[(.ref sa)] h0 n0 (Q_lof3 Z sa x0_ x1_ x2_ em ks h0) := by
 refine Con.intro (own := "java/util/List") rfl (plainFor_of_name plain_java_util_List) (hEL hw) ?_
 intro p e s m below meth c s₁ hx hby hml hret hlk hnm W0
 refine Fi.cast (show entryFrame m #[(.ref sa)] 2 = (mkF m 0 #[.val (.ref sa), .unset] []) from by first | (simp [entryFrame, mkF, argsToLocals, Value.category]; done) | rfl) ?_
 refine Fi.by' (st' := s₁.setTop (mkF m 1 #[.val (.ref sa), .unset] [(.ref sa)])) (fun t k => ?_) ?_
 ·refine XS.aloadN W0.here hx rfl (hb hby d42_0) rfl rfl ?_
  exact k
 refine W0.alen hx B0 (g := (mkF m 1 #[.val (.ref sa), .unset] [(.ref sa)])) rfl rfl (hb hby d42_1) ?_
 change Fi _ _ _ _ _ _ _ _ _ _ (s₁.setTop (mkF m 2 #[.val (.ref sa), .unset] [(.int 3)]))
 refine Fi.by' (st' := s₁.setTop (mkF m 60 #[.val (.ref sa), .unset] [(.ref sa)])) (fun t k => ?_) ?_
 ·refine XS.tswOut W0.here hx rfl (pc0 := 2) (pc' := 59) rfl (hb hby d42_2) rfl (by decide) (by decide) (by decide) ?_
  refine XS.aloadN W0.here hx rfl (hb hby d42_59) rfl rfl ?_
  exact k
 refine W0.callS hx (y := y_60) (ww hw 363 rfl) (ww hw 364 rfl) (ww hw 68 rfl) (ww hw 365 rfl) (by decide) (Pay.of_con (Wd := 0) (rm_lfa l Z a0 hw sa x0_ x1_ x2_ ks h0 n0 (by omega) B0 XE0 XE1 XE2) (ww hw 365 rfl) (ww hw 68 rfl) (hEL hw) (by decide) (by decide)) (g := (mkF m 60 #[.val (.ref sa), .unset] [(.ref sa)])) rfl (by rw [hml]; rfl) (argsL := [(.ref sa)]) (rest := []) (lenOf pd_30 rfl) rfl rfl (ble_ rfl) (hb hby d42_60) (by decide) (by decide) (fun v2 T2 h2 W2 sz2 q2 => ?_)
 obtain ⟨la, rfl, E2, g2, Y2⟩ := q2
 change Fi _ _ _ _ _ _ _ _ _ _ (T2.setTop (mkF m 63 #[.val (.ref sa), .unset] [(.ref la)]))
 exact W2.aret hx hlk hret rfl rfl (hb hby d42_63) ⟨la, rfl, E2, by omega, Y2⟩ (by decide) (by decide)
def Q_lcp (Z : State) (al dc el em eb mr : Addr) (kb : ClassId) (m0 : Nat) (ds : List Int32) (h0 : Heap) (v : Option Value) (h : Heap) : Prop := ∃ la : Addr, v = some (.ref la) ∧ Ext h0 h ∧ IL Z h m0 la ds
theorem rm_lcp (l : Launch) (Z : State) (a0 : Array Value) (hw : ∀ d ∈ tables_1, d.before a0 Z = true) (al dc el em eb mr : Addr) (kb : ClassId) (m0 : Nat) (ds : List Int32) (h0 : Heap) (n0 : Nat) (Z0 : n0 ≤ h0.size) (L0 : AS Z h0 m0 dc al ds) (P1 : Sta Z h0 "java/util/ImmutableCollections" "EMPTY_LIST" "Ljava/util/ImmutableCollections$ListN;" (.ref el)) (P2 : Exa Z h0 el "java/util/ImmutableCollections$ListN") (P3 : Fld Z h0 el "java/util/ImmutableCollections$ListN" "elements" "[Ljava/lang/Object;" (.ref eb)) (P4 : Arv Z h0 eb kb (.object "java/lang/Object") (0 : Int32) [] .null) (M1 : Sta Z h0 "java/util/ImmutableCollections" "EMPTY" "Ljava/lang/Object;" (.ref em)) (P5 : Exa Z h0 em "java/lang/Object") (M0 : Mir Z "[Ljava/lang/Object;" mr) :
  Con l Z EL y_64 jdk_56_method_3_code 2 (some (.object "java/util/List")) [] ({ frames := 7, cells := 3, slots := 8, locals := 90 } : Room) #[(.ref al)] h0 n0 (Q_lcp Z al dc el em eb mr kb m0 ds h0) := by
 refine Con.intro (own := "java/util/ImmutableCollections") rfl (plainFor_of_name plain_java_util_ImmutableCollections) (hEL hw) ?_
 intro p e s m below meth c s₁ hx hby hml hret hlk hnm W0
 refine Fi.cast (show entryFrame m #[(.ref al)] 2 = (mkF m 0 #[.val (.ref al), .unset] []) from by first | (simp [entryFrame, mkF, argsToLocals, Value.category]; done) | rfl) ?_
 obtain ⟨es, mc, q1_, q2_, q3_, q4_, q5_, q6_⟩ := L0
 refine Fi.by' (st' := s₁.setTop (mkF m 1 #[.val (.ref al), .unset] [(.ref al)])) (fun t k => ?_) ?_
 ·refine XS.aloadN W0.here hx rfl (hb hby d11_0) rfl rfl ?_
  exact k
 refine W0.instN hx (ww hw 70 rfl) q3_ (ns_no (ww hw 71 rfl) (ww hw 252 rfl) (NS.step (ww hw 71 rfl) (NS.step (ww hw 72 rfl) (NS.step (ww hw 73 rfl) (ns_root (ww hw 74 rfl) (ww hw 252 rfl) (by decide)) (by decide)) (by decide)) (by decide)) (by decide)) (g := (mkF m 1 #[.val (.ref al), .unset] [(.ref al)])) rfl rfl (hb hby d11_1) (fun T1 W1 => ?_)
 change Fi _ _ _ _ _ _ _ _ _ _ (T1.setTop (mkF m 4 #[.val (.ref al), .unset] [(.int 0)]))
 refine Fi.by' (st' := T1.setTop (mkF m 8 #[.val (.ref al), .unset] [(.ref al)])) (fun t k => ?_) ?_
 ·refine XS.ifNo W1.here hx rfl (hb hby d11_4) rfl ((if0 _ _).trans (teq (by decide : ((0 : Int32) = (0 : Int32)))).2) ?_
  refine XS.aloadN W1.here hx rfl (hb hby d11_7) rfl rfl ?_
  exact k
 refine W1.instN hx (ww hw 75 rfl) q3_ (ns_no (ww hw 71 rfl) (ww hw 368 rfl) (NS.step (ww hw 71 rfl) (NS.step (ww hw 72 rfl) (NS.step (ww hw 73 rfl) (ns_root (ww hw 74 rfl) (ww hw 368 rfl) (by decide)) (by decide)) (by decide)) (by decide)) (by decide)) (g := (mkF m 8 #[.val (.ref al), .unset] [(.ref al)])) rfl rfl (hb hby d11_8) (fun T2 W2 => ?_)
 change Fi _ _ _ _ _ _ _ _ _ _ (T2.setTop (mkF m 11 #[.val (.ref al), .unset] [(.int 0)]))
 refine Fi.by' (st' := T2.setTop (mkF m 31 #[.val (.ref al), .unset] [])) (fun t k => ?_) ?_
 ·refine XS.ifYes W2.here hx rfl (pc0 := 11) (pc' := 31) rfl (hb hby d11_11) rfl ((if0 _ _).trans (teq (by decide : ((0 : Int32) = (0 : Int32)))).1) (by decide) (by decide) ?_
  exact k
 rcases ds with _ | ⟨d0, _ | ⟨d1, _ | ⟨d2, _ | ⟨d3, r⟩⟩⟩⟩
 ·obtain rfl := els0 q1_
  have QS : Fld Z h0 al "java/util/ArrayList" "size" "I" (.int 0) := q5_
  refine Fi.by' (st' := T2.setTop (mkF m 32 #[.val (.ref al), .unset] [(.ref al)])) (fun t k => ?_) ?_
  ·refine XS.aloadN W2.here hx rfl (hb hby d11_31) rfl rfl ?_
   exact k
  refine W2.callF hx (x := y_62) (y := y_52) (C := "java/util/ArrayList") (ww hw 76 rfl) (ww hw 77 rfl) (ww hw 78 rfl) rfl (ww hw 79 rfl) (ww hw 80 rfl) (ww hw 81 rfl) (ww hw 82 rfl) (ww hw 83 rfl) (by decide) (Pay5.of_con (Wd := 0) (rm_ie0 l Z a0 hw al h0 n0 (by omega) QS) (ww hw 84 rfl) (ww hw 34 rfl) (hEL hw) (by decide) (by decide)) q3_ (g := (mkF m 32 #[.val (.ref al), .unset] [(.ref al)])) rfl (by rw [hml]; rfl) (argsL := []) (rest := []) (lenOf pd_2 rfl) rfl rfl (ble_ rfl) (hb hby d11_32) (by decide) (by decide) (fun v3 T3 h3 W3 sz3 q3 => ?_)
  obtain ⟨rfl, rfl⟩ := q3
  change Fi _ _ _ _ _ _ _ _ _ _ (T3.setTop (mkF m 37 #[.val (.ref al), .unset] [(.int 1)]))
  refine Fi.by' (st' := T3.setTop (mkF m 40 #[.val (.ref al), .unset] [])) (fun t k => ?_) ?_
  ·refine XS.ifNo W3.here hx rfl (hb hby d11_37) rfl ((if0 _ _).trans (feq (by decide : ¬ ((1 : Int32) = (0 : Int32)))).1) ?_
   exact k
  refine W3.callS hx (y := y_53) (ww hw 87 rfl) (ww hw 88 rfl) (ww hw 64 rfl) (ww hw 89 rfl) (by decide) (Pay.of_con (Wd := 0) (rm_lo0 l Z a0 hw el h0 n0 (by omega) P1) (ww hw 89 rfl) (ww hw 64 rfl) (hEL hw) (by decide) (by decide)) (g := (mkF m 40 #[.val (.ref al), .unset] [])) rfl (by rw [hml]; rfl) (argsL := []) (rest := []) (lenOf pd_31 rfl) rfl rfl (ble_ rfl) (hb hby d11_40) (by decide) (by decide) (fun v4 T4 h4 W4 sz4 q4 => ?_)
  obtain ⟨rfl, rfl⟩ := q4
  change Fi _ _ _ _ _ _ _ _ _ _ (T4.setTop (mkF m 43 #[.val (.ref al), .unset] [(.ref el)]))
  exact W4.aret hx hlk hret rfl rfl (hb hby d11_43) ⟨el, rfl, (ext_refl h0), [], trivial, ble_ rfl, Or.inl ⟨eb, kb, P2, P3, P4⟩⟩ (by decide) (by decide)
 ·obtain ⟨x0_, rfl, U0, ge0⟩ := els1 q1_
  have QS : Fld Z h0 al "java/util/ArrayList" "size" "I" (.int 1) := q5_
  obtain ⟨-, ea, ke, QF, QA_, QO⟩ := q6_.resolve_left (fun q => by cases q.1)
  have QA : Arv Z h0 ea ke (.object "java/lang/Object") (10 : Int32) [(.ref x0_), .null, .null, .null, .null, .null, .null, .null, .null, .null] .null := QA_
  refine Fi.by' (st' := T2.setTop (mkF m 32 #[.val (.ref al), .unset] [(.ref al)])) (fun t k => ?_) ?_
  ·refine XS.aloadN W2.here hx rfl (hb hby d11_31) rfl rfl ?_
   exact k
  refine W2.callF hx (x := y_62) (y := y_52) (C := "java/util/ArrayList") (ww hw 76 rfl) (ww hw 77 rfl) (ww hw 78 rfl) rfl (ww hw 79 rfl) (ww hw 80 rfl) (ww hw 81 rfl) (ww hw 82 rfl) (ww hw 83 rfl) (by decide) (Pay5.of_con (Wd := 0) (rm_ie1 l Z a0 hw al _ h0 n0 (by omega) QS (by decide)) (ww hw 84 rfl) (ww hw 34 rfl) (hEL hw) (by decide) (by decide)) q3_ (g := (mkF m 32 #[.val (.ref al), .unset] [(.ref al)])) rfl (by rw [hml]; rfl) (argsL := []) (rest := []) (lenOf pd_2 rfl) rfl rfl (ble_ rfl) (hb hby d11_32) (by decide) (by decide) (fun v5 T5 h5 W5 sz5 q5 => ?_)
  obtain ⟨rfl, rfl⟩ := q5
  change Fi _ _ _ _ _ _ _ _ _ _ (T5.setTop (mkF m 37 #[.val (.ref al), .unset] [(.int 0)]))
  refine Fi.by' (st' := T5.setTop (mkF m 45 #[.val (.ref al), .unset] [(.ref al)])) (fun t k => ?_) ?_
  ·refine XS.ifYes W5.here hx rfl (pc0 := 37) (pc' := 44) rfl (hb hby d11_37) rfl ((if0 _ _).trans (teq (by decide : ((0 : Int32) = (0 : Int32)))).1) (by decide) (by decide) ?_
   refine XS.aloadN W5.here hx rfl (hb hby d11_44) rfl rfl ?_
   exact k
  refine W5.callF hx (x := y_63) (y := y_51) (C := "java/util/ArrayList") (ww hw 219 rfl) (ww hw 220 rfl) (ww hw 221 rfl) rfl (ww hw 222 rfl) (ww hw 223 rfl) (ww hw 224 rfl) (ww hw 225 rfl) (ww hw 83 rfl) (by decide) (Pay5.of_con (Wd := 0) (rm_toa1 l Z a0 hw al ea x0_ mr ke h0 n0 (by omega) QF QS QA M0 U0.exa (exa_arv QA QO.2)) (ww hw 226 rfl) (ww hw 34 rfl) (hEL hw) (by decide) (by decide)) q3_ (g := (mkF m 45 #[.val (.ref al), .unset] [(.ref al)])) rfl (by rw [hml]; rfl) (argsL := []) (rest := []) (lenOf pd_21 rfl) rfl rfl (ble_ rfl) (hb hby d11_45) (by decide) (by decide) (fun v6 T6 h6 W6 sz6 q6 => ?_)
  obtain ⟨a6, k6, rfl, E6, g6, V6⟩ := q6
  change Fi _ _ _ _ _ _ _ _ _ _ (T6.setTop (mkF m 50 #[.val (.ref al), .unset] [(.ref a6)]))
  have sz6 := E6.1
  refine W6.callS hx (y := y_61) (ww hw 248 rfl) (ww hw 249 rfl) (ww hw 64 rfl) (ww hw 250 rfl) (by decide) (Pay.of_con (Wd := 0) (rm_lof1 l Z a0 hw a6 x0_ em k6 h6 n0 (by omega) V6 ((U0.ext E6)).exa (Sta.ext E6 M1)) (ww hw 250 rfl) (ww hw 64 rfl) (hEL hw) (by decide) (by decide)) (g := (mkF m 50 #[.val (.ref al), .unset] [(.ref a6)])) rfl (by rw [hml]; rfl) (argsL := [(.ref a6)]) (rest := []) (lenOf pd_30 rfl) rfl rfl (ble_ rfl) (hb hby d11_50) (by decide) (by decide) (fun v7 T7 h7 W7 sz7 q7 => ?_)
  obtain ⟨la, rfl, E7, g7, Y7⟩ := q7
  change Fi _ _ _ _ _ _ _ _ _ _ (T7.setTop (mkF m 53 #[.val (.ref al), .unset] [(.ref la)]))
  have sz7 := E7.1
  have x8 : Ext h0 h7 := ext_trans E6 E7
  exact W7.aret hx hlk hret rfl rfl (hb hby d11_53) ⟨la, rfl, x8, [x0_], ⟨⟨(U0.ext x8), ge0⟩, trivial⟩, ble_ rfl, Or.inr (Or.inl ⟨x0_, em, rfl, Y7.1, Y7.2.1, Y7.2.2, (Sta.ext x8 M1)⟩)⟩ (by decide) (by decide)
 ·obtain ⟨x0_, x1_, rfl, U0, ge0, U1, ge1⟩ := els2 q1_
  have QS : Fld Z h0 al "java/util/ArrayList" "size" "I" (.int 2) := q5_
  obtain ⟨-, ea, ke, QF, QA_, QO⟩ := q6_.resolve_left (fun q => by cases q.1)
  have QA : Arv Z h0 ea ke (.object "java/lang/Object") (10 : Int32) [(.ref x0_), (.ref x1_), .null, .null, .null, .null, .null, .null, .null, .null] .null := QA_
  refine Fi.by' (st' := T2.setTop (mkF m 32 #[.val (.ref al), .unset] [(.ref al)])) (fun t k => ?_) ?_
  ·refine XS.aloadN W2.here hx rfl (hb hby d11_31) rfl rfl ?_
   exact k
  refine W2.callF hx (x := y_62) (y := y_52) (C := "java/util/ArrayList") (ww hw 76 rfl) (ww hw 77 rfl) (ww hw 78 rfl) rfl (ww hw 79 rfl) (ww hw 80 rfl) (ww hw 81 rfl) (ww hw 82 rfl) (ww hw 83 rfl) (by decide) (Pay5.of_con (Wd := 0) (rm_ie1 l Z a0 hw al _ h0 n0 (by omega) QS (by decide)) (ww hw 84 rfl) (ww hw 34 rfl) (hEL hw) (by decide) (by decide)) q3_ (g := (mkF m 32 #[.val (.ref al), .unset] [(.ref al)])) rfl (by rw [hml]; rfl) (argsL := []) (rest := []) (lenOf pd_2 rfl) rfl rfl (ble_ rfl) (hb hby d11_32) (by decide) (by decide) (fun v9 T9 h9 W9 sz9 q9 => ?_)
  obtain ⟨rfl, rfl⟩ := q9
  change Fi _ _ _ _ _ _ _ _ _ _ (T9.setTop (mkF m 37 #[.val (.ref al), .unset] [(.int 0)]))
  refine Fi.by' (st' := T9.setTop (mkF m 45 #[.val (.ref al), .unset] [(.ref al)])) (fun t k => ?_) ?_
  ·refine XS.ifYes W9.here hx rfl (pc0 := 37) (pc' := 44) rfl (hb hby d11_37) rfl ((if0 _ _).trans (teq (by decide : ((0 : Int32) = (0 : Int32)))).1) (by decide) (by decide) ?_
   refine XS.aloadN W9.here hx rfl (hb hby d11_44) rfl rfl ?_
   exact k
  refine W9.callF hx (x := y_63) (y := y_51) (C := "java/util/ArrayList") (ww hw 219 rfl) (ww hw 220 rfl) (ww hw 221 rfl) rfl (ww hw 222 rfl) (ww hw 223 rfl) (ww hw 224 rfl) (ww hw 225 rfl) (ww hw 83 rfl) (by decide) (Pay5.of_con (Wd := 0) (rm_toa2 l Z a0 hw al ea x0_ x1_ mr ke h0 n0 (by omega) QF QS QA M0 U0.exa U1.exa (exa_arv QA QO.2)) (ww hw 226 rfl) (ww hw 34 rfl) (hEL hw) (by decide) (by decide)) q3_ (g := (mkF m 45 #[.val (.ref al), .unset] [(.ref al)])) rfl (by rw [hml]; rfl) (argsL := []) (rest := []) (lenOf pd_21 rfl) rfl rfl (ble_ rfl) (hb hby d11_45) (by decide) (by decide) (fun v10 T10 h10 W10 sz10 q10 => ?_)
  obtain ⟨a10, k10, rfl, E10, g10, V10⟩ := q10
  change Fi _ _ _ _ _ _ _ _ _ _ (T10.setTop (mkF m 50 #[.val (.ref al), .unset] [(.ref a10)]))
  have sz10 := E10.1
  refine W10.callS hx (y := y_61) (ww hw 248 rfl) (ww hw 249 rfl) (ww hw 64 rfl) (ww hw 250 rfl) (by decide) (Pay.of_con (Wd := 0) (rm_lof2 l Z a0 hw a10 x0_ x1_ em k10 h10 n0 (by omega) V10 ((U0.ext E10)).exa ((U1.ext E10)).exa (Sta.ext E10 M1)) (ww hw 250 rfl) (ww hw 64 rfl) (hEL hw) (by decide) (by decide)) (g := (mkF m 50 #[.val (.ref al), .unset] [(.ref a10)])) rfl (by rw [hml]; rfl) (argsL := [(.ref a10)]) (rest := []) (lenOf pd_30 rfl) rfl rfl (ble_ rfl) (hb hby d11_50) (by decide) (by decide) (fun v11 T11 h11 W11 sz11 q11 => ?_)
  obtain ⟨la, rfl, E11, g11, Y11⟩ := q11
  change Fi _ _ _ _ _ _ _ _ _ _ (T11.setTop (mkF m 53 #[.val (.ref al), .unset] [(.ref la)]))
  have sz11 := E11.1
  have x12 : Ext h0 h11 := ext_trans E10 E11
  exact W11.aret hx hlk hret rfl rfl (hb hby d11_53) ⟨la, rfl, x12, [x0_, x1_], ⟨⟨(U0.ext x12), ge0⟩, ⟨⟨(U1.ext x12), ge1⟩, trivial⟩⟩, ble_ rfl, Or.inr (Or.inr ⟨x0_, x1_, em, rfl, Y11.1, Y11.2.1, Y11.2.2, (Sta.ext x12 M1), Exa.ne U1.exa P5 (by decide)⟩)⟩ (by decide) (by decide)
 ·obtain ⟨x0_, x1_, x2_, rfl, U0, ge0, U1, ge1, U2, ge2⟩ := els3 q1_
  have QS : Fld Z h0 al "java/util/ArrayList" "size" "I" (.int 3) := q5_
  obtain ⟨-, ea, ke, QF, QA_, QO⟩ := q6_.resolve_left (fun q => by cases q.1)
  have QA : Arv Z h0 ea ke (.object "java/lang/Object") (10 : Int32) [(.ref x0_), (.ref x1_), (.ref x2_), .null, .null, .null, .null, .null, .null, .null] .null := QA_
  refine Fi.by' (st' := T2.setTop (mkF m 32 #[.val (.ref al), .unset] [(.ref al)])) (fun t k => ?_) ?_
  ·refine XS.aloadN W2.here hx rfl (hb hby d11_31) rfl rfl ?_
   exact k
  refine W2.callF hx (x := y_62) (y := y_52) (C := "java/util/ArrayList") (ww hw 76 rfl) (ww hw 77 rfl) (ww hw 78 rfl) rfl (ww hw 79 rfl) (ww hw 80 rfl) (ww hw 81 rfl) (ww hw 82 rfl) (ww hw 83 rfl) (by decide) (Pay5.of_con (Wd := 0) (rm_ie1 l Z a0 hw al _ h0 n0 (by omega) QS (by decide)) (ww hw 84 rfl) (ww hw 34 rfl) (hEL hw) (by decide) (by decide)) q3_ (g := (mkF m 32 #[.val (.ref al), .unset] [(.ref al)])) rfl (by rw [hml]; rfl) (argsL := []) (rest := []) (lenOf pd_2 rfl) rfl rfl (ble_ rfl) (hb hby d11_32) (by decide) (by decide) (fun v13 T13 h13 W13 sz13 q13 => ?_)
  obtain ⟨rfl, rfl⟩ := q13
  change Fi _ _ _ _ _ _ _ _ _ _ (T13.setTop (mkF m 37 #[.val (.ref al), .unset] [(.int 0)]))
  refine Fi.by' (st' := T13.setTop (mkF m 45 #[.val (.ref al), .unset] [(.ref al)])) (fun t k => ?_) ?_
  ·refine XS.ifYes W13.here hx rfl (pc0 := 37) (pc' := 44) rfl (hb hby d11_37) rfl ((if0 _ _).trans (teq (by decide : ((0 : Int32) = (0 : Int32)))).1) (by decide) (by decide) ?_
   refine XS.aloadN W13.here hx rfl (hb hby d11_44) rfl rfl ?_
   exact k
  refine W13.callF hx (x := y_63) (y := y_51) (C := "java/util/ArrayList") (ww hw 219 rfl) (ww hw 220 rfl) (ww hw 221 rfl) rfl (ww hw 222 rfl) (ww hw 223 rfl) (ww hw 224 rfl) (ww hw 225 rfl) (ww hw 83 rfl) (by decide) (Pay5.of_con (Wd := 0) (rm_toa3 l Z a0 hw al ea x0_ x1_ x2_ mr ke h0 n0 (by omega) QF QS QA M0 U0.exa U1.exa U2.exa (exa_arv QA QO.2)) (ww hw 226 rfl) (ww hw 34 rfl) (hEL hw) (by decide) (by decide)) q3_ (g := (mkF m 45 #[.val (.ref al), .unset] [(.ref al)])) rfl (by rw [hml]; rfl) (argsL := []) (rest := []) (lenOf pd_21 rfl) rfl rfl (ble_ rfl) (hb hby d11_45) (by decide) (by decide) (fun v14 T14 h14 W14 sz14 q14 => ?_)
  obtain ⟨a14, k14, rfl, E14, g14, V14⟩ := q14
  change Fi _ _ _ _ _ _ _ _ _ _ (T14.setTop (mkF m 50 #[.val (.ref al), .unset] [(.ref a14)]))
  have sz14 := E14.1
  refine W14.callS hx (y := y_61) (ww hw 248 rfl) (ww hw 249 rfl) (ww hw 64 rfl) (ww hw 250 rfl) (by decide) (Pay.of_con (Wd := 0) (rm_lof3 l Z a0 hw a14 x0_ x1_ x2_ em k14 h14 n0 (by omega) V14 ((U0.ext E14)).exa ((U1.ext E14)).exa ((U2.ext E14)).exa (Sta.ext E14 M1)) (ww hw 250 rfl) (ww hw 64 rfl) (hEL hw) (by decide) (by decide)) (g := (mkF m 50 #[.val (.ref al), .unset] [(.ref a14)])) rfl (by rw [hml]; rfl) (argsL := [(.ref a14)]) (rest := []) (lenOf pd_30 rfl) rfl rfl (ble_ rfl) (hb hby d11_50) (by decide) (by decide) (fun v15 T15 h15 W15 sz15 q15 => ?_)
  obtain ⟨la, rfl, E15, g15, Y15⟩ := q15
  change Fi _ _ _ _ _ _ _ _ _ _ (T15.setTop (mkF m 53 #[.val (.ref al), .unset] [(.ref la)]))
  have sz15 := E15.1
  have x16 : Ext h0 h15 := ext_trans E14 E15
  exact W15.aret hx hlk hret rfl rfl (hb hby d11_53) ⟨la, rfl, x16, [x0_, x1_, x2_], ⟨⟨(U0.ext x16), ge0⟩, ⟨⟨(U1.ext x16), ge1⟩, ⟨⟨(U2.ext x16), ge2⟩, trivial⟩⟩⟩, ble_ rfl, Or.inl (by obtain ⟨y1, na, kn, y2, y3⟩ := Y15; exact ⟨na, kn, y1, y2, y3⟩)⟩ (by decide) (by decide)
 ·exact absurd q2_ (by simp)
def Q_cof (Z : State) (al dc el em eb mr : Addr) (kb : ClassId) (m0 : Nat) (ds : List Int32) (h0 : Heap) (v : Option Value) (h : Heap) : Prop := ∃ la : Addr, v = some (.ref la) ∧ Ext h0 h ∧ IL Z h m0 la ds
theorem rm_cof (l : Launch) (Z : State) (a0 : Array Value) (hw : ∀ d ∈ tables_1, d.before a0 Z = true) (al dc el em eb mr : Addr) (kb : ClassId) (m0 : Nat) (ds : List Int32) (h0 : Heap) (n0 : Nat) (Z0 : n0 ≤ h0.size) (L0 : AS Z h0 m0 dc al ds) (P1 : Sta Z h0 "java/util/ImmutableCollections" "EMPTY_LIST" "Ljava/util/ImmutableCollections$ListN;" (.ref el)) (P2 : Exa Z h0 el "java/util/ImmutableCollections$ListN") (P3 : Fld Z h0 el "java/util/ImmutableCollections$ListN" "elements" "[Ljava/lang/Object;" (.ref eb)) (P4 : Arv Z h0 eb kb (.object "java/lang/Object") (0 : Int32) [] .null) (M1 : Sta Z h0 "java/util/ImmutableCollections" "EMPTY" "Ljava/lang/Object;" (.ref em)) (P5 : Exa Z h0 em "java/lang/Object") (M0 : Mir Z "[Ljava/lang/Object;" mr) :
  Con l Z EL y_65 jdk_40_method_48_code 1 (some (.object "java/util/List")) [] ({ frames := 8, cells := 3, slots := 8, locals := 103 } : Room) #[(.ref al)] h0 n0 (Q_cof Z al dc el em eb mr kb m0 ds h0) := by
 refine Con.intro (own := "java/util/List") rfl (plainFor_of_name plain_java_util_List) (hEL hw) ?_
 intro p e s m below meth c s₁ hx hby hml hret hlk hnm W0
 refine Fi.cast (show entryFrame m #[(.ref al)] 1 = (mkF m 0 #[.val (.ref al)] []) from by first | (simp [entryFrame, mkF, argsToLocals, Value.category]; done) | rfl) ?_
 refine Fi.by' (st' := s₁.setTop (mkF m 1 #[.val (.ref al)] [(.ref al)])) (fun t k => ?_) ?_
 ·refine XS.aloadN W0.here hx rfl (hb hby d10_0) rfl rfl ?_
  exact k
 refine W0.callS hx (y := y_64) (ww hw 66 rfl) (ww hw 67 rfl) (ww hw 68 rfl) (ww hw 69 rfl) (by decide) (Pay.of_con (Wd := 0) (rm_lcp l Z a0 hw al dc el em eb mr kb m0 ds h0 n0 (by omega) L0 P1 P2 P3 P4 M1 P5 M0) (ww hw 69 rfl) (ww hw 68 rfl) (hEL hw) (by decide) (by decide)) (g := (mkF m 1 #[.val (.ref al)] [(.ref al)])) rfl (by rw [hml]; rfl) (argsL := [(.ref al)]) (rest := []) (lenOf pd_32 rfl) rfl rfl (ble_ rfl) (hb hby d10_1) (by decide) (by decide) (fun v1 T1 h1 W1 sz1 q1 => ?_)
 obtain ⟨la, rfl, E1, I1⟩ := q1
 change Fi _ _ _ _ _ _ _ _ _ _ (T1.setTop (mkF m 4 #[.val (.ref al)] [(.ref la)]))
 exact W1.aret hx hlk hret rfl rfl (hb hby d10_4) ⟨la, rfl, E1, I1⟩ (by decide) (by decide)
def Q_svi (Z : State) (sx nx al bl dc el em eb mr : Addr) (kb : ClassId) (m0 : Nat) (cs ds es : List Int32) (h0 : Heap) (v : Option Value) (h : Heap) : Prop := v = none ∧ Keep h0 h [sx] ∧ ∃ la lb : Addr, Exa Z h sx "com/example/weftwork/weftwork/model/Service" ∧ Fld Z h sx "com/example/weftwork/weftwork/model/Service" "name" "Ljava/lang/String;" (.ref nx) ∧ Fld Z h sx "com/example/weftwork/weftwork/model/Service" "inputs" "Ljava/util/List;" (.ref la) ∧ Fld Z h sx "com/example/weftwork/weftwork/model/Service" "outputs" "Ljava/util/List;" (.ref lb) ∧ StrH Z h nx cs ∧ IL Z h m0 la ds ∧ IL Z h m0 lb es
theorem rm_svi (l : Launch) (Z : State) (a0 : Array Value) (hw : ∀ d ∈ tables_1, d.before a0 Z = true) (sx nx al bl dc el em eb mr : Addr) (kb : ClassId) (m0 : Nat) (cs ds es : List Int32) (h0 : Heap) (n0 : Nat) (Z0 : n0 ≤ h0.size) (g0 : n0 ≤ sx) (A0 : Exa Z h0 sx "com/example/weftwork/weftwork/model/Service") (F0_name : Fld Z h0 sx "com/example/weftwork/weftwork/model/Service" "name" "Ljava/lang/String;" .null) (F0_inputs : Fld Z h0 sx "com/example/weftwork/weftwork/model/Service" "inputs" "Ljava/util/List;" .null) (F0_outputs : Fld Z h0 sx "com/example/weftwork/weftwork/model/Service" "outputs" "Ljava/util/List;" .null) (U0 : StrH Z h0 nx cs) (L1 : AS Z h0 m0 dc al ds) (L2 : AS Z h0 m0 dc bl es) (P1 : Sta Z h0 "java/util/ImmutableCollections" "EMPTY_LIST" "Ljava/util/ImmutableCollections$ListN;" (.ref el)) (P2 : Exa Z h0 el "java/util/ImmutableCollections$ListN") (P3 : Fld Z h0 el "java/util/ImmutableCollections$ListN" "elements" "[Ljava/lang/Object;" (.ref eb)) (P4 : Arv Z h0 eb kb (.object "java/lang/Object") (0 : Int32) [] .null) (M1 : Sta Z h0 "java/util/ImmutableCollections" "EMPTY" "Ljava/lang/Object;" (.ref em)) (P5 : Exa Z h0 em "java/lang/Object") (M0 : Mir Z "[Ljava/lang/Object;" mr) :
  Con l Z EL y_66 prog_28_method_1_code 4 none [] ({ frames := 9, cells := 6, slots := 16, locals := 116 } : Room) #[(.ref sx), (.ref nx), (.ref al), (.ref bl)] h0 n0 (Q_svi Z sx nx al bl dc el em eb mr kb m0 cs ds es h0) := by
 refine Con.intro (own := "com/example/weftwork/weftwork/model/Service") rfl (plainFor_of_name plain_com_example_weftwork_weftwork_model_Service) (hEL hw) ?_
 intro p e s m below meth c s₁ hx hby hml hret hlk hnm W0
 refine Fi.cast (show entryFrame m #[(.ref sx), (.ref nx), (.ref al), (.ref bl)] 4 = (mkF m 0 #[.val (.ref sx), .val (.ref nx), .val (.ref al), .val (.ref bl)] []) from by first | (simp [entryFrame, mkF, argsToLocals, Value.category]; done) | rfl) ?_
 refine Fi.by' (st' := s₁.setTop (mkF m 1 #[.val (.ref sx), .val (.ref nx), .val (.ref al), .val (.ref bl)] [(.ref sx)])) (fun t k => ?_) ?_
 ·refine XS.aloadN W0.here hx rfl (hb hby d9_0) rfl rfl ?_
  exact k
 refine W0.initO hx (ww hw 59 rfl) (ww hw 19 rfl) (ww hw 20 rfl) (g := (mkF m 1 #[.val (.ref sx), .val (.ref nx), .val (.ref al), .val (.ref bl)] [(.ref sx)])) rfl (by rw [hml]; rfl) rfl (hb hby d9_1) (by decide) (Wd := 0) (ble_ rfl) (by decide) (fun T1 W1 => ?_)
 change Fi _ _ _ _ _ _ _ _ _ _ (T1.setTop (mkF m 4 #[.val (.ref sx), .val (.ref nx), .val (.ref al), .val (.ref bl)] []))
 refine Fi.by' (st' := T1.setTop (mkF m 6 #[.val (.ref sx), .val (.ref nx), .val (.ref al), .val (.ref bl)] [(.ref nx), (.ref sx)])) (fun t k => ?_) ?_
 ·refine XS.aloadN W1.here hx rfl (hb hby d9_4) rfl rfl ?_
  refine XS.aloadN W1.here hx rfl (hb hby d9_5) rfl rfl ?_
  exact k
 refine W1.putF hx (ww hw 60 rfl) F0_name A0 (Or.inr ⟨(ww hw 61 rfl), rfl, hnm⟩) (ww hw 1 rfl) (ty := (.object "java/lang/String")) (by decide) rfl rfl (g := (mkF m 6 #[.val (.ref sx), .val (.ref nx), .val (.ref al), .val (.ref bl)] [(.ref nx), (.ref sx)])) rfl rfl (hb hby d9_6) g0 (safe_exa A0 (by decide) (by decide)) (fun T2 h2 W2 R2 => ?_)
 change Fi _ _ _ _ _ _ _ _ _ _ (T2.setTop (mkF m 9 #[.val (.ref sx), .val (.ref nx), .val (.ref al), .val (.ref bl)] []))
 have K2 := (Keep.refl h0 [sx]).wr R2 (Or.inl (List.mem_singleton.mpr rfl))
 have A2 := Exa.wr R2 A0
 have F2_name := Fld.same R2 F0_name
 have F2_inputs := Fld.other R2 F0_inputs (Or.inr (slot_ne (Or.inr (ww hw 92 rfl)) (Or.inr (ww hw 61 rfl)) (by decide) (t := (.object "java/util/List")) (t' := (.object "java/lang/String")) (by decide) (by decide)))
 have F2_outputs := Fld.other R2 F0_outputs (Or.inr (slot_ne (Or.inr (ww hw 94 rfl)) (Or.inr (ww hw 61 rfl)) (by decide) (t := (.object "java/util/List")) (t' := (.object "java/lang/String")) (by decide) (by decide)))
 have sz2 := R2.size
 have kw2 := Keep.of_wr R2
 have f2_0 := Sta.wr R2 P1
 have f2_1 := Exa.wr R2 P2
 have f2_2 := Fld.other R2 P3 (Or.inl (Exa.ne P2 A0 (by decide)))
 have f2_3 := Arv.other P4 R2 (Ne.symm (Exa.neArv A0 P4 (ww hw 1 rfl)))
 have f2_4 := Sta.wr R2 M1
 have f2_5 := Exa.wr R2 P5
 have f2_6 := StrH.keep U0 kw2 A0 (by decide) (ww hw 1 rfl)
 have f2_7 := AS.keep L1 kw2 A0 (by decide) (by decide) (ww hw 1 rfl)
 have f2_8 := AS.keep L2 kw2 A0 (by decide) (by decide) (ww hw 1 rfl)
 refine Fi.by' (st' := T2.setTop (mkF m 11 #[.val (.ref sx), .val (.ref nx), .val (.ref al), .val (.ref bl)] [(.ref al), (.ref sx)])) (fun t k => ?_) ?_
 ·refine XS.aloadN W2.here hx rfl (hb hby d9_9) rfl rfl ?_
  refine XS.aloadN W2.here hx rfl (hb hby d9_10) rfl rfl ?_
  exact k
 refine W2.callS hx (y := y_65) (ww hw 62 rfl) (ww hw 63 rfl) (ww hw 64 rfl) (ww hw 65 rfl) (by decide) (Pay.of_con (Wd := 1) (rm_cof l Z a0 hw al dc el em eb mr kb m0 ds h2 n0 (by omega) f2_7 f2_0 f2_1 f2_2 f2_3 f2_4 f2_5 M0) (ww hw 65 rfl) (ww hw 64 rfl) (hEL hw) (by decide) (by decide)) (g := (mkF m 11 #[.val (.ref sx), .val (.ref nx), .val (.ref al), .val (.ref bl)] [(.ref al), (.ref sx)])) rfl (by rw [hml]; rfl) (argsL := [(.ref al)]) (rest := [(.ref sx)]) (lenOf pd_32 rfl) rfl rfl (ble_ rfl) (hb hby d9_11) (by decide) (by decide) (fun v3 T3 h3 W3 sz3 q3 => ?_)
 obtain ⟨la3, rfl, E3, I3⟩ := q3
 change Fi _ _ _ _ _ _ _ _ _ _ (T3.setTop (mkF m 14 #[.val (.ref sx), .val (.ref nx), .val (.ref al), .val (.ref bl)] [(.ref la3), (.ref sx)]))
 have sz3 := E3.1
 refine W3.putF hx (ww hw 91 rfl) (Fld.ext E3 F2_inputs) (Exa.ext E3 A2) (Or.inr ⟨(ww hw 92 rfl), rfl, hnm⟩) (ww hw 1 rfl) (ty := (.object "java/util/List")) (by decide) rfl rfl (g := (mkF m 14 #[.val (.ref sx), .val (.ref nx), .val (.ref al), .val (.ref bl)] [(.ref la3), (.ref sx)])) rfl rfl (hb hby d9_14) g0 (safe_exa (Exa.ext E3 A2) (by decide) (by decide)) (fun T4 h4 W4 R4 => ?_)
 change Fi _ _ _ _ _ _ _ _ _ _ (T4.setTop (mkF m 17 #[.val (.ref sx), .val (.ref nx), .val (.ref al), .val (.ref bl)] []))
 have K4 := (K2.ext E3).wr R4 (Or.inl (List.mem_singleton.mpr rfl))
 have A4 := Exa.wr R4 (Exa.ext E3 A2)
 have F4_name := Fld.other R4 (Fld.ext E3 F2_name) (Or.inr (slot_ne (Or.inr (ww hw 61 rfl)) (Or.inr (ww hw 92 rfl)) (by decide) (t := (.object "java/lang/String")) (t' := (.object "java/util/List")) (by decide) (by decide)))
 have F4_inputs := Fld.same R4 (Fld.ext E3 F2_inputs)
 have F4_outputs := Fld.other R4 (Fld.ext E3 F2_outputs) (Or.inr (slot_ne (Or.inr (ww hw 94 rfl)) (Or.inr (ww hw 92 rfl)) (by decide) (t := (.object "java/util/List")) (t' := (.object "java/util/List")) (by decide) (by decide)))
 have sz4 := R4.size
 have kw4 := Keep.of_wr R4
 have f4_0 := Sta.wr R4 (Sta.ext E3 f2_0)
 have f4_1 := Exa.wr R4 (Exa.ext E3 f2_1)
 have f4_2 := Fld.other R4 (Fld.ext E3 f2_2) (Or.inl (Exa.ne (Exa.ext E3 f2_1) (Exa.ext E3 A2) (by decide)))
 have f4_3 := Arv.other (f2_3.ext E3) R4 (Ne.symm (Exa.neArv (Exa.ext E3 A2) (f2_3.ext E3) (ww hw 1 rfl)))
 have f4_4 := Sta.wr R4 (Sta.ext E3 f2_4)
 have f4_5 := Exa.wr R4 (Exa.ext E3 f2_5)
 have f4_6 := StrH.keep (f2_6.ext E3) kw4 (Exa.ext E3 A2) (by decide) (ww hw 1 rfl)
 have f4_7 := AS.keep (f2_7.ext E3) kw4 (Exa.ext E3 A2) (by decide) (by decide) (ww hw 1 rfl)
 have f4_8 := AS.keep (f2_8.ext E3) kw4 (Exa.ext E3 A2) (by decide) (by decide) (ww hw 1 rfl)
 have f4_9 := IL.keep I3 kw4 (Exa.ext E3 A2) (by decide) (by decide) (by decide) (ww hw 1 rfl)
 refine Fi.by' (st' := T4.setTop (mkF m 19 #[.val (.ref sx), .val (.ref nx), .val (.ref al), .val (.ref bl)] [(.ref bl), (.ref sx)])) (fun t k => ?_) ?_
 ·refine XS.aloadN W4.here hx rfl (hb hby d9_17) rfl rfl ?_
  refine XS.aloadN W4.here hx rfl (hb hby d9_18) rfl rfl ?_
  exact k
 refine W4.callS hx (y := y_65) (ww hw 62 rfl) (ww hw 63 rfl) (ww hw 64 rfl) (ww hw 65 rfl) (by decide) (Pay.of_con (Wd := 1) (rm_cof l Z a0 hw bl dc el em eb mr kb m0 es h4 n0 (by omega) f4_8 f4_0 f4_1 f4_2 f4_3 f4_4 f4_5 M0) (ww hw 65 rfl) (ww hw 64 rfl) (hEL hw) (by decide) (by decide)) (g := (mkF m 19 #[.val (.ref sx), .val (.ref nx), .val (.ref al), .val (.ref bl)] [(.ref bl), (.ref sx)])) rfl (by rw [hml]; rfl) (argsL := [(.ref bl)]) (rest := [(.ref sx)]) (lenOf pd_32 rfl) rfl rfl (ble_ rfl) (hb hby d9_19) (by decide) (by decide) (fun v5 T5 h5 W5 sz5 q5 => ?_)
 obtain ⟨la5, rfl, E5, I5⟩ := q5
 change Fi _ _ _ _ _ _ _ _ _ _ (T5.setTop (mkF m 22 #[.val (.ref sx), .val (.ref nx), .val (.ref al), .val (.ref bl)] [(.ref la5), (.ref sx)]))
 have sz5 := E5.1
 refine W5.putF hx (ww hw 93 rfl) (Fld.ext E5 F4_outputs) (Exa.ext E5 A4) (Or.inr ⟨(ww hw 94 rfl), rfl, hnm⟩) (ww hw 1 rfl) (ty := (.object "java/util/List")) (by decide) rfl rfl (g := (mkF m 22 #[.val (.ref sx), .val (.ref nx), .val (.ref al), .val (.ref bl)] [(.ref la5), (.ref sx)])) rfl rfl (hb hby d9_22) g0 (safe_exa (Exa.ext E5 A4) (by decide) (by decide)) (fun T6 h6 W6 R6 => ?_)
 change Fi _ _ _ _ _ _ _ _ _ _ (T6.setTop (mkF m 25 #[.val (.ref sx), .val (.ref nx), .val (.ref al), .val (.ref bl)] []))
 have K6 := (K4.ext E5).wr R6 (Or.inl (List.mem_singleton.mpr rfl))
 have A6 := Exa.wr R6 (Exa.ext E5 A4)
 have F6_name := Fld.other R6 (Fld.ext E5 F4_name) (Or.inr (slot_ne (Or.inr (ww hw 61 rfl)) (Or.inr (ww hw 94 rfl)) (by decide) (t := (.object "java/lang/String")) (t' := (.object "java/util/List")) (by decide) (by decide)))
 have F6_inputs := Fld.other R6 (Fld.ext E5 F4_inputs) (Or.inr (slot_ne (Or.inr (ww hw 92 rfl)) (Or.inr (ww hw 94 rfl)) (by decide) (t := (.object "java/util/List")) (t' := (.object "java/util/List")) (by decide) (by decide)))
 have F6_outputs := Fld.same R6 (Fld.ext E5 F4_outputs)
 have sz6 := R6.size
 have kw6 := Keep.of_wr R6
 have f6_0 := Sta.wr R6 (Sta.ext E5 f4_0)
 have f6_1 := Exa.wr R6 (Exa.ext E5 f4_1)
 have f6_2 := Fld.other R6 (Fld.ext E5 f4_2) (Or.inl (Exa.ne (Exa.ext E5 f4_1) (Exa.ext E5 A4) (by decide)))
 have f6_3 := Arv.other (f4_3.ext E5) R6 (Ne.symm (Exa.neArv (Exa.ext E5 A4) (f4_3.ext E5) (ww hw 1 rfl)))
 have f6_4 := Sta.wr R6 (Sta.ext E5 f4_4)
 have f6_5 := Exa.wr R6 (Exa.ext E5 f4_5)
 have f6_6 := StrH.keep (f4_6.ext E5) kw6 (Exa.ext E5 A4) (by decide) (ww hw 1 rfl)
 have f6_7 := AS.keep (f4_7.ext E5) kw6 (Exa.ext E5 A4) (by decide) (by decide) (ww hw 1 rfl)
 have f6_8 := AS.keep (f4_8.ext E5) kw6 (Exa.ext E5 A4) (by decide) (by decide) (ww hw 1 rfl)
 have f6_9 := IL.keep (f4_9.ext E5) kw6 (Exa.ext E5 A4) (by decide) (by decide) (by decide) (ww hw 1 rfl)
 have f6_10 := IL.keep I5 kw6 (Exa.ext E5 A4) (by decide) (by decide) (by decide) (ww hw 1 rfl)
 exact W6.vret hx hlk hret (hb hby d9_25) ⟨rfl, K6, la3, la5, A6, F6_name, F6_inputs, F6_outputs, f6_6, f6_9, f6_10⟩ (by decide) (by decide)
theorem and3 (x : Int32) : x &&& 3 = 0 ∨ x &&& 3 = 1 ∨ x &&& 3 = 2 ∨ x &&& 3 = 3 := by
 have h : (x &&& 3).toBitVec.toNat < 4 := by
  simp only [Int32.toBitVec_and, BitVec.toNat_and]
  exact Nat.lt_succ_of_le Nat.and_le_right
 have e : ∀ z : Int32, z.toBitVec.toNat < 4 → z = 0 ∨ z = 1 ∨ z = 2 ∨ z = 3 := fun z hz => by
  have e2 : z = Int32.ofNat z.toBitVec.toNat := by
   apply Int32.toBitVec_inj.mp
   apply BitVec.eq_of_toNat_eq
   simp
  have h4 : z.toBitVec.toNat = 0 ∨ z.toBitVec.toNat = 1 ∨ z.toBitVec.toNat = 2 ∨ z.toBitVec.toNat = 3 := by omega
  rcases h4 with q | q | q | q
  ·exact Or.inl (by rw [e2, q]; rfl)
  ·exact Or.inr (Or.inl (by rw [e2, q]; rfl))
  ·exact Or.inr (Or.inr (Or.inl (by rw [e2, q]; rfl)))
  ·exact Or.inr (Or.inr (Or.inr (by rw [e2, q]; rfl)))
 exact e _ h
def Q_law (Z : State) (p0 p1 p2 p3 p4 zc : Int32) (dc el em eb mr : Addr) (kd kb : ClassId) (h0 : Heap) (v : Option Value) (h : Heap) : Prop := v = some (.int 1)
theorem rm_law (l : Launch) (Z : State) (a0 : Array Value) (hw : ∀ d ∈ tables_1, d.before a0 Z = true) (p0 p1 p2 p3 p4 zc : Int32) (dc el em eb mr : Addr) (kd kb : ClassId) (h0 : Heap) (n0 : Nat) (Z0 : n0 ≤ h0.size) (S0 : Sta Z h0 "java/lang/String" "COMPACT_STRINGS" "Z" (.int zc)) (hz : ¬ zc = 0) (D0 : Sta Z h0 "java/util/ArrayList" "DEFAULTCAPACITY_EMPTY_ELEMENTDATA" "[Ljava/lang/Object;" (.ref dc)) (B0 : Arv Z h0 dc kd (.object "java/lang/Object") (0 : Int32) [] .null) (P1 : Sta Z h0 "java/util/ImmutableCollections" "EMPTY_LIST" "Ljava/util/ImmutableCollections$ListN;" (.ref el)) (P2 : Exa Z h0 el "java/util/ImmutableCollections$ListN") (P3 : Fld Z h0 el "java/util/ImmutableCollections$ListN" "elements" "[Ljava/lang/Object;" (.ref eb)) (P4 : Arv Z h0 eb kb (.object "java/lang/Object") (0 : Int32) [] .null) (M1 : Sta Z h0 "java/util/ImmutableCollections" "EMPTY" "Ljava/lang/Object;" (.ref em)) (P5 : Exa Z h0 em "java/lang/Object") (M0 : Mir Z "[Ljava/lang/Object;" mr) :
  ConE l Z EL EN x code maxLocals ret tables_1 room_1 #[(.int p0), (.int p1), (.int p2), (.int p3), (.int p4)] h0 n0 (Q_law Z p0 p1 p2 p3 p4 zc dc el em eb mr kd kb h0) := by
 refine ConE.intro (own := "com/example/weftwork/weftwork/model/ServiceHashCodePinLaw") rfl (plainFor_of_name plain_com_example_weftwork_weftwork_model_ServiceHashCodePinLaw) (hEL hw) ?_
 intro p e s m below meth c s₁ hx hby hml hret hlk hnm W0
 refine Fi.cast (show entryFrame m #[(.int p0), (.int p1), (.int p2), (.int p3), (.int p4)] maxLocals = (mkF m 0 #[.val (.int p0), .val (.int p1), .val (.int p2), .val (.int p3), .val (.int p4), .unset, .unset, .unset, .unset, .unset, .unset, .unset, .unset, .unset, .unset] []) from by first | (simp [entryFrame, mkF, argsToLocals, Value.category, maxLocals]; done) | rfl) ?_
 refine Fi.by' (st' := s₁.setTop (mkF m 9 #[.val (.int p0), .val (.int p1), .val (.int p2), .val (.int p3), .val (.int p4), .val (.int (p4 &&& (3 : Int32))), .unset, .unset, .unset, .unset, .unset, .unset, .unset, .unset, .unset] [(.int 3), (.int (p4 &&& (3 : Int32)))])) (fun t k => ?_) ?_
 ·refine XS.iload W0.here hx rfl (hb hby at_0) rfl ?_
  refine iconstZ W0.here hx rfl (hb hby at_2) (z := (3 : Int32)) rfl ?_
  refine XS.iand W0.here hx rfl (hb hby at_3) rfl ?_
  refine XS.istore W0.here hx rfl (hb hby at_4) rfl (l' := #[.val (.int p0), .val (.int p1), .val (.int p2), .val (.int p3), .val (.int p4), .val (.int (p4 &&& (3 : Int32))), .unset, .unset, .unset, .unset, .unset, .unset, .unset, .unset, .unset]) rfl ?_
  refine XS.iload W0.here hx rfl (hb hby at_6) rfl ?_
  refine iconstZ W0.here hx rfl (hb hby at_8) (z := (3 : Int32)) rfl ?_
  exact k
 have J9_2 : ∀ (v1 : Int32), ((((p4 &&& (3 : Int32)) = (3 : Int32)) ∧ (v1 = (2 : Int32))) ∨ ((¬ ((p4 &&& (3 : Int32)) = (3 : Int32))) ∧ (v1 = (p4 &&& (3 : Int32))))) → Fi p e below s Z EN n0 (Q_law Z p0 p1 p2 p3 p4 zc dc el em eb mr kd kb h0) room_1.cells room_1.slots (s₁.setTop (mkF m 15 #[.val (.int p0), .val (.int p1), .val (.int p2), .val (.int p3), .val (.int p4), .val (.int v1), .unset, .unset, .unset, .unset, .unset, .unset, .unset, .unset, .unset] [])) := by
  intro v1 hv1
  refine Fi.by' (st' := s₁.setTop (mkF m 40 #[.val (.int p0), .val (.int p1), .val (.int p2), .val (.int p3), .val (.int p4), .val (.int v1), .val (.int (((p4.toUInt32 >>> ((2 : Int32) &&& 31).toUInt32).toInt32) &&& (3 : Int32))), .val (.int (((p4.toUInt32 >>> ((4 : Int32) &&& 31).toUInt32).toInt32) &&& (3 : Int32))), .val (.int (((p4.toUInt32 >>> ((6 : Int32) &&& 31).toUInt32).toInt32) &&& (3 : Int32))), .unset, .unset, .unset, .unset, .unset, .unset] [])) (fun t k => ?_) ?_
  ·refine XS.iload W0.here hx rfl (hb hby at_15) rfl ?_
   refine iconstZ W0.here hx rfl (hb hby at_17) (z := (2 : Int32)) rfl ?_
   refine XS.iushr W0.here hx rfl (hb hby at_18) rfl ?_
   refine iconstZ W0.here hx rfl (hb hby at_19) (z := (3 : Int32)) rfl ?_
   refine XS.iand W0.here hx rfl (hb hby at_20) rfl ?_
   refine XS.istore W0.here hx rfl (hb hby at_21) rfl (l' := #[.val (.int p0), .val (.int p1), .val (.int p2), .val (.int p3), .val (.int p4), .val (.int v1), .val (.int (((p4.toUInt32 >>> ((2 : Int32) &&& 31).toUInt32).toInt32) &&& (3 : Int32))), .unset, .unset, .unset, .unset, .unset, .unset, .unset, .unset]) rfl ?_
   refine XS.iload W0.here hx rfl (hb hby at_23) rfl ?_
   refine iconstZ W0.here hx rfl (hb hby at_25) (z := (4 : Int32)) rfl ?_
   refine XS.iushr W0.here hx rfl (hb hby at_26) rfl ?_
   refine iconstZ W0.here hx rfl (hb hby at_27) (z := (3 : Int32)) rfl ?_
   refine XS.iand W0.here hx rfl (hb hby at_28) rfl ?_
   refine XS.istore W0.here hx rfl (hb hby at_29) rfl (l' := #[.val (.int p0), .val (.int p1), .val (.int p2), .val (.int p3), .val (.int p4), .val (.int v1), .val (.int (((p4.toUInt32 >>> ((2 : Int32) &&& 31).toUInt32).toInt32) &&& (3 : Int32))), .val (.int (((p4.toUInt32 >>> ((4 : Int32) &&& 31).toUInt32).toInt32) &&& (3 : Int32))), .unset, .unset, .unset, .unset, .unset, .unset, .unset]) rfl ?_
   refine XS.iload W0.here hx rfl (hb hby at_31) rfl ?_
   refine bipushZ W0.here hx rfl (hb hby at_33) (z := (6 : Int32)) rfl ?_
   refine XS.iushr W0.here hx rfl (hb hby at_35) rfl ?_
   refine iconstZ W0.here hx rfl (hb hby at_36) (z := (3 : Int32)) rfl ?_
   refine XS.iand W0.here hx rfl (hb hby at_37) rfl ?_
   refine XS.istore W0.here hx rfl (hb hby at_38) rfl (l' := #[.val (.int p0), .val (.int p1), .val (.int p2), .val (.int p3), .val (.int p4), .val (.int v1), .val (.int (((p4.toUInt32 >>> ((2 : Int32) &&& 31).toUInt32).toInt32) &&& (3 : Int32))), .val (.int (((p4.toUInt32 >>> ((4 : Int32) &&& 31).toUInt32).toInt32) &&& (3 : Int32))), .val (.int (((p4.toUInt32 >>> ((6 : Int32) &&& 31).toUInt32).toInt32) &&& (3 : Int32))), .unset, .unset, .unset, .unset, .unset, .unset]) rfl ?_
   exact k
  obtain ⟨n6, hn6⟩ : ∃ z : Int32, z = (((p4.toUInt32 >>> ((2 : Int32) &&& 31).toUInt32).toInt32) &&& (3 : Int32)) := ⟨_, rfl⟩
  rw [← hn6]
  obtain ⟨n7, hn7⟩ : ∃ z : Int32, z = (((p4.toUInt32 >>> ((4 : Int32) &&& 31).toUInt32).toInt32) &&& (3 : Int32)) := ⟨_, rfl⟩
  rw [← hn7]
  obtain ⟨n8, hn8⟩ : ∃ z : Int32, z = (((p4.toUInt32 >>> ((6 : Int32) &&& 31).toUInt32).toInt32) &&& (3 : Int32)) := ⟨_, rfl⟩
  rw [← hn8]
  refine W0.new hx (ww hw 0 rfl) (ww hw 1 rfl) (ww hw 2 rfl) (g := (mkF m 40 #[.val (.int p0), .val (.int p1), .val (.int p2), .val (.int p3), .val (.int p4), .val (.int v1), .val (.int n6), .val (.int n7), .val (.int n8), .unset, .unset, .unset, .unset, .unset, .unset] [])) rfl (hb hby at_40) (by decide) (by decide) (fun T3 h3 a3 ha3 W3 E3 A3 D3 => ?_)
  change Fi _ _ _ _ _ _ _ _ _ _ (T3.setTop (mkF m 43 #[.val (.int p0), .val (.int p1), .val (.int p2), .val (.int p3), .val (.int p4), .val (.int v1), .val (.int n6), .val (.int n7), .val (.int n8), .unset, .unset, .unset, .unset, .unset, .unset] [(.ref a3)]))
  have sz3 := E3.1
  refine Fi.by' (st' := T3.setTop (mkF m 47 #[.val (.int p0), .val (.int p1), .val (.int p2), .val (.int p3), .val (.int p4), .val (.int v1), .val (.int n6), .val (.int n7), .val (.int n8), .unset, .unset, .unset, .unset, .unset, .unset] [(.int v1), (.int p0), (.ref a3), (.ref a3)])) (fun t k => ?_) ?_
  ·refine XS.dup W3.here hx rfl (hb hby at_43) rfl rfl ?_
   refine XS.iloadN W3.here hx rfl (hb hby at_44) rfl ?_
   refine XS.iload W3.here hx rfl (hb hby at_45) rfl ?_
   exact k
  refine W3.callS hx (y := y_33) (ww hw 3 rfl) (ww hw 4 rfl) (ww hw 5 rfl) (ww hw 6 rfl) (by decide) (Pay.of_con (Wd := 2) (rm_nam l Z a0 hw p0 v1 zc h3 n0 (by omega) (Sta.ext E3 S0) hz) (ww hw 6 rfl) (ww hw 5 rfl) (hEL hw) (by decide) (by decide)) (g := (mkF m 47 #[.val (.int p0), .val (.int p1), .val (.int p2), .val (.int p3), .val (.int p4), .val (.int v1), .val (.int n6), .val (.int n7), .val (.int n8), .unset, .unset, .unset, .unset, .unset, .unset] [(.int v1), (.int p0), (.ref a3), (.ref a3)])) rfl (by rw [hml]; rfl) (argsL := [(.int p0), (.int v1)]) (rest := [(.ref a3), (.ref a3)]) (lenOf pd_33 rfl) rfl rfl (ble_ rfl) (hb hby at_47) (by decide) (by decide) (fun v4 T4 h4 W4 sz4 q4 => ?_)
  obtain ⟨a4, cs4, rfl, E4, g4, F4⟩ := q4
  change Fi _ _ _ _ _ _ _ _ _ _ (T4.setTop (mkF m 50 #[.val (.int p0), .val (.int p1), .val (.int p2), .val (.int p3), .val (.int p4), .val (.int v1), .val (.int n6), .val (.int n7), .val (.int n8), .unset, .unset, .unset, .unset, .unset, .unset] [(.ref a4), (.ref a3), (.ref a3)]))
  have sz4 := E4.1
  refine Fi.by' (st' := T4.setTop (mkF m 53 #[.val (.int p0), .val (.int p1), .val (.int p2), .val (.int p3), .val (.int p4), .val (.int v1), .val (.int n6), .val (.int n7), .val (.int n8), .unset, .unset, .unset, .unset, .unset, .unset] [(.int p1), (.int n6), (.ref a4), (.ref a3), (.ref a3)])) (fun t k => ?_) ?_
  ·refine XS.iload W4.here hx rfl (hb hby at_50) rfl ?_
   refine XS.iloadN W4.here hx rfl (hb hby at_52) rfl ?_
   exact k
  have x5 : Ext h0 h4 := ext_trans E3 E4
  refine W4.callS hx (y := y_47) (ww hw 29 rfl) (ww hw 30 rfl) (ww hw 5 rfl) (ww hw 31 rfl) (by decide) (Pay.of_con (Wd := 3) (rm_lst l Z a0 hw n6 p1 zc dc kd n0 h4 n0 (by omega) (by omega) (Sta.ext x5 S0) hz (Sta.ext x5 D0) (B0.ext x5) (by rw [hn6]; exact and3 _)) (ww hw 31 rfl) (ww hw 5 rfl) (hEL hw) (by decide) (by decide)) (g := (mkF m 53 #[.val (.int p0), .val (.int p1), .val (.int p2), .val (.int p3), .val (.int p4), .val (.int v1), .val (.int n6), .val (.int n7), .val (.int n8), .unset, .unset, .unset, .unset, .unset, .unset] [(.int p1), (.int n6), (.ref a4), (.ref a3), (.ref a3)])) rfl (by rw [hml]; rfl) (argsL := [(.int n6), (.int p1)]) (rest := [(.ref a4), (.ref a3), (.ref a3)]) (lenOf pd_34 rfl) rfl rfl (ble_ rfl) (hb hby at_53) (by decide) (by decide) (fun v6 T6 h6 W6 sz6 q6 => ?_)
  obtain ⟨a6, ds6, rfl, E6, g6, L6⟩ := q6
  change Fi _ _ _ _ _ _ _ _ _ _ (T6.setTop (mkF m 56 #[.val (.int p0), .val (.int p1), .val (.int p2), .val (.int p3), .val (.int p4), .val (.int v1), .val (.int n6), .val (.int n7), .val (.int n8), .unset, .unset, .unset, .unset, .unset, .unset] [(.ref a6), (.ref a4), (.ref a3), (.ref a3)]))
  have sz6 := E6.1
  refine Fi.by' (st' := T6.setTop (mkF m 59 #[.val (.int p0), .val (.int p1), .val (.int p2), .val (.int p3), .val (.int p4), .val (.int v1), .val (.int n6), .val (.int n7), .val (.int n8), .unset, .unset, .unset, .unset, .unset, .unset] [(.int p2), (.int n7), (.ref a6), (.ref a4), (.ref a3), (.ref a3)])) (fun t k => ?_) ?_
  ·refine XS.iload W6.here hx rfl (hb hby at_56) rfl ?_
   refine XS.iloadN W6.here hx rfl (hb hby at_58) rfl ?_
   exact k
  have x7 : Ext h0 h6 := ext_trans x5 E6
  refine W6.callS hx (y := y_47) (ww hw 29 rfl) (ww hw 30 rfl) (ww hw 5 rfl) (ww hw 31 rfl) (by decide) (Pay.of_con (Wd := 4) (rm_lst l Z a0 hw n7 p2 zc dc kd n0 h6 n0 (by omega) (by omega) (Sta.ext x7 S0) hz (Sta.ext x7 D0) (B0.ext x7) (by rw [hn7]; exact and3 _)) (ww hw 31 rfl) (ww hw 5 rfl) (hEL hw) (by decide) (by decide)) (g := (mkF m 59 #[.val (.int p0), .val (.int p1), .val (.int p2), .val (.int p3), .val (.int p4), .val (.int v1), .val (.int n6), .val (.int n7), .val (.int n8), .unset, .unset, .unset, .unset, .unset, .unset] [(.int p2), (.int n7), (.ref a6), (.ref a4), (.ref a3), (.ref a3)])) rfl (by rw [hml]; rfl) (argsL := [(.int n7), (.int p2)]) (rest := [(.ref a6), (.ref a4), (.ref a3), (.ref a3)]) (lenOf pd_34 rfl) rfl rfl (ble_ rfl) (hb hby at_59) (by decide) (by decide) (fun v8 T8 h8 W8 sz8 q8 => ?_)
  obtain ⟨a8, ds8, rfl, E8, g8, L8⟩ := q8
  change Fi _ _ _ _ _ _ _ _ _ _ (T8.setTop (mkF m 62 #[.val (.int p0), .val (.int p1), .val (.int p2), .val (.int p3), .val (.int p4), .val (.int v1), .val (.int n6), .val (.int n7), .val (.int n8), .unset, .unset, .unset, .unset, .unset, .unset] [(.ref a8), (.ref a6), (.ref a4), (.ref a3), (.ref a3)]))
  have sz8 := E8.1
  have x9 : Ext h0 h8 := ext_trans x7 E8
  have x10 : Ext h3 h6 := ext_trans E4 E6
  have x11 : Ext h3 h8 := ext_trans x10 E8
  have x12 : Ext h4 h8 := ext_trans E6 E8
  refine W8.callI hx (y := y_66) rfl (ww hw 56 rfl) (ww hw 57 rfl) (ww hw 58 rfl) (by decide) (Pay.of_con (Wd := 1) (rm_svi l Z a0 hw a3 a4 a6 a8 dc el em eb mr kb n0 cs4 ds6 ds8 h8 n0 (by omega) (by omega) (Exa.ext x11 A3) (Fld.ext x11 (D3 (Or.inr (ww hw 61 rfl)) (ty := (.object "java/lang/String")) (by decide))) (Fld.ext x11 (D3 (Or.inr (ww hw 92 rfl)) (ty := (.object "java/util/List")) (by decide))) (Fld.ext x11 (D3 (Or.inr (ww hw 94 rfl)) (ty := (.object "java/util/List")) (by decide))) (F4.ext x12) (L6.ext E8) L8 (Sta.ext x9 P1) (Exa.ext x9 P2) (Fld.ext x9 P3) (P4.ext x9) (Sta.ext x9 M1) (Exa.ext x9 P5) M0) (ww hw 58 rfl) (ww hw 2 rfl) (hEL hw) (by decide) (by decide)) (a := a3) (g := (mkF m 62 #[.val (.int p0), .val (.int p1), .val (.int p2), .val (.int p3), .val (.int p4), .val (.int v1), .val (.int n6), .val (.int n7), .val (.int n8), .unset, .unset, .unset, .unset, .unset, .unset] [(.ref a8), (.ref a6), (.ref a4), (.ref a3), (.ref a3)])) rfl (by rw [hml]; rfl) (argsL := [(.ref a4), (.ref a6), (.ref a8)]) (rest := [(.ref a3)]) (lenOf pd_35 rfl) rfl rfl (ble_ rfl) (hb hby at_62) (by decide) (by decide) (fun v13 T13 h13 W13 sz13 q13 => ?_)
  obtain ⟨rfl, K13, la13, lb13, A13, F131, F132, F133, U13, I131, I132⟩ := q13
  change Fi _ _ _ _ _ _ _ _ _ _ (T13.setTop (mkF m 65 #[.val (.int p0), .val (.int p1), .val (.int p2), .val (.int p3), .val (.int p4), .val (.int v1), .val (.int n6), .val (.int n7), .val (.int n8), .unset, .unset, .unset, .unset, .unset, .unset] [(.ref a3)]))
  have x13k : Ext h0 h13 := ext_keep1 x9 K13 (by omega)
  have sz13k := x13k.1
  refine Fi.by' (st' := T13.setTop (mkF m 70 #[.val (.int p0), .val (.int p1), .val (.int p2), .val (.int p3), .val (.int p4), .val (.int v1), .val (.int n6), .val (.int n7), .val (.int n8), .val (.ref a3), .unset, .unset, .unset, .unset, .unset] [(.int 1), (.int n8)])) (fun t k => ?_) ?_
  ·refine XS.astore W13.here hx rfl (hb hby at_65) rfl rfl (l' := #[.val (.int p0), .val (.int p1), .val (.int p2), .val (.int p3), .val (.int p4), .val (.int v1), .val (.int n6), .val (.int n7), .val (.int n8), .val (.ref a3), .unset, .unset, .unset, .unset, .unset]) rfl ?_
   refine XS.iload W13.here hx rfl (hb hby at_67) rfl ?_
   refine iconstZ W13.here hx rfl (hb hby at_69) (z := (1 : Int32)) rfl ?_
   exact k
  by_cases hc70_14 : n8 = (1 : Int32)
  ·refine Fi.by' (st' := T13.setTop (mkF m 73 #[.val (.int p0), .val (.int p1), .val (.int p2), .val (.int p3), .val (.int p4), .val (.int v1), .val (.int n6), .val (.int n7), .val (.int n8), .val (.ref a3), .unset, .unset, .unset, .unset, .unset] [])) (fun t k => ?_) ?_
   ·refine XS.icmpNo W13.here hx rfl (hb hby at_70) rfl (teq hc70_14).2 ?_
    exact k
   refine W13.new hx (ww hw 0 rfl) (ww hw 1 rfl) (ww hw 2 rfl) (g := (mkF m 73 #[.val (.int p0), .val (.int p1), .val (.int p2), .val (.int p3), .val (.int p4), .val (.int v1), .val (.int n6), .val (.int n7), .val (.int n8), .val (.ref a3), .unset, .unset, .unset, .unset, .unset] [])) rfl (hb hby at_73) (by decide) (by decide) (fun T15 h15 a15 ha15 W15 E15 A15 D15 => ?_)
   change Fi _ _ _ _ _ _ _ _ _ _ (T15.setTop (mkF m 76 #[.val (.int p0), .val (.int p1), .val (.int p2), .val (.int p3), .val (.int p4), .val (.int v1), .val (.int n6), .val (.int n7), .val (.int n8), .val (.ref a3), .unset, .unset, .unset, .unset, .unset] [(.ref a15)]))
   have sz15 := E15.1
   refine Fi.by' (st' := T15.setTop (mkF m 80 #[.val (.int p0), .val (.int p1), .val (.int p2), .val (.int p3), .val (.int p4), .val (.int v1), .val (.int n6), .val (.int n7), .val (.int n8), .val (.ref a3), .unset, .unset, .unset, .unset, .unset] [(.int v1), (.int p0), (.ref a15), (.ref a15)])) (fun t k => ?_) ?_
   ·refine XS.dup W15.here hx rfl (hb hby at_76) rfl rfl ?_
    refine XS.iloadN W15.here hx rfl (hb hby at_77) rfl ?_
    refine XS.iload W15.here hx rfl (hb hby at_78) rfl ?_
    exact k
   have x16 : Ext h0 h15 := ext_trans x13k E15
   refine W15.callS hx (y := y_33) (ww hw 3 rfl) (ww hw 4 rfl) (ww hw 5 rfl) (ww hw 6 rfl) (by decide) (Pay.of_con (Wd := 2) (rm_nam l Z a0 hw p0 v1 zc h15 n0 (by omega) (Sta.ext x16 S0) hz) (ww hw 6 rfl) (ww hw 5 rfl) (hEL hw) (by decide) (by decide)) (g := (mkF m 80 #[.val (.int p0), .val (.int p1), .val (.int p2), .val (.int p3), .val (.int p4), .val (.int v1), .val (.int n6), .val (.int n7), .val (.int n8), .val (.ref a3), .unset, .unset, .unset, .unset, .unset] [(.int v1), (.int p0), (.ref a15), (.ref a15)])) rfl (by rw [hml]; rfl) (argsL := [(.int p0), (.int v1)]) (rest := [(.ref a15), (.ref a15)]) (lenOf pd_33 rfl) rfl rfl (ble_ rfl) (hb hby at_80) (by decide) (by decide) (fun v17 T17 h17 W17 sz17 q17 => ?_)
   obtain ⟨a17, cs17, rfl, E17, g17, F17⟩ := q17
   change Fi _ _ _ _ _ _ _ _ _ _ (T17.setTop (mkF m 83 #[.val (.int p0), .val (.int p1), .val (.int p2), .val (.int p3), .val (.int p4), .val (.int v1), .val (.int n6), .val (.int n7), .val (.int n8), .val (.ref a3), .unset, .unset, .unset, .unset, .unset] [(.ref a17), (.ref a15), (.ref a15)]))
   have sz17 := E17.1
   refine Fi.by' (st' := T17.setTop (mkF m 86 #[.val (.int p0), .val (.int p1), .val (.int p2), .val (.int p3), .val (.int p4), .val (.int v1), .val (.int n6), .val (.int n7), .val (.int n8), .val (.ref a3), .unset, .unset, .unset, .unset, .unset] [(.int p2), (.int n7), (.ref a17), (.ref a15), (.ref a15)])) (fun t k => ?_) ?_
   ·refine XS.iload W17.here hx rfl (hb hby at_83) rfl ?_
    refine XS.iloadN W17.here hx rfl (hb hby at_85) rfl ?_
    exact k
   have x18 : Ext h0 h17 := ext_trans x16 E17
   refine W17.callS hx (y := y_47) (ww hw 29 rfl) (ww hw 30 rfl) (ww hw 5 rfl) (ww hw 31 rfl) (by decide) (Pay.of_con (Wd := 3) (rm_lst l Z a0 hw n7 p2 zc dc kd n0 h17 n0 (by omega) (by omega) (Sta.ext x18 S0) hz (Sta.ext x18 D0) (B0.ext x18) (by rw [hn7]; exact and3 _)) (ww hw 31 rfl) (ww hw 5 rfl) (hEL hw) (by decide) (by decide)) (g := (mkF m 86 #[.val (.int p0), .val (.int p1), .val (.int p2), .val (.int p3), .val (.int p4), .val (.int v1), .val (.int n6), .val (.int n7), .val (.int n8), .val (.ref a3), .unset, .unset, .unset, .unset, .unset] [(.int p2), (.int n7), (.ref a17), (.ref a15), (.ref a15)])) rfl (by rw [hml]; rfl) (argsL := [(.int n7), (.int p2)]) (rest := [(.ref a17), (.ref a15), (.ref a15)]) (lenOf pd_34 rfl) rfl rfl (ble_ rfl) (hb hby at_86) (by decide) (by decide) (fun v19 T19 h19 W19 sz19 q19 => ?_)
   obtain ⟨a19, ds19, rfl, E19, g19, L19⟩ := q19
   change Fi _ _ _ _ _ _ _ _ _ _ (T19.setTop (mkF m 89 #[.val (.int p0), .val (.int p1), .val (.int p2), .val (.int p3), .val (.int p4), .val (.int v1), .val (.int n6), .val (.int n7), .val (.int n8), .val (.ref a3), .unset, .unset, .unset, .unset, .unset] [(.ref a19), (.ref a17), (.ref a15), (.ref a15)]))
   have sz19 := E19.1
   refine Fi.by' (st' := T19.setTop (mkF m 92 #[.val (.int p0), .val (.int p1), .val (.int p2), .val (.int p3), .val (.int p4), .val (.int v1), .val (.int n6), .val (.int n7), .val (.int n8), .val (.ref a3), .unset, .unset, .unset, .unset, .unset] [(.int p1), (.int n6), (.ref a19), (.ref a17), (.ref a15), (.ref a15)])) (fun t k => ?_) ?_
   ·refine XS.iload W19.here hx rfl (hb hby at_89) rfl ?_
    refine XS.iloadN W19.here hx rfl (hb hby at_91) rfl ?_
    exact k
   have x20 : Ext h0 h19 := ext_trans x18 E19
   refine W19.callS hx (y := y_47) (ww hw 29 rfl) (ww hw 30 rfl) (ww hw 5 rfl) (ww hw 31 rfl) (by decide) (Pay.of_con (Wd := 4) (rm_lst l Z a0 hw n6 p1 zc dc kd n0 h19 n0 (by omega) (by omega) (Sta.ext x20 S0) hz (Sta.ext x20 D0) (B0.ext x20) (by rw [hn6]; exact and3 _)) (ww hw 31 rfl) (ww hw 5 rfl) (hEL hw) (by decide) (by decide)) (g := (mkF m 92 #[.val (.int p0), .val (.int p1), .val (.int p2), .val (.int p3), .val (.int p4), .val (.int v1), .val (.int n6), .val (.int n7), .val (.int n8), .val (.ref a3), .unset, .unset, .unset, .unset, .unset] [(.int p1), (.int n6), (.ref a19), (.ref a17), (.ref a15), (.ref a15)])) rfl (by rw [hml]; rfl) (argsL := [(.int n6), (.int p1)]) (rest := [(.ref a19), (.ref a17), (.ref a15), (.ref a15)]) (lenOf pd_34 rfl) rfl rfl (ble_ rfl) (hb hby at_92) (by decide) (by decide) (fun v21 T21 h21 W21 sz21 q21 => ?_)
   obtain ⟨a21, ds21, rfl, E21, g21, L21⟩ := q21
   change Fi _ _ _ _ _ _ _ _ _ _ (T21.setTop (mkF m 95 #[.val (.int p0), .val (.int p1), .val (.int p2), .val (.int p3), .val (.int p4), .val (.int v1), .val (.int n6), .val (.int n7), .val (.int n8), .val (.ref a3), .unset, .unset, .unset, .unset, .unset] [(.ref a21), (.ref a19), (.ref a17), (.ref a15), (.ref a15)]))
   have sz21 := E21.1
   have x22 : Ext h13 h17 := ext_trans E15 E17
   have x23 : Ext h13 h19 := ext_trans x22 E19
   have x24 : Ext h13 h21 := ext_trans x23 E21
   have x25 : Ext h15 h19 := ext_trans E17 E19
   have x26 : Ext h15 h21 := ext_trans x25 E21
   have x27 : Ext h17 h21 := ext_trans E19 E21
   have x28 : Ext h0 h21 := ext_trans x20 E21
   refine W21.callI hx (y := y_66) rfl (ww hw 56 rfl) (ww hw 57 rfl) (ww hw 58 rfl) (by decide) (Pay.of_con (Wd := 1) (rm_svi l Z a0 hw a15 a17 a19 a21 dc el em eb mr kb n0 cs17 ds19 ds21 h21 n0 (by omega) (by omega) (Exa.ext x26 A15) (Fld.ext x26 (D15 (Or.inr (ww hw 61 rfl)) (ty := (.object "java/lang/String")) (by decide))) (Fld.ext x26 (D15 (Or.inr (ww hw 92 rfl)) (ty := (.object "java/util/List")) (by decide))) (Fld.ext x26 (D15 (Or.inr (ww hw 94 rfl)) (ty := (.object "java/util/List")) (by decide))) (F17.ext x27) (L19.ext E21) L21 (Sta.ext x28 P1) (Exa.ext x28 P2) (Fld.ext x28 P3) (P4.ext x28) (Sta.ext x28 M1) (Exa.ext x28 P5) M0) (ww hw 58 rfl) (ww hw 2 rfl) (hEL hw) (by decide) (by decide)) (a := a15) (g := (mkF m 95 #[.val (.int p0), .val (.int p1), .val (.int p2), .val (.int p3), .val (.int p4), .val (.int v1), .val (.int n6), .val (.int n7), .val (.int n8), .val (.ref a3), .unset, .unset, .unset, .unset, .unset] [(.ref a21), (.ref a19), (.ref a17), (.ref a15), (.ref a15)])) rfl (by rw [hml]; rfl) (argsL := [(.ref a17), (.ref a19), (.ref a21)]) (rest := [(.ref a15)]) (lenOf pd_35 rfl) rfl rfl (ble_ rfl) (hb hby at_95) (by decide) (by decide) (fun v29 T29 h29 W29 sz29 q29 => ?_)
   obtain ⟨rfl, K29, la29, lb29, A29, F291, F292, F293, U29, I291, I292⟩ := q29
   change Fi _ _ _ _ _ _ _ _ _ _ (T29.setTop (mkF m 98 #[.val (.int p0), .val (.int p1), .val (.int p2), .val (.int p3), .val (.int p4), .val (.int v1), .val (.int n6), .val (.int n7), .val (.int n8), .val (.ref a3), .unset, .unset, .unset, .unset, .unset] [(.ref a15)]))
   have x29k : Ext h13 h29 := ext_keep1 x24 K29 (by omega)
   have sz29k := x29k.1
   refine Fi.by' (st' := T29.setTop (mkF m 167 #[.val (.int p0), .val (.int p1), .val (.int p2), .val (.int p3), .val (.int p4), .val (.int v1), .val (.int n6), .val (.int n7), .val (.int n8), .val (.ref a3), .val (.ref a15), .unset, .unset, .unset, .unset] [])) (fun t k => ?_) ?_
   ·refine XS.astore W29.here hx rfl (hb hby at_98) rfl rfl (l' := #[.val (.int p0), .val (.int p1), .val (.int p2), .val (.int p3), .val (.int p4), .val (.int v1), .val (.int n6), .val (.int n7), .val (.int n8), .val (.ref a3), .val (.ref a15), .unset, .unset, .unset, .unset]) rfl ?_
    refine XS.goto W29.here hx rfl (pc0 := 100) (pc' := 167) rfl (hb hby at_100) (by decide) (by decide) ?_
    exact k
   have W30 : Wk p l e room_1 s m #[(.int p0), (.int p1), (.int p2), (.int p3), (.int p4)] below meth c Z a0 EN "com/example/weftwork/weftwork/model/ServiceHashCodePinLaw" n0 T29 h29 58 174 := W29.drop
   have x31 : Ext h0 h29 := ext_trans x13k x29k
   have f30_0 := (Sta.ext x31 S0)
   have f30_1 := (Exa.ext x29k A13)
   have f30_2 := (U13.ext x29k)
   have f30_3 := (Fld.ext x29k F131)
   have f30_4 := (Fld.ext x29k F132)
   have f30_5 := (Fld.ext x29k F133)
   have f30_6 := (I131.ext x29k)
   have f30_7 := (I132.ext x29k)
   have f30_8 := A29
   have f30_9 := U29
   have f30_10 := F291
   have f30_11 := F292
   have f30_12 := F293
   have f30_13 := I291
   have f30_14 := I292
   refine Fi.by' (st' := T29.setTop (mkF m 169 #[.val (.int p0), .val (.int p1), .val (.int p2), .val (.int p3), .val (.int p4), .val (.int v1), .val (.int n6), .val (.int n7), .val (.int n8), .val (.ref a3), .val (.ref a15), .unset, .unset, .unset, .unset] [(.ref a3)])) (fun t k => ?_) ?_
   ·refine XS.aload W30.here hx rfl (hb hby at_167) rfl rfl ?_
    exact k
   refine W30.callV hx (y := y_16) (C := "com/example/weftwork/weftwork/model/Service") (ww hw 95 rfl) (ww hw 96 rfl) (ww hw 98 rfl) (ww hw 97 rfl) (by decide) (Pay.of_con (Wd := 0) (rm_svh l Z a0 hw a3 a4 la13 lb13 zc cs4 ds6 ds8 h29 n0 (by omega) (by omega) f30_0 hz f30_2 f30_6 f30_7 f30_1 f30_3 f30_4 f30_5) (ww hw 99 rfl) (ww hw 2 rfl) (hEN hw) (by decide) (by decide)) f30_1 (g := (mkF m 169 #[.val (.int p0), .val (.int p1), .val (.int p2), .val (.int p3), .val (.int p4), .val (.int v1), .val (.int n6), .val (.int n7), .val (.int n8), .val (.ref a3), .val (.ref a15), .unset, .unset, .unset, .unset] [(.ref a3)])) rfl (by rw [hml]; rfl) (argsL := []) (rest := []) (lenOf pd_4 rfl) rfl rfl (ble_ rfl) (hb hby at_169) (by decide) (by decide) (fun v32 T32 h32 W32 sz32 q32 => ?_)
   obtain ⟨rfl, Hs32⟩ := q32
   change Fi _ _ _ _ _ _ _ _ _ _ (T32.setTop (mkF m 172 #[.val (.int p0), .val (.int p1), .val (.int p2), .val (.int p3), .val (.int p4), .val (.int v1), .val (.int n6), .val (.int n7), .val (.int n8), .val (.ref a3), .val (.ref a15), .unset, .unset, .unset, .unset] [(.int (HV cs4 ds6 ds8))]))
   have f32_0 := (Hs.sta Hs32 f30_0)
   have f32_1 := (Hs.exa Hs32 f30_1 (by decide))
   have f32_2 := (Hs32.2.2 _ _ f30_2)
   have f32_3 := (Hs.fld Hs32 f30_1 (by decide) f30_3)
   have f32_4 := (Hs.fld Hs32 f30_1 (by decide) f30_4)
   have f32_5 := (Hs.fld Hs32 f30_1 (by decide) f30_5)
   have f32_6 := (IL.hs (ww hw 8 rfl) f30_6 Hs32)
   have f32_7 := (IL.hs (ww hw 8 rfl) f30_7 Hs32)
   have f32_8 := (Hs.exa Hs32 f30_8 (by decide))
   have f32_9 := (Hs32.2.2 _ _ f30_9)
   have f32_10 := (Hs.fld Hs32 f30_8 (by decide) f30_10)
   have f32_11 := (Hs.fld Hs32 f30_8 (by decide) f30_11)
   have f32_12 := (Hs.fld Hs32 f30_8 (by decide) f30_12)
   have f32_13 := (IL.hs (ww hw 8 rfl) f30_13 Hs32)
   have f32_14 := (IL.hs (ww hw 8 rfl) f30_14 Hs32)
   refine Fi.by' (st' := T32.setTop (mkF m 176 #[.val (.int p0), .val (.int p1), .val (.int p2), .val (.int p3), .val (.int p4), .val (.int v1), .val (.int n6), .val (.int n7), .val (.int n8), .val (.ref a3), .val (.ref a15), .val (.int (HV cs4 ds6 ds8)), .unset, .unset, .unset] [(.ref a3)])) (fun t k => ?_) ?_
   ·refine XS.istore W32.here hx rfl (hb hby at_172) rfl (l' := #[.val (.int p0), .val (.int p1), .val (.int p2), .val (.int p3), .val (.int p4), .val (.int v1), .val (.int n6), .val (.int n7), .val (.int n8), .val (.ref a3), .val (.ref a15), .val (.int (HV cs4 ds6 ds8)), .unset, .unset, .unset]) rfl ?_
    refine XS.aload W32.here hx rfl (hb hby at_174) rfl rfl ?_
    exact k
   refine W32.callV hx (y := y_16) (C := "com/example/weftwork/weftwork/model/Service") (ww hw 95 rfl) (ww hw 96 rfl) (ww hw 98 rfl) (ww hw 97 rfl) (by decide) (Pay.of_con (Wd := 0) (rm_svh l Z a0 hw a3 a4 la13 lb13 zc cs4 ds6 ds8 h32 n0 (by omega) (by omega) f32_0 hz f32_2 f32_6 f32_7 f32_1 f32_3 f32_4 f32_5) (ww hw 99 rfl) (ww hw 2 rfl) (hEN hw) (by decide) (by decide)) f32_1 (g := (mkF m 176 #[.val (.int p0), .val (.int p1), .val (.int p2), .val (.int p3), .val (.int p4), .val (.int v1), .val (.int n6), .val (.int n7), .val (.int n8), .val (.ref a3), .val (.ref a15), .val (.int (HV cs4 ds6 ds8)), .unset, .unset, .unset] [(.ref a3)])) rfl (by rw [hml]; rfl) (argsL := []) (rest := []) (lenOf pd_4 rfl) rfl rfl (ble_ rfl) (hb hby at_176) (by decide) (by decide) (fun v33 T33 h33 W33 sz33 q33 => ?_)
   obtain ⟨rfl, Hs33⟩ := q33
   change Fi _ _ _ _ _ _ _ _ _ _ (T33.setTop (mkF m 179 #[.val (.int p0), .val (.int p1), .val (.int p2), .val (.int p3), .val (.int p4), .val (.int v1), .val (.int n6), .val (.int n7), .val (.int n8), .val (.ref a3), .val (.ref a15), .val (.int (HV cs4 ds6 ds8)), .unset, .unset, .unset] [(.int (HV cs4 ds6 ds8))]))
   have f33_0 := (Hs.sta Hs33 f32_0)
   have f33_1 := (Hs.exa Hs33 f32_1 (by decide))
   have f33_2 := (Hs33.2.2 _ _ f32_2)
   have f33_3 := (Hs.fld Hs33 f32_1 (by decide) f32_3)
   have f33_4 := (Hs.fld Hs33 f32_1 (by decide) f32_4)
   have f33_5 := (Hs.fld Hs33 f32_1 (by decide) f32_5)
   have f33_6 := (IL.hs (ww hw 8 rfl) f32_6 Hs33)
   have f33_7 := (IL.hs (ww hw 8 rfl) f32_7 Hs33)
   have f33_8 := (Hs.exa Hs33 f32_8 (by decide))
   have f33_9 := (Hs33.2.2 _ _ f32_9)
   have f33_10 := (Hs.fld Hs33 f32_8 (by decide) f32_10)
   have f33_11 := (Hs.fld Hs33 f32_8 (by decide) f32_11)
   have f33_12 := (Hs.fld Hs33 f32_8 (by decide) f32_12)
   have f33_13 := (IL.hs (ww hw 8 rfl) f32_13 Hs33)
   have f33_14 := (IL.hs (ww hw 8 rfl) f32_14 Hs33)
   refine Fi.by' (st' := T33.setTop (mkF m 183 #[.val (.int p0), .val (.int p1), .val (.int p2), .val (.int p3), .val (.int p4), .val (.int v1), .val (.int n6), .val (.int n7), .val (.int n8), .val (.ref a3), .val (.ref a15), .val (.int (HV cs4 ds6 ds8)), .val (.int (HV cs4 ds6 ds8)), .unset, .unset] [(.ref a15)])) (fun t k => ?_) ?_
   ·refine XS.istore W33.here hx rfl (hb hby at_179) rfl (l' := #[.val (.int p0), .val (.int p1), .val (.int p2), .val (.int p3), .val (.int p4), .val (.int v1), .val (.int n6), .val (.int n7), .val (.int n8), .val (.ref a3), .val (.ref a15), .val (.int (HV cs4 ds6 ds8)), .val (.int (HV cs4 ds6 ds8)), .unset, .unset]) rfl ?_
    refine XS.aload W33.here hx rfl (hb hby at_181) rfl rfl ?_
    exact k
   refine W33.callV hx (y := y_16) (C := "com/example/weftwork/weftwork/model/Service") (ww hw 95 rfl) (ww hw 96 rfl) (ww hw 98 rfl) (ww hw 97 rfl) (by decide) (Pay.of_con (Wd := 0) (rm_svh l Z a0 hw a15 a17 la29 lb29 zc cs17 ds19 ds21 h33 n0 (by omega) (by omega) f33_0 hz f33_9 f33_13 f33_14 f33_8 f33_10 f33_11 f33_12) (ww hw 99 rfl) (ww hw 2 rfl) (hEN hw) (by decide) (by decide)) f33_8 (g := (mkF m 183 #[.val (.int p0), .val (.int p1), .val (.int p2), .val (.int p3), .val (.int p4), .val (.int v1), .val (.int n6), .val (.int n7), .val (.int n8), .val (.ref a3), .val (.ref a15), .val (.int (HV cs4 ds6 ds8)), .val (.int (HV cs4 ds6 ds8)), .unset, .unset] [(.ref a15)])) rfl (by rw [hml]; rfl) (argsL := []) (rest := []) (lenOf pd_4 rfl) rfl rfl (ble_ rfl) (hb hby at_183) (by decide) (by decide) (fun v34 T34 h34 W34 sz34 q34 => ?_)
   obtain ⟨rfl, Hs34⟩ := q34
   change Fi _ _ _ _ _ _ _ _ _ _ (T34.setTop (mkF m 186 #[.val (.int p0), .val (.int p1), .val (.int p2), .val (.int p3), .val (.int p4), .val (.int v1), .val (.int n6), .val (.int n7), .val (.int n8), .val (.ref a3), .val (.ref a15), .val (.int (HV cs4 ds6 ds8)), .val (.int (HV cs4 ds6 ds8)), .unset, .unset] [(.int (HV cs17 ds19 ds21))]))
   have f34_0 := (Hs.sta Hs34 f33_0)
   have f34_1 := (Hs.exa Hs34 f33_1 (by decide))
   have f34_2 := (Hs34.2.2 _ _ f33_2)
   have f34_3 := (Hs.fld Hs34 f33_1 (by decide) f33_3)
   have f34_4 := (Hs.fld Hs34 f33_1 (by decide) f33_4)
   have f34_5 := (Hs.fld Hs34 f33_1 (by decide) f33_5)
   have f34_6 := (IL.hs (ww hw 8 rfl) f33_6 Hs34)
   have f34_7 := (IL.hs (ww hw 8 rfl) f33_7 Hs34)
   have f34_8 := (Hs.exa Hs34 f33_8 (by decide))
   have f34_9 := (Hs34.2.2 _ _ f33_9)
   have f34_10 := (Hs.fld Hs34 f33_8 (by decide) f33_10)
   have f34_11 := (Hs.fld Hs34 f33_8 (by decide) f33_11)
   have f34_12 := (Hs.fld Hs34 f33_8 (by decide) f33_12)
   have f34_13 := (IL.hs (ww hw 8 rfl) f33_13 Hs34)
   have f34_14 := (IL.hs (ww hw 8 rfl) f33_14 Hs34)
   refine Fi.by' (st' := T34.setTop (mkF m 192 #[.val (.int p0), .val (.int p1), .val (.int p2), .val (.int p3), .val (.int p4), .val (.int v1), .val (.int n6), .val (.int n7), .val (.int n8), .val (.ref a3), .val (.ref a15), .val (.int (HV cs4 ds6 ds8)), .val (.int (HV cs4 ds6 ds8)), .val (.int (HV cs17 ds19 ds21)), .unset] [(.ref a15), (.ref a3)])) (fun t k => ?_) ?_
   ·refine XS.istore W34.here hx rfl (hb hby at_186) rfl (l' := #[.val (.int p0), .val (.int p1), .val (.int p2), .val (.int p3), .val (.int p4), .val (.int v1), .val (.int n6), .val (.int n7), .val (.int n8), .val (.ref a3), .val (.ref a15), .val (.int (HV cs4 ds6 ds8)), .val (.int (HV cs4 ds6 ds8)), .val (.int (HV cs17 ds19 ds21)), .unset]) rfl ?_
    refine XS.aload W34.here hx rfl (hb hby at_188) rfl rfl ?_
    refine XS.aload W34.here hx rfl (hb hby at_190) rfl rfl ?_
    exact k
   refine W34.callV hx (y := y_30) (C := "com/example/weftwork/weftwork/model/Service") (ww hw 145 rfl) (ww hw 146 rfl) (ww hw 148 rfl) (ww hw 147 rfl) (by decide) (Pay.of_con (Wd := 0) (rm_seq l Z a0 hw a3 a4 la13 lb13 a15 a17 la29 lb29 zc cs4 ds6 ds8 cs17 ds19 ds21 h34 n0 (by omega) f34_0 hz f34_1 f34_3 f34_4 f34_5 f34_8 f34_10 f34_11 f34_12 f34_2 f34_6 f34_7 f34_9 f34_13 f34_14) (ww hw 149 rfl) (ww hw 2 rfl) (hEN hw) (by decide) (by decide)) f34_1 (g := (mkF m 192 #[.val (.int p0), .val (.int p1), .val (.int p2), .val (.int p3), .val (.int p4), .val (.int v1), .val (.int n6), .val (.int n7), .val (.int n8), .val (.ref a3), .val (.ref a15), .val (.int (HV cs4 ds6 ds8)), .val (.int (HV cs4 ds6 ds8)), .val (.int (HV cs17 ds19 ds21)), .unset] [(.ref a15), (.ref a3)])) rfl (by rw [hml]; rfl) (argsL := [(.ref a15)]) (rest := []) (lenOf pd_9 rfl) rfl rfl (ble_ rfl) (hb hby at_192) (by decide) (by decide) (fun v35 T35 h35 W35 sz35 q35 => ?_)
   obtain ⟨r35, rfl, hr35, E35⟩ := q35
   change Fi _ _ _ _ _ _ _ _ _ _ (T35.setTop (mkF m 195 #[.val (.int p0), .val (.int p1), .val (.int p2), .val (.int p3), .val (.int p4), .val (.int v1), .val (.int n6), .val (.int n7), .val (.int n8), .val (.ref a3), .val (.ref a15), .val (.int (HV cs4 ds6 ds8)), .val (.int (HV cs4 ds6 ds8)), .val (.int (HV cs17 ds19 ds21)), .unset] [(.int r35)]))
   have hy35 : r35 = 0 ∨ HV cs4 ds6 ds8 = HV cs17 ds19 ds21 := hr35.imp id (fun q => by rw [q.1, q.2.1, q.2.2])
   refine Fi.by' (st' := T35.setTop (mkF m 206 #[.val (.int p0), .val (.int p1), .val (.int p2), .val (.int p3), .val (.int p4), .val (.int v1), .val (.int n6), .val (.int n7), .val (.int n8), .val (.ref a3), .val (.ref a15), .val (.int (HV cs4 ds6 ds8)), .val (.int (HV cs4 ds6 ds8)), .val (.int (HV cs17 ds19 ds21)), .val (.int r35)] [(.int r35)])) (fun t k => ?_) ?_
   ·refine XS.istore W35.here hx rfl (hb hby at_195) rfl (l' := #[.val (.int p0), .val (.int p1), .val (.int p2), .val (.int p3), .val (.int p4), .val (.int v1), .val (.int n6), .val (.int n7), .val (.int n8), .val (.ref a3), .val (.ref a15), .val (.int (HV cs4 ds6 ds8)), .val (.int (HV cs4 ds6 ds8)), .val (.int (HV cs17 ds19 ds21)), .val (.int r35)]) rfl ?_
    refine XS.iload W35.here hx rfl (hb hby at_197) rfl ?_
    refine XS.iload W35.here hx rfl (hb hby at_199) rfl ?_
    refine XS.icmpNo W35.here hx rfl (hb hby at_201) rfl (teq (rfl : (HV cs4 ds6 ds8) = (HV cs4 ds6 ds8))).2 ?_
    refine XS.iload W35.here hx rfl (hb hby at_204) rfl ?_
    exact k
   by_cases hc206_36 : r35 = (0 : Int32)
   ·refine Fi.by' (st' := T35.setTop (mkF m 221 #[.val (.int p0), .val (.int p1), .val (.int p2), .val (.int p3), .val (.int p4), .val (.int v1), .val (.int n6), .val (.int n7), .val (.int n8), .val (.ref a3), .val (.ref a15), .val (.int (HV cs4 ds6 ds8)), .val (.int (HV cs4 ds6 ds8)), .val (.int (HV cs17 ds19 ds21)), .val (.int r35)] [(.int 1)])) (fun t k => ?_) ?_
    ·refine XS.ifYes W35.here hx rfl (pc0 := 206) (pc' := 216) rfl (hb hby at_206) rfl ((if0 _ _).trans (teq hc206_36).1) (by decide) (by decide) ?_
     refine iconstZ W35.here hx rfl (hb hby at_216) (z := (1 : Int32)) rfl ?_
     refine XS.goto W35.here hx rfl (pc0 := 217) (pc' := 221) rfl (hb hby at_217) (by decide) (by decide) ?_
     exact k
    exact W35.iret hx hlk hret (by simp) rfl (hb hby at_221) rfl (by decide) (by decide)
   ·refine Fi.by' (st' := T35.setTop (mkF m 213 #[.val (.int p0), .val (.int p1), .val (.int p2), .val (.int p3), .val (.int p4), .val (.int v1), .val (.int n6), .val (.int n7), .val (.int n8), .val (.ref a3), .val (.ref a15), .val (.int (HV cs4 ds6 ds8)), .val (.int (HV cs4 ds6 ds8)), .val (.int (HV cs17 ds19 ds21)), .val (.int r35)] [(.int (HV cs17 ds19 ds21)), (.int (HV cs4 ds6 ds8))])) (fun t k => ?_) ?_
    ·refine XS.ifNo W35.here hx rfl (hb hby at_206) rfl ((if0 _ _).trans (feq hc206_36).1) ?_
     refine XS.iload W35.here hx rfl (hb hby at_209) rfl ?_
     refine XS.iload W35.here hx rfl (hb hby at_211) rfl ?_
     exact k
    refine Fi.by' (st' := T35.setTop (mkF m 221 #[.val (.int p0), .val (.int p1), .val (.int p2), .val (.int p3), .val (.int p4), .val (.int v1), .val (.int n6), .val (.int n7), .val (.int n8), .val (.ref a3), .val (.ref a15), .val (.int (HV cs4 ds6 ds8)), .val (.int (HV cs4 ds6 ds8)), .val (.int (HV cs17 ds19 ds21)), .val (.int r35)] [(.int 1)])) (fun t k => ?_) ?_
    ·refine XS.icmpNo W35.here hx rfl (hb hby at_213) rfl (teq (hy35.resolve_left hc206_36)).2 ?_
     refine iconstZ W35.here hx rfl (hb hby at_216) (z := (1 : Int32)) rfl ?_
     refine XS.goto W35.here hx rfl (pc0 := 217) (pc' := 221) rfl (hb hby at_217) (by decide) (by decide) ?_
     exact k
    exact W35.iret hx hlk hret (by simp) rfl (hb hby at_221) rfl (by decide) (by decide)
  ·refine Fi.by' (st' := T13.setTop (mkF m 106 #[.val (.int p0), .val (.int p1), .val (.int p2), .val (.int p3), .val (.int p4), .val (.int v1), .val (.int n6), .val (.int n7), .val (.int n8), .val (.ref a3), .unset, .unset, .unset, .unset, .unset] [(.int 2), (.int n8)])) (fun t k => ?_) ?_
   ·refine XS.icmpYes W13.here hx rfl (pc0 := 70) (pc' := 103) rfl (hb hby at_70) rfl (feq hc70_14).2 (by decide) (by decide) ?_
    refine XS.iload W13.here hx rfl (hb hby at_103) rfl ?_
    refine iconstZ W13.here hx rfl (hb hby at_105) (z := (2 : Int32)) rfl ?_
    exact k
   by_cases hc106_37 : n8 = (2 : Int32)
   ·refine Fi.by' (st' := T13.setTop (mkF m 109 #[.val (.int p0), .val (.int p1), .val (.int p2), .val (.int p3), .val (.int p4), .val (.int v1), .val (.int n6), .val (.int n7), .val (.int n8), .val (.ref a3), .unset, .unset, .unset, .unset, .unset] [])) (fun t k => ?_) ?_
    ·refine XS.icmpNo W13.here hx rfl (hb hby at_106) rfl (teq hc106_37).2 ?_
     exact k
    refine W13.new hx (ww hw 0 rfl) (ww hw 1 rfl) (ww hw 2 rfl) (g := (mkF m 109 #[.val (.int p0), .val (.int p1), .val (.int p2), .val (.int p3), .val (.int p4), .val (.int v1), .val (.int n6), .val (.int n7), .val (.int n8), .val (.ref a3), .unset, .unset, .unset, .unset, .unset] [])) rfl (hb hby at_109) (by decide) (by decide) (fun T38 h38 a38 ha38 W38 E38 A38 D38 => ?_)
    change Fi _ _ _ _ _ _ _ _ _ _ (T38.setTop (mkF m 112 #[.val (.int p0), .val (.int p1), .val (.int p2), .val (.int p3), .val (.int p4), .val (.int v1), .val (.int n6), .val (.int n7), .val (.int n8), .val (.ref a3), .unset, .unset, .unset, .unset, .unset] [(.ref a38)]))
    have sz38 := E38.1
    refine Fi.by' (st' := T38.setTop (mkF m 117 #[.val (.int p0), .val (.int p1), .val (.int p2), .val (.int p3), .val (.int p4), .val (.int v1), .val (.int n6), .val (.int n7), .val (.int n8), .val (.ref a3), .unset, .unset, .unset, .unset, .unset] [(.int p3), (.int v1), (.int p0), (.ref a38), (.ref a38)])) (fun t k => ?_) ?_
    ·refine XS.dup W38.here hx rfl (hb hby at_112) rfl rfl ?_
     refine XS.iloadN W38.here hx rfl (hb hby at_113) rfl ?_
     refine XS.iload W38.here hx rfl (hb hby at_114) rfl ?_
     refine XS.iloadN W38.here hx rfl (hb hby at_116) rfl ?_
     exact k
    have x39 : Ext h0 h38 := ext_trans x13k E38
    refine W38.callS hx (y := y_34) (ww hw 387 rfl) (ww hw 388 rfl) (ww hw 5 rfl) (ww hw 389 rfl) (by decide) (Pay.of_con (Wd := 2) (rm_nam2 l Z a0 hw p0 v1 p3 zc h38 n0 (by omega) (Sta.ext x39 S0) hz) (ww hw 389 rfl) (ww hw 5 rfl) (hEL hw) (by decide) (by decide)) (g := (mkF m 117 #[.val (.int p0), .val (.int p1), .val (.int p2), .val (.int p3), .val (.int p4), .val (.int v1), .val (.int n6), .val (.int n7), .val (.int n8), .val (.ref a3), .unset, .unset, .unset, .unset, .unset] [(.int p3), (.int v1), (.int p0), (.ref a38), (.ref a38)])) rfl (by rw [hml]; rfl) (argsL := [(.int p0), (.int v1), (.int p3)]) (rest := [(.ref a38), (.ref a38)]) (lenOf pd_36 rfl) rfl rfl (ble_ rfl) (hb hby at_117) (by decide) (by decide) (fun v40 T40 h40 W40 sz40 q40 => ?_)
    obtain ⟨a40, cs40, rfl, E40, g40, F40⟩ := q40
    change Fi _ _ _ _ _ _ _ _ _ _ (T40.setTop (mkF m 120 #[.val (.int p0), .val (.int p1), .val (.int p2), .val (.int p3), .val (.int p4), .val (.int v1), .val (.int n6), .val (.int n7), .val (.int n8), .val (.ref a3), .unset, .unset, .unset, .unset, .unset] [(.ref a40), (.ref a38), (.ref a38)]))
    have sz40 := E40.1
    refine Fi.by' (st' := T40.setTop (mkF m 123 #[.val (.int p0), .val (.int p1), .val (.int p2), .val (.int p3), .val (.int p4), .val (.int v1), .val (.int n6), .val (.int n7), .val (.int n8), .val (.ref a3), .unset, .unset, .unset, .unset, .unset] [(.int p1), (.int n6), (.ref a40), (.ref a38), (.ref a38)])) (fun t k => ?_) ?_
    ·refine XS.iload W40.here hx rfl (hb hby at_120) rfl ?_
     refine XS.iloadN W40.here hx rfl (hb hby at_122) rfl ?_
     exact k
    have x41 : Ext h0 h40 := ext_trans x39 E40
    refine W40.callS hx (y := y_47) (ww hw 29 rfl) (ww hw 30 rfl) (ww hw 5 rfl) (ww hw 31 rfl) (by decide) (Pay.of_con (Wd := 3) (rm_lst l Z a0 hw n6 p1 zc dc kd n0 h40 n0 (by omega) (by omega) (Sta.ext x41 S0) hz (Sta.ext x41 D0) (B0.ext x41) (by rw [hn6]; exact and3 _)) (ww hw 31 rfl) (ww hw 5 rfl) (hEL hw) (by decide) (by decide)) (g := (mkF m 123 #[.val (.int p0), .val (.int p1), .val (.int p2), .val (.int p3), .val (.int p4), .val (.int v1), .val (.int n6), .val (.int n7), .val (.int n8), .val (.ref a3), .unset, .unset, .unset, .unset, .unset] [(.int p1), (.int n6), (.ref a40), (.ref a38), (.ref a38)])) rfl (by rw [hml]; rfl) (argsL := [(.int n6), (.int p1)]) (rest := [(.ref a40), (.ref a38), (.ref a38)]) (lenOf pd_34 rfl) rfl rfl (ble_ rfl) (hb hby at_123) (by decide) (by decide) (fun v42 T42 h42 W42 sz42 q42 => ?_)
    obtain ⟨a42, ds42, rfl, E42, g42, L42⟩ := q42
    change Fi _ _ _ _ _ _ _ _ _ _ (T42.setTop (mkF m 126 #[.val (.int p0), .val (.int p1), .val (.int p2), .val (.int p3), .val (.int p4), .val (.int v1), .val (.int n6), .val (.int n7), .val (.int n8), .val (.ref a3), .unset, .unset, .unset, .unset, .unset] [(.ref a42), (.ref a40), (.ref a38), (.ref a38)]))
    have sz42 := E42.1
    refine Fi.by' (st' := T42.setTop (mkF m 129 #[.val (.int p0), .val (.int p1), .val (.int p2), .val (.int p3), .val (.int p4), .val (.int v1), .val (.int n6), .val (.int n7), .val (.int n8), .val (.ref a3), .unset, .unset, .unset, .unset, .unset] [(.int p2), (.int n7), (.ref a42), (.ref a40), (.ref a38), (.ref a38)])) (fun t k => ?_) ?_
    ·refine XS.iload W42.here hx rfl (hb hby at_126) rfl ?_
     refine XS.iloadN W42.here hx rfl (hb hby at_128) rfl ?_
     exact k
    have x43 : Ext h0 h42 := ext_trans x41 E42
    refine W42.callS hx (y := y_47) (ww hw 29 rfl) (ww hw 30 rfl) (ww hw 5 rfl) (ww hw 31 rfl) (by decide) (Pay.of_con (Wd := 4) (rm_lst l Z a0 hw n7 p2 zc dc kd n0 h42 n0 (by omega) (by omega) (Sta.ext x43 S0) hz (Sta.ext x43 D0) (B0.ext x43) (by rw [hn7]; exact and3 _)) (ww hw 31 rfl) (ww hw 5 rfl) (hEL hw) (by decide) (by decide)) (g := (mkF m 129 #[.val (.int p0), .val (.int p1), .val (.int p2), .val (.int p3), .val (.int p4), .val (.int v1), .val (.int n6), .val (.int n7), .val (.int n8), .val (.ref a3), .unset, .unset, .unset, .unset, .unset] [(.int p2), (.int n7), (.ref a42), (.ref a40), (.ref a38), (.ref a38)])) rfl (by rw [hml]; rfl) (argsL := [(.int n7), (.int p2)]) (rest := [(.ref a42), (.ref a40), (.ref a38), (.ref a38)]) (lenOf pd_34 rfl) rfl rfl (ble_ rfl) (hb hby at_129) (by decide) (by decide) (fun v44 T44 h44 W44 sz44 q44 => ?_)
    obtain ⟨a44, ds44, rfl, E44, g44, L44⟩ := q44
    change Fi _ _ _ _ _ _ _ _ _ _ (T44.setTop (mkF m 132 #[.val (.int p0), .val (.int p1), .val (.int p2), .val (.int p3), .val (.int p4), .val (.int v1), .val (.int n6), .val (.int n7), .val (.int n8), .val (.ref a3), .unset, .unset, .unset, .unset, .unset] [(.ref a44), (.ref a42), (.ref a40), (.ref a38), (.ref a38)]))
    have sz44 := E44.1
    have x45 : Ext h13 h40 := ext_trans E38 E40
    have x46 : Ext h13 h42 := ext_trans x45 E42
    have x47 : Ext h13 h44 := ext_trans x46 E44
    have x48 : Ext h38 h42 := ext_trans E40 E42
    have x49 : Ext h38 h44 := ext_trans x48 E44
    have x50 : Ext h40 h44 := ext_trans E42 E44
    have x51 : Ext h0 h44 := ext_trans x43 E44
    refine W44.callI hx (y := y_66) rfl (ww hw 56 rfl) (ww hw 57 rfl) (ww hw 58 rfl) (by decide) (Pay.of_con (Wd := 1) (rm_svi l Z a0 hw a38 a40 a42 a44 dc el em eb mr kb n0 cs40 ds42 ds44 h44 n0 (by omega) (by omega) (Exa.ext x49 A38) (Fld.ext x49 (D38 (Or.inr (ww hw 61 rfl)) (ty := (.object "java/lang/String")) (by decide))) (Fld.ext x49 (D38 (Or.inr (ww hw 92 rfl)) (ty := (.object "java/util/List")) (by decide))) (Fld.ext x49 (D38 (Or.inr (ww hw 94 rfl)) (ty := (.object "java/util/List")) (by decide))) (F40.ext x50) (L42.ext E44) L44 (Sta.ext x51 P1) (Exa.ext x51 P2) (Fld.ext x51 P3) (P4.ext x51) (Sta.ext x51 M1) (Exa.ext x51 P5) M0) (ww hw 58 rfl) (ww hw 2 rfl) (hEL hw) (by decide) (by decide)) (a := a38) (g := (mkF m 132 #[.val (.int p0), .val (.int p1), .val (.int p2), .val (.int p3), .val (.int p4), .val (.int v1), .val (.int n6), .val (.int n7), .val (.int n8), .val (.ref a3), .unset, .unset, .unset, .unset, .unset] [(.ref a44), (.ref a42), (.ref a40), (.ref a38), (.ref a38)])) rfl (by rw [hml]; rfl) (argsL := [(.ref a40), (.ref a42), (.ref a44)]) (rest := [(.ref a38)]) (lenOf pd_35 rfl) rfl rfl (ble_ rfl) (hb hby at_132) (by decide) (by decide) (fun v52 T52 h52 W52 sz52 q52 => ?_)
    obtain ⟨rfl, K52, la52, lb52, A52, F521, F522, F523, U52, I521, I522⟩ := q52
    change Fi _ _ _ _ _ _ _ _ _ _ (T52.setTop (mkF m 135 #[.val (.int p0), .val (.int p1), .val (.int p2), .val (.int p3), .val (.int p4), .val (.int v1), .val (.int n6), .val (.int n7), .val (.int n8), .val (.ref a3), .unset, .unset, .unset, .unset, .unset] [(.ref a38)]))
    have x52k : Ext h13 h52 := ext_keep1 x47 K52 (by omega)
    have sz52k := x52k.1
    refine Fi.by' (st' := T52.setTop (mkF m 167 #[.val (.int p0), .val (.int p1), .val (.int p2), .val (.int p3), .val (.int p4), .val (.int v1), .val (.int n6), .val (.int n7), .val (.int n8), .val (.ref a3), .val (.ref a38), .unset, .unset, .unset, .unset] [])) (fun t k => ?_) ?_
    ·refine XS.astore W52.here hx rfl (hb hby at_135) rfl rfl (l' := #[.val (.int p0), .val (.int p1), .val (.int p2), .val (.int p3), .val (.int p4), .val (.int v1), .val (.int n6), .val (.int n7), .val (.int n8), .val (.ref a3), .val (.ref a38), .unset, .unset, .unset, .unset]) rfl ?_
     refine XS.goto W52.here hx rfl (pc0 := 137) (pc' := 167) rfl (hb hby at_137) (by decide) (by decide) ?_
     exact k
    have W53 : Wk p l e room_1 s m #[(.int p0), (.int p1), (.int p2), (.int p3), (.int p4)] below meth c Z a0 EN "com/example/weftwork/weftwork/model/ServiceHashCodePinLaw" n0 T52 h52 58 174 := W52.drop
    have x54 : Ext h0 h52 := ext_trans x13k x52k
    have f53_0 := (Sta.ext x54 S0)
    have f53_1 := (Exa.ext x52k A13)
    have f53_2 := (U13.ext x52k)
    have f53_3 := (Fld.ext x52k F131)
    have f53_4 := (Fld.ext x52k F132)
    have f53_5 := (Fld.ext x52k F133)
    have f53_6 := (I131.ext x52k)
    have f53_7 := (I132.ext x52k)
    have f53_8 := A52
    have f53_9 := U52
    have f53_10 := F521
    have f53_11 := F522
    have f53_12 := F523
    have f53_13 := I521
    have f53_14 := I522
    refine Fi.by' (st' := T52.setTop (mkF m 169 #[.val (.int p0), .val (.int p1), .val (.int p2), .val (.int p3), .val (.int p4), .val (.int v1), .val (.int n6), .val (.int n7), .val (.int n8), .val (.ref a3), .val (.ref a38), .unset, .unset, .unset, .unset] [(.ref a3)])) (fun t k => ?_) ?_
    ·refine XS.aload W53.here hx rfl (hb hby at_167) rfl rfl ?_
     exact k
    refine W53.callV hx (y := y_16) (C := "com/example/weftwork/weftwork/model/Service") (ww hw 95 rfl) (ww hw 96 rfl) (ww hw 98 rfl) (ww hw 97 rfl) (by decide) (Pay.of_con (Wd := 0) (rm_svh l Z a0 hw a3 a4 la13 lb13 zc cs4 ds6 ds8 h52 n0 (by omega) (by omega) f53_0 hz f53_2 f53_6 f53_7 f53_1 f53_3 f53_4 f53_5) (ww hw 99 rfl) (ww hw 2 rfl) (hEN hw) (by decide) (by decide)) f53_1 (g := (mkF m 169 #[.val (.int p0), .val (.int p1), .val (.int p2), .val (.int p3), .val (.int p4), .val (.int v1), .val (.int n6), .val (.int n7), .val (.int n8), .val (.ref a3), .val (.ref a38), .unset, .unset, .unset, .unset] [(.ref a3)])) rfl (by rw [hml]; rfl) (argsL := []) (rest := []) (lenOf pd_4 rfl) rfl rfl (ble_ rfl) (hb hby at_169) (by decide) (by decide) (fun v55 T55 h55 W55 sz55 q55 => ?_)
    obtain ⟨rfl, Hs55⟩ := q55
    change Fi _ _ _ _ _ _ _ _ _ _ (T55.setTop (mkF m 172 #[.val (.int p0), .val (.int p1), .val (.int p2), .val (.int p3), .val (.int p4), .val (.int v1), .val (.int n6), .val (.int n7), .val (.int n8), .val (.ref a3), .val (.ref a38), .unset, .unset, .unset, .unset] [(.int (HV cs4 ds6 ds8))]))
    have f55_0 := (Hs.sta Hs55 f53_0)
    have f55_1 := (Hs.exa Hs55 f53_1 (by decide))
    have f55_2 := (Hs55.2.2 _ _ f53_2)
    have f55_3 := (Hs.fld Hs55 f53_1 (by decide) f53_3)
    have f55_4 := (Hs.fld Hs55 f53_1 (by decide) f53_4)
    have f55_5 := (Hs.fld Hs55 f53_1 (by decide) f53_5)
    have f55_6 := (IL.hs (ww hw 8 rfl) f53_6 Hs55)
    have f55_7 := (IL.hs (ww hw 8 rfl) f53_7 Hs55)
    have f55_8 := (Hs.exa Hs55 f53_8 (by decide))
    have f55_9 := (Hs55.2.2 _ _ f53_9)
    have f55_10 := (Hs.fld Hs55 f53_8 (by decide) f53_10)
    have f55_11 := (Hs.fld Hs55 f53_8 (by decide) f53_11)
    have f55_12 := (Hs.fld Hs55 f53_8 (by decide) f53_12)
    have f55_13 := (IL.hs (ww hw 8 rfl) f53_13 Hs55)
    have f55_14 := (IL.hs (ww hw 8 rfl) f53_14 Hs55)
    refine Fi.by' (st' := T55.setTop (mkF m 176 #[.val (.int p0), .val (.int p1), .val (.int p2), .val (.int p3), .val (.int p4), .val (.int v1), .val (.int n6), .val (.int n7), .val (.int n8), .val (.ref a3), .val (.ref a38), .val (.int (HV cs4 ds6 ds8)), .unset, .unset, .unset] [(.ref a3)])) (fun t k => ?_) ?_
    ·refine XS.istore W55.here hx rfl (hb hby at_172) rfl (l' := #[.val (.int p0), .val (.int p1), .val (.int p2), .val (.int p3), .val (.int p4), .val (.int v1), .val (.int n6), .val (.int n7), .val (.int n8), .val (.ref a3), .val (.ref a38), .val (.int (HV cs4 ds6 ds8)), .unset, .unset, .unset]) rfl ?_
     refine XS.aload W55.here hx rfl (hb hby at_174) rfl rfl ?_
     exact k
    refine W55.callV hx (y := y_16) (C := "com/example/weftwork/weftwork/model/Service") (ww hw 95 rfl) (ww hw 96 rfl) (ww hw 98 rfl) (ww hw 97 rfl) (by decide) (Pay.of_con (Wd := 0) (rm_svh l Z a0 hw a3 a4 la13 lb13 zc cs4 ds6 ds8 h55 n0 (by omega) (by omega) f55_0 hz f55_2 f55_6 f55_7 f55_1 f55_3 f55_4 f55_5) (ww hw 99 rfl) (ww hw 2 rfl) (hEN hw) (by decide) (by decide)) f55_1 (g := (mkF m 176 #[.val (.int p0), .val (.int p1), .val (.int p2), .val (.int p3), .val (.int p4), .val (.int v1), .val (.int n6), .val (.int n7), .val (.int n8), .val (.ref a3), .val (.ref a38), .val (.int (HV cs4 ds6 ds8)), .unset, .unset, .unset] [(.ref a3)])) rfl (by rw [hml]; rfl) (argsL := []) (rest := []) (lenOf pd_4 rfl) rfl rfl (ble_ rfl) (hb hby at_176) (by decide) (by decide) (fun v56 T56 h56 W56 sz56 q56 => ?_)
    obtain ⟨rfl, Hs56⟩ := q56
    change Fi _ _ _ _ _ _ _ _ _ _ (T56.setTop (mkF m 179 #[.val (.int p0), .val (.int p1), .val (.int p2), .val (.int p3), .val (.int p4), .val (.int v1), .val (.int n6), .val (.int n7), .val (.int n8), .val (.ref a3), .val (.ref a38), .val (.int (HV cs4 ds6 ds8)), .unset, .unset, .unset] [(.int (HV cs4 ds6 ds8))]))
    have f56_0 := (Hs.sta Hs56 f55_0)
    have f56_1 := (Hs.exa Hs56 f55_1 (by decide))
    have f56_2 := (Hs56.2.2 _ _ f55_2)
    have f56_3 := (Hs.fld Hs56 f55_1 (by decide) f55_3)
    have f56_4 := (Hs.fld Hs56 f55_1 (by decide) f55_4)
    have f56_5 := (Hs.fld Hs56 f55_1 (by decide) f55_5)
    have f56_6 := (IL.hs (ww hw 8 rfl) f55_6 Hs56)
    have f56_7 := (IL.hs (ww hw 8 rfl) f55_7 Hs56)
    have f56_8 := (Hs.exa Hs56 f55_8 (by decide))
    have f56_9 := (Hs56.2.2 _ _ f55_9)
    have f56_10 := (Hs.fld Hs56 f55_8 (by decide) f55_10)
    have f56_11 := (Hs.fld Hs56 f55_8 (by decide) f55_11)
    have f56_12 := (Hs.fld Hs56 f55_8 (by decide) f55_12)
    have f56_13 := (IL.hs (ww hw 8 rfl) f55_13 Hs56)
    have f56_14 := (IL.hs (ww hw 8 rfl) f55_14 Hs56)
    refine Fi.by' (st' := T56.setTop (mkF m 183 #[.val (.int p0), .val (.int p1), .val (.int p2), .val (.int p3), .val (.int p4), .val (.int v1), .val (.int n6), .val (.int n7), .val (.int n8), .val (.ref a3), .val (.ref a38), .val (.int (HV cs4 ds6 ds8)), .val (.int (HV cs4 ds6 ds8)), .unset, .unset] [(.ref a38)])) (fun t k => ?_) ?_
    ·refine XS.istore W56.here hx rfl (hb hby at_179) rfl (l' := #[.val (.int p0), .val (.int p1), .val (.int p2), .val (.int p3), .val (.int p4), .val (.int v1), .val (.int n6), .val (.int n7), .val (.int n8), .val (.ref a3), .val (.ref a38), .val (.int (HV cs4 ds6 ds8)), .val (.int (HV cs4 ds6 ds8)), .unset, .unset]) rfl ?_
     refine XS.aload W56.here hx rfl (hb hby at_181) rfl rfl ?_
     exact k
    refine W56.callV hx (y := y_16) (C := "com/example/weftwork/weftwork/model/Service") (ww hw 95 rfl) (ww hw 96 rfl) (ww hw 98 rfl) (ww hw 97 rfl) (by decide) (Pay.of_con (Wd := 0) (rm_svh l Z a0 hw a38 a40 la52 lb52 zc cs40 ds42 ds44 h56 n0 (by omega) (by omega) f56_0 hz f56_9 f56_13 f56_14 f56_8 f56_10 f56_11 f56_12) (ww hw 99 rfl) (ww hw 2 rfl) (hEN hw) (by decide) (by decide)) f56_8 (g := (mkF m 183 #[.val (.int p0), .val (.int p1), .val (.int p2), .val (.int p3), .val (.int p4), .val (.int v1), .val (.int n6), .val (.int n7), .val (.int n8), .val (.ref a3), .val (.ref a38), .val (.int (HV cs4 ds6 ds8)), .val (.int (HV cs4 ds6 ds8)), .unset, .unset] [(.ref a38)])) rfl (by rw [hml]; rfl) (argsL := []) (rest := []) (lenOf pd_4 rfl) rfl rfl (ble_ rfl) (hb hby at_183) (by decide) (by decide) (fun v57 T57 h57 W57 sz57 q57 => ?_)
    obtain ⟨rfl, Hs57⟩ := q57
    change Fi _ _ _ _ _ _ _ _ _ _ (T57.setTop (mkF m 186 #[.val (.int p0), .val (.int p1), .val (.int p2), .val (.int p3), .val (.int p4), .val (.int v1), .val (.int n6), .val (.int n7), .val (.int n8), .val (.ref a3), .val (.ref a38), .val (.int (HV cs4 ds6 ds8)), .val (.int (HV cs4 ds6 ds8)), .unset, .unset] [(.int (HV cs40 ds42 ds44))]))
    have f57_0 := (Hs.sta Hs57 f56_0)
    have f57_1 := (Hs.exa Hs57 f56_1 (by decide))
    have f57_2 := (Hs57.2.2 _ _ f56_2)
    have f57_3 := (Hs.fld Hs57 f56_1 (by decide) f56_3)
    have f57_4 := (Hs.fld Hs57 f56_1 (by decide) f56_4)
    have f57_5 := (Hs.fld Hs57 f56_1 (by decide) f56_5)
    have f57_6 := (IL.hs (ww hw 8 rfl) f56_6 Hs57)
    have f57_7 := (IL.hs (ww hw 8 rfl) f56_7 Hs57)
    have f57_8 := (Hs.exa Hs57 f56_8 (by decide))
    have f57_9 := (Hs57.2.2 _ _ f56_9)
    have f57_10 := (Hs.fld Hs57 f56_8 (by decide) f56_10)
    have f57_11 := (Hs.fld Hs57 f56_8 (by decide) f56_11)
    have f57_12 := (Hs.fld Hs57 f56_8 (by decide) f56_12)
    have f57_13 := (IL.hs (ww hw 8 rfl) f56_13 Hs57)
    have f57_14 := (IL.hs (ww hw 8 rfl) f56_14 Hs57)
    refine Fi.by' (st' := T57.setTop (mkF m 192 #[.val (.int p0), .val (.int p1), .val (.int p2), .val (.int p3), .val (.int p4), .val (.int v1), .val (.int n6), .val (.int n7), .val (.int n8), .val (.ref a3), .val (.ref a38), .val (.int (HV cs4 ds6 ds8)), .val (.int (HV cs4 ds6 ds8)), .val (.int (HV cs40 ds42 ds44)), .unset] [(.ref a38), (.ref a3)])) (fun t k => ?_) ?_
    ·refine XS.istore W57.here hx rfl (hb hby at_186) rfl (l' := #[.val (.int p0), .val (.int p1), .val (.int p2), .val (.int p3), .val (.int p4), .val (.int v1), .val (.int n6), .val (.int n7), .val (.int n8), .val (.ref a3), .val (.ref a38), .val (.int (HV cs4 ds6 ds8)), .val (.int (HV cs4 ds6 ds8)), .val (.int (HV cs40 ds42 ds44)), .unset]) rfl ?_
     refine XS.aload W57.here hx rfl (hb hby at_188) rfl rfl ?_
     refine XS.aload W57.here hx rfl (hb hby at_190) rfl rfl ?_
     exact k
    refine W57.callV hx (y := y_30) (C := "com/example/weftwork/weftwork/model/Service") (ww hw 145 rfl) (ww hw 146 rfl) (ww hw 148 rfl) (ww hw 147 rfl) (by decide) (Pay.of_con (Wd := 0) (rm_seq l Z a0 hw a3 a4 la13 lb13 a38 a40 la52 lb52 zc cs4 ds6 ds8 cs40 ds42 ds44 h57 n0 (by omega) f57_0 hz f57_1 f57_3 f57_4 f57_5 f57_8 f57_10 f57_11 f57_12 f57_2 f57_6 f57_7 f57_9 f57_13 f57_14) (ww hw 149 rfl) (ww hw 2 rfl) (hEN hw) (by decide) (by decide)) f57_1 (g := (mkF m 192 #[.val (.int p0), .val (.int p1), .val (.int p2), .val (.int p3), .val (.int p4), .val (.int v1), .val (.int n6), .val (.int n7), .val (.int n8), .val (.ref a3), .val (.ref a38), .val (.int (HV cs4 ds6 ds8)), .val (.int (HV cs4 ds6 ds8)), .val (.int (HV cs40 ds42 ds44)), .unset] [(.ref a38), (.ref a3)])) rfl (by rw [hml]; rfl) (argsL := [(.ref a38)]) (rest := []) (lenOf pd_9 rfl) rfl rfl (ble_ rfl) (hb hby at_192) (by decide) (by decide) (fun v58 T58 h58 W58 sz58 q58 => ?_)
    obtain ⟨r58, rfl, hr58, E58⟩ := q58
    change Fi _ _ _ _ _ _ _ _ _ _ (T58.setTop (mkF m 195 #[.val (.int p0), .val (.int p1), .val (.int p2), .val (.int p3), .val (.int p4), .val (.int v1), .val (.int n6), .val (.int n7), .val (.int n8), .val (.ref a3), .val (.ref a38), .val (.int (HV cs4 ds6 ds8)), .val (.int (HV cs4 ds6 ds8)), .val (.int (HV cs40 ds42 ds44)), .unset] [(.int r58)]))
    have hy58 : r58 = 0 ∨ HV cs4 ds6 ds8 = HV cs40 ds42 ds44 := hr58.imp id (fun q => by rw [q.1, q.2.1, q.2.2])
    refine Fi.by' (st' := T58.setTop (mkF m 206 #[.val (.int p0), .val (.int p1), .val (.int p2), .val (.int p3), .val (.int p4), .val (.int v1), .val (.int n6), .val (.int n7), .val (.int n8), .val (.ref a3), .val (.ref a38), .val (.int (HV cs4 ds6 ds8)), .val (.int (HV cs4 ds6 ds8)), .val (.int (HV cs40 ds42 ds44)), .val (.int r58)] [(.int r58)])) (fun t k => ?_) ?_
    ·refine XS.istore W58.here hx rfl (hb hby at_195) rfl (l' := #[.val (.int p0), .val (.int p1), .val (.int p2), .val (.int p3), .val (.int p4), .val (.int v1), .val (.int n6), .val (.int n7), .val (.int n8), .val (.ref a3), .val (.ref a38), .val (.int (HV cs4 ds6 ds8)), .val (.int (HV cs4 ds6 ds8)), .val (.int (HV cs40 ds42 ds44)), .val (.int r58)]) rfl ?_
     refine XS.iload W58.here hx rfl (hb hby at_197) rfl ?_
     refine XS.iload W58.here hx rfl (hb hby at_199) rfl ?_
     refine XS.icmpNo W58.here hx rfl (hb hby at_201) rfl (teq (rfl : (HV cs4 ds6 ds8) = (HV cs4 ds6 ds8))).2 ?_
     refine XS.iload W58.here hx rfl (hb hby at_204) rfl ?_
     exact k
    by_cases hc206_59 : r58 = (0 : Int32)
    ·refine Fi.by' (st' := T58.setTop (mkF m 221 #[.val (.int p0), .val (.int p1), .val (.int p2), .val (.int p3), .val (.int p4), .val (.int v1), .val (.int n6), .val (.int n7), .val (.int n8), .val (.ref a3), .val (.ref a38), .val (.int (HV cs4 ds6 ds8)), .val (.int (HV cs4 ds6 ds8)), .val (.int (HV cs40 ds42 ds44)), .val (.int r58)] [(.int 1)])) (fun t k => ?_) ?_
     ·refine XS.ifYes W58.here hx rfl (pc0 := 206) (pc' := 216) rfl (hb hby at_206) rfl ((if0 _ _).trans (teq hc206_59).1) (by decide) (by decide) ?_
      refine iconstZ W58.here hx rfl (hb hby at_216) (z := (1 : Int32)) rfl ?_
      refine XS.goto W58.here hx rfl (pc0 := 217) (pc' := 221) rfl (hb hby at_217) (by decide) (by decide) ?_
      exact k
     exact W58.iret hx hlk hret (by simp) rfl (hb hby at_221) rfl (by decide) (by decide)
    ·refine Fi.by' (st' := T58.setTop (mkF m 213 #[.val (.int p0), .val (.int p1), .val (.int p2), .val (.int p3), .val (.int p4), .val (.int v1), .val (.int n6), .val (.int n7), .val (.int n8), .val (.ref a3), .val (.ref a38), .val (.int (HV cs4 ds6 ds8)), .val (.int (HV cs4 ds6 ds8)), .val (.int (HV cs40 ds42 ds44)), .val (.int r58)] [(.int (HV cs40 ds42 ds44)), (.int (HV cs4 ds6 ds8))])) (fun t k => ?_) ?_
     ·refine XS.ifNo W58.here hx rfl (hb hby at_206) rfl ((if0 _ _).trans (feq hc206_59).1) ?_
      refine XS.iload W58.here hx rfl (hb hby at_209) rfl ?_
      refine XS.iload W58.here hx rfl (hb hby at_211) rfl ?_
      exact k
     refine Fi.by' (st' := T58.setTop (mkF m 221 #[.val (.int p0), .val (.int p1), .val (.int p2), .val (.int p3), .val (.int p4), .val (.int v1), .val (.int n6), .val (.int n7), .val (.int n8), .val (.ref a3), .val (.ref a38), .val (.int (HV cs4 ds6 ds8)), .val (.int (HV cs4 ds6 ds8)), .val (.int (HV cs40 ds42 ds44)), .val (.int r58)] [(.int 1)])) (fun t k => ?_) ?_
     ·refine XS.icmpNo W58.here hx rfl (hb hby at_213) rfl (teq (hy58.resolve_left hc206_59)).2 ?_
      refine iconstZ W58.here hx rfl (hb hby at_216) (z := (1 : Int32)) rfl ?_
      refine XS.goto W58.here hx rfl (pc0 := 217) (pc' := 221) rfl (hb hby at_217) (by decide) (by decide) ?_
      exact k
     exact W58.iret hx hlk hret (by simp) rfl (hb hby at_221) rfl (by decide) (by decide)
   ·refine Fi.by' (st' := T13.setTop (mkF m 140 #[.val (.int p0), .val (.int p1), .val (.int p2), .val (.int p3), .val (.int p4), .val (.int v1), .val (.int n6), .val (.int n7), .val (.int n8), .val (.ref a3), .unset, .unset, .unset, .unset, .unset] [])) (fun t k => ?_) ?_
    ·refine XS.icmpYes W13.here hx rfl (pc0 := 106) (pc' := 140) rfl (hb hby at_106) rfl (feq hc106_37).2 (by decide) (by decide) ?_
     exact k
    refine W13.new hx (ww hw 0 rfl) (ww hw 1 rfl) (ww hw 2 rfl) (g := (mkF m 140 #[.val (.int p0), .val (.int p1), .val (.int p2), .val (.int p3), .val (.int p4), .val (.int v1), .val (.int n6), .val (.int n7), .val (.int n8), .val (.ref a3), .unset, .unset, .unset, .unset, .unset] [])) rfl (hb hby at_140) (by decide) (by decide) (fun T60 h60 a60 ha60 W60 E60 A60 D60 => ?_)
    change Fi _ _ _ _ _ _ _ _ _ _ (T60.setTop (mkF m 143 #[.val (.int p0), .val (.int p1), .val (.int p2), .val (.int p3), .val (.int p4), .val (.int v1), .val (.int n6), .val (.int n7), .val (.int n8), .val (.ref a3), .unset, .unset, .unset, .unset, .unset] [(.ref a60)]))
    have sz60 := E60.1
    refine Fi.by' (st' := T60.setTop (mkF m 147 #[.val (.int p0), .val (.int p1), .val (.int p2), .val (.int p3), .val (.int p4), .val (.int v1), .val (.int n6), .val (.int n7), .val (.int n8), .val (.ref a3), .unset, .unset, .unset, .unset, .unset] [(.int v1), (.int p0), (.ref a60), (.ref a60)])) (fun t k => ?_) ?_
    ·refine XS.dup W60.here hx rfl (hb hby at_143) rfl rfl ?_
     refine XS.iloadN W60.here hx rfl (hb hby at_144) rfl ?_
     refine XS.iload W60.here hx rfl (hb hby at_145) rfl ?_
     exact k
    have x61 : Ext h0 h60 := ext_trans x13k E60
    refine W60.callS hx (y := y_33) (ww hw 3 rfl) (ww hw 4 rfl) (ww hw 5 rfl) (ww hw 6 rfl) (by decide) (Pay.of_con (Wd := 2) (rm_nam l Z a0 hw p0 v1 zc h60 n0 (by omega) (Sta.ext x61 S0) hz) (ww hw 6 rfl) (ww hw 5 rfl) (hEL hw) (by decide) (by decide)) (g := (mkF m 147 #[.val (.int p0), .val (.int p1), .val (.int p2), .val (.int p3), .val (.int p4), .val (.int v1), .val (.int n6), .val (.int n7), .val (.int n8), .val (.ref a3), .unset, .unset, .unset, .unset, .unset] [(.int v1), (.int p0), (.ref a60), (.ref a60)])) rfl (by rw [hml]; rfl) (argsL := [(.int p0), (.int v1)]) (rest := [(.ref a60), (.ref a60)]) (lenOf pd_33 rfl) rfl rfl (ble_ rfl) (hb hby at_147) (by decide) (by decide) (fun v62 T62 h62 W62 sz62 q62 => ?_)
    obtain ⟨a62, cs62, rfl, E62, g62, F62⟩ := q62
    change Fi _ _ _ _ _ _ _ _ _ _ (T62.setTop (mkF m 150 #[.val (.int p0), .val (.int p1), .val (.int p2), .val (.int p3), .val (.int p4), .val (.int v1), .val (.int n6), .val (.int n7), .val (.int n8), .val (.ref a3), .unset, .unset, .unset, .unset, .unset] [(.ref a62), (.ref a60), (.ref a60)]))
    have sz62 := E62.1
    refine Fi.by' (st' := T62.setTop (mkF m 153 #[.val (.int p0), .val (.int p1), .val (.int p2), .val (.int p3), .val (.int p4), .val (.int v1), .val (.int n6), .val (.int n7), .val (.int n8), .val (.ref a3), .unset, .unset, .unset, .unset, .unset] [(.int p1), (.int n6), (.ref a62), (.ref a60), (.ref a60)])) (fun t k => ?_) ?_
    ·refine XS.iload W62.here hx rfl (hb hby at_150) rfl ?_
     refine XS.iloadN W62.here hx rfl (hb hby at_152) rfl ?_
     exact k
    have x63 : Ext h0 h62 := ext_trans x61 E62
    refine W62.callS hx (y := y_47) (ww hw 29 rfl) (ww hw 30 rfl) (ww hw 5 rfl) (ww hw 31 rfl) (by decide) (Pay.of_con (Wd := 3) (rm_lst l Z a0 hw n6 p1 zc dc kd n0 h62 n0 (by omega) (by omega) (Sta.ext x63 S0) hz (Sta.ext x63 D0) (B0.ext x63) (by rw [hn6]; exact and3 _)) (ww hw 31 rfl) (ww hw 5 rfl) (hEL hw) (by decide) (by decide)) (g := (mkF m 153 #[.val (.int p0), .val (.int p1), .val (.int p2), .val (.int p3), .val (.int p4), .val (.int v1), .val (.int n6), .val (.int n7), .val (.int n8), .val (.ref a3), .unset, .unset, .unset, .unset, .unset] [(.int p1), (.int n6), (.ref a62), (.ref a60), (.ref a60)])) rfl (by rw [hml]; rfl) (argsL := [(.int n6), (.int p1)]) (rest := [(.ref a62), (.ref a60), (.ref a60)]) (lenOf pd_34 rfl) rfl rfl (ble_ rfl) (hb hby at_153) (by decide) (by decide) (fun v64 T64 h64 W64 sz64 q64 => ?_)
    obtain ⟨a64, ds64, rfl, E64, g64, L64⟩ := q64
    change Fi _ _ _ _ _ _ _ _ _ _ (T64.setTop (mkF m 156 #[.val (.int p0), .val (.int p1), .val (.int p2), .val (.int p3), .val (.int p4), .val (.int v1), .val (.int n6), .val (.int n7), .val (.int n8), .val (.ref a3), .unset, .unset, .unset, .unset, .unset] [(.ref a64), (.ref a62), (.ref a60), (.ref a60)]))
    have sz64 := E64.1
    refine Fi.by' (st' := T64.setTop (mkF m 159 #[.val (.int p0), .val (.int p1), .val (.int p2), .val (.int p3), .val (.int p4), .val (.int v1), .val (.int n6), .val (.int n7), .val (.int n8), .val (.ref a3), .unset, .unset, .unset, .unset, .unset] [(.int p2), (.int n7), (.ref a64), (.ref a62), (.ref a60), (.ref a60)])) (fun t k => ?_) ?_
    ·refine XS.iload W64.here hx rfl (hb hby at_156) rfl ?_
     refine XS.iloadN W64.here hx rfl (hb hby at_158) rfl ?_
     exact k
    have x65 : Ext h0 h64 := ext_trans x63 E64
    refine W64.callS hx (y := y_47) (ww hw 29 rfl) (ww hw 30 rfl) (ww hw 5 rfl) (ww hw 31 rfl) (by decide) (Pay.of_con (Wd := 4) (rm_lst l Z a0 hw n7 p2 zc dc kd n0 h64 n0 (by omega) (by omega) (Sta.ext x65 S0) hz (Sta.ext x65 D0) (B0.ext x65) (by rw [hn7]; exact and3 _)) (ww hw 31 rfl) (ww hw 5 rfl) (hEL hw) (by decide) (by decide)) (g := (mkF m 159 #[.val (.int p0), .val (.int p1), .val (.int p2), .val (.int p3), .val (.int p4), .val (.int v1), .val (.int n6), .val (.int n7), .val (.int n8), .val (.ref a3), .unset, .unset, .unset, .unset, .unset] [(.int p2), (.int n7), (.ref a64), (.ref a62), (.ref a60), (.ref a60)])) rfl (by rw [hml]; rfl) (argsL := [(.int n7), (.int p2)]) (rest := [(.ref a64), (.ref a62), (.ref a60), (.ref a60)]) (lenOf pd_34 rfl) rfl rfl (ble_ rfl) (hb hby at_159) (by decide) (by decide) (fun v66 T66 h66 W66 sz66 q66 => ?_)
    obtain ⟨a66, ds66, rfl, E66, g66, L66⟩ := q66
    change Fi _ _ _ _ _ _ _ _ _ _ (T66.setTop (mkF m 162 #[.val (.int p0), .val (.int p1), .val (.int p2), .val (.int p3), .val (.int p4), .val (.int v1), .val (.int n6), .val (.int n7), .val (.int n8), .val (.ref a3), .unset, .unset, .unset, .unset, .unset] [(.ref a66), (.ref a64), (.ref a62), (.ref a60), (.ref a60)]))
    have sz66 := E66.1
    have x67 : Ext h13 h62 := ext_trans E60 E62
    have x68 : Ext h13 h64 := ext_trans x67 E64
    have x69 : Ext h13 h66 := ext_trans x68 E66
    have x70 : Ext h60 h64 := ext_trans E62 E64
    have x71 : Ext h60 h66 := ext_trans x70 E66
    have x72 : Ext h62 h66 := ext_trans E64 E66
    have x73 : Ext h0 h66 := ext_trans x65 E66
    refine W66.callI hx (y := y_66) rfl (ww hw 56 rfl) (ww hw 57 rfl) (ww hw 58 rfl) (by decide) (Pay.of_con (Wd := 1) (rm_svi l Z a0 hw a60 a62 a64 a66 dc el em eb mr kb n0 cs62 ds64 ds66 h66 n0 (by omega) (by omega) (Exa.ext x71 A60) (Fld.ext x71 (D60 (Or.inr (ww hw 61 rfl)) (ty := (.object "java/lang/String")) (by decide))) (Fld.ext x71 (D60 (Or.inr (ww hw 92 rfl)) (ty := (.object "java/util/List")) (by decide))) (Fld.ext x71 (D60 (Or.inr (ww hw 94 rfl)) (ty := (.object "java/util/List")) (by decide))) (F62.ext x72) (L64.ext E66) L66 (Sta.ext x73 P1) (Exa.ext x73 P2) (Fld.ext x73 P3) (P4.ext x73) (Sta.ext x73 M1) (Exa.ext x73 P5) M0) (ww hw 58 rfl) (ww hw 2 rfl) (hEL hw) (by decide) (by decide)) (a := a60) (g := (mkF m 162 #[.val (.int p0), .val (.int p1), .val (.int p2), .val (.int p3), .val (.int p4), .val (.int v1), .val (.int n6), .val (.int n7), .val (.int n8), .val (.ref a3), .unset, .unset, .unset, .unset, .unset] [(.ref a66), (.ref a64), (.ref a62), (.ref a60), (.ref a60)])) rfl (by rw [hml]; rfl) (argsL := [(.ref a62), (.ref a64), (.ref a66)]) (rest := [(.ref a60)]) (lenOf pd_35 rfl) rfl rfl (ble_ rfl) (hb hby at_162) (by decide) (by decide) (fun v74 T74 h74 W74 sz74 q74 => ?_)
    obtain ⟨rfl, K74, la74, lb74, A74, F741, F742, F743, U74, I741, I742⟩ := q74
    change Fi _ _ _ _ _ _ _ _ _ _ (T74.setTop (mkF m 165 #[.val (.int p0), .val (.int p1), .val (.int p2), .val (.int p3), .val (.int p4), .val (.int v1), .val (.int n6), .val (.int n7), .val (.int n8), .val (.ref a3), .unset, .unset, .unset, .unset, .unset] [(.ref a60)]))
    have x74k : Ext h13 h74 := ext_keep1 x69 K74 (by omega)
    have sz74k := x74k.1
    refine Fi.by' (st' := T74.setTop (mkF m 167 #[.val (.int p0), .val (.int p1), .val (.int p2), .val (.int p3), .val (.int p4), .val (.int v1), .val (.int n6), .val (.int n7), .val (.int n8), .val (.ref a3), .val (.ref a60), .unset, .unset, .unset, .unset] [])) (fun t k => ?_) ?_
    ·refine XS.astore W74.here hx rfl (hb hby at_165) rfl rfl (l' := #[.val (.int p0), .val (.int p1), .val (.int p2), .val (.int p3), .val (.int p4), .val (.int v1), .val (.int n6), .val (.int n7), .val (.int n8), .val (.ref a3), .val (.ref a60), .unset, .unset, .unset, .unset]) rfl ?_
     exact k
    have W75 : Wk p l e room_1 s m #[(.int p0), (.int p1), (.int p2), (.int p3), (.int p4)] below meth c Z a0 EN "com/example/weftwork/weftwork/model/ServiceHashCodePinLaw" n0 T74 h74 58 174 := W74.drop
    have x76 : Ext h0 h74 := ext_trans x13k x74k
    have f75_0 := (Sta.ext x76 S0)
    have f75_1 := (Exa.ext x74k A13)
    have f75_2 := (U13.ext x74k)
    have f75_3 := (Fld.ext x74k F131)
    have f75_4 := (Fld.ext x74k F132)
    have f75_5 := (Fld.ext x74k F133)
    have f75_6 := (I131.ext x74k)
    have f75_7 := (I132.ext x74k)
    have f75_8 := A74
    have f75_9 := U74
    have f75_10 := F741
    have f75_11 := F742
    have f75_12 := F743
    have f75_13 := I741
    have f75_14 := I742
    refine Fi.by' (st' := T74.setTop (mkF m 169 #[.val (.int p0), .val (.int p1), .val (.int p2), .val (.int p3), .val (.int p4), .val (.int v1), .val (.int n6), .val (.int n7), .val (.int n8), .val (.ref a3), .val (.ref a60), .unset, .unset, .unset, .unset] [(.ref a3)])) (fun t k => ?_) ?_
    ·refine XS.aload W75.here hx rfl (hb hby at_167) rfl rfl ?_
     exact k
    refine W75.callV hx (y := y_16) (C := "com/example/weftwork/weftwork/model/Service") (ww hw 95 rfl) (ww hw 96 rfl) (ww hw 98 rfl) (ww hw 97 rfl) (by decide) (Pay.of_con (Wd := 0) (rm_svh l Z a0 hw a3 a4 la13 lb13 zc cs4 ds6 ds8 h74 n0 (by omega) (by omega) f75_0 hz f75_2 f75_6 f75_7 f75_1 f75_3 f75_4 f75_5) (ww hw 99 rfl) (ww hw 2 rfl) (hEN hw) (by decide) (by decide)) f75_1 (g := (mkF m 169 #[.val (.int p0), .val (.int p1), .val (.int p2), .val (.int p3), .val (.int p4), .val (.int v1), .val (.int n6), .val (.int n7), .val (.int n8), .val (.ref a3), .val (.ref a60), .unset, .unset, .unset, .unset] [(.ref a3)])) rfl (by rw [hml]; rfl) (argsL := []) (rest := []) (lenOf pd_4 rfl) rfl rfl (ble_ rfl) (hb hby at_169) (by decide) (by decide) (fun v77 T77 h77 W77 sz77 q77 => ?_)
    obtain ⟨rfl, Hs77⟩ := q77
    change Fi _ _ _ _ _ _ _ _ _ _ (T77.setTop (mkF m 172 #[.val (.int p0), .val (.int p1), .val (.int p2), .val (.int p3), .val (.int p4), .val (.int v1), .val (.int n6), .val (.int n7), .val (.int n8), .val (.ref a3), .val (.ref a60), .unset, .unset, .unset, .unset] [(.int (HV cs4 ds6 ds8))]))
    have f77_0 := (Hs.sta Hs77 f75_0)
    have f77_1 := (Hs.exa Hs77 f75_1 (by decide))
    have f77_2 := (Hs77.2.2 _ _ f75_2)
    have f77_3 := (Hs.fld Hs77 f75_1 (by decide) f75_3)
    have f77_4 := (Hs.fld Hs77 f75_1 (by decide) f75_4)
    have f77_5 := (Hs.fld Hs77 f75_1 (by decide) f75_5)
    have f77_6 := (IL.hs (ww hw 8 rfl) f75_6 Hs77)
    have f77_7 := (IL.hs (ww hw 8 rfl) f75_7 Hs77)
    have f77_8 := (Hs.exa Hs77 f75_8 (by decide))
    have f77_9 := (Hs77.2.2 _ _ f75_9)
    have f77_10 := (Hs.fld Hs77 f75_8 (by decide) f75_10)
    have f77_11 := (Hs.fld Hs77 f75_8 (by decide) f75_11)
    have f77_12 := (Hs.fld Hs77 f75_8 (by decide) f75_12)
    have f77_13 := (IL.hs (ww hw 8 rfl) f75_13 Hs77)
    have f77_14 := (IL.hs (ww hw 8 rfl) f75_14 Hs77)
    refine Fi.by' (st' := T77.setTop (mkF m 176 #[.val (.int p0), .val (.int p1), .val (.int p2), .val (.int p3), .val (.int p4), .val (.int v1), .val (.int n6), .val (.int n7), .val (.int n8), .val (.ref a3), .val (.ref a60), .val (.int (HV cs4 ds6 ds8)), .unset, .unset, .unset] [(.ref a3)])) (fun t k => ?_) ?_
    ·refine XS.istore W77.here hx rfl (hb hby at_172) rfl (l' := #[.val (.int p0), .val (.int p1), .val (.int p2), .val (.int p3), .val (.int p4), .val (.int v1), .val (.int n6), .val (.int n7), .val (.int n8), .val (.ref a3), .val (.ref a60), .val (.int (HV cs4 ds6 ds8)), .unset, .unset, .unset]) rfl ?_
     refine XS.aload W77.here hx rfl (hb hby at_174) rfl rfl ?_
     exact k
    refine W77.callV hx (y := y_16) (C := "com/example/weftwork/weftwork/model/Service") (ww hw 95 rfl) (ww hw 96 rfl) (ww hw 98 rfl) (ww hw 97 rfl) (by decide) (Pay.of_con (Wd := 0) (rm_svh l Z a0 hw a3 a4 la13 lb13 zc cs4 ds6 ds8 h77 n0 (by omega) (by omega) f77_0 hz f77_2 f77_6 f77_7 f77_1 f77_3 f77_4 f77_5) (ww hw 99 rfl) (ww hw 2 rfl) (hEN hw) (by decide) (by decide)) f77_1 (g := (mkF m 176 #[.val (.int p0), .val (.int p1), .val (.int p2), .val (.int p3), .val (.int p4), .val (.int v1), .val (.int n6), .val (.int n7), .val (.int n8), .val (.ref a3), .val (.ref a60), .val (.int (HV cs4 ds6 ds8)), .unset, .unset, .unset] [(.ref a3)])) rfl (by rw [hml]; rfl) (argsL := []) (rest := []) (lenOf pd_4 rfl) rfl rfl (ble_ rfl) (hb hby at_176) (by decide) (by decide) (fun v78 T78 h78 W78 sz78 q78 => ?_)
    obtain ⟨rfl, Hs78⟩ := q78
    change Fi _ _ _ _ _ _ _ _ _ _ (T78.setTop (mkF m 179 #[.val (.int p0), .val (.int p1), .val (.int p2), .val (.int p3), .val (.int p4), .val (.int v1), .val (.int n6), .val (.int n7), .val (.int n8), .val (.ref a3), .val (.ref a60), .val (.int (HV cs4 ds6 ds8)), .unset, .unset, .unset] [(.int (HV cs4 ds6 ds8))]))
    have f78_0 := (Hs.sta Hs78 f77_0)
    have f78_1 := (Hs.exa Hs78 f77_1 (by decide))
    have f78_2 := (Hs78.2.2 _ _ f77_2)
    have f78_3 := (Hs.fld Hs78 f77_1 (by decide) f77_3)
    have f78_4 := (Hs.fld Hs78 f77_1 (by decide) f77_4)
    have f78_5 := (Hs.fld Hs78 f77_1 (by decide) f77_5)
    have f78_6 := (IL.hs (ww hw 8 rfl) f77_6 Hs78)
    have f78_7 := (IL.hs (ww hw 8 rfl) f77_7 Hs78)
    have f78_8 := (Hs.exa Hs78 f77_8 (by decide))
    have f78_9 := (Hs78.2.2 _ _ f77_9)
    have f78_10 := (Hs.fld Hs78 f77_8 (by decide) f77_10)
    have f78_11 := (Hs.fld Hs78 f77_8 (by decide) f77_11)
    have f78_12 := (Hs.fld Hs78 f77_8 (by decide) f77_12)
    have f78_13 := (IL.hs (ww hw 8 rfl) f77_13 Hs78)
    have f78_14 := (IL.hs (ww hw 8 rfl) f77_14 Hs78)
    refine Fi.by' (st' := T78.setTop (mkF m 183 #[.val (.int p0), .val (.int p1), .val (.int p2), .val (.int p3), .val (.int p4), .val (.int v1), .val (.int n6), .val (.int n7), .val (.int n8), .val (.ref a3), .val (.ref a60), .val (.int (HV cs4 ds6 ds8)), .val (.int (HV cs4 ds6 ds8)), .unset, .unset] [(.ref a60)])) (fun t k => ?_) ?_
    ·refine XS.istore W78.here hx rfl (hb hby at_179) rfl (l' := #[.val (.int p0), .val (.int p1), .val (.int p2), .val (.int p3), .val (.int p4), .val (.int v1), .val (.int n6), .val (.int n7), .val (.int n8), .val (.ref a3), .val (.ref a60), .val (.int (HV cs4 ds6 ds8)), .val (.int (HV cs4 ds6 ds8)), .unset, .unset]) rfl ?_
     refine XS.aload W78.here hx rfl (hb hby at_181) rfl rfl ?_
     exact k
    refine W78.callV hx (y := y_16) (C := "com/example/weftwork/weftwork/model/Service") (ww hw 95 rfl) (ww hw 96 rfl) (ww hw 98 rfl) (ww hw 97 rfl) (by decide) (Pay.of_con (Wd := 0) (rm_svh l Z a0 hw a60 a62 la74 lb74 zc cs62 ds64 ds66 h78 n0 (by omega) (by omega) f78_0 hz f78_9 f78_13 f78_14 f78_8 f78_10 f78_11 f78_12) (ww hw 99 rfl) (ww hw 2 rfl) (hEN hw) (by decide) (by decide)) f78_8 (g := (mkF m 183 #[.val (.int p0), .val (.int p1), .val (.int p2), .val (.int p3), .val (.int p4), .val (.int v1), .val (.int n6), .val (.int n7), .val (.int n8), .val (.ref a3), .val (.ref a60), .val (.int (HV cs4 ds6 ds8)), .val (.int (HV cs4 ds6 ds8)), .unset, .unset] [(.ref a60)])) rfl (by rw [hml]; rfl) (argsL := []) (rest := []) (lenOf pd_4 rfl) rfl rfl (ble_ rfl) (hb hby at_183) (by decide) (by decide) (fun v79 T79 h79 W79 sz79 q79 => ?_)
    obtain ⟨rfl, Hs79⟩ := q79
    change Fi _ _ _ _ _ _ _ _ _ _ (T79.setTop (mkF m 186 #[.val (.int p0), .val (.int p1), .val (.int p2), .val (.int p3), .val (.int p4), .val (.int v1), .val (.int n6), .val (.int n7), .val (.int n8), .val (.ref a3), .val (.ref a60), .val (.int (HV cs4 ds6 ds8)), .val (.int (HV cs4 ds6 ds8)), .unset, .unset] [(.int (HV cs62 ds64 ds66))]))
    have f79_0 := (Hs.sta Hs79 f78_0)
    have f79_1 := (Hs.exa Hs79 f78_1 (by decide))
    have f79_2 := (Hs79.2.2 _ _ f78_2)
    have f79_3 := (Hs.fld Hs79 f78_1 (by decide) f78_3)
    have f79_4 := (Hs.fld Hs79 f78_1 (by decide) f78_4)
    have f79_5 := (Hs.fld Hs79 f78_1 (by decide) f78_5)
    have f79_6 := (IL.hs (ww hw 8 rfl) f78_6 Hs79)
    have f79_7 := (IL.hs (ww hw 8 rfl) f78_7 Hs79)
    have f79_8 := (Hs.exa Hs79 f78_8 (by decide))
    have f79_9 := (Hs79.2.2 _ _ f78_9)
    have f79_10 := (Hs.fld Hs79 f78_8 (by decide) f78_10)
    have f79_11 := (Hs.fld Hs79 f78_8 (by decide) f78_11)
    have f79_12 := (Hs.fld Hs79 f78_8 (by decide) f78_12)
    have f79_13 := (IL.hs (ww hw 8 rfl) f78_13 Hs79)
    have f79_14 := (IL.hs (ww hw 8 rfl) f78_14 Hs79)
    refine Fi.by' (st' := T79.setTop (mkF m 192 #[.val (.int p0), .val (.int p1), .val (.int p2), .val (.int p3), .val (.int p4), .val (.int v1), .val (.int n6), .val (.int n7), .val (.int n8), .val (.ref a3), .val (.ref a60), .val (.int (HV cs4 ds6 ds8)), .val (.int (HV cs4 ds6 ds8)), .val (.int (HV cs62 ds64 ds66)), .unset] [(.ref a60), (.ref a3)])) (fun t k => ?_) ?_
    ·refine XS.istore W79.here hx rfl (hb hby at_186) rfl (l' := #[.val (.int p0), .val (.int p1), .val (.int p2), .val (.int p3), .val (.int p4), .val (.int v1), .val (.int n6), .val (.int n7), .val (.int n8), .val (.ref a3), .val (.ref a60), .val (.int (HV cs4 ds6 ds8)), .val (.int (HV cs4 ds6 ds8)), .val (.int (HV cs62 ds64 ds66)), .unset]) rfl ?_
     refine XS.aload W79.here hx rfl (hb hby at_188) rfl rfl ?_
     refine XS.aload W79.here hx rfl (hb hby at_190) rfl rfl ?_
     exact k
    refine W79.callV hx (y := y_30) (C := "com/example/weftwork/weftwork/model/Service") (ww hw 145 rfl) (ww hw 146 rfl) (ww hw 148 rfl) (ww hw 147 rfl) (by decide) (Pay.of_con (Wd := 0) (rm_seq l Z a0 hw a3 a4 la13 lb13 a60 a62 la74 lb74 zc cs4 ds6 ds8 cs62 ds64 ds66 h79 n0 (by omega) f79_0 hz f79_1 f79_3 f79_4 f79_5 f79_8 f79_10 f79_11 f79_12 f79_2 f79_6 f79_7 f79_9 f79_13 f79_14) (ww hw 149 rfl) (ww hw 2 rfl) (hEN hw) (by decide) (by decide)) f79_1 (g := (mkF m 192 #[.val (.int p0), .val (.int p1), .val (.int p2), .val (.int p3), .val (.int p4), .val (.int v1), .val (.int n6), .val (.int n7), .val (.int n8), .val (.ref a3), .val (.ref a60), .val (.int (HV cs4 ds6 ds8)), .val (.int (HV cs4 ds6 ds8)), .val (.int (HV cs62 ds64 ds66)), .unset] [(.ref a60), (.ref a3)])) rfl (by rw [hml]; rfl) (argsL := [(.ref a60)]) (rest := []) (lenOf pd_9 rfl) rfl rfl (ble_ rfl) (hb hby at_192) (by decide) (by decide) (fun v80 T80 h80 W80 sz80 q80 => ?_)
    obtain ⟨r80, rfl, hr80, E80⟩ := q80
    change Fi _ _ _ _ _ _ _ _ _ _ (T80.setTop (mkF m 195 #[.val (.int p0), .val (.int p1), .val (.int p2), .val (.int p3), .val (.int p4), .val (.int v1), .val (.int n6), .val (.int n7), .val (.int n8), .val (.ref a3), .val (.ref a60), .val (.int (HV cs4 ds6 ds8)), .val (.int (HV cs4 ds6 ds8)), .val (.int (HV cs62 ds64 ds66)), .unset] [(.int r80)]))
    have hy80 : r80 = 0 ∨ HV cs4 ds6 ds8 = HV cs62 ds64 ds66 := hr80.imp id (fun q => by rw [q.1, q.2.1, q.2.2])
    refine Fi.by' (st' := T80.setTop (mkF m 206 #[.val (.int p0), .val (.int p1), .val (.int p2), .val (.int p3), .val (.int p4), .val (.int v1), .val (.int n6), .val (.int n7), .val (.int n8), .val (.ref a3), .val (.ref a60), .val (.int (HV cs4 ds6 ds8)), .val (.int (HV cs4 ds6 ds8)), .val (.int (HV cs62 ds64 ds66)), .val (.int r80)] [(.int r80)])) (fun t k => ?_) ?_
    ·refine XS.istore W80.here hx rfl (hb hby at_195) rfl (l' := #[.val (.int p0), .val (.int p1), .val (.int p2), .val (.int p3), .val (.int p4), .val (.int v1), .val (.int n6), .val (.int n7), .val (.int n8), .val (.ref a3), .val (.ref a60), .val (.int (HV cs4 ds6 ds8)), .val (.int (HV cs4 ds6 ds8)), .val (.int (HV cs62 ds64 ds66)), .val (.int r80)]) rfl ?_
     refine XS.iload W80.here hx rfl (hb hby at_197) rfl ?_
     refine XS.iload W80.here hx rfl (hb hby at_199) rfl ?_
     refine XS.icmpNo W80.here hx rfl (hb hby at_201) rfl (teq (rfl : (HV cs4 ds6 ds8) = (HV cs4 ds6 ds8))).2 ?_
     refine XS.iload W80.here hx rfl (hb hby at_204) rfl ?_
     exact k
    by_cases hc206_81 : r80 = (0 : Int32)
    ·refine Fi.by' (st' := T80.setTop (mkF m 221 #[.val (.int p0), .val (.int p1), .val (.int p2), .val (.int p3), .val (.int p4), .val (.int v1), .val (.int n6), .val (.int n7), .val (.int n8), .val (.ref a3), .val (.ref a60), .val (.int (HV cs4 ds6 ds8)), .val (.int (HV cs4 ds6 ds8)), .val (.int (HV cs62 ds64 ds66)), .val (.int r80)] [(.int 1)])) (fun t k => ?_) ?_
     ·refine XS.ifYes W80.here hx rfl (pc0 := 206) (pc' := 216) rfl (hb hby at_206) rfl ((if0 _ _).trans (teq hc206_81).1) (by decide) (by decide) ?_
      refine iconstZ W80.here hx rfl (hb hby at_216) (z := (1 : Int32)) rfl ?_
      refine XS.goto W80.here hx rfl (pc0 := 217) (pc' := 221) rfl (hb hby at_217) (by decide) (by decide) ?_
      exact k
     exact W80.iret hx hlk hret (by simp) rfl (hb hby at_221) rfl (by decide) (by decide)
    ·refine Fi.by' (st' := T80.setTop (mkF m 213 #[.val (.int p0), .val (.int p1), .val (.int p2), .val (.int p3), .val (.int p4), .val (.int v1), .val (.int n6), .val (.int n7), .val (.int n8), .val (.ref a3), .val (.ref a60), .val (.int (HV cs4 ds6 ds8)), .val (.int (HV cs4 ds6 ds8)), .val (.int (HV cs62 ds64 ds66)), .val (.int r80)] [(.int (HV cs62 ds64 ds66)), (.int (HV cs4 ds6 ds8))])) (fun t k => ?_) ?_
     ·refine XS.ifNo W80.here hx rfl (hb hby at_206) rfl ((if0 _ _).trans (feq hc206_81).1) ?_
      refine XS.iload W80.here hx rfl (hb hby at_209) rfl ?_
      refine XS.iload W80.here hx rfl (hb hby at_211) rfl ?_
      exact k
     refine Fi.by' (st' := T80.setTop (mkF m 221 #[.val (.int p0), .val (.int p1), .val (.int p2), .val (.int p3), .val (.int p4), .val (.int v1), .val (.int n6), .val (.int n7), .val (.int n8), .val (.ref a3), .val (.ref a60), .val (.int (HV cs4 ds6 ds8)), .val (.int (HV cs4 ds6 ds8)), .val (.int (HV cs62 ds64 ds66)), .val (.int r80)] [(.int 1)])) (fun t k => ?_) ?_
     ·refine XS.icmpNo W80.here hx rfl (hb hby at_213) rfl (teq (hy80.resolve_left hc206_81)).2 ?_
      refine iconstZ W80.here hx rfl (hb hby at_216) (z := (1 : Int32)) rfl ?_
      refine XS.goto W80.here hx rfl (pc0 := 217) (pc' := 221) rfl (hb hby at_217) (by decide) (by decide) ?_
      exact k
     exact W80.iret hx hlk hret (by simp) rfl (hb hby at_221) rfl (by decide) (by decide)
 by_cases hc9_82 : (p4 &&& (3 : Int32)) = (3 : Int32)
 ·refine Fi.by' (st' := s₁.setTop (mkF m 15 #[.val (.int p0), .val (.int p1), .val (.int p2), .val (.int p3), .val (.int p4), .val (.int 2), .unset, .unset, .unset, .unset, .unset, .unset, .unset, .unset, .unset] [])) (fun t k => ?_) ?_
  ·refine XS.icmpNo W0.here hx rfl (hb hby at_9) rfl (teq hc9_82).2 ?_
   refine iconstZ W0.here hx rfl (hb hby at_12) (z := (2 : Int32)) rfl ?_
   refine XS.istore W0.here hx rfl (hb hby at_13) rfl (l' := #[.val (.int p0), .val (.int p1), .val (.int p2), .val (.int p3), .val (.int p4), .val (.int 2), .unset, .unset, .unset, .unset, .unset, .unset, .unset, .unset, .unset]) rfl ?_
   exact k
  exact J9_2 _ (Or.inl ⟨hc9_82, rfl⟩)
 ·refine Fi.by' (st' := s₁.setTop (mkF m 15 #[.val (.int p0), .val (.int p1), .val (.int p2), .val (.int p3), .val (.int p4), .val (.int (p4 &&& (3 : Int32))), .unset, .unset, .unset, .unset, .unset, .unset, .unset, .unset, .unset] [])) (fun t k => ?_) ?_
  ·refine XS.icmpYes W0.here hx rfl (pc0 := 9) (pc' := 15) rfl (hb hby at_9) rfl (feq hc9_82).2 (by decide) (by decide) ?_
   exact k
  exact J9_2 _ (Or.inr (⟨hc9_82, rfl⟩))
theorem comes_1 {Post : Tables → Env → Array Value → State → Outcome → State → Prop} (hpost : ∀ tb e args s v u, (limb_1_1.after args s (.returned v) u = true ∧ limb_1_2.after args s (.returned v) u = true ∧ True) → ReturnedEndW s (.returned v) u (Jvm.fieldLocs frame_1_writes args s ++ Jvm.arrayLocs frame_1_arrays args s ++ Jvm.staticLocs frame_1_statics s) 128 1472 → Post tb e args s (.returned v) u) :
  ArmFor flags0 classFile x code maxLocals ret World_1 tables_1 room_1 Calls_1 rest_1 Pre_1 Post := by
 intro l hfl _ _ p e ha hc hk s m args below hf hA hF happ hP
 obtain ⟨hcalls, hrest, hpre⟩ := hP
 obtain ⟨-, -, -, hnamed, -, -, -, hat⟩ := (Spec.applies_iff hf).mp happ
 obtain ⟨hg, hn⟩ := and_e (Cond.before_iff.mp (show (Jvm.Cond.and given_1 narrow_1).before args s = true from hpre))
 obtain ⟨g0a, g0b⟩ := and_e hg
 obtain ⟨g1a, g1b⟩ := and_e g0b
 obtain ⟨g2a, g2b⟩ := and_e g1b
 obtain ⟨g3a, g3b⟩ := and_e g2b
 obtain ⟨g4a, g4b⟩ := and_e g3b
 obtain ⟨w0, w1, w2, w3, w4, rfl⟩ : ∃ w0 w1 w2 w3 w4 : Value, args = #[w0, w1, w2, w3, w4] := by
  have hs : args.size = 5 := by simpa [Cond.value, given_1] using g0a
  obtain ⟨L⟩ := args
  match L, hs with
  | [w0, w1, w2, w3, w4], _ => exact ⟨w0, w1, w2, w3, w4, rfl⟩
 have hw := fun d (hd : d ∈ tables_1) => atoms_spec (ws := Jvm.Cond.code x code maxLocals ret :: tables_1) hat d (List.mem_cons_of_mem _ hd)
 have hfit : Fit s := fun {y c} hc i hi => by
  obtain ⟨ha, rfl⟩ := Array.getElem?_eq_some_iff.mp hc
  have q := List.all_eq_true.mp ((Array.all_eq_true_iff_forall_mem.mp hF) _ (Array.getElem_mem ha)) i (List.mem_range.mpr hi)
  simpa [Array.getElem?_eq_getElem hi] using q
 obtain ⟨hsets, hown0⟩ := atoms_of _ (rest_1_c_eq ▸ (show rest_1_c.before _ s = true from hrest))
 obtain ⟨i0, ei0⟩ := is_v g1a
 obtain rfl : w0 = (.int i0) := Option.some.inj ei0
 obtain ⟨i1, ei1⟩ := is_v g2a
 obtain rfl : w1 = (.int i1) := Option.some.inj ei1
 obtain ⟨i2, ei2⟩ := is_v g3a
 obtain rfl : w2 = (.int i2) := Option.some.inj ei2
 obtain ⟨i3, ei3⟩ := is_v g4a
 obtain rfl : w3 = (.int i3) := Option.some.inj ei3
 obtain ⟨i4, ei4⟩ := is_v g4b
 obtain rfl : w4 = (.int i4) := Option.some.inj ei4
 obtain ⟨zc, ezc⟩ := is_v (Cond.before_iff.mp (hsets _ (List.mem_of_getElem? (i := 17) rfl)))
 have S0 : Sta s s.heap "java/lang/String" "COMPACT_STRINGS" "Z" (.int zc) := Sta.start ezc (Or.inl (hsets _ (List.mem_of_getElem? (i := 16) rfl)))
 have hz : ¬ zc = 0 := fun q => by
  have q1 := not_v (Cond.before_iff.mp (hsets _ (List.mem_of_getElem? (i := 18) rfl)))
  have q2 := eq_i ezc (Term.int_eval (0)) (by rw [q] : (Value.int zc) = .int 0)
  rw [q2] at q1; cases q1
 have hcw : Jvm.Lit.compactW.before _ s = true := hsets _ (List.mem_of_getElem? (i := 18) rfl)
 have H0 : CHv s EL s.vm s.heap := CHv.start (hEL hw) (fun q hq => hcalls.2.1 q hq) hcw (ww hw 22 rfl) (ww hw 8 rfl)
 obtain ⟨dc, edc⟩ := arr_v (Cond.before_iff.mp (hsets _ (List.mem_of_getElem? (i := 6) rfl)))
 obtain ⟨clD, AD⟩ := Arr.start edc (Cond.before_iff.mp (hsets _ (List.mem_of_getElem? (i := 6) rfl)))
 obtain ⟨ld1, ld2⟩ := len_start AD edc (Cond.before_iff.mp (hsets _ (List.mem_of_getElem? (i := 8) rfl)))
 have B0 : Arv s s.heap dc clD.cls (.object "java/lang/Object") (0 : Int32) [] .null := Arv.start hfit AD ld1 ld2 (by decide) rfl trivial
 have D0 : Sta s s.heap "java/util/ArrayList" "DEFAULTCAPACITY_EMPTY_ELEMENTDATA" "[Ljava/lang/Object;" (.ref dc) := Sta.start edc (Or.inr ⟨(ww hw 34 rfl), (hsets _ (List.mem_of_getElem? (i := 2) rfl))⟩)
 obtain ⟨el, eel⟩ := exa_v (Cond.before_iff.mp (hsets _ (List.mem_of_getElem? (i := 11) rfl)))
 have P1 : Sta s s.heap "java/util/ImmutableCollections" "EMPTY_LIST" "Ljava/util/ImmutableCollections$ListN;" (.ref el) := Sta.start eel (Or.inl (hsets _ (List.mem_of_getElem? (i := 10) rfl)))
 have P2 := Exa.start eel (Cond.before_iff.mp (hsets _ (List.mem_of_getElem? (i := 11) rfl)))
 obtain ⟨eb, eeb⟩ := arr_v (Cond.before_iff.mp (hsets _ (List.mem_of_getElem? (i := 12) rfl)))
 obtain ⟨clE, AE⟩ := Arr.start eeb (Cond.before_iff.mp (hsets _ (List.mem_of_getElem? (i := 12) rfl)))
 obtain ⟨le1, le2⟩ := len_start AE eeb (Cond.before_iff.mp (hsets _ (List.mem_of_getElem? (i := 14) rfl)))
 have P3 : Fld s s.heap el "java/util/ImmutableCollections$ListN" "elements" "[Ljava/lang/Object;" (.ref eb) := Fld.start ((fld_at eel).symm.trans eeb)
 have P4 : Arv s s.heap eb clE.cls (.object "java/lang/Object") (0 : Int32) [] .null := Arv.start hfit AE le1 le2 (by decide) rfl trivial
 obtain ⟨em, eem⟩ := exa_v (Cond.before_iff.mp (hsets _ (List.mem_of_getElem? (i := 27) rfl)))
 have M1 : Sta s s.heap "java/util/ImmutableCollections" "EMPTY" "Ljava/lang/Object;" (.ref em) := Sta.start eem (Or.inl (hsets _ (List.mem_of_getElem? (i := 26) rfl)))
 have P5 := Exa.start eem (Cond.before_iff.mp (hsets _ (List.mem_of_getElem? (i := 27) rfl)))
 obtain ⟨kcM, kkM, mr, m1, m2, m3, cellM, m4, m5⟩ := hcalls.1
 have M0 : Mir s "[Ljava/lang/Object;" mr := ⟨kcM, kkM, m1, m2, m3, cellM, m4, m5⟩
 obtain ⟨n, o, h1, h2, h3, _, L, rfl, ⟨N, hv⟩, -, hq⟩ := rm_law l s _ hw  i0 i1 i2 i3 i4 zc dc el em eb mr clD.cls clE.cls s.heap s.heap.size (Nat.le_refl _) S0 hz D0 B0 P1 P2 P3 P4 M1 P5 M0 p e ha hc hk s m _ below hf ((Spec.applies_iff_loose hf).mp happ).1 ⟨rfl, State.Warmed39.refl s, rfl, H0⟩ trivial
 obtain rfl := hv
 exact ⟨n, _, h1, h2, h3, hpost _ _ _ _ _ _ ⟨Cond.after_iff.mpr rfl, Cond.after_iff.mpr (eq_i res_at (Term.int_eval (1)) rfl), trivial⟩ ⟨hq.1, hq.2.1, hq.2.2.1, (hq.2.2.2.sift fun y hy => Or.inr (N y hy)).mono (by decide) (by decide)⟩⟩
theorem main_1_1 : Claimed_1_1 := comes_1 fun _ _ _ _ _ _ h hF => ⟨h.1, hF⟩
theorem main_1_2 : Claimed_1_2 := comes_1 fun _ _ _ _ _ _ h hF => ⟨h.2.1, hF⟩
end Jvm.Pilot.@@N@@
namespace Jvm.Pilot.@@N@@
open Jvm Jvm.ClassFile Sem Op Lib Jvm.Free Jvm.Stand Jvm.Pilot.@@N@@.Jvm.D
/-! MADE BY PROGRAM (witnessworld.py) out of the Statement's table words and the real class files: 40 classes; the members and pool entries that the words name. The judged class is class 1, her method 4. -/
namespace start1
open Jvm.ClassFile
def u (s : String) : CpInfo := .utf8 (stringToUtf16 s)
/-- a pool by its gaps: so many unusable entries, then the entry; so many at the end -/
def gap : Nat → List CpInfo → List CpInfo
  | 0, r => r
  | n + 1, r => .unusable :: gap n r
def poolList (es : List (Nat × CpInfo)) (last : Nat) : List CpInfo := es.foldr (fun e r => gap e.1 (e.2 :: r)) (gap last [])
def pool (es : List (Nat × CpInfo)) (last : Nat) : Array CpInfo := ⟨poolList es last⟩
def fileOf (pool : Array CpInfo) (this : Nat) (attrs : Array Attribute := #[]) (ms : Array MethodInfo := #[]) (fl : Nat := 33) (sup : Nat := 0) (ifs : Array Nat := #[]) (fds : Array FieldInfo := #[]) : ClassFile where
  minorVersion := 0
  majorVersion := 65
  constantPool := pool
  accessFlags := fl
  thisClass := this
  superClass := sup
  interfaces := ifs
  fields := fds
  methods := ms
  attributes := attrs
def plain (name : String) (sup : Option ClassId) : Class where
  name := name
  kind := .ordinary
  loader := none
  accessFlags := 33
  super := sup
  interfaces := #[]
  cf := none
  fields := #[]
  methods := #[]
  instanceTypes := #[]
  staticTypes := #[]
  resolved := #[]
  callSites := []
  init := .initialized
  statics := none
  mirror := none

def pool0 : Array CpInfo := pool [(5, u "<init>"), (0, u "()V"), (1, .class_ 10), (1, u "java/lang/Object"), (0, u "getClass"), (0, u "()Ljava/lang/Class;"), (14, u "hashCode"), (0, u "()I"), (63, u "equals"), (0, u "(Ljava/lang/Object;)Z")] 30

def k0c0 : Code := { maxStack := 0, maxLocals := 1, code := object_method_1_code, exceptionTable := #[], attributes := #[] }
def k0m0 : Method := { name := "<init>", desc := "()V", sig := { parameters := [], returnType := none }, accessFlags := 1, code := some k0c0 }
def k0m1 : Method := { name := "getClass", desc := "()Ljava/lang/Class;", sig := { parameters := [], returnType := some (.object "java/lang/Class") }, accessFlags := 273, code := none }
def k0m2 : Method := { name := "hashCode", desc := "()I", sig := { parameters := [], returnType := some .int }, accessFlags := 257, code := none }
def k0c3 : Code := { maxStack := 2, maxLocals := 2, code := ⟨#[0x2a, 0x2b, 0xa6, 0x00, 0x07, 0x04, 0xa7, 0x00, 0x04, 0x03, 0xac]⟩, exceptionTable := #[], attributes := #[] }
def k0m3 : Method := { name := "equals", desc := "(Ljava/lang/Object;)Z", sig := { parameters := [(.object "java/lang/Object")], returnType := some .boolean }, accessFlags := 1, code := some k0c3 }
/-- java/lang/Object -/
def k0 : Class := { plain "java/lang/Object" none with
  accessFlags := 33
  interfaces := #[]
  cf := some (fileOf pool0 8 #[] #[{ accessFlags := 1, nameIndex := 5, descriptorIndex := 6, attributes := #[] }, { accessFlags := 273, nameIndex := 11, descriptorIndex := 12, attributes := #[] }, { accessFlags := 257, nameIndex := 27, descriptorIndex := 28, attributes := #[] }, { accessFlags := 1, nameIndex := 92, descriptorIndex := 93, attributes := #[] }] 33 0 #[] #[])
  fields := #[]
  methods := #[k0m0, k0m1, k0m2, k0m3]
  instanceTypes := #[]
  staticTypes := #[]
  resolved := Array.replicate 124 none
  statics := none }

def pool1 : Array CpInfo := pool [(2, .class_ 4), (0, .nameAndType 5 6), (0, u "java/lang/Object"), (0, u "<init>"), (0, u "()V"), (0, .class_ 8), (0, u "java/lang/String"), (0, .methodref 7 10), (0, .nameAndType 5 11), (0, u "([C)V"), (0, .class_ 13), (0, u "java/util/ArrayList"), (0, .methodref 12 3), (0, .methodref 7 16), (0, .nameAndType 17 18), (0, u "valueOf"), (0, u "(C)Ljava/lang/String;"), (0, .methodref 12 20), (0, .nameAndType 21 22), (0, u "add"), (0, u "(Ljava/lang/Object;)Z"), (0, .class_ 24), (0, u "com/example/weftwork/weftwork/model/Service"), (0, .methodref 26 27), (0, .class_ 28), (0, .nameAndType 29 30), (0, u "com/example/weftwork/weftwork/model/ServiceHashCodePinLaw"), (0, u "name"), (0, u "(II)Ljava/lang/String;"), (0, .methodref 26 32), (0, .nameAndType 33 34), (0, u "list"), (0, u "(II)Ljava/util/ArrayList;"), (0, .methodref 23 36), (0, .nameAndType 5 37), (0, u "(Ljava/lang/String;Ljava/util/List;Ljava/util/List;)V"), (0, .methodref 26 39), (0, .nameAndType 40 41), (0, u "name2"), (0, u "(III)Ljava/lang/String;"), (0, .methodref 23 43), (0, .nameAndType 44 45), (0, u "hashCode"), (0, u "()I"), (0, .methodref 23 47), (0, .nameAndType 48 22), (0, u "equals"), (5, u "law"), (0, u "(IIIII)Z")] 2

def k1m0 : Method := { name := "<init>", desc := "()V", sig := { parameters := [], returnType := none }, accessFlags := 1, code := none }
def k1c1 : Code := { maxStack := 6, maxLocals := 4, code := method_2_code, exceptionTable := #[], attributes := #[] }
def k1m1 : Method := { name := "name", desc := "(II)Ljava/lang/String;", sig := { parameters := [.int, .int], returnType := some (.object "java/lang/String") }, accessFlags := 10, code := some k1c1 }
def k1c2 : Code := { maxStack := 6, maxLocals := 5, code := method_3_code, exceptionTable := #[], attributes := #[] }
def k1m2 : Method := { name := "name2", desc := "(III)Ljava/lang/String;", sig := { parameters := [.int, .int, .int], returnType := some (.object "java/lang/String") }, accessFlags := 10, code := some k1c2 }
def k1c3 : Code := { maxStack := 3, maxLocals := 3, code := method_4_code, exceptionTable := #[], attributes := #[] }
def k1m3 : Method := { name := "list", desc := "(II)Ljava/util/ArrayList;", sig := { parameters := [.int, .int], returnType := some (.object "java/util/ArrayList") }, accessFlags := 10, code := some k1c3 }
def k1c4 : Code := { maxStack := 6, maxLocals := 15, code := code, exceptionTable := #[], attributes := #[] }
def k1m4 : Method := { name := "law", desc := "(IIIII)Z", sig := { parameters := [.int, .int, .int, .int, .int], returnType := some .boolean }, accessFlags := 9, code := some k1c4 }
/-- com/example/weftwork/weftwork/model/ServiceHashCodePinLaw -/
def k1 : Class := { plain "com/example/weftwork/weftwork/model/ServiceHashCodePinLaw" (some 0) with
  accessFlags := 49
  interfaces := #[]
  cf := some (fileOf pool1 26 #[] #[{ accessFlags := 1, nameIndex := 5, descriptorIndex := 6, attributes := #[] }, { accessFlags := 10, nameIndex := 29, descriptorIndex := 30, attributes := #[] }, { accessFlags := 10, nameIndex := 40, descriptorIndex := 41, attributes := #[] }, { accessFlags := 10, nameIndex := 33, descriptorIndex := 34, attributes := #[] }, { accessFlags := 9, nameIndex := 54, descriptorIndex := 55, attributes := #[] }] 49 2 #[] #[])
  fields := #[]
  methods := #[k1m0, k1m1, k1m2, k1m3, k1m4]
  instanceTypes := #[]
  staticTypes := #[]
  resolved := Array.replicate 58 none
  statics := none }

def pool2 : Array CpInfo := pool [(1, .methodref 2 3), (0, .class_ 4), (0, .nameAndType 5 6), (0, u "java/lang/Object"), (0, u "<init>"), (0, u "()V"), (0, .fieldref 8 9), (0, .class_ 10), (0, .nameAndType 11 12), (0, u "com/example/weftwork/weftwork/model/Service"), (0, u "name"), (0, u "Ljava/lang/String;"), (0, .interfaceMethodref 14 15), (0, .class_ 16), (0, .nameAndType 17 18), (0, u "java/util/List"), (0, u "copyOf"), (0, u "(Ljava/util/Collection;)Ljava/util/List;"), (0, .fieldref 8 20), (0, .nameAndType 21 22), (0, u "inputs"), (0, u "Ljava/util/List;"), (0, .fieldref 8 24), (0, .nameAndType 25 22), (0, u "outputs"), (0, .methodref 27 28), (0, .class_ 29), (0, .nameAndType 30 31), (0, u "java/lang/String"), (0, u "equals"), (0, u "(Ljava/lang/Object;)Z"), (0, .interfaceMethodref 14 28), (0, .methodref 34 35), (0, .class_ 36), (0, .nameAndType 37 38), (0, u "java/util/Objects"), (0, u "hash"), (0, u "([Ljava/lang/Object;)I"), (12, u "BY_NAME"), (0, u "Ljava/util/Comparator;"), (3, u "(Ljava/lang/String;Ljava/util/List;Ljava/util/List;)V"), (7, u "hashCode"), (0, u "()I")] 25

def k2c0 : Code := { maxStack := 2, maxLocals := 4, code := prog_28_method_1_code, exceptionTable := #[], attributes := #[] }
def k2m0 : Method := { name := "<init>", desc := "(Ljava/lang/String;Ljava/util/List;Ljava/util/List;)V", sig := { parameters := [(.object "java/lang/String"), (.object "java/util/List"), (.object "java/util/List")], returnType := none }, accessFlags := 1, code := some k2c0 }
def k2c1 : Code := { maxStack := 2, maxLocals := 3, code := prog_28_method_5_code, exceptionTable := #[], attributes := #[] }
def k2m1 : Method := { name := "equals", desc := "(Ljava/lang/Object;)Z", sig := { parameters := [(.object "java/lang/Object")], returnType := some .boolean }, accessFlags := 1, code := some k2c1 }
def k2c2 : Code := { maxStack := 4, maxLocals := 1, code := prog_28_method_6_code, exceptionTable := #[], attributes := #[] }
def k2m2 : Method := { name := "hashCode", desc := "()I", sig := { parameters := [], returnType := some .int }, accessFlags := 1, code := some k2c2 }
/-- com/example/weftwork/weftwork/model/Service -/
def k2 : Class := { plain "com/example/weftwork/weftwork/model/Service" (some 0) with
  accessFlags := 33
  interfaces := #[]
  cf := some (fileOf pool2 8 #[] #[{ accessFlags := 1, nameIndex := 5, descriptorIndex := 56, attributes := #[] }, { accessFlags := 1, nameIndex := 30, descriptorIndex := 31, attributes := #[] }, { accessFlags := 1, nameIndex := 64, descriptorIndex := 65, attributes := #[] }] 33 2 #[] #[{ accessFlags := 25, nameIndex := 51, descriptorIndex := 52, attributes := #[] }, { accessFlags := 18, nameIndex := 11, descriptorIndex := 12, attributes := #[] }, { accessFlags := 18, nameIndex := 21, descriptorIndex := 22, attributes := #[] }, { accessFlags := 18, nameIndex := 25, descriptorIndex := 22, attributes := #[] }])
  fields := #[{ name := "BY_NAME", type := (.object "java/util/Comparator"), accessFlags := 25, slot := 0, constantValue := 0 }, { name := "name", type := (.object "java/lang/String"), accessFlags := 18, slot := 0, constantValue := 0 }, { name := "inputs", type := (.object "java/util/List"), accessFlags := 18, slot := 1, constantValue := 0 }, { name := "outputs", type := (.object "java/util/List"), accessFlags := 18, slot := 2, constantValue := 0 }]
  methods := #[k2m0, k2m1, k2m2]
  instanceTypes := #[(.object "java/lang/String"), (.object "java/util/List"), (.object "java/util/List")]
  staticTypes := #[(.object "java/util/Comparator")]
  resolved := Array.replicate 91 none
  statics := none }

def pool3 : Array CpInfo := pool [(1, .class_ 2), (0, u "java/io/Serializable"), (0, .class_ 4), (0, u "java/lang/Object")] 2

/-- java/io/Serializable -/
def k3 : Class := { plain "java/io/Serializable" (some 0) with
  accessFlags := 1537
  interfaces := #[]
  cf := some (fileOf pool3 1 #[] #[] 1537 3 #[] #[])
  fields := #[]
  methods := #[]
  instanceTypes := #[]
  staticTypes := #[]
  resolved := Array.replicate 7 none
  statics := none }

def pool4 : Array CpInfo := pool [(1, .class_ 2), (0, u "java/lang/Comparable"), (0, .class_ 4), (0, u "java/lang/Object")] 7

/-- java/lang/Comparable -/
def k4 : Class := { plain "java/lang/Comparable" (some 0) with
  accessFlags := 1537
  interfaces := #[]
  cf := some (fileOf pool4 1 #[] #[] 1537 3 #[] #[])
  fields := #[]
  methods := #[]
  instanceTypes := #[]
  staticTypes := #[]
  resolved := Array.replicate 12 none
  statics := none }

def pool5 : Array CpInfo := pool [(2, .class_ 4), (1, u "java/lang/CharSequence"), (42, .class_ 48), (0, u "java/lang/CharSequence$1CodePointIterator"), (10, .class_ 60), (0, u "java/lang/CharSequence$1CharIterator"), (5, .class_ 67), (0, u "java/lang/Object")] 63

/-- java/lang/CharSequence -/
def k5 : Class := { plain "java/lang/CharSequence" (some 0) with
  accessFlags := 1537
  interfaces := #[]
  cf := some (fileOf pool5 2 #[.nestMembers #[47, 59]] #[] 1537 66 #[] #[])
  fields := #[]
  methods := #[]
  instanceTypes := #[]
  staticTypes := #[]
  resolved := Array.replicate 131 none
  statics := none }

def pool6 : Array CpInfo := pool [(1, .class_ 2), (0, u "java/lang/constant/Constable"), (0, .class_ 4), (0, u "java/lang/Object")] 6

/-- java/lang/constant/Constable -/
def k6 : Class := { plain "java/lang/constant/Constable" (some 0) with
  accessFlags := 1537
  interfaces := #[]
  cf := some (fileOf pool6 1 #[] #[] 1537 3 #[] #[])
  fields := #[]
  methods := #[]
  instanceTypes := #[]
  staticTypes := #[]
  resolved := Array.replicate 11 none
  statics := none }

def pool7 : Array CpInfo := pool [(1, .class_ 2), (0, u "java/lang/constant/ConstantDesc"), (0, .class_ 4), (0, u "java/lang/Object")] 32

/-- java/lang/constant/ConstantDesc -/
def k7 : Class := { plain "java/lang/constant/ConstantDesc" (some 0) with
  accessFlags := 1537
  interfaces := #[]
  cf := some (fileOf pool7 1 #[] #[] 1537 3 #[] #[])
  fields := #[]
  methods := #[]
  instanceTypes := #[]
  staticTypes := #[]
  resolved := Array.replicate 37 none
  statics := none }

def pool8 : Array CpInfo := pool [(1, .methodref 2 3), (0, .class_ 4), (0, .nameAndType 5 6), (0, u "java/lang/Object"), (0, u "<init>"), (0, u "()V"), (0, .string 8), (0, u ""), (0, .fieldref 10 11), (0, .class_ 12), (0, .nameAndType 13 14), (0, u "java/lang/String"), (0, u "value"), (0, u "[B"), (0, .fieldref 10 16), (0, .nameAndType 17 18), (0, u "coder"), (0, u "B"), (0, .fieldref 10 20), (0, .nameAndType 21 22), (0, u "hash"), (0, u "I"), (0, .fieldref 10 24), (0, .nameAndType 25 26), (0, u "hashIsZero"), (0, u "Z"), (0, .methodref 10 28), (0, .nameAndType 5 29), (0, u "([CIILjava/lang/Void;)V"), (8, .fieldref 10 39), (0, .nameAndType 40 26), (0, u "COMPACT_STRINGS"), (1, .class_ 44), (1, u "java/lang/StringUTF16"), (0, u "compress"), (1, .methodref 42 48), (0, .nameAndType 49 50), (0, u "coderFromArrayLen"), (0, u "([BI)B"), (2, u "toBytes"), (53, .class_ 109), (1, u "java/lang/StringLatin1"), (32, u "()Z"), (34, .methodref 42 178), (0, .nameAndType 45 179), (0, u "([CII)[B"), (29, .methodref 10 210), (0, .nameAndType 5 211), (0, u "([BB)V"), (122, u "()I"), (34, u "(C)Z"), (122, .methodref 10 493), (0, .nameAndType 494 142), (0, u "isLatin1"), (46, .methodref 107 542), (0, .nameAndType 543 544), (0, u "equals"), (0, u "([B[B)Z"), (28, u "(Ljava/lang/Object;)Z"), (1, .class_ 576), (0, u "java/lang/CharSequence"), (22, u "CASE_INSENSITIVE_ORDER"), (0, u "Ljava/util/Comparator;"), (27, .methodref 107 629), (0, .nameAndType 630 631), (0, u "hashCode"), (0, u "([B)I"), (150, u "valueOf"), (0, u "(C)Ljava/lang/String;"), (226, u "([C)V"), (4, .methodref 107 1016), (0, .nameAndType 1017 369), (0, u "canEncode"), (0, .methodref 107 1019), (0, .nameAndType 53 1020), (0, u "(C)[B"), (80, u "serialPersistentFields"), (0, u "[Ljava/io/ObjectStreamField;"), (0, .class_ 1104), (0, u "java/lang/String$CaseInsensitiveComparator"), (1, .class_ 1107), (0, u "java/io/Serializable"), (0, .class_ 1109), (0, u "java/lang/Comparable"), (0, .class_ 1111), (0, u "java/lang/constant/Constable"), (0, .class_ 1113), (0, u "java/lang/constant/ConstantDesc"), (2, u "serialVersionUID"), (0, u "J"), (3, u "REPL"), (0, u "C"), (2, u "LATIN1"), (1, u "UTF16")] 323

def k8m0 : Method := { name := "<init>", desc := "()V", sig := { parameters := [], returnType := none }, accessFlags := 1, code := none }
def k8c1 : Code := { maxStack := 5, maxLocals := 2, code := jdk_42_method_3_code, exceptionTable := #[], attributes := #[] }
def k8m1 : Method := { name := "<init>", desc := "([C)V", sig := { parameters := [(.array .char)], returnType := none }, accessFlags := 1, code := some k8c1 }
def k8c2 : Code := { maxStack := 2, maxLocals := 3, code := jdk_42_method_66_code, exceptionTable := #[], attributes := #[] }
def k8m2 : Method := { name := "equals", desc := "(Ljava/lang/Object;)Z", sig := { parameters := [(.object "java/lang/Object")], returnType := some .boolean }, accessFlags := 1, code := some k8c2 }
def k8c3 : Code := { maxStack := 2, maxLocals := 2, code := jdk_42_method_78_code, exceptionTable := #[], attributes := #[] }
def k8m3 : Method := { name := "hashCode", desc := "()I", sig := { parameters := [], returnType := some .int }, accessFlags := 1, code := some k8c3 }
def k8c4 : Code := { maxStack := 4, maxLocals := 1, code := jdk_42_method_139_code, exceptionTable := #[], attributes := #[] }
def k8m4 : Method := { name := "valueOf", desc := "(C)Ljava/lang/String;", sig := { parameters := [.char], returnType := some (.object "java/lang/String") }, accessFlags := 9, code := some k8c4 }
def k8c5 : Code := { maxStack := 4, maxLocals := 6, code := jdk_42_method_149_code, exceptionTable := #[], attributes := #[] }
def k8m5 : Method := { name := "<init>", desc := "([CIILjava/lang/Void;)V", sig := { parameters := [(.array .char), .int, .int, (.object "java/lang/Void")], returnType := none }, accessFlags := 2, code := some k8c5 }
def k8c6 : Code := { maxStack := 2, maxLocals := 3, code := jdk_42_method_151_code, exceptionTable := #[], attributes := #[] }
def k8m6 : Method := { name := "<init>", desc := "([BB)V", sig := { parameters := [(.array .byte), .byte], returnType := none }, accessFlags := 0, code := some k8c6 }
def k8c7 : Code := { maxStack := 1, maxLocals := 1, code := jdk_42_method_154_code, exceptionTable := #[], attributes := #[] }
def k8m7 : Method := { name := "isLatin1", desc := "()Z", sig := { parameters := [], returnType := some .boolean }, accessFlags := 0, code := some k8c7 }
/-- java/lang/String -/
def k8 : Class := { plain "java/lang/String" (some 0) with
  accessFlags := 49
  interfaces := #[3, 4, 5, 6, 7]
  cf := some (fileOf pool8 10 #[.nestMembers #[1103]] #[{ accessFlags := 1, nameIndex := 5, descriptorIndex := 6, attributes := #[] }, { accessFlags := 1, nameIndex := 5, descriptorIndex := 1010, attributes := #[] }, { accessFlags := 1, nameIndex := 543, descriptorIndex := 573, attributes := #[] }, { accessFlags := 1, nameIndex := 630, descriptorIndex := 334, attributes := #[] }, { accessFlags := 9, nameIndex := 782, descriptorIndex := 783, attributes := #[] }, { accessFlags := 2, nameIndex := 5, descriptorIndex := 29, attributes := #[] }, { accessFlags := 0, nameIndex := 5, descriptorIndex := 211, attributes := #[] }, { accessFlags := 0, nameIndex := 494, descriptorIndex := 142, attributes := #[] }] 49 2 #[1106, 1108, 575, 1110, 1112] #[{ accessFlags := 18, nameIndex := 13, descriptorIndex := 14, attributes := #[] }, { accessFlags := 18, nameIndex := 17, descriptorIndex := 18, attributes := #[] }, { accessFlags := 2, nameIndex := 21, descriptorIndex := 22, attributes := #[] }, { accessFlags := 2, nameIndex := 25, descriptorIndex := 26, attributes := #[] }, { accessFlags := 26, nameIndex := 1116, descriptorIndex := 1117, attributes := #[] }, { accessFlags := 24, nameIndex := 40, descriptorIndex := 26, attributes := #[] }, { accessFlags := 26, nameIndex := 1101, descriptorIndex := 1102, attributes := #[] }, { accessFlags := 26, nameIndex := 1121, descriptorIndex := 1122, attributes := #[] }, { accessFlags := 25, nameIndex := 599, descriptorIndex := 600, attributes := #[] }, { accessFlags := 24, nameIndex := 1125, descriptorIndex := 18, attributes := #[] }, { accessFlags := 24, nameIndex := 1127, descriptorIndex := 18, attributes := #[] }])
  fields := #[{ name := "value", type := (.array .byte), accessFlags := 18, slot := 0, constantValue := 0 }, { name := "coder", type := .byte, accessFlags := 18, slot := 1, constantValue := 0 }, { name := "hash", type := .int, accessFlags := 2, slot := 2, constantValue := 0 }, { name := "hashIsZero", type := .boolean, accessFlags := 2, slot := 3, constantValue := 0 }, { name := "serialVersionUID", type := .long, accessFlags := 26, slot := 0, constantValue := 0 }, { name := "COMPACT_STRINGS", type := .boolean, accessFlags := 24, slot := 1, constantValue := 0 }, { name := "serialPersistentFields", type := (.array (.object "java/io/ObjectStreamField")), accessFlags := 26, slot := 2, constantValue := 0 }, { name := "REPL", type := .char, accessFlags := 26, slot := 3, constantValue := 0 }, { name := "CASE_INSENSITIVE_ORDER", type := (.object "java/util/Comparator"), accessFlags := 25, slot := 4, constantValue := 0 }, { name := "LATIN1", type := .byte, accessFlags := 24, slot := 5, constantValue := 0 }, { name := "UTF16", type := .byte, accessFlags := 24, slot := 6, constantValue := 0 }]
  methods := #[k8m0, k8m1, k8m2, k8m3, k8m4, k8m5, k8m6, k8m7]
  instanceTypes := #[(.array .byte), .byte, .int, .boolean]
  staticTypes := #[.long, .boolean, (.array (.object "java/io/ObjectStreamField")), .char, (.object "java/util/Comparator"), .byte, .byte]
  resolved := Array.replicate 1451 none
  statics := some 0 }

def pool9 : Array CpInfo := pool [(8, .class_ 10), (1, u "java/lang/Iterable"), (24, .class_ 36), (0, u "java/lang/Object")] 25

/-- java/lang/Iterable -/
def k9 : Class := { plain "java/lang/Iterable" (some 0) with
  accessFlags := 1537
  interfaces := #[]
  cf := some (fileOf pool9 8 #[] #[] 1537 35 #[] #[])
  fields := #[]
  methods := #[]
  instanceTypes := #[]
  staticTypes := #[]
  resolved := Array.replicate 62 none
  statics := none }

def pool10 : Array CpInfo := pool [(10, .class_ 12), (1, u "java/util/Collection"), (0, u "toArray"), (16, u "()Z"), (29, .class_ 61), (0, u "java/lang/Object"), (0, .class_ 63), (0, u "java/lang/Iterable"), (2, u "isEmpty"), (3, u "()[Ljava/lang/Object;")] 44

def k10m0 : Method := { name := "isEmpty", desc := "()Z", sig := { parameters := [], returnType := some .boolean }, accessFlags := 1025, code := none }
def k10m1 : Method := { name := "toArray", desc := "()[Ljava/lang/Object;", sig := { parameters := [], returnType := some (.array (.object "java/lang/Object")) }, accessFlags := 1025, code := none }
/-- java/util/Collection -/
def k10 : Class := { plain "java/util/Collection" (some 0) with
  accessFlags := 1537
  interfaces := #[9]
  cf := some (fileOf pool10 10 #[] #[{ accessFlags := 1025, nameIndex := 66, descriptorIndex := 30, attributes := #[] }, { accessFlags := 1025, nameIndex := 13, descriptorIndex := 70, attributes := #[] }] 1537 60 #[62] #[])
  fields := #[]
  methods := #[k10m0, k10m1]
  instanceTypes := #[]
  staticTypes := #[]
  resolved := Array.replicate 115 none
  statics := none }

def pool11 : Array CpInfo := pool [(1, .methodref 2 3), (0, .class_ 4), (0, .nameAndType 5 6), (0, u "java/lang/Object"), (0, u "<init>"), (0, u "()V"), (1, .class_ 10), (1, u "java/util/AbstractCollection"), (0, u "size"), (0, u "()I"), (64, .class_ 78), (0, u "java/util/Collection")] 81

def k11c0 : Code := { maxStack := 1, maxLocals := 1, code := jdk_22_method_1_code, exceptionTable := #[], attributes := #[] }
def k11m0 : Method := { name := "<init>", desc := "()V", sig := { parameters := [], returnType := none }, accessFlags := 4, code := some k11c0 }
def k11m1 : Method := { name := "size", desc := "()I", sig := { parameters := [], returnType := some .int }, accessFlags := 1025, code := none }
/-- java/util/AbstractCollection -/
def k11 : Class := { plain "java/util/AbstractCollection" (some 0) with
  accessFlags := 1057
  interfaces := #[10]
  cf := some (fileOf pool11 8 #[] #[{ accessFlags := 4, nameIndex := 5, descriptorIndex := 6, attributes := #[] }, { accessFlags := 1025, nameIndex := 11, descriptorIndex := 12, attributes := #[] }] 1057 2 #[77] #[])
  fields := #[]
  methods := #[k11m0, k11m1]
  instanceTypes := #[]
  staticTypes := #[]
  resolved := Array.replicate 160 none
  statics := none }

def pool12 : Array CpInfo := pool [(8, .class_ 10), (1, u "java/util/SequencedCollection"), (15, .class_ 27), (0, u "java/lang/Object"), (0, .class_ 29), (0, u "java/util/Collection")] 27

/-- java/util/SequencedCollection -/
def k12 : Class := { plain "java/util/SequencedCollection" (some 0) with
  accessFlags := 1537
  interfaces := #[10]
  cf := some (fileOf pool12 8 #[] #[] 1537 26 #[28] #[])
  fields := #[]
  methods := #[]
  instanceTypes := #[]
  staticTypes := #[]
  resolved := Array.replicate 57 none
  statics := none }

def pool13 : Array CpInfo := pool [(8, .class_ 10), (1, u "java/util/List"), (20, u "(Ljava/lang/Object;)V"), (16, u "<init>"), (15, u "(Ljava/lang/Object;)Z"), (10, u "get"), (0, u "(I)Ljava/lang/Object;"), (11, u "of"), (1, .fieldref 91 92), (0, .class_ 93), (0, .nameAndType 94 95), (0, u "java/util/ImmutableCollections"), (0, u "EMPTY_LIST"), (0, u "Ljava/util/ImmutableCollections$ListN;"), (0, .class_ 97), (0, u "java/util/ImmutableCollections$List12"), (0, .methodref 96 99), (0, .nameAndType 48 31), (0, .methodref 96 101), (0, .nameAndType 48 102), (0, u "(Ljava/lang/Object;Ljava/lang/Object;)V"), (0, .class_ 104), (0, u "java/lang/Object"), (3, u "([Ljava/lang/Object;)Ljava/util/List;"), (0, .methodref 91 110), (0, .nameAndType 111 108), (0, u "listFromArray"), (0, .methodref 91 113), (0, .nameAndType 114 115), (0, u "listCopy"), (0, u "(Ljava/util/Collection;)Ljava/util/List;"), (3, u "()Ljava/util/List;"), (0, .class_ 121), (0, u "java/util/SequencedCollection"), (1, u "iterator"), (0, u "()Ljava/util/Iterator;"), (45, u "equals"), (63, u "copyOf")] 16

def k13m0 : Method := { name := "iterator", desc := "()Ljava/util/Iterator;", sig := { parameters := [], returnType := some (.object "java/util/Iterator") }, accessFlags := 1025, code := none }
def k13m1 : Method := { name := "equals", desc := "(Ljava/lang/Object;)Z", sig := { parameters := [(.object "java/lang/Object")], returnType := some .boolean }, accessFlags := 1025, code := none }
def k13m2 : Method := { name := "get", desc := "(I)Ljava/lang/Object;", sig := { parameters := [.int], returnType := some (.object "java/lang/Object") }, accessFlags := 1025, code := none }
def k13c3 : Code := { maxStack := 1, maxLocals := 0, code := jdk_40_method_36_code, exceptionTable := #[], attributes := #[] }
def k13m3 : Method := { name := "of", desc := "()Ljava/util/List;", sig := { parameters := [], returnType := some (.object "java/util/List") }, accessFlags := 9, code := some k13c3 }
def k13c4 : Code := { maxStack := 5, maxLocals := 2, code := jdk_40_method_47_code, exceptionTable := #[], attributes := #[] }
def k13m4 : Method := { name := "of", desc := "([Ljava/lang/Object;)Ljava/util/List;", sig := { parameters := [(.array (.object "java/lang/Object"))], returnType := some (.object "java/util/List") }, accessFlags := 137, code := some k13c4 }
def k13c5 : Code := { maxStack := 1, maxLocals := 1, code := jdk_40_method_48_code, exceptionTable := #[], attributes := #[] }
def k13m5 : Method := { name := "copyOf", desc := "(Ljava/util/Collection;)Ljava/util/List;", sig := { parameters := [(.object "java/util/Collection")], returnType := some (.object "java/util/List") }, accessFlags := 9, code := some k13c5 }
/-- java/util/List -/
def k13 : Class := { plain "java/util/List" (some 0) with
  accessFlags := 1537
  interfaces := #[12]
  cf := some (fileOf pool13 8 #[] #[{ accessFlags := 1025, nameIndex := 123, descriptorIndex := 124, attributes := #[] }, { accessFlags := 1025, nameIndex := 170, descriptorIndex := 64, attributes := #[] }, { accessFlags := 1025, nameIndex := 75, descriptorIndex := 76, attributes := #[] }, { accessFlags := 9, nameIndex := 88, descriptorIndex := 119, attributes := #[] }, { accessFlags := 137, nameIndex := 88, descriptorIndex := 108, attributes := #[] }, { accessFlags := 9, nameIndex := 234, descriptorIndex := 115, attributes := #[] }] 1537 103 #[120] #[])
  fields := #[]
  methods := #[k13m0, k13m1, k13m2, k13m3, k13m4, k13m5]
  instanceTypes := #[]
  staticTypes := #[]
  resolved := Array.replicate 251 none
  statics := none }

def pool14 : Array CpInfo := pool [(1, .methodref 2 3), (0, .class_ 4), (0, .nameAndType 5 6), (0, u "java/util/AbstractCollection"), (0, u "<init>"), (0, u "()V"), (0, .fieldref 8 9), (0, .class_ 10), (0, .nameAndType 11 12), (0, u "java/util/AbstractList"), (0, u "modCount"), (0, u "I"), (64, .class_ 78), (0, u "java/util/AbstractList$Itr"), (3, .class_ 83), (0, u "java/util/AbstractList$ListItr"), (9, .class_ 94), (0, u "java/util/AbstractList$RandomAccessSubList"), (3, .class_ 99), (0, u "java/util/AbstractList$SubList"), (33, .class_ 134), (0, u "java/util/List"), (73, .class_ 209), (0, u "java/util/AbstractList$SubList$1"), (0, .class_ 211), (0, u "java/util/AbstractList$RandomAccessSpliterator")] 6

def k14c0 : Code := { maxStack := 2, maxLocals := 1, code := jdk_39_method_1_code, exceptionTable := #[], attributes := #[] }
def k14m0 : Method := { name := "<init>", desc := "()V", sig := { parameters := [], returnType := none }, accessFlags := 4, code := some k14c0 }
/-- java/util/AbstractList -/
def k14 : Class := { plain "java/util/AbstractList" (some 11) with
  accessFlags := 1057
  interfaces := #[13]
  cf := some (fileOf pool14 8 #[.nestMembers #[93, 98, 208, 210, 82, 77]] #[{ accessFlags := 4, nameIndex := 5, descriptorIndex := 6, attributes := #[] }] 1057 2 #[133] #[{ accessFlags := 132, nameIndex := 11, descriptorIndex := 12, attributes := #[] }])
  fields := #[{ name := "modCount", type := .int, accessFlags := 132, slot := 0, constantValue := 0 }]
  methods := #[k14m0]
  instanceTypes := #[.int]
  staticTypes := #[]
  resolved := Array.replicate 218 none
  statics := none }

def pool15 : Array CpInfo := pool [(1, .class_ 2), (0, u "java/util/RandomAccess"), (0, .class_ 4), (0, u "java/lang/Object")] 2

/-- java/util/RandomAccess -/
def k15 : Class := { plain "java/util/RandomAccess" (some 0) with
  accessFlags := 1537
  interfaces := #[]
  cf := some (fileOf pool15 1 #[] #[] 1537 3 #[] #[])
  fields := #[]
  methods := #[]
  instanceTypes := #[]
  staticTypes := #[]
  resolved := Array.replicate 7 none
  statics := none }

def pool16 : Array CpInfo := pool [(1, .class_ 2), (0, u "java/lang/Cloneable"), (0, .class_ 4), (0, u "java/lang/Object")] 2

/-- java/lang/Cloneable -/
def k16 : Class := { plain "java/lang/Cloneable" (some 0) with
  accessFlags := 1537
  interfaces := #[]
  cf := some (fileOf pool16 1 #[] #[] 1537 3 #[] #[])
  fields := #[]
  methods := #[]
  instanceTypes := #[]
  staticTypes := #[]
  resolved := Array.replicate 7 none
  statics := none }

def pool17 : Array CpInfo := pool [(1, .methodref 2 3), (0, .class_ 4), (0, .nameAndType 5 6), (0, u "java/util/AbstractList"), (0, u "<init>"), (0, u "()V"), (0, .class_ 8), (0, u "java/lang/Object"), (0, .fieldref 10 11), (0, .class_ 12), (0, .nameAndType 13 14), (0, u "java/util/ArrayList"), (0, u "elementData"), (0, u "[Ljava/lang/Object;"), (2, u "EMPTY_ELEMENTDATA"), (21, .fieldref 10 40), (0, .nameAndType 41 14), (0, u "DEFAULTCAPACITY_EMPTY_ELEMENTDATA"), (4, u "toArray"), (0, u "()[Ljava/lang/Object;"), (0, .fieldref 10 49), (0, .nameAndType 50 51), (0, u "size"), (0, u "I"), (6, .class_ 60), (1, u "java/util/Arrays"), (0, u "copyOf"), (1, .fieldref 10 64), (0, .nameAndType 65 51), (0, u "modCount"), (0, .methodref 58 67), (0, .nameAndType 61 68), (0, u "([Ljava/lang/Object;I)[Ljava/lang/Object;"), (0, .methodref 10 70), (0, .nameAndType 71 72), (0, u "grow"), (0, u "(I)[Ljava/lang/Object;"), (6, .methodref 80 81), (0, .class_ 82), (0, .nameAndType 83 84), (0, u "java/lang/Math"), (0, u "max"), (0, u "(II)I"), (11, u "(Ljava/lang/Object;)Z"), (32, .methodref 10 130), (0, .nameAndType 71 47), (0, .methodref 10 132), (0, .nameAndType 133 134), (0, u "add"), (0, u "(Ljava/lang/Object;[Ljava/lang/Object;I)V"), (13, .class_ 149), (0, u "java/util/List"), (23, u "()Z"), (88, .class_ 263), (0, u "java/util/ArrayList$ListItr"), (3, .class_ 268), (0, u "java/util/ArrayList$Itr"), (7, .class_ 277), (0, u "java/util/ArrayList$SubList"), (12, .class_ 291), (0, u "java/util/ArrayList$ArrayListSpliterator"), (37, .class_ 330), (0, u "java/util/RandomAccess"), (0, .class_ 332), (0, u "java/lang/Cloneable"), (0, .class_ 334), (0, u "java/io/Serializable"), (0, u "serialVersionUID"), (0, u "J"), (3, u "DEFAULT_CAPACITY"), (22, u "isEmpty"), (136, .class_ 501), (0, u "java/util/ArrayList$SubList$2"), (0, .class_ 503), (0, u "java/util/ArrayList$SubList$1")] 5

def k17c0 : Code := { maxStack := 2, maxLocals := 1, code := jdk_38_method_2_code, exceptionTable := #[], attributes := #[] }
def k17m0 : Method := { name := "<init>", desc := "()V", sig := { parameters := [], returnType := none }, accessFlags := 1, code := some k17c0 }
def k17c1 : Code := { maxStack := 4, maxLocals := 4, code := jdk_38_method_6_code, exceptionTable := #[], attributes := #[] }
def k17m1 : Method := { name := "grow", desc := "(I)[Ljava/lang/Object;", sig := { parameters := [.int], returnType := some (.array (.object "java/lang/Object")) }, accessFlags := 2, code := some k17c1 }
def k17c2 : Code := { maxStack := 3, maxLocals := 1, code := jdk_38_method_7_code, exceptionTable := #[], attributes := #[] }
def k17m2 : Method := { name := "grow", desc := "()[Ljava/lang/Object;", sig := { parameters := [], returnType := some (.array (.object "java/lang/Object")) }, accessFlags := 2, code := some k17c2 }
def k17c3 : Code := { maxStack := 1, maxLocals := 1, code := jdk_38_method_9_code, exceptionTable := #[], attributes := #[] }
def k17m3 : Method := { name := "isEmpty", desc := "()Z", sig := { parameters := [], returnType := some .boolean }, accessFlags := 1, code := some k17c3 }
def k17c4 : Code := { maxStack := 2, maxLocals := 1, code := jdk_38_method_16_code, exceptionTable := #[], attributes := #[] }
def k17m4 : Method := { name := "toArray", desc := "()[Ljava/lang/Object;", sig := { parameters := [], returnType := some (.array (.object "java/lang/Object")) }, accessFlags := 1, code := some k17c4 }
def k17c5 : Code := { maxStack := 3, maxLocals := 4, code := jdk_38_method_24_code, exceptionTable := #[], attributes := #[] }
def k17m5 : Method := { name := "add", desc := "(Ljava/lang/Object;[Ljava/lang/Object;I)V", sig := { parameters := [(.object "java/lang/Object"), (.array (.object "java/lang/Object")), .int], returnType := none }, accessFlags := 2, code := some k17c5 }
def k17c6 : Code := { maxStack := 4, maxLocals := 2, code := jdk_38_method_25_code, exceptionTable := #[], attributes := #[] }
def k17m6 : Method := { name := "add", desc := "(Ljava/lang/Object;)Z", sig := { parameters := [(.object "java/lang/Object")], returnType := some .boolean }, accessFlags := 1, code := some k17c6 }
/-- java/util/ArrayList -/
def k17 : Class := { plain "java/util/ArrayList" (some 14) with
  accessFlags := 33
  interfaces := #[13, 15, 16, 3]
  cf := some (fileOf pool17 10 #[.nestMembers #[290, 276, 500, 502, 262, 267]] #[{ accessFlags := 1, nameIndex := 5, descriptorIndex := 6, attributes := #[] }, { accessFlags := 2, nameIndex := 71, descriptorIndex := 72, attributes := #[] }, { accessFlags := 2, nameIndex := 71, descriptorIndex := 47, attributes := #[] }, { accessFlags := 1, nameIndex := 363, descriptorIndex := 173, attributes := #[] }, { accessFlags := 1, nameIndex := 46, descriptorIndex := 47, attributes := #[] }, { accessFlags := 2, nameIndex := 133, descriptorIndex := 134, attributes := #[] }, { accessFlags := 1, nameIndex := 133, descriptorIndex := 96, attributes := #[] }] 33 2 #[148, 329, 331, 333] #[{ accessFlags := 26, nameIndex := 335, descriptorIndex := 336, attributes := #[] }, { accessFlags := 26, nameIndex := 340, descriptorIndex := 51, attributes := #[] }, { accessFlags := 26, nameIndex := 17, descriptorIndex := 14, attributes := #[] }, { accessFlags := 26, nameIndex := 41, descriptorIndex := 14, attributes := #[] }, { accessFlags := 128, nameIndex := 13, descriptorIndex := 14, attributes := #[] }, { accessFlags := 2, nameIndex := 50, descriptorIndex := 51, attributes := #[] }])
  fields := #[{ name := "serialVersionUID", type := .long, accessFlags := 26, slot := 0, constantValue := 0 }, { name := "DEFAULT_CAPACITY", type := .int, accessFlags := 26, slot := 1, constantValue := 0 }, { name := "EMPTY_ELEMENTDATA", type := (.array (.object "java/lang/Object")), accessFlags := 26, slot := 2, constantValue := 0 }, { name := "DEFAULTCAPACITY_EMPTY_ELEMENTDATA", type := (.array (.object "java/lang/Object")), accessFlags := 26, slot := 3, constantValue := 0 }, { name := "elementData", type := (.array (.object "java/lang/Object")), accessFlags := 128, slot := 1, constantValue := 0 }, { name := "size", type := .int, accessFlags := 2, slot := 2, constantValue := 0 }]
  methods := #[k17m0, k17m1, k17m2, k17m3, k17m4, k17m5, k17m6]
  instanceTypes := #[.int, (.array (.object "java/lang/Object")), .int]
  staticTypes := #[.long, .int, (.array (.object "java/lang/Object")), (.array (.object "java/lang/Object"))]
  resolved := Array.replicate 509 none
  statics := some 1 }

def pool18 : Array CpInfo := pool [(2, .class_ 4), (1, u "java/lang/Object"), (0, u "<init>"), (0, u "()V"), (3, .class_ 11), (0, u "java/util/ImmutableCollections$List12"), (0, .class_ 13), (0, u "java/util/ImmutableCollections$ListN"), (3, u "Z"), (0, .class_ 19), (0, u "java/util/List"), (0, .interfaceMethodref 21 22), (0, .class_ 23), (0, .nameAndType 24 25), (0, u "java/util/Collection"), (0, u "isEmpty"), (0, u "()Z"), (0, .interfaceMethodref 18 27), (0, .nameAndType 28 29), (0, u "of"), (0, u "()Ljava/util/List;"), (0, .interfaceMethodref 21 31), (0, .nameAndType 32 33), (0, u "toArray"), (0, u "()[Ljava/lang/Object;"), (0, .interfaceMethodref 18 35), (0, .nameAndType 28 36), (0, u "([Ljava/lang/Object;)Ljava/util/List;"), (0, .methodref 38 39), (0, .class_ 40), (0, .nameAndType 41 42), (0, u "java/util/Objects"), (0, u "requireNonNull"), (0, u "(Ljava/lang/Object;)Ljava/lang/Object;"), (0, .methodref 12 44), (0, .nameAndType 5 45), (0, u "([Ljava/lang/Object;Z)V"), (1, .class_ 49), (1, u "java/util/ImmutableCollections"), (0, u "$assertionsDisabled"), (5, u "[Ljava/lang/Object;"), (5, u "EMPTY_LIST"), (0, u "Ljava/util/ImmutableCollections$ListN;"), (8, u "EMPTY_LIST_NULLS"), (22, u "SALT32L"), (0, u "J"), (2, u "REVERSE"), (6, u "archivedObjects"), (2, u "EMPTY"), (0, u "Ljava/lang/Object;"), (0, .class_ 112), (0, u "java/util/ImmutableCollections$SetN"), (5, u "EMPTY_SET"), (0, u "Ljava/util/ImmutableCollections$SetN;"), (0, .class_ 121), (0, u "java/util/ImmutableCollections$MapN"), (3, u "EMPTY_MAP"), (0, u "Ljava/util/ImmutableCollections$MapN;"), (4, u "EXPAND_FACTOR"), (0, u "I"), (9, u "listCopy"), (0, u "(Ljava/util/Collection;)Ljava/util/List;"), (7, u "listFromArray"), (17, .class_ 170), (0, u "java/util/ImmutableCollections$MapN$MapNIterator"), (0, .class_ 172), (0, u "java/util/ImmutableCollections$MapN$1"), (0, .class_ 174), (0, u "java/util/ImmutableCollections$Map1"), (0, .class_ 176), (0, u "java/util/ImmutableCollections$AbstractImmutableMap"), (0, .class_ 178), (0, u "java/util/ImmutableCollections$SetN$SetNIterator"), (0, .class_ 180), (0, u "java/util/ImmutableCollections$Set12"), (0, .class_ 182), (0, u "java/util/ImmutableCollections$Set12$1"), (0, .class_ 184), (0, u "java/util/ImmutableCollections$AbstractImmutableSet"), (0, .class_ 186), (0, u "java/util/ImmutableCollections$SubList"), (0, .class_ 188), (0, u "java/util/ImmutableCollections$ListItr"), (0, .class_ 190), (0, u "java/util/ImmutableCollections$AbstractImmutableList"), (0, .class_ 192), (0, u "java/util/ImmutableCollections$AbstractImmutableCollection"), (0, .class_ 194), (0, u "java/util/ImmutableCollections$Access"), (0, .class_ 196), (0, u "java/util/ImmutableCollections$Access$1")] 16

def k18m0 : Method := { name := "<init>", desc := "()V", sig := { parameters := [], returnType := none }, accessFlags := 2, code := none }
def k18c1 : Code := { maxStack := 1, maxLocals := 2, code := jdk_56_method_3_code, exceptionTable := #[], attributes := #[] }
def k18m1 : Method := { name := "listCopy", desc := "(Ljava/util/Collection;)Ljava/util/List;", sig := { parameters := [(.object "java/util/Collection")], returnType := some (.object "java/util/List") }, accessFlags := 8, code := some k18c1 }
def k18c2 : Code := { maxStack := 4, maxLocals := 3, code := jdk_56_method_4_code, exceptionTable := #[], attributes := #[] }
def k18m2 : Method := { name := "listFromArray", desc := "([Ljava/lang/Object;)Ljava/util/List;", sig := { parameters := [(.array (.object "java/lang/Object"))], returnType := some (.object "java/util/List") }, accessFlags := 136, code := some k18c2 }
/-- java/util/ImmutableCollections -/
def k18 : Class := { plain "java/util/ImmutableCollections" (some 0) with
  accessFlags := 32
  interfaces := #[]
  cf := some (fileOf pool18 47 #[.nestMembers #[120, 169, 171, 173, 175, 111, 177, 179, 181, 183, 12, 10, 185, 187, 189, 191, 193, 195]] #[{ accessFlags := 2, nameIndex := 5, descriptorIndex := 6, attributes := #[] }, { accessFlags := 8, nameIndex := 142, descriptorIndex := 143, attributes := #[] }, { accessFlags := 136, nameIndex := 151, descriptorIndex := 36, attributes := #[] }] 32 2 #[] #[{ accessFlags := 26, nameIndex := 95, descriptorIndex := 96, attributes := #[] }, { accessFlags := 26, nameIndex := 99, descriptorIndex := 17, attributes := #[] }, { accessFlags := 10, nameIndex := 106, descriptorIndex := 56, attributes := #[] }, { accessFlags := 26, nameIndex := 109, descriptorIndex := 110, attributes := #[] }, { accessFlags := 24, nameIndex := 62, descriptorIndex := 63, attributes := #[] }, { accessFlags := 24, nameIndex := 72, descriptorIndex := 63, attributes := #[] }, { accessFlags := 24, nameIndex := 118, descriptorIndex := 119, attributes := #[] }, { accessFlags := 24, nameIndex := 125, descriptorIndex := 126, attributes := #[] }, { accessFlags := 24, nameIndex := 131, descriptorIndex := 132, attributes := #[] }, { accessFlags := 4120, nameIndex := 50, descriptorIndex := 17, attributes := #[] }])
  fields := #[{ name := "SALT32L", type := .long, accessFlags := 26, slot := 0, constantValue := 0 }, { name := "REVERSE", type := .boolean, accessFlags := 26, slot := 1, constantValue := 0 }, { name := "archivedObjects", type := (.array (.object "java/lang/Object")), accessFlags := 10, slot := 2, constantValue := 0 }, { name := "EMPTY", type := (.object "java/lang/Object"), accessFlags := 26, slot := 3, constantValue := 0 }, { name := "EMPTY_LIST", type := (.object "java/util/ImmutableCollections$ListN"), accessFlags := 24, slot := 4, constantValue := 0 }, { name := "EMPTY_LIST_NULLS", type := (.object "java/util/ImmutableCollections$ListN"), accessFlags := 24, slot := 5, constantValue := 0 }, { name := "EMPTY_SET", type := (.object "java/util/ImmutableCollections$SetN"), accessFlags := 24, slot := 6, constantValue := 0 }, { name := "EMPTY_MAP", type := (.object "java/util/ImmutableCollections$MapN"), accessFlags := 24, slot := 7, constantValue := 0 }, { name := "EXPAND_FACTOR", type := .int, accessFlags := 24, slot := 8, constantValue := 0 }, { name := "$assertionsDisabled", type := .boolean, accessFlags := 4120, slot := 9, constantValue := 0 }]
  methods := #[k18m0, k18m1, k18m2]
  instanceTypes := #[]
  staticTypes := #[.long, .boolean, (.array (.object "java/lang/Object")), (.object "java/lang/Object"), (.object "java/util/ImmutableCollections$ListN"), (.object "java/util/ImmutableCollections$ListN"), (.object "java/util/ImmutableCollections$SetN"), (.object "java/util/ImmutableCollections$MapN"), .int, .boolean]
  resolved := Array.replicate 213 none
  statics := some 2 }

def pool19 : Array CpInfo := pool [(1, .methodref 2 3), (0, .class_ 4), (0, .nameAndType 5 6), (0, u "java/util/AbstractCollection"), (0, u "<init>"), (0, u "()V"), (1, .class_ 10), (1, u "java/util/ImmutableCollections"), (2, .class_ 14), (0, u "java/util/ImmutableCollections$AbstractImmutableCollection")] 41

def k19c0 : Code := { maxStack := 1, maxLocals := 1, code := jdk_47_method_1_code, exceptionTable := #[], attributes := #[] }
def k19m0 : Method := { name := "<init>", desc := "()V", sig := { parameters := [], returnType := none }, accessFlags := 0, code := some k19c0 }
/-- java/util/ImmutableCollections$AbstractImmutableCollection -/
def k19 : Class := { plain "java/util/ImmutableCollections$AbstractImmutableCollection" (some 11) with
  accessFlags := 1056
  interfaces := #[]
  cf := some (fileOf pool19 13 #[.nestHost 8] #[{ accessFlags := 0, nameIndex := 5, descriptorIndex := 6, attributes := #[] }] 1056 2 #[] #[])
  fields := #[]
  methods := #[k19m0]
  instanceTypes := #[]
  staticTypes := #[]
  resolved := Array.replicate 56 none
  statics := none }

def pool20 : Array CpInfo := pool [(1, .methodref 2 3), (0, .class_ 4), (0, .nameAndType 5 6), (0, u "java/util/ImmutableCollections$AbstractImmutableCollection"), (0, u "<init>"), (0, u "()V"), (1, .class_ 10), (1, u "java/util/ImmutableCollections"), (2, .methodref 14 15), (0, .class_ 16), (0, .nameAndType 17 18), (0, u "java/util/ImmutableCollections$AbstractImmutableList"), (0, u "size"), (0, u "()I"), (42, .class_ 62), (0, u "java/util/ImmutableCollections$ListItr"), (0, .methodref 61 64), (0, .nameAndType 5 65), (0, u "(Ljava/util/List;I)V"), (11, .class_ 78), (0, u "java/util/List"), (0, .interfaceMethodref 77 80), (0, .nameAndType 81 82), (0, u "iterator"), (0, u "()Ljava/util/Iterator;"), (0, .interfaceMethodref 84 85), (0, .class_ 86), (0, .nameAndType 87 88), (0, u "java/util/Iterator"), (0, u "hasNext"), (0, u "()Z"), (0, .methodref 14 90), (0, .nameAndType 91 92), (0, u "get"), (0, u "(I)Ljava/lang/Object;"), (0, .interfaceMethodref 84 94), (0, .nameAndType 95 96), (0, u "next"), (0, u "()Ljava/lang/Object;"), (0, .methodref 98 99), (0, .class_ 100), (0, .nameAndType 101 102), (0, u "java/util/Objects"), (0, u "equals"), (0, u "(Ljava/lang/Object;Ljava/lang/Object;)Z"), (0, .methodref 98 104), (0, .nameAndType 105 106), (0, u "hashCode"), (0, u "(Ljava/lang/Object;)I"), (17, .class_ 125), (0, u "java/util/RandomAccess"), (48, u "(Ljava/lang/Object;)Z")] 21

def k20c0 : Code := { maxStack := 1, maxLocals := 1, code := jdk_46_method_1_code, exceptionTable := #[], attributes := #[] }
def k20m0 : Method := { name := "<init>", desc := "()V", sig := { parameters := [], returnType := none }, accessFlags := 0, code := some k20c0 }
def k20c1 : Code := { maxStack := 4, maxLocals := 1, code := jdk_46_method_10_code, exceptionTable := #[], attributes := #[] }
def k20m1 : Method := { name := "iterator", desc := "()Ljava/util/Iterator;", sig := { parameters := [], returnType := some (.object "java/util/Iterator") }, accessFlags := 1, code := some k20c1 }
def k20c2 : Code := { maxStack := 2, maxLocals := 5, code := jdk_46_method_13_code, exceptionTable := #[], attributes := #[] }
def k20m2 : Method := { name := "equals", desc := "(Ljava/lang/Object;)Z", sig := { parameters := [(.object "java/lang/Object")], returnType := some .boolean }, accessFlags := 1, code := some k20c2 }
def k20c3 : Code := { maxStack := 3, maxLocals := 4, code := jdk_46_method_14_code, exceptionTable := #[], attributes := #[] }
def k20m3 : Method := { name := "hashCode", desc := "()I", sig := { parameters := [], returnType := some .int }, accessFlags := 1, code := some k20c3 }
/-- java/util/ImmutableCollections$AbstractImmutableList -/
def k20 : Class := { plain "java/util/ImmutableCollections$AbstractImmutableList" (some 19) with
  accessFlags := 1056
  interfaces := #[13, 15]
  cf := some (fileOf pool20 14 #[.nestHost 8] #[{ accessFlags := 0, nameIndex := 5, descriptorIndex := 6, attributes := #[] }, { accessFlags := 1, nameIndex := 81, descriptorIndex := 82, attributes := #[] }, { accessFlags := 1, nameIndex := 101, descriptorIndex := 174, attributes := #[] }, { accessFlags := 1, nameIndex := 105, descriptorIndex := 18, attributes := #[] }] 1056 2 #[77, 124] #[])
  fields := #[]
  methods := #[k20m0, k20m1, k20m2, k20m3]
  instanceTypes := #[]
  staticTypes := #[]
  resolved := Array.replicate 196 none
  statics := none }

def pool21 : Array CpInfo := pool [(1, .methodref 2 3), (0, .class_ 4), (0, .nameAndType 5 6), (0, u "java/util/ImmutableCollections$AbstractImmutableList"), (0, u "<init>"), (0, u "()V"), (0, .methodref 8 9), (0, .class_ 10), (0, .nameAndType 11 12), (0, u "java/util/Objects"), (0, u "requireNonNull"), (0, u "(Ljava/lang/Object;)Ljava/lang/Object;"), (0, .fieldref 14 15), (0, .class_ 16), (0, .nameAndType 17 18), (0, u "java/util/ImmutableCollections$List12"), (0, u "e0"), (0, u "Ljava/lang/Object;"), (0, .fieldref 20 21), (0, .class_ 22), (0, .nameAndType 23 18), (0, u "java/util/ImmutableCollections"), (0, u "EMPTY"), (0, .fieldref 14 25), (0, .nameAndType 26 18), (0, u "e1"), (24, u "size"), (0, u "()I"), (17, .class_ 71), (0, u "java/io/Serializable"), (4, u "(Ljava/lang/Object;)V"), (8, u "(Ljava/lang/Object;Ljava/lang/Object;)V"), (4, u "get"), (0, u "(I)Ljava/lang/Object;")] 33

def k21c0 : Code := { maxStack := 2, maxLocals := 2, code := jdk_44_method_1_code, exceptionTable := #[], attributes := #[] }
def k21m0 : Method := { name := "<init>", desc := "(Ljava/lang/Object;)V", sig := { parameters := [(.object "java/lang/Object")], returnType := none }, accessFlags := 0, code := some k21c0 }
def k21c1 : Code := { maxStack := 2, maxLocals := 3, code := jdk_44_method_2_code, exceptionTable := #[], attributes := #[] }
def k21m1 : Method := { name := "<init>", desc := "(Ljava/lang/Object;Ljava/lang/Object;)V", sig := { parameters := [(.object "java/lang/Object"), (.object "java/lang/Object")], returnType := none }, accessFlags := 0, code := some k21c1 }
def k21c2 : Code := { maxStack := 2, maxLocals := 1, code := jdk_44_method_3_code, exceptionTable := #[], attributes := #[] }
def k21m2 : Method := { name := "size", desc := "()I", sig := { parameters := [], returnType := some .int }, accessFlags := 1, code := some k21c2 }
def k21c3 : Code := { maxStack := 2, maxLocals := 2, code := jdk_44_method_5_code, exceptionTable := #[], attributes := #[] }
def k21m3 : Method := { name := "get", desc := "(I)Ljava/lang/Object;", sig := { parameters := [.int], returnType := some (.object "java/lang/Object") }, accessFlags := 1, code := some k21c3 }
/-- java/util/ImmutableCollections$List12 -/
def k21 : Class := { plain "java/util/ImmutableCollections$List12" (some 20) with
  accessFlags := 48
  interfaces := #[3]
  cf := some (fileOf pool21 14 #[.nestHost 20] #[{ accessFlags := 0, nameIndex := 5, descriptorIndex := 76, attributes := #[] }, { accessFlags := 0, nameIndex := 5, descriptorIndex := 85, attributes := #[] }, { accessFlags := 1, nameIndex := 51, descriptorIndex := 52, attributes := #[] }, { accessFlags := 1, nameIndex := 90, descriptorIndex := 91, attributes := #[] }] 48 2 #[70] #[{ accessFlags := 18, nameIndex := 17, descriptorIndex := 18, attributes := #[] }, { accessFlags := 18, nameIndex := 26, descriptorIndex := 18, attributes := #[] }])
  fields := #[{ name := "e0", type := (.object "java/lang/Object"), accessFlags := 18, slot := 0, constantValue := 0 }, { name := "e1", type := (.object "java/lang/Object"), accessFlags := 18, slot := 1, constantValue := 0 }]
  methods := #[k21m0, k21m1, k21m2, k21m3]
  instanceTypes := #[(.object "java/lang/Object"), (.object "java/lang/Object")]
  staticTypes := #[]
  resolved := Array.replicate 125 none
  statics := none }

def pool22 : Array CpInfo := pool [(1, .methodref 2 3), (0, .class_ 4), (0, .nameAndType 5 6), (0, u "java/util/ImmutableCollections$AbstractImmutableList"), (0, u "<init>"), (0, u "()V"), (0, .fieldref 8 9), (0, .class_ 10), (0, .nameAndType 11 12), (0, u "java/util/ImmutableCollections$ListN"), (0, u "elements"), (0, u "[Ljava/lang/Object;"), (0, .fieldref 8 14), (0, .nameAndType 15 16), (0, u "allowNulls"), (0, u "Z"), (42, .class_ 60), (0, u "java/io/Serializable"), (4, u "([Ljava/lang/Object;Z)V"), (11, u "size"), (0, u "()I"), (0, u "get"), (0, u "(I)Ljava/lang/Object;"), (33, .class_ 115), (0, u "java/util/ImmutableCollections")] 3

def k22c0 : Code := { maxStack := 2, maxLocals := 3, code := jdk_45_method_1_code, exceptionTable := #[], attributes := #[] }
def k22m0 : Method := { name := "<init>", desc := "([Ljava/lang/Object;Z)V", sig := { parameters := [(.array (.object "java/lang/Object")), .boolean], returnType := none }, accessFlags := 2, code := some k22c0 }
def k22c1 : Code := { maxStack := 1, maxLocals := 1, code := jdk_45_method_3_code, exceptionTable := #[], attributes := #[] }
def k22m1 : Method := { name := "size", desc := "()I", sig := { parameters := [], returnType := some .int }, accessFlags := 1, code := some k22c1 }
def k22c2 : Code := { maxStack := 2, maxLocals := 2, code := jdk_45_method_4_code, exceptionTable := #[], attributes := #[] }
def k22m2 : Method := { name := "get", desc := "(I)Ljava/lang/Object;", sig := { parameters := [.int], returnType := some (.object "java/lang/Object") }, accessFlags := 1, code := some k22c2 }
/-- java/util/ImmutableCollections$ListN -/
def k22 : Class := { plain "java/util/ImmutableCollections$ListN" (some 20) with
  accessFlags := 48
  interfaces := #[3]
  cf := some (fileOf pool22 8 #[.nestHost 114] #[{ accessFlags := 2, nameIndex := 5, descriptorIndex := 65, attributes := #[] }, { accessFlags := 1, nameIndex := 77, descriptorIndex := 78, attributes := #[] }, { accessFlags := 1, nameIndex := 79, descriptorIndex := 80, attributes := #[] }] 48 2 #[59] #[{ accessFlags := 18, nameIndex := 11, descriptorIndex := 12, attributes := #[] }, { accessFlags := 18, nameIndex := 15, descriptorIndex := 16, attributes := #[] }])
  fields := #[{ name := "elements", type := (.array (.object "java/lang/Object")), accessFlags := 18, slot := 0, constantValue := 0 }, { name := "allowNulls", type := .boolean, accessFlags := 18, slot := 1, constantValue := 0 }]
  methods := #[k22m0, k22m1, k22m2]
  instanceTypes := #[(.array (.object "java/lang/Object")), .boolean]
  staticTypes := #[]
  resolved := Array.replicate 119 none
  statics := none }

def pool23 : Array CpInfo := pool [(2, .class_ 4), (1, u "java/lang/Object"), (0, u "<init>"), (0, u "()V"), (7, .methodref 2 15), (0, .nameAndType 16 17), (0, u "equals"), (0, u "(Ljava/lang/Object;)Z"), (1, .class_ 21), (1, u "java/util/Arrays"), (1, u "(Ljava/lang/Object;Ljava/lang/Object;)Z"), (0, .methodref 2 25), (0, .nameAndType 26 27), (0, u "hashCode"), (0, u "()I"), (0, .methodref 19 29), (0, .nameAndType 26 30), (0, u "([Ljava/lang/Object;)I"), (11, .class_ 44), (1, u "java/util/Objects"), (0, u "requireNonNull"), (0, u "(Ljava/lang/Object;)Ljava/lang/Object;"), (23, u "(Ljava/lang/Object;)I"), (66, u "hash")] 46

def k23m0 : Method := { name := "<init>", desc := "()V", sig := { parameters := [], returnType := none }, accessFlags := 2, code := none }
def k23c1 : Code := { maxStack := 2, maxLocals := 2, code := jdk_31_method_2_code, exceptionTable := #[], attributes := #[] }
def k23m1 : Method := { name := "equals", desc := "(Ljava/lang/Object;Ljava/lang/Object;)Z", sig := { parameters := [(.object "java/lang/Object"), (.object "java/lang/Object")], returnType := some .boolean }, accessFlags := 9, code := some k23c1 }
def k23c2 : Code := { maxStack := 1, maxLocals := 1, code := jdk_31_method_4_code, exceptionTable := #[], attributes := #[] }
def k23m2 : Method := { name := "hashCode", desc := "(Ljava/lang/Object;)I", sig := { parameters := [(.object "java/lang/Object")], returnType := some .int }, accessFlags := 9, code := some k23c2 }
def k23c3 : Code := { maxStack := 1, maxLocals := 1, code := jdk_31_method_5_code, exceptionTable := #[], attributes := #[] }
def k23m3 : Method := { name := "hash", desc := "([Ljava/lang/Object;)I", sig := { parameters := [(.array (.object "java/lang/Object"))], returnType := some .int }, accessFlags := 137, code := some k23c3 }
def k23c4 : Code := { maxStack := 2, maxLocals := 1, code := jdk_31_method_10_code, exceptionTable := #[], attributes := #[] }
def k23m4 : Method := { name := "requireNonNull", desc := "(Ljava/lang/Object;)Ljava/lang/Object;", sig := { parameters := [(.object "java/lang/Object")], returnType := some (.object "java/lang/Object") }, accessFlags := 9, code := some k23c4 }
/-- java/util/Objects -/
def k23 : Class := { plain "java/util/Objects" (some 0) with
  accessFlags := 49
  interfaces := #[]
  cf := some (fileOf pool23 42 #[] #[{ accessFlags := 2, nameIndex := 5, descriptorIndex := 6, attributes := #[] }, { accessFlags := 9, nameIndex := 16, descriptorIndex := 23, attributes := #[] }, { accessFlags := 9, nameIndex := 26, descriptorIndex := 70, attributes := #[] }, { accessFlags := 137, nameIndex := 137, descriptorIndex := 30, attributes := #[] }, { accessFlags := 9, nameIndex := 45, descriptorIndex := 46, attributes := #[] }] 49 2 #[] #[])
  fields := #[]
  methods := #[k23m0, k23m1, k23m2, k23m3, k23m4]
  instanceTypes := #[]
  staticTypes := #[]
  resolved := Array.replicate 184 none
  statics := none }

def pool24 : Array CpInfo := pool [(2, .class_ 4), (1, u "java/lang/Object"), (0, u "<init>"), (0, u "()V"), (7, .class_ 16), (1, u "java/util/Arrays"), (25, u "()I"), (31, .class_ 76), (1, u "java/util/Arrays$NaturalOrder"), (9, .methodref 2 87), (0, .nameAndType 88 89), (0, u "getClass"), (0, u "()Ljava/lang/Class;"), (20, .class_ 111), (0, u "[Ljava/lang/Object;"), (1, .class_ 115), (1, u "java/util/Arrays$LegacyMergeSort"), (1, u "Z"), (32, .methodref 151 152), (0, .class_ 153), (0, .nameAndType 154 155), (0, u "java/lang/System"), (0, u "arraycopy"), (0, u "(Ljava/lang/Object;ILjava/lang/Object;II)V"), (144, .methodref 14 301), (0, .nameAndType 302 303), (0, u "copyOf"), (0, u "([Ljava/lang/Object;ILjava/lang/Class;)[Ljava/lang/Object;"), (0, .methodref 305 306), (0, .class_ 307), (0, .nameAndType 308 309), (0, u "java/lang/Math"), (0, u "min"), (0, u "(II)I"), (65, .class_ 376), (0, u "java/util/Arrays$ArrayList"), (6, .methodref 2 384), (0, .nameAndType 385 42), (0, u "hashCode"), (3, u "([Ljava/lang/Object;)I"), (55, u "$assertionsDisabled"), (269, u "MIN_ARRAY_SORT_GRAN"), (0, u "I"), (2, u "INSERTIONSORT_THRESHOLD"), (140, u "([Ljava/lang/Object;I)[Ljava/lang/Object;"), (114, .class_ 976), (0, u "java/util/Arrays$ArrayItr")] 52

def k24m0 : Method := { name := "<init>", desc := "()V", sig := { parameters := [], returnType := none }, accessFlags := 2, code := none }
def k24c1 : Code := { maxStack := 3, maxLocals := 2, code := jdk_65_method_119_code, exceptionTable := #[], attributes := #[] }
def k24m1 : Method := { name := "copyOf", desc := "([Ljava/lang/Object;I)[Ljava/lang/Object;", sig := { parameters := [(.array (.object "java/lang/Object")), .int], returnType := some (.array (.object "java/lang/Object")) }, accessFlags := 9, code := some k24c1 }
def k24c2 : Code := { maxStack := 6, maxLocals := 4, code := jdk_65_method_120_code, exceptionTable := #[], attributes := #[] }
def k24m2 : Method := { name := "copyOf", desc := "([Ljava/lang/Object;ILjava/lang/Class;)[Ljava/lang/Object;", sig := { parameters := [(.array (.object "java/lang/Object")), .int, (.object "java/lang/Class")], returnType := some (.array (.object "java/lang/Object")) }, accessFlags := 9, code := some k24c2 }
def k24c3 : Code := { maxStack := 2, maxLocals := 6, code := jdk_65_method_157_code, exceptionTable := #[], attributes := #[] }
def k24m3 : Method := { name := "hashCode", desc := "([Ljava/lang/Object;)I", sig := { parameters := [(.array (.object "java/lang/Object"))], returnType := some .int }, accessFlags := 9, code := some k24c3 }
/-- java/util/Arrays -/
def k24 : Class := { plain "java/util/Arrays" (some 0) with
  accessFlags := 49
  interfaces := #[]
  cf := some (fileOf pool24 14 #[.nestMembers #[975, 375, 113, 74]] #[{ accessFlags := 2, nameIndex := 5, descriptorIndex := 6, attributes := #[] }, { accessFlags := 9, nameIndex := 302, descriptorIndex := 860, attributes := #[] }, { accessFlags := 9, nameIndex := 302, descriptorIndex := 303, attributes := #[] }, { accessFlags := 9, nameIndex := 385, descriptorIndex := 389, attributes := #[] }] 49 2 #[] #[{ accessFlags := 26, nameIndex := 715, descriptorIndex := 716, attributes := #[] }, { accessFlags := 26, nameIndex := 719, descriptorIndex := 716, attributes := #[] }, { accessFlags := 4120, nameIndex := 445, descriptorIndex := 117, attributes := #[] }])
  fields := #[{ name := "MIN_ARRAY_SORT_GRAN", type := .int, accessFlags := 26, slot := 0, constantValue := 0 }, { name := "INSERTIONSORT_THRESHOLD", type := .int, accessFlags := 26, slot := 1, constantValue := 0 }, { name := "$assertionsDisabled", type := .boolean, accessFlags := 4120, slot := 2, constantValue := 0 }]
  methods := #[k24m0, k24m1, k24m2, k24m3]
  instanceTypes := #[]
  staticTypes := #[.int, .int, .boolean]
  resolved := Array.replicate 1029 none
  statics := none }

def pool25 : Array CpInfo := pool [(4, .class_ 6), (1, u "java/lang/Object"), (0, u "<init>"), (0, u "()V"), (5, .class_ 16), (1, u "java/lang/StringLatin1"), (28, .class_ 47), (1, u "jdk/internal/util/ArraysSupport"), (9, u "([B)I"), (26, .methodref 45 85), (0, .nameAndType 86 87), (0, u "vectorizedHashCode"), (0, u "(Ljava/lang/Object;IIII)I"), (2, u "canEncode"), (14, u "(C)Z"), (15, u "$assertionsDisabled"), (0, u "Z"), (98, .class_ 223), (1, u "java/lang/StringLatin1$LinesSpliterator"), (57, u "equals"), (0, u "([B[B)Z"), (15, u "hashCode"), (81, u "toBytes"), (1, u "(C)[B"), (7, .class_ 391), (0, u "java/lang/StringLatin1$CharsSpliterator")] 3

def k25m0 : Method := { name := "<init>", desc := "()V", sig := { parameters := [], returnType := none }, accessFlags := 0, code := none }
def k25c1 : Code := { maxStack := 2, maxLocals := 1, code := jdk_43_method_3_code, exceptionTable := #[], attributes := #[] }
def k25m1 : Method := { name := "canEncode", desc := "(C)Z", sig := { parameters := [.char], returnType := some .boolean }, accessFlags := 9, code := some k25c1 }
def k25c2 : Code := { maxStack := 3, maxLocals := 3, code := jdk_43_method_13_code, exceptionTable := #[], attributes := #[] }
def k25m2 : Method := { name := "equals", desc := "([B[B)Z", sig := { parameters := [(.array .byte), (.array .byte)], returnType := some .boolean }, accessFlags := 9, code := some k25c2 }
def k25c3 : Code := { maxStack := 5, maxLocals := 1, code := jdk_43_method_21_code, exceptionTable := #[], attributes := #[] }
def k25m3 : Method := { name := "hashCode", desc := "([B)I", sig := { parameters := [(.array .byte)], returnType := some .int }, accessFlags := 9, code := some k25c3 }
def k25c4 : Code := { maxStack := 4, maxLocals := 1, code := jdk_43_method_46_code, exceptionTable := #[], attributes := #[] }
def k25m4 : Method := { name := "toBytes", desc := "(C)[B", sig := { parameters := [.char], returnType := some (.array .byte) }, accessFlags := 9, code := some k25c4 }
/-- java/lang/StringLatin1 -/
def k25 : Class := { plain "java/lang/StringLatin1" (some 0) with
  accessFlags := 48
  interfaces := #[]
  cf := some (fileOf pool25 14 #[.nestMembers #[390, 221]] #[{ accessFlags := 0, nameIndex := 7, descriptorIndex := 8, attributes := #[] }, { accessFlags := 9, nameIndex := 90, descriptorIndex := 105, attributes := #[] }, { accessFlags := 9, nameIndex := 281, descriptorIndex := 282, attributes := #[] }, { accessFlags := 9, nameIndex := 298, descriptorIndex := 57, attributes := #[] }, { accessFlags := 9, nameIndex := 380, descriptorIndex := 382, attributes := #[] }] 48 4 #[] #[{ accessFlags := 4120, nameIndex := 121, descriptorIndex := 122, attributes := #[] }])
  fields := #[{ name := "$assertionsDisabled", type := .boolean, accessFlags := 4120, slot := 0, constantValue := 0 }]
  methods := #[k25m0, k25m1, k25m2, k25m3, k25m4]
  instanceTypes := #[]
  staticTypes := #[.boolean]
  resolved := Array.replicate 395 none
  statics := none }

def pool26 : Array CpInfo := pool [(6, .class_ 8), (1, u "java/lang/Object"), (0, u "<init>"), (0, u "()V"), (1, .class_ 14), (1, u "java/lang/StringUTF16"), (31, u "$assertionsDisabled"), (0, u "Z"), (13, u "HI_BYTE_SHIFT"), (0, u "I"), (2, u "LO_BYTE_SHIFT"), (49, .methodref 12 116), (0, .nameAndType 117 118), (0, u "compress"), (0, u "([CI[BII)I"), (3, u "([CII)[B"), (138, u "coderFromArrayLen"), (0, u "([BI)B"), (106, .class_ 371), (1, u "java/lang/StringUTF16$LinesSpliterator"), (58, u "MAX_LENGTH"), (196, .class_ 628), (0, u "java/lang/StringUTF16$CodePointsSpliterator"), (0, .class_ 630), (0, u "java/lang/StringUTF16$CharsSpliterator")] 4

def k26m0 : Method := { name := "<init>", desc := "()V", sig := { parameters := [], returnType := none }, accessFlags := 0, code := none }
def k26c1 : Code := { maxStack := 2, maxLocals := 2, code := jdk_52_method_15_code, exceptionTable := #[], attributes := #[] }
def k26m1 : Method := { name := "coderFromArrayLen", desc := "([BI)B", sig := { parameters := [(.array .byte), .int], returnType := some .byte }, accessFlags := 8, code := some k26c1 }
def k26c2 : Code := { maxStack := 5, maxLocals := 6, code := jdk_52_method_16_code, exceptionTable := #[], attributes := #[] }
def k26m2 : Method := { name := "compress", desc := "([CII)[B", sig := { parameters := [(.array .char), .int, .int], returnType := some (.array .byte) }, accessFlags := 9, code := some k26c2 }
def k26c3 : Code := { maxStack := 3, maxLocals := 7, code := jdk_52_method_21_code, exceptionTable := #[], attributes := #[] }
def k26m3 : Method := { name := "compress", desc := "([CI[BII)I", sig := { parameters := [(.array .char), .int, (.array .byte), .int, .int], returnType := some .int }, accessFlags := 9, code := some k26c3 }
/-- java/lang/StringUTF16 -/
def k26 : Class := { plain "java/lang/StringUTF16" (some 0) with
  accessFlags := 48
  interfaces := #[]
  cf := some (fileOf pool26 12 #[.nestMembers #[627, 629, 369]] #[{ accessFlags := 0, nameIndex := 9, descriptorIndex := 10, attributes := #[] }, { accessFlags := 8, nameIndex := 261, descriptorIndex := 262, attributes := #[] }, { accessFlags := 9, nameIndex := 117, descriptorIndex := 122, attributes := #[] }, { accessFlags := 9, nameIndex := 117, descriptorIndex := 118, attributes := #[] }] 48 6 #[] #[{ accessFlags := 26, nameIndex := 61, descriptorIndex := 62, attributes := #[] }, { accessFlags := 26, nameIndex := 65, descriptorIndex := 62, attributes := #[] }, { accessFlags := 24, nameIndex := 430, descriptorIndex := 62, attributes := #[] }, { accessFlags := 4120, nameIndex := 46, descriptorIndex := 47, attributes := #[] }])
  fields := #[{ name := "HI_BYTE_SHIFT", type := .int, accessFlags := 26, slot := 0, constantValue := 0 }, { name := "LO_BYTE_SHIFT", type := .int, accessFlags := 26, slot := 1, constantValue := 0 }, { name := "MAX_LENGTH", type := .int, accessFlags := 24, slot := 2, constantValue := 0 }, { name := "$assertionsDisabled", type := .boolean, accessFlags := 4120, slot := 3, constantValue := 0 }]
  methods := #[k26m0, k26m1, k26m2, k26m3]
  instanceTypes := #[]
  staticTypes := #[.int, .int, .int, .boolean]
  resolved := Array.replicate 635 none
  statics := none }

def pool27 : Array CpInfo := pool [(1, .class_ 2), (0, u "java/lang/Math"), (1, .class_ 6), (1, u "java/lang/Object"), (0, u "<init>"), (0, u "()V"), (89, .class_ 100), (1, u "java/lang/Math$RandomNumberGeneratorHolder"), (71, u "negativeZeroFloatBits"), (0, u "J"), (2, u "negativeZeroDoubleBits"), (21, u "max"), (2, u "min"), (43, u "$assertionsDisabled"), (0, u "Z"), (88, u "(II)I"), (2, u "twoToTheDoubleScaleDown"), (0, u "D"), (4, u "twoToTheDoubleScaleUp"), (9, u "E"), (3, u "PI"), (2, u "TAU"), (2, u "DEGREES_TO_RADIANS"), (0, u "RADIANS_TO_DEGREES")] 94

def k27m0 : Method := { name := "<init>", desc := "()V", sig := { parameters := [], returnType := none }, accessFlags := 2, code := none }
def k27c1 : Code := { maxStack := 2, maxLocals := 2, code := jdk_29_method_65_code, exceptionTable := #[], attributes := #[] }
def k27m1 : Method := { name := "max", desc := "(II)I", sig := { parameters := [.int, .int], returnType := some .int }, accessFlags := 9, code := some k27c1 }
def k27c2 : Code := { maxStack := 2, maxLocals := 2, code := jdk_29_method_69_code, exceptionTable := #[], attributes := #[] }
def k27m2 : Method := { name := "min", desc := "(II)I", sig := { parameters := [.int, .int], returnType := some .int }, accessFlags := 9, code := some k27c2 }
/-- java/lang/Math -/
def k27 : Class := { plain "java/lang/Math" (some 0) with
  accessFlags := 49
  interfaces := #[]
  cf := some (fileOf pool27 1 #[.nestMembers #[98]] #[{ accessFlags := 2, nameIndex := 7, descriptorIndex := 8, attributes := #[] }, { accessFlags := 9, nameIndex := 198, descriptorIndex := 335, attributes := #[] }, { accessFlags := 9, nameIndex := 201, descriptorIndex := 335, attributes := #[] }] 49 4 #[] #[{ accessFlags := 25, nameIndex := 354, descriptorIndex := 339, attributes := #[] }, { accessFlags := 25, nameIndex := 358, descriptorIndex := 339, attributes := #[] }, { accessFlags := 25, nameIndex := 361, descriptorIndex := 339, attributes := #[] }, { accessFlags := 26, nameIndex := 364, descriptorIndex := 339, attributes := #[] }, { accessFlags := 26, nameIndex := 365, descriptorIndex := 339, attributes := #[] }, { accessFlags := 26, nameIndex := 172, descriptorIndex := 173, attributes := #[] }, { accessFlags := 26, nameIndex := 176, descriptorIndex := 173, attributes := #[] }, { accessFlags := 8, nameIndex := 344, descriptorIndex := 339, attributes := #[] }, { accessFlags := 8, nameIndex := 338, descriptorIndex := 339, attributes := #[] }, { accessFlags := 4120, nameIndex := 245, descriptorIndex := 246, attributes := #[] }])
  fields := #[{ name := "E", type := .double, accessFlags := 25, slot := 0, constantValue := 0 }, { name := "PI", type := .double, accessFlags := 25, slot := 1, constantValue := 0 }, { name := "TAU", type := .double, accessFlags := 25, slot := 2, constantValue := 0 }, { name := "DEGREES_TO_RADIANS", type := .double, accessFlags := 26, slot := 3, constantValue := 0 }, { name := "RADIANS_TO_DEGREES", type := .double, accessFlags := 26, slot := 4, constantValue := 0 }, { name := "negativeZeroFloatBits", type := .long, accessFlags := 26, slot := 5, constantValue := 0 }, { name := "negativeZeroDoubleBits", type := .long, accessFlags := 26, slot := 6, constantValue := 0 }, { name := "twoToTheDoubleScaleUp", type := .double, accessFlags := 8, slot := 7, constantValue := 0 }, { name := "twoToTheDoubleScaleDown", type := .double, accessFlags := 8, slot := 8, constantValue := 0 }, { name := "$assertionsDisabled", type := .boolean, accessFlags := 4120, slot := 9, constantValue := 0 }]
  methods := #[k27m0, k27m1, k27m2]
  instanceTypes := #[]
  staticTypes := #[.double, .double, .double, .double, .double, .long, .long, .double, .double, .boolean]
  resolved := Array.replicate 460 none
  statics := none }

def pool28 : Array CpInfo := pool [(2, .class_ 4), (1, u "java/lang/Object"), (0, u "<init>"), (0, u "()V"), (1, .class_ 10), (1, u "java/lang/System"), (0, u "allowSecurityManager"), (0, u "I"), (16, u "cons"), (0, u "Ljava/io/Console;"), (77, .class_ 110), (1, u "java/lang/System$CallersHolder"), (43, u "initialErrStream"), (0, u "Ljava/io/PrintStream;"), (19, u "security"), (0, u "Ljava/lang/SecurityManager;"), (31, .class_ 209), (0, u "java/lang/System$1"), (7, u "props"), (0, u "Ljava/util/Properties;"), (2, u "lineSeparator"), (0, u "Ljava/lang/String;"), (96, .class_ 321), (1, u "java/lang/System$LoggerFinder"), (5, .class_ 328), (0, u "java/lang/System$Logger"), (67, u "err"), (2, u "out"), (91, u "notSupportedJnuEncoding"), (15, u "in"), (17, u "initialIn"), (0, u "Ljava/io/InputStream;"), (35, u "bootLayer"), (0, u "Ljava/lang/ModuleLayer;"), (99, .class_ 664), (0, u "java/lang/System$2"), (9, u "NEVER"), (2, u "MAYBE"), (49, u "arraycopy"), (0, u "(Ljava/lang/Object;ILjava/lang/Object;II)V"), (72, .class_ 802), (0, u "java/lang/System$Logger$Level")] 31

def k28m0 : Method := { name := "<init>", desc := "()V", sig := { parameters := [], returnType := none }, accessFlags := 2, code := none }
def k28m1 : Method := { name := "arraycopy", desc := "(Ljava/lang/Object;ILjava/lang/Object;II)V", sig := { parameters := [(.object "java/lang/Object"), .int, (.object "java/lang/Object"), .int, .int], returnType := none }, accessFlags := 265, code := none }
/-- java/lang/System -/
def k28 : Class := { plain "java/lang/System" (some 0) with
  accessFlags := 49
  interfaces := #[]
  cf := some (fileOf pool28 8 #[.nestMembers #[319, 327, 801, 108, 663, 208]] #[{ accessFlags := 2, nameIndex := 5, descriptorIndex := 6, attributes := #[] }, { accessFlags := 265, nameIndex := 727, descriptorIndex := 728, attributes := #[] }] 49 2 #[] #[{ accessFlags := 25, nameIndex := 507, descriptorIndex := 526, attributes := #[] }, { accessFlags := 25, nameIndex := 399, descriptorIndex := 155, attributes := #[] }, { accessFlags := 25, nameIndex := 396, descriptorIndex := 155, attributes := #[] }, { accessFlags := 10, nameIndex := 525, descriptorIndex := 526, attributes := #[] }, { accessFlags := 26, nameIndex := 674, descriptorIndex := 12, attributes := #[] }, { accessFlags := 26, nameIndex := 677, descriptorIndex := 12, attributes := #[] }, { accessFlags := 10, nameIndex := 11, descriptorIndex := 12, attributes := #[] }, { accessFlags := 74, nameIndex := 175, descriptorIndex := 176, attributes := #[] }, { accessFlags := 10, nameIndex := 491, descriptorIndex := 222, attributes := #[] }, { accessFlags := 74, nameIndex := 29, descriptorIndex := 30, attributes := #[] }, { accessFlags := 74, nameIndex := 154, descriptorIndex := 155, attributes := #[] }, { accessFlags := 10, nameIndex := 217, descriptorIndex := 218, attributes := #[] }, { accessFlags := 10, nameIndex := 221, descriptorIndex := 222, attributes := #[] }, { accessFlags := 8, nameIndex := 562, descriptorIndex := 563, attributes := #[] }])
  fields := #[{ name := "in", type := (.object "java/io/InputStream"), accessFlags := 25, slot := 0, constantValue := 0 }, { name := "out", type := (.object "java/io/PrintStream"), accessFlags := 25, slot := 1, constantValue := 0 }, { name := "err", type := (.object "java/io/PrintStream"), accessFlags := 25, slot := 2, constantValue := 0 }, { name := "initialIn", type := (.object "java/io/InputStream"), accessFlags := 10, slot := 3, constantValue := 0 }, { name := "NEVER", type := .int, accessFlags := 26, slot := 4, constantValue := 0 }, { name := "MAYBE", type := .int, accessFlags := 26, slot := 5, constantValue := 0 }, { name := "allowSecurityManager", type := .int, accessFlags := 10, slot := 6, constantValue := 0 }, { name := "security", type := (.object "java/lang/SecurityManager"), accessFlags := 74, slot := 7, constantValue := 0 }, { name := "notSupportedJnuEncoding", type := (.object "java/lang/String"), accessFlags := 10, slot := 8, constantValue := 0 }, { name := "cons", type := (.object "java/io/Console"), accessFlags := 74, slot := 9, constantValue := 0 }, { name := "initialErrStream", type := (.object "java/io/PrintStream"), accessFlags := 74, slot := 10, constantValue := 0 }, { name := "props", type := (.object "java/util/Properties"), accessFlags := 10, slot := 11, constantValue := 0 }, { name := "lineSeparator", type := (.object "java/lang/String"), accessFlags := 10, slot := 12, constantValue := 0 }, { name := "bootLayer", type := (.object "java/lang/ModuleLayer"), accessFlags := 8, slot := 13, constantValue := 0 }]
  methods := #[k28m0, k28m1]
  instanceTypes := #[]
  staticTypes := #[(.object "java/io/InputStream"), (.object "java/io/PrintStream"), (.object "java/io/PrintStream"), (.object "java/io/InputStream"), .int, .int, .int, (.object "java/lang/SecurityManager"), (.object "java/lang/String"), (.object "java/io/Console"), (.object "java/io/PrintStream"), (.object "java/util/Properties"), (.object "java/lang/String"), (.object "java/lang/ModuleLayer")]
  resolved := Array.replicate 834 none
  statics := none }

def pool29 : Array CpInfo := pool [(9, u "<init>"), (6, .class_ 18), (1, u "java/lang/Object"), (0, u "()V"), (1, .class_ 23), (1, u "jdk/internal/util/ArraysSupport"), (0, u "LOG2_ARRAY_LONG_INDEX_SCALE"), (0, u "I"), (2, u "U"), (0, u "Ljdk/internal/misc/Unsafe;"), (8, u "BIG_ENDIAN"), (0, u "Z"), (8, u "LOG2_BYTE_BIT_SIZE"), (4, u "LOG2_ARRAY_INT_INDEX_SCALE"), (6, .class_ 61), (0, u "[B"), (0, .methodref 21 63), (0, .nameAndType 64 65), (0, u "signedHashCode"), (0, u "(I[BII)I"), (42, u "JLA"), (0, u "Ljdk/internal/access/JavaLangAccess;"), (11, u "LOG2_ARRAY_BOOLEAN_INDEX_SCALE"), (9, u "LOG2_ARRAY_BYTE_INDEX_SCALE"), (5, u "LOG2_ARRAY_CHAR_INDEX_SCALE"), (5, u "LOG2_ARRAY_SHORT_INDEX_SCALE"), (18, u "LOG2_ARRAY_FLOAT_INDEX_SCALE"), (24, u "LOG2_ARRAY_DOUBLE_INDEX_SCALE"), (89, u "T_BOOLEAN"), (2, u "T_CHAR"), (1, u "T_FLOAT"), (1, u "T_DOUBLE"), (1, u "T_BYTE"), (1, u "T_SHORT"), (1, u "T_INT"), (1, u "T_LONG"), (1, u "SOFT_MAX_ARRAY_LENGTH"), (26, u "vectorizedHashCode"), (0, u "(Ljava/lang/Object;IIII)I")] 55

def k29m0 : Method := { name := "<init>", desc := "()V", sig := { parameters := [], returnType := none }, accessFlags := 2, code := none }
def k29c1 : Code := { maxStack := 4, maxLocals := 5, code := jdk_48_method_4_code, exceptionTable := #[], attributes := #[] }
def k29m1 : Method := { name := "vectorizedHashCode", desc := "(Ljava/lang/Object;IIII)I", sig := { parameters := [(.object "java/lang/Object"), .int, .int, .int, .int], returnType := some .int }, accessFlags := 9, code := some k29c1 }
def k29c2 : Code := { maxStack := 3, maxLocals := 6, code := jdk_48_method_5_code, exceptionTable := #[], attributes := #[] }
def k29m2 : Method := { name := "signedHashCode", desc := "(I[BII)I", sig := { parameters := [.int, (.array .byte), .int, .int], returnType := some .int }, accessFlags := 10, code := some k29c2 }
/-- jdk/internal/util/ArraysSupport -/
def k29 : Class := { plain "jdk/internal/util/ArraysSupport" (some 0) with
  accessFlags := 33
  interfaces := #[]
  cf := some (fileOf pool29 21 #[] #[{ accessFlags := 2, nameIndex := 9, descriptorIndex := 19, attributes := #[] }, { accessFlags := 9, nameIndex := 321, descriptorIndex := 322, attributes := #[] }, { accessFlags := 10, nameIndex := 64, descriptorIndex := 65, attributes := #[] }] 33 16 #[] #[{ accessFlags := 24, nameIndex := 28, descriptorIndex := 29, attributes := #[] }, { accessFlags := 26, nameIndex := 38, descriptorIndex := 39, attributes := #[] }, { accessFlags := 25, nameIndex := 121, descriptorIndex := 25, attributes := #[] }, { accessFlags := 25, nameIndex := 131, descriptorIndex := 25, attributes := #[] }, { accessFlags := 25, nameIndex := 137, descriptorIndex := 25, attributes := #[] }, { accessFlags := 25, nameIndex := 143, descriptorIndex := 25, attributes := #[] }, { accessFlags := 25, nameIndex := 53, descriptorIndex := 25, attributes := #[] }, { accessFlags := 25, nameIndex := 24, descriptorIndex := 25, attributes := #[] }, { accessFlags := 25, nameIndex := 162, descriptorIndex := 25, attributes := #[] }, { accessFlags := 25, nameIndex := 187, descriptorIndex := 25, attributes := #[] }, { accessFlags := 26, nameIndex := 48, descriptorIndex := 25, attributes := #[] }, { accessFlags := 25, nameIndex := 277, descriptorIndex := 25, attributes := #[] }, { accessFlags := 25, nameIndex := 280, descriptorIndex := 25, attributes := #[] }, { accessFlags := 25, nameIndex := 282, descriptorIndex := 25, attributes := #[] }, { accessFlags := 25, nameIndex := 284, descriptorIndex := 25, attributes := #[] }, { accessFlags := 25, nameIndex := 286, descriptorIndex := 25, attributes := #[] }, { accessFlags := 25, nameIndex := 288, descriptorIndex := 25, attributes := #[] }, { accessFlags := 25, nameIndex := 290, descriptorIndex := 25, attributes := #[] }, { accessFlags := 25, nameIndex := 292, descriptorIndex := 25, attributes := #[] }, { accessFlags := 26, nameIndex := 108, descriptorIndex := 109, attributes := #[] }, { accessFlags := 25, nameIndex := 294, descriptorIndex := 25, attributes := #[] }])
  fields := #[{ name := "U", type := (.object "jdk/internal/misc/Unsafe"), accessFlags := 24, slot := 0, constantValue := 0 }, { name := "BIG_ENDIAN", type := .boolean, accessFlags := 26, slot := 1, constantValue := 0 }, { name := "LOG2_ARRAY_BOOLEAN_INDEX_SCALE", type := .int, accessFlags := 25, slot := 2, constantValue := 0 }, { name := "LOG2_ARRAY_BYTE_INDEX_SCALE", type := .int, accessFlags := 25, slot := 3, constantValue := 0 }, { name := "LOG2_ARRAY_CHAR_INDEX_SCALE", type := .int, accessFlags := 25, slot := 4, constantValue := 0 }, { name := "LOG2_ARRAY_SHORT_INDEX_SCALE", type := .int, accessFlags := 25, slot := 5, constantValue := 0 }, { name := "LOG2_ARRAY_INT_INDEX_SCALE", type := .int, accessFlags := 25, slot := 6, constantValue := 0 }, { name := "LOG2_ARRAY_LONG_INDEX_SCALE", type := .int, accessFlags := 25, slot := 7, constantValue := 0 }, { name := "LOG2_ARRAY_FLOAT_INDEX_SCALE", type := .int, accessFlags := 25, slot := 8, constantValue := 0 }, { name := "LOG2_ARRAY_DOUBLE_INDEX_SCALE", type := .int, accessFlags := 25, slot := 9, constantValue := 0 }, { name := "LOG2_BYTE_BIT_SIZE", type := .int, accessFlags := 26, slot := 10, constantValue := 0 }, { name := "T_BOOLEAN", type := .int, accessFlags := 25, slot := 11, constantValue := 0 }, { name := "T_CHAR", type := .int, accessFlags := 25, slot := 12, constantValue := 0 }, { name := "T_FLOAT", type := .int, accessFlags := 25, slot := 13, constantValue := 0 }, { name := "T_DOUBLE", type := .int, accessFlags := 25, slot := 14, constantValue := 0 }, { name := "T_BYTE", type := .int, accessFlags := 25, slot := 15, constantValue := 0 }, { name := "T_SHORT", type := .int, accessFlags := 25, slot := 16, constantValue := 0 }, { name := "T_INT", type := .int, accessFlags := 25, slot := 17, constantValue := 0 }, { name := "T_LONG", type := .int, accessFlags := 25, slot := 18, constantValue := 0 }, { name := "JLA", type := (.object "jdk/internal/access/JavaLangAccess"), accessFlags := 26, slot := 19, constantValue := 0 }, { name := "SOFT_MAX_ARRAY_LENGTH", type := .int, accessFlags := 25, slot := 20, constantValue := 0 }]
  methods := #[k29m0, k29m1, k29m2]
  instanceTypes := #[]
  staticTypes := #[(.object "jdk/internal/misc/Unsafe"), .boolean, .int, .int, .int, .int, .int, .int, .int, .int, .int, .int, .int, .int, .int, .int, .int, .int, .int, (.object "jdk/internal/access/JavaLangAccess"), .int]
  resolved := Array.replicate 378 none
  statics := none }

def pool30 : Array CpInfo := pool [(16, .class_ 18), (1, u "java/util/Iterator"), (0, u "hasNext"), (0, u "()Z"), (2, u "next"), (0, u "()Ljava/lang/Object;"), (6, .class_ 32), (0, u "java/lang/Object")] 20

def k30m0 : Method := { name := "hasNext", desc := "()Z", sig := { parameters := [], returnType := some .boolean }, accessFlags := 1025, code := none }
def k30m1 : Method := { name := "next", desc := "()Ljava/lang/Object;", sig := { parameters := [], returnType := some (.object "java/lang/Object") }, accessFlags := 1025, code := none }
/-- java/util/Iterator -/
def k30 : Class := { plain "java/util/Iterator" (some 0) with
  accessFlags := 1537
  interfaces := #[]
  cf := some (fileOf pool30 16 #[] #[{ accessFlags := 1025, nameIndex := 19, descriptorIndex := 20, attributes := #[] }, { accessFlags := 1025, nameIndex := 23, descriptorIndex := 24, attributes := #[] }] 1537 31 #[] #[])
  fields := #[]
  methods := #[k30m0, k30m1]
  instanceTypes := #[]
  staticTypes := #[]
  resolved := Array.replicate 53 none
  statics := none }

def pool31 : Array CpInfo := pool [(1, .class_ 2), (0, u "java/util/ListIterator"), (0, .class_ 4), (0, u "java/lang/Object"), (0, .class_ 6), (0, u "java/util/Iterator")] 20

/-- java/util/ListIterator -/
def k31 : Class := { plain "java/util/ListIterator" (some 0) with
  accessFlags := 1537
  interfaces := #[30]
  cf := some (fileOf pool31 1 #[] #[] 1537 3 #[5] #[])
  fields := #[]
  methods := #[]
  instanceTypes := #[]
  staticTypes := #[]
  resolved := Array.replicate 27 none
  statics := none }

def pool32 : Array CpInfo := pool [(1, .methodref 2 3), (0, .class_ 4), (0, .nameAndType 5 6), (0, u "java/lang/Object"), (0, u "<init>"), (0, u "()V"), (0, .fieldref 8 9), (0, .class_ 10), (0, .nameAndType 11 12), (0, u "java/util/ImmutableCollections$ListItr"), (0, u "list"), (0, u "Ljava/util/List;"), (0, .fieldref 8 14), (0, .nameAndType 15 16), (0, u "size"), (0, u "I"), (0, .fieldref 8 18), (0, .nameAndType 19 16), (0, u "cursor"), (0, .fieldref 8 21), (0, .nameAndType 22 23), (0, u "isListIterator"), (0, u "Z"), (0, .interfaceMethodref 25 26), (0, .class_ 27), (0, .nameAndType 28 29), (0, u "java/util/List"), (0, u "get"), (0, u "(I)Ljava/lang/Object;"), (6, .class_ 38), (1, u "java/util/ImmutableCollections"), (2, .class_ 42), (0, u "java/util/ListIterator"), (4, u "(Ljava/util/List;I)V"), (11, u "hasNext"), (0, u "()Z"), (1, u "next"), (0, u "()Ljava/lang/Object;")] 22

def k32c0 : Code := { maxStack := 2, maxLocals := 3, code := jdk_53_method_1_code, exceptionTable := #[], attributes := #[] }
def k32m0 : Method := { name := "<init>", desc := "(Ljava/util/List;I)V", sig := { parameters := [(.object "java/util/List"), .int], returnType := none }, accessFlags := 0, code := some k32c0 }
def k32c1 : Code := { maxStack := 2, maxLocals := 1, code := jdk_53_method_3_code, exceptionTable := #[], attributes := #[] }
def k32m1 : Method := { name := "hasNext", desc := "()Z", sig := { parameters := [], returnType := some .boolean }, accessFlags := 1, code := some k32c1 }
def k32c2 : Code := { maxStack := 3, maxLocals := 3, code := jdk_53_method_4_code, exceptionTable := #[{ startPc := 0, endPc := 24, handlerPc := 25, catchType := 30 }], attributes := #[] }
def k32m2 : Method := { name := "next", desc := "()Ljava/lang/Object;", sig := { parameters := [], returnType := some (.object "java/lang/Object") }, accessFlags := 1, code := some k32c2 }
/-- java/util/ImmutableCollections$ListItr -/
def k32 : Class := { plain "java/util/ImmutableCollections$ListItr" (some 0) with
  accessFlags := 48
  interfaces := #[31]
  cf := some (fileOf pool32 8 #[.nestHost 36] #[{ accessFlags := 0, nameIndex := 5, descriptorIndex := 47, attributes := #[] }, { accessFlags := 1, nameIndex := 59, descriptorIndex := 60, attributes := #[] }, { accessFlags := 1, nameIndex := 62, descriptorIndex := 63, attributes := #[] }] 48 2 #[41] #[{ accessFlags := 18, nameIndex := 11, descriptorIndex := 12, attributes := #[] }, { accessFlags := 18, nameIndex := 15, descriptorIndex := 16, attributes := #[] }, { accessFlags := 18, nameIndex := 22, descriptorIndex := 23, attributes := #[] }, { accessFlags := 2, nameIndex := 19, descriptorIndex := 16, attributes := #[] }])
  fields := #[{ name := "list", type := (.object "java/util/List"), accessFlags := 18, slot := 0, constantValue := 0 }, { name := "size", type := .int, accessFlags := 18, slot := 1, constantValue := 0 }, { name := "isListIterator", type := .boolean, accessFlags := 18, slot := 2, constantValue := 0 }, { name := "cursor", type := .int, accessFlags := 2, slot := 3, constantValue := 0 }]
  methods := #[k32m0, k32m1, k32m2]
  instanceTypes := #[(.object "java/util/List"), .int, .boolean, .int]
  staticTypes := #[]
  resolved := Array.replicate 86 none
  statics := none }

def pool33 : Array CpInfo := pool [(2, .class_ 4), (1, u "java/lang/Object"), (0, u "<init>"), (0, u "()V"), (17, .class_ 26), (1, u "jdk/internal/util/Preconditions"), (28, .class_ 56), (0, u "jdk/internal/util/Preconditions$4"), (57, .class_ 115), (0, u "jdk/internal/util/Preconditions$1"), (7, u "SIOOBE_FORMATTER"), (0, u "Ljava/util/function/BiFunction;"), (0, .class_ 126), (0, u "jdk/internal/util/Preconditions$2"), (3, u "AIOOBE_FORMATTER"), (0, .class_ 132), (0, u "jdk/internal/util/Preconditions$3"), (3, u "IOOBE_FORMATTER")] 57

def k33m0 : Method := { name := "<init>", desc := "()V", sig := { parameters := [], returnType := none }, accessFlags := 1, code := none }
/-- jdk/internal/util/Preconditions -/
def k33 : Class := { plain "jdk/internal/util/Preconditions" (some 0) with
  accessFlags := 33
  interfaces := #[]
  cf := some (fileOf pool33 24 #[.nestMembers #[55, 131, 125, 114]] #[{ accessFlags := 1, nameIndex := 5, descriptorIndex := 6, attributes := #[] }] 33 2 #[] #[{ accessFlags := 25, nameIndex := 123, descriptorIndex := 124, attributes := #[] }, { accessFlags := 25, nameIndex := 130, descriptorIndex := 124, attributes := #[] }, { accessFlags := 25, nameIndex := 136, descriptorIndex := 124, attributes := #[] }])
  fields := #[{ name := "SIOOBE_FORMATTER", type := (.object "java/util/function/BiFunction"), accessFlags := 25, slot := 0, constantValue := 0 }, { name := "AIOOBE_FORMATTER", type := (.object "java/util/function/BiFunction"), accessFlags := 25, slot := 1, constantValue := 0 }, { name := "IOOBE_FORMATTER", type := (.object "java/util/function/BiFunction"), accessFlags := 25, slot := 2, constantValue := 0 }]
  methods := #[k33m0]
  instanceTypes := #[]
  staticTypes := #[(.object "java/util/function/BiFunction"), (.object "java/util/function/BiFunction"), (.object "java/util/function/BiFunction")]
  resolved := Array.replicate 194 none
  statics := some 3 }

def pool34 : Array CpInfo := pool [(1, .class_ 2), (0, u "java/lang/Class"), (0, .class_ 4), (0, u "java/lang/Object")] 0

/-- java/lang/Class -/
def k34 : Class := { plain "java/lang/Class" (some 0) with
  accessFlags := 49
  interfaces := #[]
  cf := some (fileOf pool34 1 #[] #[] 49 3 #[] #[])
  fields := #[]
  methods := #[]
  instanceTypes := #[]
  staticTypes := #[]
  resolved := Array.replicate 5 none
  statics := none }

/-- the primitive byte -/
def k35 : Class := { plain "byte" none with kind := .primitive 'B', accessFlags := 0x411 }
/-- [B -/
def k36 : Class := { plain "[B" (some 0) with kind := .array 35 .byte, interfaces := #[16, 3], accessFlags := 1041 }

/-- the primitive char -/
def k37 : Class := { plain "char" none with kind := .primitive 'C', accessFlags := 0x411 }
/-- [C -/
def k38 : Class := { plain "[C" (some 0) with kind := .array 37 .char, interfaces := #[16, 3], accessFlags := 1041 }

/-- [Ljava/lang/Object; -/
def k39 : Class := { plain "[Ljava/lang/Object;" (some 0) with kind := .array 0 (.object "java/lang/Object"), interfaces := #[16, 3], accessFlags := 1041, mirror := some 4 }

def heap : Heap := #[{ cls := 8, slots := #[.long 0, .int 1, .null, .int 0, .null, .int 0, .int 0], vm := .statics 8 },
  { cls := 17, slots := #[.long 0, .int 0, .ref 7, .ref 8], vm := .statics 17 },
  { cls := 18, slots := #[.long 0, .int 0, .null, .ref 9, .ref 6, .null, .null, .null, .int 0, .int 1], vm := .statics 18 },
  { cls := 33, slots := #[.null, .null, .null], vm := .statics 33 },
  { cls := 34, slots := #[], vm := .mirror 39 },
  { cls := 39, slots := #[], vm := .none },
  { cls := 22, slots := #[.ref 5, .int 0], vm := .none },
  { cls := 39, slots := #[], vm := .none },
  { cls := 39, slots := #[], vm := .none },
  { cls := 0, slots := #[], vm := .none }]
def classes : Array Class := #[k0, k1, k2, k3, k4, k5, k6, k7, k8, k9, k10, k11, k12, k13, k14, k15, k16, k17, k18, k19, k20, k21, k22, k23, k24, k25, k26, k27, k28, k29, k30, k31, k32, k33, k34, k35, k36, k37, k38, k39]
def interned : List (Array UInt16 × Addr) := []
def slotsUsed : Nat := 26
def theMethod : MethodId := ⟨1, 4⟩
def args0 : Array Value := #[.int 65, .int 66, .int 67, .int 68, .int 4]
def aboutOver (below : List Frame) : State where
  vm := { classes := classes, interned := interned.toArray }
  heap := heap
  slotsUsed := slotsUsed
  threads := #[{ frames := .invoking theMethod args0 :: below }]
def below0 : List Frame := [.native { method := ⟨0, 0⟩, args := #[] }]
def about1 : State := aboutOver below0
def p0 : Program := .bare "" "" ""
def e0 : Env := launch0.env 0 0 0
theorem w_frames : about1.frames = Frame.invoking theMethod args0 :: below0 := rfl
set_option maxRecDepth 65536 in
theorem w_args : argsFit about1.vm theMethod args0 = true := by decide +kernel
set_option maxRecDepth 65536 in
theorem w_heap : heapFits about1 = true := by decide +kernel
set_option maxRecDepth 65536 in
theorem w_runnable : about1.curStatus? = some .runnable := by decide +kernel
set_option maxRecDepth 65536 in
theorem w_alone : about1.alone = true := by decide +kernel
set_option maxRecDepth 65536 in
theorem w_named : about1.methodNamed? x = some theMethod := by decide +kernel
set_option maxRecDepth 65536 in
theorem w_hears : about1.hears theMethod below0 = true := by decide +kernel
set_option maxRecDepth 65536 in
theorem w_ripe : about1.ripe theMethod args0 below0 = true := by decide +kernel
theorem w_running : about1.status = .running := rfl
set_option maxRecDepth 65536 in
theorem w_room : about1.hasRoom e0.platform room_1 = true :=
  launch0.hasRoom_least _ room_1 (by decide +kernel) (by decide +kernel) (by decide +kernel) (by decide +kernel) (by decide +kernel) (by decide +kernel)
theorem allAtoms_all (ts : List Jvm.Cond) (a : Array Jvm.Value) (st : Jvm.State) : (allAtoms ts).before a st = ts.all (fun c => c.before a st) := by
  induction ts with
  | nil => rfl
  | cons c t ih =>
    show (Jvm.Cond.and c (allAtoms t)).before a st = _
    rw [Jvm.Cond.before_and, ih, List.all_cons]
def words1 : List Jvm.Cond := Jvm.Cond.code x code maxLocals ret :: tables_1
/-- a 'code' word, met by the world's own term for the bytes: nothing is compared byte by byte -/
theorem code_word {y : MethodName} {bytes : ByteArray} {mx : Nat} {rt : Option FieldType} {a : Array Value} {s : State} {m : MethodId} {meth : Method} {c : Code} (h1 : s.methodNamed? y = some m) (h2 : s.vm.method? m = some meth) (h3 : meth.code = some c) (h4 : c.code = bytes)
    (h5 : (c.maxLocals == mx && c.exceptionTable.isEmpty && decide (c.maxStack ≤ mostOperands) && decide (meth.sig.returnType = rt) && !meth.locks && decide (parseMethodDescriptor y.desc = some meth.sig)) = true) : (Jvm.Cond.code y bytes mx rt).before a s = true := by
  simp only [Bool.and_eq_true, beq_iff_eq, Bool.not_eq_true', decide_eq_true_eq] at h5
  obtain ⟨⟨⟨⟨⟨g1, g2⟩, g3⟩, g4⟩, g5⟩, g6⟩ := h5
  simp [Cond.before, Cond.holds, Cond.value, h1, h2, h3, h4, g1, g2, g3, g4, g5, g6]
def isCode : Jvm.Cond → Bool
  | .code _ _ _ _ => true
  | _ => false
theorem all_split {L : List Jvm.Cond} {P : Jvm.Cond → Bool} (h1 : L.all (fun c => isCode c || P c) = true) (h2 : ∀ c ∈ L.filter isCode, P c = true) : L.all P = true := by
  refine List.all_eq_true.mpr fun c hc => ?_
  have h := List.all_eq_true.mp h1 c hc
  rcases Bool.eq_false_or_eq_true (isCode c) with hi | hi
  · exact h2 c (List.mem_filter.mpr ⟨hc, hi⟩)
  · simpa [hi] using h
set_option maxRecDepth 65536 in
theorem w_c0 : (Jvm.Cond.code x code maxLocals ret).before args0 about1 = true := code_word (m := ⟨1, 4⟩) (meth := k1m4) (c := k1c4) (by decide +kernel) rfl rfl rfl (by decide +kernel)
set_option maxRecDepth 65536 in
theorem w_c1 : (Jvm.Cond.code ({ cls := "com/example/weftwork/weftwork/model/ServiceHashCodePinLaw", name := "name", desc := "(II)Ljava/lang/String;" } : Jvm.MethodName) method_2_code (4 : Nat) (Option.some (Jvm.ClassFile.FieldType.object "java/lang/String"))).before args0 about1 = true := code_word (m := ⟨1, 1⟩) (meth := k1m1) (c := k1c1) (by decide +kernel) rfl rfl rfl (by decide +kernel)
set_option maxRecDepth 65536 in
theorem w_c2 : (Jvm.Cond.code ({ cls := "java/lang/String", name := "<init>", desc := "([C)V" } : Jvm.MethodName) jdk_42_method_3_code (2 : Nat) (Option.none : Option Jvm.ClassFile.FieldType)).before args0 about1 = true := code_word (m := ⟨8, 1⟩) (meth := k8m1) (c := k8c1) (by decide +kernel) rfl rfl rfl (by decide +kernel)
set_option maxRecDepth 65536 in
theorem w_c3 : (Jvm.Cond.code ({ cls := "java/lang/String", name := "<init>", desc := "([CIILjava/lang/Void;)V" } : Jvm.MethodName) jdk_42_method_149_code (6 : Nat) (Option.none : Option Jvm.ClassFile.FieldType)).before args0 about1 = true := code_word (m := ⟨8, 5⟩) (meth := k8m5) (c := k8c5) (by decide +kernel) rfl rfl rfl (by decide +kernel)
set_option maxRecDepth 65536 in
theorem w_c4 : (Jvm.Cond.code ({ cls := "java/lang/Object", name := "<init>", desc := "()V" } : Jvm.MethodName) object_method_1_code (1 : Nat) (Option.none : Option Jvm.ClassFile.FieldType)).before args0 about1 = true := code_word (m := ⟨0, 0⟩) (meth := k0m0) (c := k0c0) (by decide +kernel) rfl rfl rfl (by decide +kernel)
set_option maxRecDepth 65536 in
theorem w_c5 : (Jvm.Cond.code ({ cls := "com/example/weftwork/weftwork/model/ServiceHashCodePinLaw", name := "list", desc := "(II)Ljava/util/ArrayList;" } : Jvm.MethodName) method_4_code (3 : Nat) (Option.some (Jvm.ClassFile.FieldType.object "java/util/ArrayList"))).before args0 about1 = true := code_word (m := ⟨1, 3⟩) (meth := k1m3) (c := k1c3) (by decide +kernel) rfl rfl rfl (by decide +kernel)
set_option maxRecDepth 65536 in
theorem w_c6 : (Jvm.Cond.code ({ cls := "java/util/ArrayList", name := "<init>", desc := "()V" } : Jvm.MethodName) jdk_38_method_2_code (1 : Nat) (Option.none : Option Jvm.ClassFile.FieldType)).before args0 about1 = true := code_word (m := ⟨17, 0⟩) (meth := k17m0) (c := k17c0) (by decide +kernel) rfl rfl rfl (by decide +kernel)
set_option maxRecDepth 65536 in
theorem w_c7 : (Jvm.Cond.code ({ cls := "java/util/AbstractList", name := "<init>", desc := "()V" } : Jvm.MethodName) jdk_39_method_1_code (1 : Nat) (Option.none : Option Jvm.ClassFile.FieldType)).before args0 about1 = true := code_word (m := ⟨14, 0⟩) (meth := k14m0) (c := k14c0) (by decide +kernel) rfl rfl rfl (by decide +kernel)
set_option maxRecDepth 65536 in
theorem w_c8 : (Jvm.Cond.code ({ cls := "java/util/AbstractCollection", name := "<init>", desc := "()V" } : Jvm.MethodName) jdk_22_method_1_code (1 : Nat) (Option.none : Option Jvm.ClassFile.FieldType)).before args0 about1 = true := code_word (m := ⟨11, 0⟩) (meth := k11m0) (c := k11c0) (by decide +kernel) rfl rfl rfl (by decide +kernel)
set_option maxRecDepth 65536 in
theorem w_c9 : (Jvm.Cond.code ({ cls := "com/example/weftwork/weftwork/model/Service", name := "<init>", desc := "(Ljava/lang/String;Ljava/util/List;Ljava/util/List;)V" } : Jvm.MethodName) prog_28_method_1_code (4 : Nat) (Option.none : Option Jvm.ClassFile.FieldType)).before args0 about1 = true := code_word (m := ⟨2, 0⟩) (meth := k2m0) (c := k2c0) (by decide +kernel) rfl rfl rfl (by decide +kernel)
set_option maxRecDepth 65536 in
theorem w_c10 : (Jvm.Cond.code ({ cls := "java/util/List", name := "copyOf", desc := "(Ljava/util/Collection;)Ljava/util/List;" } : Jvm.MethodName) jdk_40_method_48_code (1 : Nat) (Option.some (Jvm.ClassFile.FieldType.object "java/util/List"))).before args0 about1 = true := code_word (m := ⟨13, 5⟩) (meth := k13m5) (c := k13c5) (by decide +kernel) rfl rfl rfl (by decide +kernel)
set_option maxRecDepth 65536 in
theorem w_c11 : (Jvm.Cond.code ({ cls := "java/util/ImmutableCollections", name := "listCopy", desc := "(Ljava/util/Collection;)Ljava/util/List;" } : Jvm.MethodName) jdk_56_method_3_code (2 : Nat) (Option.some (Jvm.ClassFile.FieldType.object "java/util/List"))).before args0 about1 = true := code_word (m := ⟨18, 1⟩) (meth := k18m1) (c := k18c1) (by decide +kernel) rfl rfl rfl (by decide +kernel)
set_option maxRecDepth 65536 in
theorem w_c12 : (Jvm.Cond.code ({ cls := "java/util/ArrayList", name := "isEmpty", desc := "()Z" } : Jvm.MethodName) jdk_38_method_9_code (1 : Nat) (Option.some Jvm.ClassFile.FieldType.boolean)).before args0 about1 = true := code_word (m := ⟨17, 3⟩) (meth := k17m3) (c := k17c3) (by decide +kernel) rfl rfl rfl (by decide +kernel)
set_option maxRecDepth 65536 in
theorem w_c13 : (Jvm.Cond.code ({ cls := "java/util/List", name := "of", desc := "()Ljava/util/List;" } : Jvm.MethodName) jdk_40_method_36_code (0 : Nat) (Option.some (Jvm.ClassFile.FieldType.object "java/util/List"))).before args0 about1 = true := code_word (m := ⟨13, 3⟩) (meth := k13m3) (c := k13c3) (by decide +kernel) rfl rfl rfl (by decide +kernel)
set_option maxRecDepth 65536 in
theorem w_c14 : (Jvm.Cond.code ({ cls := "com/example/weftwork/weftwork/model/Service", name := "hashCode", desc := "()I" } : Jvm.MethodName) prog_28_method_6_code (1 : Nat) (Option.some Jvm.ClassFile.FieldType.int)).before args0 about1 = true := code_word (m := ⟨2, 2⟩) (meth := k2m2) (c := k2c2) (by decide +kernel) rfl rfl rfl (by decide +kernel)
set_option maxRecDepth 65536 in
theorem w_c15 : (Jvm.Cond.code ({ cls := "java/util/Objects", name := "hash", desc := "([Ljava/lang/Object;)I" } : Jvm.MethodName) jdk_31_method_5_code (1 : Nat) (Option.some Jvm.ClassFile.FieldType.int)).before args0 about1 = true := code_word (m := ⟨23, 3⟩) (meth := k23m3) (c := k23c3) (by decide +kernel) rfl rfl rfl (by decide +kernel)
set_option maxRecDepth 65536 in
theorem w_c16 : (Jvm.Cond.code ({ cls := "java/util/Arrays", name := "hashCode", desc := "([Ljava/lang/Object;)I" } : Jvm.MethodName) jdk_65_method_157_code (6 : Nat) (Option.some Jvm.ClassFile.FieldType.int)).before args0 about1 = true := code_word (m := ⟨24, 3⟩) (meth := k24m3) (c := k24c3) (by decide +kernel) rfl rfl rfl (by decide +kernel)
set_option maxRecDepth 65536 in
theorem w_c17 : (Jvm.Cond.code ({ cls := "java/lang/String", name := "hashCode", desc := "()I" } : Jvm.MethodName) jdk_42_method_78_code (2 : Nat) (Option.some Jvm.ClassFile.FieldType.int)).before args0 about1 = true := code_word (m := ⟨8, 3⟩) (meth := k8m3) (c := k8c3) (by decide +kernel) rfl rfl rfl (by decide +kernel)
set_option maxRecDepth 65536 in
theorem w_c18 : (Jvm.Cond.code ({ cls := "java/lang/String", name := "isLatin1", desc := "()Z" } : Jvm.MethodName) jdk_42_method_154_code (1 : Nat) (Option.some Jvm.ClassFile.FieldType.boolean)).before args0 about1 = true := code_word (m := ⟨8, 7⟩) (meth := k8m7) (c := k8c7) (by decide +kernel) rfl rfl rfl (by decide +kernel)
set_option maxRecDepth 65536 in
theorem w_c19 : (Jvm.Cond.code ({ cls := "java/lang/StringLatin1", name := "hashCode", desc := "([B)I" } : Jvm.MethodName) jdk_43_method_21_code (1 : Nat) (Option.some Jvm.ClassFile.FieldType.int)).before args0 about1 = true := code_word (m := ⟨25, 3⟩) (meth := k25m3) (c := k25c3) (by decide +kernel) rfl rfl rfl (by decide +kernel)
set_option maxRecDepth 65536 in
theorem w_c20 : (Jvm.Cond.code ({ cls := "java/util/ImmutableCollections$AbstractImmutableList", name := "hashCode", desc := "()I" } : Jvm.MethodName) jdk_46_method_14_code (4 : Nat) (Option.some Jvm.ClassFile.FieldType.int)).before args0 about1 = true := code_word (m := ⟨20, 3⟩) (meth := k20m3) (c := k20c3) (by decide +kernel) rfl rfl rfl (by decide +kernel)
set_option maxRecDepth 65536 in
theorem w_c21 : (Jvm.Cond.code ({ cls := "java/util/ImmutableCollections$ListN", name := "size", desc := "()I" } : Jvm.MethodName) jdk_45_method_3_code (1 : Nat) (Option.some Jvm.ClassFile.FieldType.int)).before args0 about1 = true := code_word (m := ⟨22, 1⟩) (meth := k22m1) (c := k22c1) (by decide +kernel) rfl rfl rfl (by decide +kernel)
set_option maxRecDepth 65536 in
theorem w_c22 : (Jvm.Cond.code ({ cls := "com/example/weftwork/weftwork/model/Service", name := "equals", desc := "(Ljava/lang/Object;)Z" } : Jvm.MethodName) prog_28_method_5_code (3 : Nat) (Option.some Jvm.ClassFile.FieldType.boolean)).before args0 about1 = true := code_word (m := ⟨2, 1⟩) (meth := k2m1) (c := k2c1) (by decide +kernel) rfl rfl rfl (by decide +kernel)
set_option maxRecDepth 65536 in
theorem w_c23 : (Jvm.Cond.code ({ cls := "java/lang/String", name := "equals", desc := "(Ljava/lang/Object;)Z" } : Jvm.MethodName) jdk_42_method_66_code (3 : Nat) (Option.some Jvm.ClassFile.FieldType.boolean)).before args0 about1 = true := code_word (m := ⟨8, 2⟩) (meth := k8m2) (c := k8c2) (by decide +kernel) rfl rfl rfl (by decide +kernel)
set_option maxRecDepth 65536 in
theorem w_c24 : (Jvm.Cond.code ({ cls := "java/lang/StringLatin1", name := "equals", desc := "([B[B)Z" } : Jvm.MethodName) jdk_43_method_13_code (3 : Nat) (Option.some Jvm.ClassFile.FieldType.boolean)).before args0 about1 = true := code_word (m := ⟨25, 2⟩) (meth := k25m2) (c := k25c2) (by decide +kernel) rfl rfl rfl (by decide +kernel)
set_option maxRecDepth 65536 in
theorem w_c25 : (Jvm.Cond.code ({ cls := "java/util/ImmutableCollections$AbstractImmutableList", name := "equals", desc := "(Ljava/lang/Object;)Z" } : Jvm.MethodName) jdk_46_method_13_code (5 : Nat) (Option.some Jvm.ClassFile.FieldType.boolean)).before args0 about1 = true := code_word (m := ⟨20, 2⟩) (meth := k20m2) (c := k20c2) (by decide +kernel) rfl rfl rfl (by decide +kernel)
set_option maxRecDepth 65536 in
theorem w_c26 : (Jvm.Cond.code ({ cls := "java/lang/StringUTF16", name := "compress", desc := "([CII)[B" } : Jvm.MethodName) jdk_52_method_16_code (6 : Nat) (Option.some (Jvm.ClassFile.FieldType.array Jvm.ClassFile.FieldType.byte))).before args0 about1 = true := code_word (m := ⟨26, 2⟩) (meth := k26m2) (c := k26c2) (by decide +kernel) rfl rfl rfl (by decide +kernel)
set_option maxRecDepth 65536 in
theorem w_c27 : (Jvm.Cond.code ({ cls := "java/lang/StringUTF16", name := "compress", desc := "([CI[BII)I" } : Jvm.MethodName) jdk_52_method_21_code (7 : Nat) (Option.some Jvm.ClassFile.FieldType.int)).before args0 about1 = true := code_word (m := ⟨26, 3⟩) (meth := k26m3) (c := k26c3) (by decide +kernel) rfl rfl rfl (by decide +kernel)
set_option maxRecDepth 65536 in
theorem w_c28 : (Jvm.Cond.code ({ cls := "java/lang/StringUTF16", name := "coderFromArrayLen", desc := "([BI)B" } : Jvm.MethodName) jdk_52_method_15_code (2 : Nat) (Option.some Jvm.ClassFile.FieldType.byte)).before args0 about1 = true := code_word (m := ⟨26, 1⟩) (meth := k26m1) (c := k26c1) (by decide +kernel) rfl rfl rfl (by decide +kernel)
set_option maxRecDepth 65536 in
theorem w_c29 : (Jvm.Cond.code ({ cls := "java/lang/String", name := "valueOf", desc := "(C)Ljava/lang/String;" } : Jvm.MethodName) jdk_42_method_139_code (1 : Nat) (Option.some (Jvm.ClassFile.FieldType.object "java/lang/String"))).before args0 about1 = true := code_word (m := ⟨8, 4⟩) (meth := k8m4) (c := k8c4) (by decide +kernel) rfl rfl rfl (by decide +kernel)
set_option maxRecDepth 65536 in
theorem w_c30 : (Jvm.Cond.code ({ cls := "java/lang/StringLatin1", name := "canEncode", desc := "(C)Z" } : Jvm.MethodName) jdk_43_method_3_code (1 : Nat) (Option.some Jvm.ClassFile.FieldType.boolean)).before args0 about1 = true := code_word (m := ⟨25, 1⟩) (meth := k25m1) (c := k25c1) (by decide +kernel) rfl rfl rfl (by decide +kernel)
set_option maxRecDepth 65536 in
theorem w_c31 : (Jvm.Cond.code ({ cls := "java/lang/StringLatin1", name := "toBytes", desc := "(C)[B" } : Jvm.MethodName) jdk_43_method_46_code (1 : Nat) (Option.some (Jvm.ClassFile.FieldType.array Jvm.ClassFile.FieldType.byte))).before args0 about1 = true := code_word (m := ⟨25, 4⟩) (meth := k25m4) (c := k25c4) (by decide +kernel) rfl rfl rfl (by decide +kernel)
set_option maxRecDepth 65536 in
theorem w_c32 : (Jvm.Cond.code ({ cls := "java/lang/String", name := "<init>", desc := "([BB)V" } : Jvm.MethodName) jdk_42_method_151_code (3 : Nat) (Option.none : Option Jvm.ClassFile.FieldType)).before args0 about1 = true := code_word (m := ⟨8, 6⟩) (meth := k8m6) (c := k8c6) (by decide +kernel) rfl rfl rfl (by decide +kernel)
set_option maxRecDepth 65536 in
theorem w_c33 : (Jvm.Cond.code ({ cls := "java/util/ArrayList", name := "add", desc := "(Ljava/lang/Object;)Z" } : Jvm.MethodName) jdk_38_method_25_code (2 : Nat) (Option.some Jvm.ClassFile.FieldType.boolean)).before args0 about1 = true := code_word (m := ⟨17, 6⟩) (meth := k17m6) (c := k17c6) (by decide +kernel) rfl rfl rfl (by decide +kernel)
set_option maxRecDepth 65536 in
theorem w_c34 : (Jvm.Cond.code ({ cls := "java/util/ArrayList", name := "add", desc := "(Ljava/lang/Object;[Ljava/lang/Object;I)V" } : Jvm.MethodName) jdk_38_method_24_code (4 : Nat) (Option.none : Option Jvm.ClassFile.FieldType)).before args0 about1 = true := code_word (m := ⟨17, 5⟩) (meth := k17m5) (c := k17c5) (by decide +kernel) rfl rfl rfl (by decide +kernel)
set_option maxRecDepth 65536 in
theorem w_c35 : (Jvm.Cond.code ({ cls := "java/util/ArrayList", name := "grow", desc := "()[Ljava/lang/Object;" } : Jvm.MethodName) jdk_38_method_7_code (1 : Nat) (Option.some (Jvm.ClassFile.FieldType.array (Jvm.ClassFile.FieldType.object "java/lang/Object")))).before args0 about1 = true := code_word (m := ⟨17, 2⟩) (meth := k17m2) (c := k17c2) (by decide +kernel) rfl rfl rfl (by decide +kernel)
set_option maxRecDepth 65536 in
theorem w_c36 : (Jvm.Cond.code ({ cls := "java/util/ArrayList", name := "grow", desc := "(I)[Ljava/lang/Object;" } : Jvm.MethodName) jdk_38_method_6_code (4 : Nat) (Option.some (Jvm.ClassFile.FieldType.array (Jvm.ClassFile.FieldType.object "java/lang/Object")))).before args0 about1 = true := code_word (m := ⟨17, 1⟩) (meth := k17m1) (c := k17c1) (by decide +kernel) rfl rfl rfl (by decide +kernel)
set_option maxRecDepth 65536 in
theorem w_c37 : (Jvm.Cond.code ({ cls := "java/lang/Math", name := "max", desc := "(II)I" } : Jvm.MethodName) jdk_29_method_65_code (2 : Nat) (Option.some Jvm.ClassFile.FieldType.int)).before args0 about1 = true := code_word (m := ⟨27, 1⟩) (meth := k27m1) (c := k27c1) (by decide +kernel) rfl rfl rfl (by decide +kernel)
set_option maxRecDepth 65536 in
theorem w_c38 : (Jvm.Cond.code ({ cls := "java/util/ArrayList", name := "toArray", desc := "()[Ljava/lang/Object;" } : Jvm.MethodName) jdk_38_method_16_code (1 : Nat) (Option.some (Jvm.ClassFile.FieldType.array (Jvm.ClassFile.FieldType.object "java/lang/Object")))).before args0 about1 = true := code_word (m := ⟨17, 4⟩) (meth := k17m4) (c := k17c4) (by decide +kernel) rfl rfl rfl (by decide +kernel)
set_option maxRecDepth 65536 in
theorem w_c39 : (Jvm.Cond.code ({ cls := "java/util/Arrays", name := "copyOf", desc := "([Ljava/lang/Object;I)[Ljava/lang/Object;" } : Jvm.MethodName) jdk_65_method_119_code (2 : Nat) (Option.some (Jvm.ClassFile.FieldType.array (Jvm.ClassFile.FieldType.object "java/lang/Object")))).before args0 about1 = true := code_word (m := ⟨24, 1⟩) (meth := k24m1) (c := k24c1) (by decide +kernel) rfl rfl rfl (by decide +kernel)
set_option maxRecDepth 65536 in
theorem w_c40 : (Jvm.Cond.code ({ cls := "java/util/Arrays", name := "copyOf", desc := "([Ljava/lang/Object;ILjava/lang/Class;)[Ljava/lang/Object;" } : Jvm.MethodName) jdk_65_method_120_code (4 : Nat) (Option.some (Jvm.ClassFile.FieldType.array (Jvm.ClassFile.FieldType.object "java/lang/Object")))).before args0 about1 = true := code_word (m := ⟨24, 2⟩) (meth := k24m2) (c := k24c2) (by decide +kernel) rfl rfl rfl (by decide +kernel)
set_option maxRecDepth 65536 in
theorem w_c41 : (Jvm.Cond.code ({ cls := "java/lang/Math", name := "min", desc := "(II)I" } : Jvm.MethodName) jdk_29_method_69_code (2 : Nat) (Option.some Jvm.ClassFile.FieldType.int)).before args0 about1 = true := code_word (m := ⟨27, 2⟩) (meth := k27m2) (c := k27c2) (by decide +kernel) rfl rfl rfl (by decide +kernel)
set_option maxRecDepth 65536 in
theorem w_c42 : (Jvm.Cond.code ({ cls := "java/util/List", name := "of", desc := "([Ljava/lang/Object;)Ljava/util/List;" } : Jvm.MethodName) jdk_40_method_47_code (2 : Nat) (Option.some (Jvm.ClassFile.FieldType.object "java/util/List"))).before args0 about1 = true := code_word (m := ⟨13, 4⟩) (meth := k13m4) (c := k13c4) (by decide +kernel) rfl rfl rfl (by decide +kernel)
set_option maxRecDepth 65536 in
theorem w_c43 : (Jvm.Cond.code ({ cls := "java/util/ImmutableCollections$List12", name := "<init>", desc := "(Ljava/lang/Object;)V" } : Jvm.MethodName) jdk_44_method_1_code (2 : Nat) (Option.none : Option Jvm.ClassFile.FieldType)).before args0 about1 = true := code_word (m := ⟨21, 0⟩) (meth := k21m0) (c := k21c0) (by decide +kernel) rfl rfl rfl (by decide +kernel)
set_option maxRecDepth 65536 in
theorem w_c44 : (Jvm.Cond.code ({ cls := "java/util/ImmutableCollections$AbstractImmutableList", name := "<init>", desc := "()V" } : Jvm.MethodName) jdk_46_method_1_code (1 : Nat) (Option.none : Option Jvm.ClassFile.FieldType)).before args0 about1 = true := code_word (m := ⟨20, 0⟩) (meth := k20m0) (c := k20c0) (by decide +kernel) rfl rfl rfl (by decide +kernel)
set_option maxRecDepth 65536 in
theorem w_c45 : (Jvm.Cond.code ({ cls := "java/util/ImmutableCollections$AbstractImmutableCollection", name := "<init>", desc := "()V" } : Jvm.MethodName) jdk_47_method_1_code (1 : Nat) (Option.none : Option Jvm.ClassFile.FieldType)).before args0 about1 = true := code_word (m := ⟨19, 0⟩) (meth := k19m0) (c := k19c0) (by decide +kernel) rfl rfl rfl (by decide +kernel)
set_option maxRecDepth 65536 in
theorem w_c46 : (Jvm.Cond.code ({ cls := "java/util/Objects", name := "requireNonNull", desc := "(Ljava/lang/Object;)Ljava/lang/Object;" } : Jvm.MethodName) jdk_31_method_10_code (1 : Nat) (Option.some (Jvm.ClassFile.FieldType.object "java/lang/Object"))).before args0 about1 = true := code_word (m := ⟨23, 4⟩) (meth := k23m4) (c := k23c4) (by decide +kernel) rfl rfl rfl (by decide +kernel)
set_option maxRecDepth 65536 in
theorem w_c47 : (Jvm.Cond.code ({ cls := "jdk/internal/util/ArraysSupport", name := "vectorizedHashCode", desc := "(Ljava/lang/Object;IIII)I" } : Jvm.MethodName) jdk_48_method_4_code (5 : Nat) (Option.some Jvm.ClassFile.FieldType.int)).before args0 about1 = true := code_word (m := ⟨29, 1⟩) (meth := k29m1) (c := k29c1) (by decide +kernel) rfl rfl rfl (by decide +kernel)
set_option maxRecDepth 65536 in
theorem w_c48 : (Jvm.Cond.code ({ cls := "jdk/internal/util/ArraysSupport", name := "signedHashCode", desc := "(I[BII)I" } : Jvm.MethodName) jdk_48_method_5_code (6 : Nat) (Option.some Jvm.ClassFile.FieldType.int)).before args0 about1 = true := code_word (m := ⟨29, 2⟩) (meth := k29m2) (c := k29c2) (by decide +kernel) rfl rfl rfl (by decide +kernel)
set_option maxRecDepth 65536 in
theorem w_c49 : (Jvm.Cond.code ({ cls := "java/util/ImmutableCollections$List12", name := "size", desc := "()I" } : Jvm.MethodName) jdk_44_method_3_code (1 : Nat) (Option.some Jvm.ClassFile.FieldType.int)).before args0 about1 = true := code_word (m := ⟨21, 2⟩) (meth := k21m2) (c := k21c2) (by decide +kernel) rfl rfl rfl (by decide +kernel)
set_option maxRecDepth 65536 in
theorem w_c50 : (Jvm.Cond.code ({ cls := "java/util/ImmutableCollections$List12", name := "get", desc := "(I)Ljava/lang/Object;" } : Jvm.MethodName) jdk_44_method_5_code (2 : Nat) (Option.some (Jvm.ClassFile.FieldType.object "java/lang/Object"))).before args0 about1 = true := code_word (m := ⟨21, 3⟩) (meth := k21m3) (c := k21c3) (by decide +kernel) rfl rfl rfl (by decide +kernel)
set_option maxRecDepth 65536 in
theorem w_c51 : (Jvm.Cond.code ({ cls := "java/util/Objects", name := "hashCode", desc := "(Ljava/lang/Object;)I" } : Jvm.MethodName) jdk_31_method_4_code (1 : Nat) (Option.some Jvm.ClassFile.FieldType.int)).before args0 about1 = true := code_word (m := ⟨23, 2⟩) (meth := k23m2) (c := k23c2) (by decide +kernel) rfl rfl rfl (by decide +kernel)
set_option maxRecDepth 65536 in
theorem w_c52 : (Jvm.Cond.code ({ cls := "java/util/ImmutableCollections$AbstractImmutableList", name := "iterator", desc := "()Ljava/util/Iterator;" } : Jvm.MethodName) jdk_46_method_10_code (1 : Nat) (Option.some (Jvm.ClassFile.FieldType.object "java/util/Iterator"))).before args0 about1 = true := code_word (m := ⟨20, 1⟩) (meth := k20m1) (c := k20c1) (by decide +kernel) rfl rfl rfl (by decide +kernel)
set_option maxRecDepth 65536 in
theorem w_c53 : (Jvm.Cond.code ({ cls := "java/util/ImmutableCollections$ListItr", name := "<init>", desc := "(Ljava/util/List;I)V" } : Jvm.MethodName) jdk_53_method_1_code (3 : Nat) (Option.none : Option Jvm.ClassFile.FieldType)).before args0 about1 = true := code_word (m := ⟨32, 0⟩) (meth := k32m0) (c := k32c0) (by decide +kernel) rfl rfl rfl (by decide +kernel)
set_option maxRecDepth 65536 in
theorem w_c54 : (Jvm.Cond.code ({ cls := "java/util/ImmutableCollections$ListItr", name := "hasNext", desc := "()Z" } : Jvm.MethodName) jdk_53_method_3_code (1 : Nat) (Option.some Jvm.ClassFile.FieldType.boolean)).before args0 about1 = true := code_word (m := ⟨32, 1⟩) (meth := k32m1) (c := k32c1) (by decide +kernel) rfl rfl rfl (by decide +kernel)
set_option maxRecDepth 65536 in
theorem w_c55 : (Jvm.Cond.code ({ cls := "java/util/Objects", name := "equals", desc := "(Ljava/lang/Object;Ljava/lang/Object;)Z" } : Jvm.MethodName) jdk_31_method_2_code (2 : Nat) (Option.some Jvm.ClassFile.FieldType.boolean)).before args0 about1 = true := code_word (m := ⟨23, 1⟩) (meth := k23m1) (c := k23c1) (by decide +kernel) rfl rfl rfl (by decide +kernel)
set_option maxRecDepth 65536 in
theorem w_c56 : (Jvm.Cond.code ({ cls := "java/util/ImmutableCollections$List12", name := "<init>", desc := "(Ljava/lang/Object;Ljava/lang/Object;)V" } : Jvm.MethodName) jdk_44_method_2_code (3 : Nat) (Option.none : Option Jvm.ClassFile.FieldType)).before args0 about1 = true := code_word (m := ⟨21, 1⟩) (meth := k21m1) (c := k21c1) (by decide +kernel) rfl rfl rfl (by decide +kernel)
set_option maxRecDepth 65536 in
theorem w_c57 : (Jvm.Cond.code ({ cls := "java/util/ImmutableCollections", name := "listFromArray", desc := "([Ljava/lang/Object;)Ljava/util/List;" } : Jvm.MethodName) jdk_56_method_4_code (3 : Nat) (Option.some (Jvm.ClassFile.FieldType.object "java/util/List"))).before args0 about1 = true := code_word (m := ⟨18, 2⟩) (meth := k18m2) (c := k18c2) (by decide +kernel) rfl rfl rfl (by decide +kernel)
set_option maxRecDepth 65536 in
theorem w_c58 : (Jvm.Cond.code ({ cls := "java/util/ImmutableCollections$ListN", name := "<init>", desc := "([Ljava/lang/Object;Z)V" } : Jvm.MethodName) jdk_45_method_1_code (3 : Nat) (Option.none : Option Jvm.ClassFile.FieldType)).before args0 about1 = true := code_word (m := ⟨22, 0⟩) (meth := k22m0) (c := k22c0) (by decide +kernel) rfl rfl rfl (by decide +kernel)
set_option maxRecDepth 65536 in
theorem w_c59 : (Jvm.Cond.code ({ cls := "java/util/ImmutableCollections$ListN", name := "get", desc := "(I)Ljava/lang/Object;" } : Jvm.MethodName) jdk_45_method_4_code (2 : Nat) (Option.some (Jvm.ClassFile.FieldType.object "java/lang/Object"))).before args0 about1 = true := code_word (m := ⟨22, 2⟩) (meth := k22m2) (c := k22c2) (by decide +kernel) rfl rfl rfl (by decide +kernel)
set_option maxRecDepth 65536 in
theorem w_c60 : (Jvm.Cond.code ({ cls := "com/example/weftwork/weftwork/model/ServiceHashCodePinLaw", name := "name2", desc := "(III)Ljava/lang/String;" } : Jvm.MethodName) method_3_code (5 : Nat) (Option.some (Jvm.ClassFile.FieldType.object "java/lang/String"))).before args0 about1 = true := code_word (m := ⟨1, 2⟩) (meth := k1m2) (c := k1c2) (by decide +kernel) rfl rfl rfl (by decide +kernel)
def codes1 : List Jvm.Cond := [Jvm.Cond.code x code maxLocals ret, Jvm.Cond.code ({ cls := "com/example/weftwork/weftwork/model/ServiceHashCodePinLaw", name := "name", desc := "(II)Ljava/lang/String;" } : Jvm.MethodName) method_2_code (4 : Nat) (Option.some (Jvm.ClassFile.FieldType.object "java/lang/String")), Jvm.Cond.code ({ cls := "java/lang/String", name := "<init>", desc := "([C)V" } : Jvm.MethodName) jdk_42_method_3_code (2 : Nat) (Option.none : Option Jvm.ClassFile.FieldType), Jvm.Cond.code ({ cls := "java/lang/String", name := "<init>", desc := "([CIILjava/lang/Void;)V" } : Jvm.MethodName) jdk_42_method_149_code (6 : Nat) (Option.none : Option Jvm.ClassFile.FieldType), Jvm.Cond.code ({ cls := "java/lang/Object", name := "<init>", desc := "()V" } : Jvm.MethodName) object_method_1_code (1 : Nat) (Option.none : Option Jvm.ClassFile.FieldType), Jvm.Cond.code ({ cls := "com/example/weftwork/weftwork/model/ServiceHashCodePinLaw", name := "list", desc := "(II)Ljava/util/ArrayList;" } : Jvm.MethodName) method_4_code (3 : Nat) (Option.some (Jvm.ClassFile.FieldType.object "java/util/ArrayList")), Jvm.Cond.code ({ cls := "java/util/ArrayList", name := "<init>", desc := "()V" } : Jvm.MethodName) jdk_38_method_2_code (1 : Nat) (Option.none : Option Jvm.ClassFile.FieldType), Jvm.Cond.code ({ cls := "java/util/AbstractList", name := "<init>", desc := "()V" } : Jvm.MethodName) jdk_39_method_1_code (1 : Nat) (Option.none : Option Jvm.ClassFile.FieldType), Jvm.Cond.code ({ cls := "java/util/AbstractCollection", name := "<init>", desc := "()V" } : Jvm.MethodName) jdk_22_method_1_code (1 : Nat) (Option.none : Option Jvm.ClassFile.FieldType), Jvm.Cond.code ({ cls := "com/example/weftwork/weftwork/model/Service", name := "<init>", desc := "(Ljava/lang/String;Ljava/util/List;Ljava/util/List;)V" } : Jvm.MethodName) prog_28_method_1_code (4 : Nat) (Option.none : Option Jvm.ClassFile.FieldType), Jvm.Cond.code ({ cls := "java/util/List", name := "copyOf", desc := "(Ljava/util/Collection;)Ljava/util/List;" } : Jvm.MethodName) jdk_40_method_48_code (1 : Nat) (Option.some (Jvm.ClassFile.FieldType.object "java/util/List")), Jvm.Cond.code ({ cls := "java/util/ImmutableCollections", name := "listCopy", desc := "(Ljava/util/Collection;)Ljava/util/List;" } : Jvm.MethodName) jdk_56_method_3_code (2 : Nat) (Option.some (Jvm.ClassFile.FieldType.object "java/util/List")), Jvm.Cond.code ({ cls := "java/util/ArrayList", name := "isEmpty", desc := "()Z" } : Jvm.MethodName) jdk_38_method_9_code (1 : Nat) (Option.some Jvm.ClassFile.FieldType.boolean), Jvm.Cond.code ({ cls := "java/util/List", name := "of", desc := "()Ljava/util/List;" } : Jvm.MethodName) jdk_40_method_36_code (0 : Nat) (Option.some (Jvm.ClassFile.FieldType.object "java/util/List")), Jvm.Cond.code ({ cls := "com/example/weftwork/weftwork/model/Service", name := "hashCode", desc := "()I" } : Jvm.MethodName) prog_28_method_6_code (1 : Nat) (Option.some Jvm.ClassFile.FieldType.int), Jvm.Cond.code ({ cls := "java/util/Objects", name := "hash", desc := "([Ljava/lang/Object;)I" } : Jvm.MethodName) jdk_31_method_5_code (1 : Nat) (Option.some Jvm.ClassFile.FieldType.int), Jvm.Cond.code ({ cls := "java/util/Arrays", name := "hashCode", desc := "([Ljava/lang/Object;)I" } : Jvm.MethodName) jdk_65_method_157_code (6 : Nat) (Option.some Jvm.ClassFile.FieldType.int), Jvm.Cond.code ({ cls := "java/lang/String", name := "hashCode", desc := "()I" } : Jvm.MethodName) jdk_42_method_78_code (2 : Nat) (Option.some Jvm.ClassFile.FieldType.int), Jvm.Cond.code ({ cls := "java/lang/String", name := "isLatin1", desc := "()Z" } : Jvm.MethodName) jdk_42_method_154_code (1 : Nat) (Option.some Jvm.ClassFile.FieldType.boolean), Jvm.Cond.code ({ cls := "java/lang/StringLatin1", name := "hashCode", desc := "([B)I" } : Jvm.MethodName) jdk_43_method_21_code (1 : Nat) (Option.some Jvm.ClassFile.FieldType.int), Jvm.Cond.code ({ cls := "java/util/ImmutableCollections$AbstractImmutableList", name := "hashCode", desc := "()I" } : Jvm.MethodName) jdk_46_method_14_code (4 : Nat) (Option.some Jvm.ClassFile.FieldType.int), Jvm.Cond.code ({ cls := "java/util/ImmutableCollections$ListN", name := "size", desc := "()I" } : Jvm.MethodName) jdk_45_method_3_code (1 : Nat) (Option.some Jvm.ClassFile.FieldType.int), Jvm.Cond.code ({ cls := "com/example/weftwork/weftwork/model/Service", name := "equals", desc := "(Ljava/lang/Object;)Z" } : Jvm.MethodName) prog_28_method_5_code (3 : Nat) (Option.some Jvm.ClassFile.FieldType.boolean), Jvm.Cond.code ({ cls := "java/lang/String", name := "equals", desc := "(Ljava/lang/Object;)Z" } : Jvm.MethodName) jdk_42_method_66_code (3 : Nat) (Option.some Jvm.ClassFile.FieldType.boolean), Jvm.Cond.code ({ cls := "java/lang/StringLatin1", name := "equals", desc := "([B[B)Z" } : Jvm.MethodName) jdk_43_method_13_code (3 : Nat) (Option.some Jvm.ClassFile.FieldType.boolean), Jvm.Cond.code ({ cls := "java/util/ImmutableCollections$AbstractImmutableList", name := "equals", desc := "(Ljava/lang/Object;)Z" } : Jvm.MethodName) jdk_46_method_13_code (5 : Nat) (Option.some Jvm.ClassFile.FieldType.boolean), Jvm.Cond.code ({ cls := "java/lang/StringUTF16", name := "compress", desc := "([CII)[B" } : Jvm.MethodName) jdk_52_method_16_code (6 : Nat) (Option.some (Jvm.ClassFile.FieldType.array Jvm.ClassFile.FieldType.byte)), Jvm.Cond.code ({ cls := "java/lang/StringUTF16", name := "compress", desc := "([CI[BII)I" } : Jvm.MethodName) jdk_52_method_21_code (7 : Nat) (Option.some Jvm.ClassFile.FieldType.int), Jvm.Cond.code ({ cls := "java/lang/StringUTF16", name := "coderFromArrayLen", desc := "([BI)B" } : Jvm.MethodName) jdk_52_method_15_code (2 : Nat) (Option.some Jvm.ClassFile.FieldType.byte), Jvm.Cond.code ({ cls := "java/lang/String", name := "valueOf", desc := "(C)Ljava/lang/String;" } : Jvm.MethodName) jdk_42_method_139_code (1 : Nat) (Option.some (Jvm.ClassFile.FieldType.object "java/lang/String")), Jvm.Cond.code ({ cls := "java/lang/StringLatin1", name := "canEncode", desc := "(C)Z" } : Jvm.MethodName) jdk_43_method_3_code (1 : Nat) (Option.some Jvm.ClassFile.FieldType.boolean), Jvm.Cond.code ({ cls := "java/lang/StringLatin1", name := "toBytes", desc := "(C)[B" } : Jvm.MethodName) jdk_43_method_46_code (1 : Nat) (Option.some (Jvm.ClassFile.FieldType.array Jvm.ClassFile.FieldType.byte)), Jvm.Cond.code ({ cls := "java/lang/String", name := "<init>", desc := "([BB)V" } : Jvm.MethodName) jdk_42_method_151_code (3 : Nat) (Option.none : Option Jvm.ClassFile.FieldType), Jvm.Cond.code ({ cls := "java/util/ArrayList", name := "add", desc := "(Ljava/lang/Object;)Z" } : Jvm.MethodName) jdk_38_method_25_code (2 : Nat) (Option.some Jvm.ClassFile.FieldType.boolean), Jvm.Cond.code ({ cls := "java/util/ArrayList", name := "add", desc := "(Ljava/lang/Object;[Ljava/lang/Object;I)V" } : Jvm.MethodName) jdk_38_method_24_code (4 : Nat) (Option.none : Option Jvm.ClassFile.FieldType), Jvm.Cond.code ({ cls := "java/util/ArrayList", name := "grow", desc := "()[Ljava/lang/Object;" } : Jvm.MethodName) jdk_38_method_7_code (1 : Nat) (Option.some (Jvm.ClassFile.FieldType.array (Jvm.ClassFile.FieldType.object "java/lang/Object"))), Jvm.Cond.code ({ cls := "java/util/ArrayList", name := "grow", desc := "(I)[Ljava/lang/Object;" } : Jvm.MethodName) jdk_38_method_6_code (4 : Nat) (Option.some (Jvm.ClassFile.FieldType.array (Jvm.ClassFile.FieldType.object "java/lang/Object"))), Jvm.Cond.code ({ cls := "java/lang/Math", name := "max", desc := "(II)I" } : Jvm.MethodName) jdk_29_method_65_code (2 : Nat) (Option.some Jvm.ClassFile.FieldType.int), Jvm.Cond.code ({ cls := "java/util/ArrayList", name := "toArray", desc := "()[Ljava/lang/Object;" } : Jvm.MethodName) jdk_38_method_16_code (1 : Nat) (Option.some (Jvm.ClassFile.FieldType.array (Jvm.ClassFile.FieldType.object "java/lang/Object"))), Jvm.Cond.code ({ cls := "java/util/Arrays", name := "copyOf", desc := "([Ljava/lang/Object;I)[Ljava/lang/Object;" } : Jvm.MethodName) jdk_65_method_119_code (2 : Nat) (Option.some (Jvm.ClassFile.FieldType.array (Jvm.ClassFile.FieldType.object "java/lang/Object"))), Jvm.Cond.code ({ cls := "java/util/Arrays", name := "copyOf", desc := "([Ljava/lang/Object;ILjava/lang/Class;)[Ljava/lang/Object;" } : Jvm.MethodName) jdk_65_method_120_code (4 : Nat) (Option.some (Jvm.ClassFile.FieldType.array (Jvm.ClassFile.FieldType.object "java/lang/Object"))), Jvm.Cond.code ({ cls := "java/lang/Math", name := "min", desc := "(II)I" } : Jvm.MethodName) jdk_29_method_69_code (2 : Nat) (Option.some Jvm.ClassFile.FieldType.int), Jvm.Cond.code ({ cls := "java/util/List", name := "of", desc := "([Ljava/lang/Object;)Ljava/util/List;" } : Jvm.MethodName) jdk_40_method_47_code (2 : Nat) (Option.some (Jvm.ClassFile.FieldType.object "java/util/List")), Jvm.Cond.code ({ cls := "java/util/ImmutableCollections$List12", name := "<init>", desc := "(Ljava/lang/Object;)V" } : Jvm.MethodName) jdk_44_method_1_code (2 : Nat) (Option.none : Option Jvm.ClassFile.FieldType), Jvm.Cond.code ({ cls := "java/util/ImmutableCollections$AbstractImmutableList", name := "<init>", desc := "()V" } : Jvm.MethodName) jdk_46_method_1_code (1 : Nat) (Option.none : Option Jvm.ClassFile.FieldType), Jvm.Cond.code ({ cls := "java/util/ImmutableCollections$AbstractImmutableCollection", name := "<init>", desc := "()V" } : Jvm.MethodName) jdk_47_method_1_code (1 : Nat) (Option.none : Option Jvm.ClassFile.FieldType), Jvm.Cond.code ({ cls := "java/util/Objects", name := "requireNonNull", desc := "(Ljava/lang/Object;)Ljava/lang/Object;" } : Jvm.MethodName) jdk_31_method_10_code (1 : Nat) (Option.some (Jvm.ClassFile.FieldType.object "java/lang/Object")), Jvm.Cond.code ({ cls := "jdk/internal/util/ArraysSupport", name := "vectorizedHashCode", desc := "(Ljava/lang/Object;IIII)I" } : Jvm.MethodName) jdk_48_method_4_code (5 : Nat) (Option.some Jvm.ClassFile.FieldType.int), Jvm.Cond.code ({ cls := "jdk/internal/util/ArraysSupport", name := "signedHashCode", desc := "(I[BII)I" } : Jvm.MethodName) jdk_48_method_5_code (6 : Nat) (Option.some Jvm.ClassFile.FieldType.int), Jvm.Cond.code ({ cls := "java/util/ImmutableCollections$List12", name := "size", desc := "()I" } : Jvm.MethodName) jdk_44_method_3_code (1 : Nat) (Option.some Jvm.ClassFile.FieldType.int), Jvm.Cond.code ({ cls := "java/util/ImmutableCollections$List12", name := "get", desc := "(I)Ljava/lang/Object;" } : Jvm.MethodName) jdk_44_method_5_code (2 : Nat) (Option.some (Jvm.ClassFile.FieldType.object "java/lang/Object")), Jvm.Cond.code ({ cls := "java/util/Objects", name := "hashCode", desc := "(Ljava/lang/Object;)I" } : Jvm.MethodName) jdk_31_method_4_code (1 : Nat) (Option.some Jvm.ClassFile.FieldType.int), Jvm.Cond.code ({ cls := "java/util/ImmutableCollections$AbstractImmutableList", name := "iterator", desc := "()Ljava/util/Iterator;" } : Jvm.MethodName) jdk_46_method_10_code (1 : Nat) (Option.some (Jvm.ClassFile.FieldType.object "java/util/Iterator")), Jvm.Cond.code ({ cls := "java/util/ImmutableCollections$ListItr", name := "<init>", desc := "(Ljava/util/List;I)V" } : Jvm.MethodName) jdk_53_method_1_code (3 : Nat) (Option.none : Option Jvm.ClassFile.FieldType), Jvm.Cond.code ({ cls := "java/util/ImmutableCollections$ListItr", name := "hasNext", desc := "()Z" } : Jvm.MethodName) jdk_53_method_3_code (1 : Nat) (Option.some Jvm.ClassFile.FieldType.boolean), Jvm.Cond.code ({ cls := "java/util/Objects", name := "equals", desc := "(Ljava/lang/Object;Ljava/lang/Object;)Z" } : Jvm.MethodName) jdk_31_method_2_code (2 : Nat) (Option.some Jvm.ClassFile.FieldType.boolean), Jvm.Cond.code ({ cls := "java/util/ImmutableCollections$List12", name := "<init>", desc := "(Ljava/lang/Object;Ljava/lang/Object;)V" } : Jvm.MethodName) jdk_44_method_2_code (3 : Nat) (Option.none : Option Jvm.ClassFile.FieldType), Jvm.Cond.code ({ cls := "java/util/ImmutableCollections", name := "listFromArray", desc := "([Ljava/lang/Object;)Ljava/util/List;" } : Jvm.MethodName) jdk_56_method_4_code (3 : Nat) (Option.some (Jvm.ClassFile.FieldType.object "java/util/List")), Jvm.Cond.code ({ cls := "java/util/ImmutableCollections$ListN", name := "<init>", desc := "([Ljava/lang/Object;Z)V" } : Jvm.MethodName) jdk_45_method_1_code (3 : Nat) (Option.none : Option Jvm.ClassFile.FieldType), Jvm.Cond.code ({ cls := "java/util/ImmutableCollections$ListN", name := "get", desc := "(I)Ljava/lang/Object;" } : Jvm.MethodName) jdk_45_method_4_code (2 : Nat) (Option.some (Jvm.ClassFile.FieldType.object "java/lang/Object")), Jvm.Cond.code ({ cls := "com/example/weftwork/weftwork/model/ServiceHashCodePinLaw", name := "name2", desc := "(III)Ljava/lang/String;" } : Jvm.MethodName) method_3_code (5 : Nat) (Option.some (Jvm.ClassFile.FieldType.object "java/lang/String"))]
set_option maxRecDepth 65536 in
theorem codes_eq : words1.filter isCode = codes1 := rfl
theorem w_codes : ∀ c ∈ words1.filter isCode, c.before args0 about1 = true := by
  rw [codes_eq]
  intro c hc
  simp only [codes1, List.mem_cons, List.not_mem_nil, or_false] at hc
  rcases hc with rfl | rfl | rfl | rfl | rfl | rfl | rfl | rfl | rfl | rfl | rfl | rfl | rfl | rfl | rfl | rfl | rfl | rfl | rfl | rfl | rfl | rfl | rfl | rfl | rfl | rfl | rfl | rfl | rfl | rfl | rfl | rfl | rfl | rfl | rfl | rfl | rfl | rfl | rfl | rfl | rfl | rfl | rfl | rfl | rfl | rfl | rfl | rfl | rfl | rfl | rfl | rfl | rfl | rfl | rfl | rfl | rfl | rfl | rfl | rfl | rfl
  · exact w_c0
  · exact w_c1
  · exact w_c2
  · exact w_c3
  · exact w_c4
  · exact w_c5
  · exact w_c6
  · exact w_c7
  · exact w_c8
  · exact w_c9
  · exact w_c10
  · exact w_c11
  · exact w_c12
  · exact w_c13
  · exact w_c14
  · exact w_c15
  · exact w_c16
  · exact w_c17
  · exact w_c18
  · exact w_c19
  · exact w_c20
  · exact w_c21
  · exact w_c22
  · exact w_c23
  · exact w_c24
  · exact w_c25
  · exact w_c26
  · exact w_c27
  · exact w_c28
  · exact w_c29
  · exact w_c30
  · exact w_c31
  · exact w_c32
  · exact w_c33
  · exact w_c34
  · exact w_c35
  · exact w_c36
  · exact w_c37
  · exact w_c38
  · exact w_c39
  · exact w_c40
  · exact w_c41
  · exact w_c42
  · exact w_c43
  · exact w_c44
  · exact w_c45
  · exact w_c46
  · exact w_c47
  · exact w_c48
  · exact w_c49
  · exact w_c50
  · exact w_c51
  · exact w_c52
  · exact w_c53
  · exact w_c54
  · exact w_c55
  · exact w_c56
  · exact w_c57
  · exact w_c58
  · exact w_c59
  · exact w_c60
set_option maxRecDepth 65536 in
theorem w_t1 : (words1.take 24).all (fun c => isCode c || c.before args0 about1) = true := by decide +kernel
set_option maxRecDepth 65536 in
theorem w_t2 : ((words1.drop 24).take 24).all (fun c => isCode c || c.before args0 about1) = true := by decide +kernel
set_option maxRecDepth 65536 in
theorem w_t3 : (((words1.drop 24).drop 24).take 24).all (fun c => isCode c || c.before args0 about1) = true := by decide +kernel
set_option maxRecDepth 65536 in
theorem w_t4 : ((((words1.drop 24).drop 24).drop 24).take 24).all (fun c => isCode c || c.before args0 about1) = true := by decide +kernel
set_option maxRecDepth 65536 in
theorem w_t5 : (((((words1.drop 24).drop 24).drop 24).drop 24).take 24).all (fun c => isCode c || c.before args0 about1) = true := by decide +kernel
set_option maxRecDepth 65536 in
theorem w_t6 : ((((((words1.drop 24).drop 24).drop 24).drop 24).drop 24).take 24).all (fun c => isCode c || c.before args0 about1) = true := by decide +kernel
set_option maxRecDepth 65536 in
theorem w_t7 : (((((((words1.drop 24).drop 24).drop 24).drop 24).drop 24).drop 24).take 24).all (fun c => isCode c || c.before args0 about1) = true := by decide +kernel
set_option maxRecDepth 65536 in
theorem w_t8 : ((((((((words1.drop 24).drop 24).drop 24).drop 24).drop 24).drop 24).drop 24).take 24).all (fun c => isCode c || c.before args0 about1) = true := by decide +kernel
set_option maxRecDepth 65536 in
theorem w_t9 : (((((((((words1.drop 24).drop 24).drop 24).drop 24).drop 24).drop 24).drop 24).drop 24).take 24).all (fun c => isCode c || c.before args0 about1) = true := by decide +kernel
set_option maxRecDepth 65536 in
theorem w_t10 : ((((((((((words1.drop 24).drop 24).drop 24).drop 24).drop 24).drop 24).drop 24).drop 24).drop 24).take 24).all (fun c => isCode c || c.before args0 about1) = true := by decide +kernel
set_option maxRecDepth 65536 in
theorem w_t11 : (((((((((((words1.drop 24).drop 24).drop 24).drop 24).drop 24).drop 24).drop 24).drop 24).drop 24).drop 24).take 24).all (fun c => isCode c || c.before args0 about1) = true := by decide +kernel
set_option maxRecDepth 65536 in
theorem w_t12 : ((((((((((((words1.drop 24).drop 24).drop 24).drop 24).drop 24).drop 24).drop 24).drop 24).drop 24).drop 24).drop 24).take 24).all (fun c => isCode c || c.before args0 about1) = true := by decide +kernel
set_option maxRecDepth 65536 in
theorem w_t13 : (((((((((((((words1.drop 24).drop 24).drop 24).drop 24).drop 24).drop 24).drop 24).drop 24).drop 24).drop 24).drop 24).drop 24).take 24).all (fun c => isCode c || c.before args0 about1) = true := by decide +kernel
set_option maxRecDepth 65536 in
theorem w_t14 : ((((((((((((((words1.drop 24).drop 24).drop 24).drop 24).drop 24).drop 24).drop 24).drop 24).drop 24).drop 24).drop 24).drop 24).drop 24).take 24).all (fun c => isCode c || c.before args0 about1) = true := by decide +kernel
set_option maxRecDepth 65536 in
theorem w_t15 : (((((((((((((((words1.drop 24).drop 24).drop 24).drop 24).drop 24).drop 24).drop 24).drop 24).drop 24).drop 24).drop 24).drop 24).drop 24).drop 24).take 24).all (fun c => isCode c || c.before args0 about1) = true := by decide +kernel
set_option maxRecDepth 65536 in
theorem w_t16 : ((((((((((((((((words1.drop 24).drop 24).drop 24).drop 24).drop 24).drop 24).drop 24).drop 24).drop 24).drop 24).drop 24).drop 24).drop 24).drop 24).drop 24).take 24).all (fun c => isCode c || c.before args0 about1) = true := by decide +kernel
set_option maxRecDepth 65536 in
theorem w_t17 : ((((((((((((((((words1.drop 24).drop 24).drop 24).drop 24).drop 24).drop 24).drop 24).drop 24).drop 24).drop 24).drop 24).drop 24).drop 24).drop 24).drop 24).drop 24).all (fun c => isCode c || c.before args0 about1) = true := by decide +kernel
theorem w_tables : (allAtoms (Jvm.Cond.code x code maxLocals ret :: tables_1)).before args0 about1 = true := by
  rw [allAtoms_all]
  show words1.all (fun c => c.before args0 about1) = true
  refine all_split ?_ w_codes
  rw [← List.take_append_drop 24 words1, List.all_append, w_t1, ← List.take_append_drop 24 (words1.drop 24), List.all_append, w_t2, ← List.take_append_drop 24 ((words1.drop 24).drop 24), List.all_append, w_t3, ← List.take_append_drop 24 (((words1.drop 24).drop 24).drop 24), List.all_append, w_t4, ← List.take_append_drop 24 ((((words1.drop 24).drop 24).drop 24).drop 24), List.all_append, w_t5, ← List.take_append_drop 24 (((((words1.drop 24).drop 24).drop 24).drop 24).drop 24), List.all_append, w_t6, ← List.take_append_drop 24 ((((((words1.drop 24).drop 24).drop 24).drop 24).drop 24).drop 24), List.all_append, w_t7, ← List.take_append_drop 24 (((((((words1.drop 24).drop 24).drop 24).drop 24).drop 24).drop 24).drop 24), List.all_append, w_t8, ← List.take_append_drop 24 ((((((((words1.drop 24).drop 24).drop 24).drop 24).drop 24).drop 24).drop 24).drop 24), List.all_append, w_t9, ← List.take_append_drop 24 (((((((((words1.drop 24).drop 24).drop 24).drop 24).drop 24).drop 24).drop 24).drop 24).drop 24), List.all_append, w_t10, ← List.take_append_drop 24 ((((((((((words1.drop 24).drop 24).drop 24).drop 24).drop 24).drop 24).drop 24).drop 24).drop 24).drop 24), List.all_append, w_t11, ← List.take_append_drop 24 (((((((((((words1.drop 24).drop 24).drop 24).drop 24).drop 24).drop 24).drop 24).drop 24).drop 24).drop 24).drop 24), List.all_append, w_t12, ← List.take_append_drop 24 ((((((((((((words1.drop 24).drop 24).drop 24).drop 24).drop 24).drop 24).drop 24).drop 24).drop 24).drop 24).drop 24).drop 24), List.all_append, w_t13, ← List.take_append_drop 24 (((((((((((((words1.drop 24).drop 24).drop 24).drop 24).drop 24).drop 24).drop 24).drop 24).drop 24).drop 24).drop 24).drop 24).drop 24), List.all_append, w_t14, ← List.take_append_drop 24 ((((((((((((((words1.drop 24).drop 24).drop 24).drop 24).drop 24).drop 24).drop 24).drop 24).drop 24).drop 24).drop 24).drop 24).drop 24).drop 24), List.all_append, w_t15, ← List.take_append_drop 24 (((((((((((((((words1.drop 24).drop 24).drop 24).drop 24).drop 24).drop 24).drop 24).drop 24).drop 24).drop 24).drop 24).drop 24).drop 24).drop 24).drop 24), List.all_append, w_t16, w_t17]
  rfl
set_option maxRecDepth 65536 in
theorem w_rest : rest_1_c.before args0 about1 = true := by decide +kernel
set_option maxRecDepth 65536 in
theorem w_case : (Jvm.Cond.and given_1 narrow_1).before args0 about1 = true := by decide +kernel
set_option maxRecDepth 65536 in
theorem w_consts : constsHeld consts_1 about1 := Jvm.Lit.constsHeldB_iff.mp (by decide +kernel)
theorem w_applies : (headSpec (Jvm.Cond.code x code maxLocals ret :: tables_1) room_1).applies x e0.platform about1 = true :=
  (Spec.applies_iff w_frames).mpr ⟨w_running, w_runnable, w_alone, w_named, w_hears, w_ripe, w_room, w_tables⟩
theorem atStart : AtStart classFile x code maxLocals ret World_1 tables_1 room_1 Calls_1 rest_1 Pre_1 launch0 p0 e0 about1 theMethod args0 below0 :=
  ⟨lists_1, trivial, launch0.admits_env _ _ _, launch0.least_env, fairChoices_fair.cas, fairChoices_fair.clock, w_frames, w_args, w_heap, w_applies, ⟨⟨39, k39, 4, by decide +kernel, rfl, rfl, _, rfl, rfl⟩, ⟨w_consts, trivial⟩⟩, w_rest, w_case⟩
end start1
theorem witness_1 : WitnessClaimed_1 := ⟨start1.p0, start1.e0, start1.about1, start1.theMethod, start1.args0, start1.below0, start1.atStart⟩
end Jvm.Pilot.@@N@@
