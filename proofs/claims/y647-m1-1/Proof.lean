import JvmDerived
import JvmDerived.Pilot.@@N@@Statement
import JvmDerived.Pilot.@@N@@Code
set_option linter.unusedVariables false
set_option linter.unusedSimpArgs false
/- laws to paste: Road.backV (cut by pick.py; bodies as the Statement names them) -/
namespace Jvm.Pilot.@@N@@
namespace StrChars
open Jvm Sem ClassFile Op Lib Jvm.Stand Jvm.Free.XT Jvm.Free.ALB Jvm.Free.JM Jvm.Free
open Jvm.Lib.Cold (StaticIs)
/-- a char array whose places are chars -/
def Ch (a : Addr) (A : Cell) (U : State) : Prop := Arr .char a A U ∧ Typed .char A
theorem Ch.mv {a : Addr} {A : Cell} {U U' : State} (h : Ch a A U) (hal : U.vm.Alike U'.vm) (hh : U'.heap = U.heap) : Ch a A U' := ⟨h.1.mv hal hh, h.2⟩
theorem Ch.keep {a : Addr} {A : Cell} {U U' : State} (h : Ch a A U) (hal : U.vm.Alike U'.vm) (hk : U'.heap[a]? = some A) : Ch a A U' := ⟨h.1.keep hal hk, h.2⟩
/-- what place i of a char[]'s cell holds -/
def cv (A : Cell) (i : Nat) : Int32 := match A.slots[i]? with | some (.int x) => x | _ => 0
theorem Ch.get {a : Addr} {A : Cell} {U : State} (h : Ch a A U) {i : Nat} (hi : i < A.slots.size) : A.slots[i]? = some (.int (cv A i)) := by
  have e := Array.getElem?_eq_getElem hi
  have f := h.2 i _ e
  unfold cv; rw [e]
  generalize A.slots[i] = v at f
  cases v <;> simp [fits] at f ⊢
/-- the byte that i2b leaves of a char -/
def lo8 (x : Int32) : Int32 := x.toInt8.toInt32
theorem fits_lo8 (y : Int32) : fits .byte (.int (lo8 y)) = true := by
  have h1 := y.toInt8.le_toInt
  have h2 := y.toInt8.toInt_lt
  simp only [lo8, fits, Bool.and_eq_true, decide_eq_true_eq, Int32.le_iff_toInt_le, Int8.toInt_toInt32, show (-128 : Int32).toInt = -128 from by decide, show (127 : Int32).toInt = 127 from by decide]
  omega
/-- A' is A but that each place j of lo .. hi - 1 holds f j -/
def Laid (A A' : Cell) (lo hi : Nat) (f : Nat → Value) : Prop := A'.cls = A.cls ∧ A'.vm = A.vm ∧ A'.slots.size = A.slots.size ∧ ∀ i, A'.slots[i]? = if lo ≤ i ∧ i < hi then some (f i) else A.slots[i]?
theorem Laid.zero (A : Cell) (lo : Nat) (f : Nat → Value) : Laid A A lo (lo + 0) f := ⟨rfl, rfl, rfl, fun i => by rw [if_neg (by omega)]⟩
theorem Laid.step {A Ak : Cell} {lo k : Nat} {f : Nat → Value} {v : Value} (h : Laid A Ak lo k f) (hlo : lo ≤ k) (hk : k < Ak.slots.size) (hv : v = f k) : Laid A (Ak.setSlot k v) lo (k + 1) f := by
  refine ⟨h.1, h.2.1, by simpa [Cell.setSlot] using h.2.2.1, fun i => ?_⟩
  by_cases e : k = i
  · subst e; rw [Cell.slots_setSlot_self v hk, if_pos (by omega), hv]
  · rw [Cell.slots_setSlot_ne v e, h.2.2.2 i]
    by_cases q : lo ≤ i ∧ i < k
    · rw [if_pos q, if_pos (by omega)]
    · rw [if_neg q, if_neg (by omega)]
def U16 : String := "java/lang/StringUTF16"
namespace Cmp5
def yN : MethodName := ⟨"java/lang/StringUTF16", "compress", "([CI[BII)I"⟩
abbrev yB : ByteArray := jdk_52_method_21_code
theorem d0 : decode yB 0 = .ok (.iconst 0, 1) := by decide +kernel
theorem d1 : decode yB 1 = .ok (.istore 5, 2) := by decide +kernel
theorem d3 : decode yB 3 = .ok (.iload 5, 2) := by decide +kernel
theorem d5 : decode yB 5 = .ok (.iload 4, 2) := by decide +kernel
theorem d7 : decode yB 7 = .ok (.if_icmp (.ge) 37, 3) := by decide +kernel
theorem d10 : decode yB 10 = .ok (.aload_n 0, 1) := by decide +kernel
theorem d11 : decode yB 11 = .ok (.iload_n 1, 1) := by decide +kernel
theorem d12 : decode yB 12 = .ok (.caload, 1) := by decide +kernel
theorem d13 : decode yB 13 = .ok (.istore 6, 2) := by decide +kernel
theorem d15 : decode yB 15 = .ok (.iload 6, 2) := by decide +kernel
theorem d17 : decode yB 17 = .ok (.sipush 255, 3) := by decide +kernel
theorem d20 : decode yB 20 = .ok (.if_icmp (.le) 6, 3) := by decide +kernel
theorem d26 : decode yB 26 = .ok (.aload_n 2, 1) := by decide +kernel
theorem d27 : decode yB 27 = .ok (.iload_n 3, 1) := by decide +kernel
theorem d28 : decode yB 28 = .ok (.iload 6, 2) := by decide +kernel
theorem d30 : decode yB 30 = .ok (.i2b, 1) := by decide +kernel
theorem d31 : decode yB 31 = .ok (.bastore, 1) := by decide +kernel
theorem d32 : decode yB 32 = .ok (.iinc 1 1, 3) := by decide +kernel
theorem d35 : decode yB 35 = .ok (.iinc 3 1, 3) := by decide +kernel
theorem d38 : decode yB 38 = .ok (.iinc 5 1, 3) := by decide +kernel
theorem d41 : decode yB 41 = .ok (.goto (-38), 3) := by decide +kernel
theorem d44 : decode yB 44 = .ok (.iload 4, 2) := by decide +kernel
theorem d46 : decode yB 46 = .ok (.ireturn, 1) := by decide +kernel
def site : List Cond := []
def tab : Cond := tabOf yN yB 7 (some .int) site
def P (b : Addr) (A : Cell) (d : Addr) (B : Cell) (o q len : Nat) (args : Array Value) (s : State) : Prop := args = #[.ref b, .int (Int32.ofNat o), .ref d, .int (Int32.ofNat q), .int (Int32.ofNat len)] ∧ Ch b A s ∧ Arr .byte d B s ∧ b ≠ d ∧ o + len ≤ A.slots.size ∧ q + len ≤ B.slots.size ∧ ∀ i, i < len → ¬ 255 < cv A (o + i)
def E (b : Addr) (A : Cell) (d : Addr) (B : Cell) (o q len : Nat) (r : Option Value) (s u : State) : Prop := r = some (.int (Int32.ofNat len)) ∧ ∃ B', Put d B' s u ∧ Laid B B' q (q + len) (fun j => Value.int (lo8 (cv A (o + (j - q)))))
/-- no char of the range above 255: len; the places written hold each char's low byte -/
theorem law (l : Launch) (b : Addr) (A : Cell) (d : Addr) (B : Cell) (o q len : Nat) : Law l yN 5 5 0 0 yB 7 (some .int) site (P b A d B o q len) (E b A d B o q len) (copyLocs d q len) 0 0 := by
  refine Law.of_walk (plainFor_of_name (by decide +kernel)) (by decide +kernel) (by decide +kernel) (by decide) (fun _ _ h => by rw [h.1]; rfl) (fun _ U U' hal hh h => ⟨h.1, h.2.1.mv hal hh, h.2.2.1.mv hal hh, h.2.2.2⟩) (fun r U U' V V' h1 hal h2 h => ⟨h.1, h.2.elim fun B' q => ⟨B', q.1.mv h1 h2, q.2⟩⟩) ?_
  intro p e s m args below meth c s₁ X0 hexec hbytes hml hret hlk hnm hown hh0 W hP
  obtain ⟨rfl, hA, hB, hne, l1, l2, hp⟩ := hP
  have c1 : Steps p.tables e below (s₁.setTop (entryFrame m #[.ref b, .int (Int32.ofNat o), .ref d, .int (Int32.ofNat q), .int (Int32.ofNat len)] 7)) (s₁.setTop (mkF m 0 #[.val (.ref b), .val (.int (Int32.ofNat o)), .val (.ref d), .val (.int (Int32.ofNat q)), .val (.int (Int32.ofNat len)), .unset, .unset] [])) := entry rfl
  have hA0 := hA.1.mv X0.warmed.alike hh0
  have hB0 := hB.mv X0.warmed.alike hh0
  have a31 := hA.1.2.2.2
  have c2 : Steps p.tables e below (s₁.setTop (entryFrame m #[.ref b, .int (Int32.ofNat o), .ref d, .int (Int32.ofNat q), .int (Int32.ofNat len)] 7)) (s₁.setTop (mkF m 3 #[.val (.ref b), .val (.int (Int32.ofNat o)), .val (.ref d), .val (.int (Int32.ofNat q)), .val (.int (Int32.ofNat len)), .val (.int 0), .unset] [])) := c1.trans (by
    refine iconstV X0.here hexec rfl 0 (hb hbytes d0) (by decide) ?_
    refine XS.istore X0.here hexec rfl (hb hbytes d1) rfl rfl ?_
    exact Steps.refl _)
  have loop : ∀ (r i : Nat), i + r = len → ∀ (z : Slot), (z = .unset ∨ ∃ w, z = .val w ∧ w.category = 1) → ∀ (Tl : State) (Bk : Cell), Stand p l e { frames := 0, locals := 0, cells := 0, slots := 0 } s m #[.ref b, .int (Int32.ofNat o), .ref d, .int (Int32.ofNat q), .int (Int32.ofNat len)] below meth c Tl ([] ++ copyLocs d q i) 0 0 → Put d Bk s₁ Tl → Laid B Bk q (q + i) (fun j => Value.int (lo8 (cv A (o + (j - q))))) →
      Steps p.tables e below (s₁.setTop (entryFrame m #[.ref b, .int (Int32.ofNat o), .ref d, .int (Int32.ofNat q), .int (Int32.ofNat len)] 7)) (Tl.setTop (mkF m 3 #[.val (.ref b), .val (.int (Int32.ofNat (o + i))), .val (.ref d), .val (.int (Int32.ofNat (q + i))), .val (.int (Int32.ofNat len)), .val (.int (Int32.ofNat i)), z] [])) → ∃ (T' : State) (B' : Cell) (z' : Slot), Stand p l e { frames := 0, locals := 0, cells := 0, slots := 0 } s m #[.ref b, .int (Int32.ofNat o), .ref d, .int (Int32.ofNat q), .int (Int32.ofNat len)] below meth c T' ([] ++ copyLocs d q len) 0 0 ∧ Put d B' s₁ T' ∧ Laid B B' q (q + len) (fun j => Value.int (lo8 (cv A (o + (j - q))))) ∧
      Steps p.tables e below (s₁.setTop (entryFrame m #[.ref b, .int (Int32.ofNat o), .ref d, .int (Int32.ofNat q), .int (Int32.ofNat len)] 7)) (T'.setTop (mkF m 3 #[.val (.ref b), .val (.int (Int32.ofNat (o + len))), .val (.ref d), .val (.int (Int32.ofNat (q + len))), .val (.int (Int32.ofNat len)), .val (.int (Int32.ofNat len)), z'] [])) := by
    intro r
    induction r with
    | zero =>
      intro i hi z hz Tl Bk Xl pl fl cl
      have hil : i = len := by omega
      rw [hil] at Xl fl cl
      exact ⟨Tl, Bk, z, Xl, pl, fl, cl⟩
    | succ r ih =>
      intro i hi z hz Tl Bk Xl pl fl cl
      have all := X0.warmed.alike.symm.trans Xl.warmed.alike
      have hAl := hA0.keep all (pl.other hne hA0.1)
      have hBk := hB0.like all pl.1 fl.1 fl.2.1 fl.2.2.1
      have hlt : q + i < Bk.slots.size := by rw [fl.2.2.1]; omega
      have c3 : Steps p.tables e below (s₁.setTop (entryFrame m #[.ref b, .int (Int32.ofNat o), .ref d, .int (Int32.ofNat q), .int (Int32.ofNat len)] 7)) (Tl.setTop (mkF m 12 #[.val (.ref b), .val (.int (Int32.ofNat (o + i))), .val (.ref d), .val (.int (Int32.ofNat (q + i))), .val (.int (Int32.ofNat len)), .val (.int (Int32.ofNat i)), z] [.int (Int32.ofNat (o + i)), .ref b])) := cl.trans (by
        refine XS.iload Xl.here hexec rfl (hb hbytes d3) rfl ?_
        refine XS.iload Xl.here hexec rfl (hb hbytes d5) rfl ?_
        refine XS.icmpNo Xl.here hexec rfl (hb hbytes d7) rfl (ii_ge_f (lt32 (by omega) (by omega))) ?_
        refine XS.aloadN Xl.here hexec rfl (hb hbytes d10) rfl rfl ?_
        refine XS.iloadN Xl.here hexec rfl (hb hbytes d11) rfl ?_
        exact Steps.refl _)
      have c4 : Steps p.tables e below (s₁.setTop (entryFrame m #[.ref b, .int (Int32.ofNat o), .ref d, .int (Int32.ofNat q), .int (Int32.ofNat len)] 7)) (Tl.setTop (mkF m 13 #[.val (.ref b), .val (.int (Int32.ofNat (o + i))), .val (.ref d), .val (.int (Int32.ofNat (q + i))), .val (.int (Int32.ofNat len)), .val (.int (Int32.ofNat i)), z] [.int (cv A (o + i))])) := c3.trans (by
        refine Xl.aget hexec hAl rfl (hA.get (i := o + i) (by omega)) rfl rfl (hb hbytes d12) ?_
        exact Steps.refl _)
      have c5 : Steps p.tables e below (s₁.setTop (entryFrame m #[.ref b, .int (Int32.ofNat o), .ref d, .int (Int32.ofNat q), .int (Int32.ofNat len)] 7)) (Tl.setTop (mkF m 15 #[.val (.ref b), .val (.int (Int32.ofNat (o + i))), .val (.ref d), .val (.int (Int32.ofNat (q + i))), .val (.int (Int32.ofNat len)), .val (.int (Int32.ofNat i)), .val (.int (cv A (o + i)))] [])) := c4.trans (by
        refine XS.istoreS Xl.here hexec rfl (hb hbytes d13) rfl rfl hz ?_
        exact Steps.refl _)
      have c6 : Steps p.tables e below (s₁.setTop (entryFrame m #[.ref b, .int (Int32.ofNat o), .ref d, .int (Int32.ofNat q), .int (Int32.ofNat len)] 7)) (Tl.setTop (mkF m 31 #[.val (.ref b), .val (.int (Int32.ofNat (o + i))), .val (.ref d), .val (.int (Int32.ofNat (q + i))), .val (.int (Int32.ofNat len)), .val (.int (Int32.ofNat i)), .val (.int (cv A (o + i)))] [.int (lo8 (cv A (o + i))), .int (Int32.ofNat (q + i)), .ref d])) := c5.trans (by
        refine XS.iload Xl.here hexec rfl (hb hbytes d15) rfl ?_
        refine sipushV Xl.here hexec rfl 255 (hb hbytes d17) (by decide) ?_
        refine XS.icmpYes Xl.here hexec rfl (pc0 := 20) rfl (hb hbytes d20) rfl (ii_le_t (hp i (by omega))) (by decide) rfl ?_
        refine XS.aloadN Xl.here hexec rfl (hb hbytes d26) rfl rfl ?_
        refine XS.iloadN Xl.here hexec rfl (hb hbytes d27) rfl ?_
        refine XS.iload Xl.here hexec rfl (hb hbytes d28) rfl ?_
        refine i2b Xl.here hexec rfl (hb hbytes d30) rfl ?_
        exact Steps.refl _)
      obtain ⟨T7, X7, p7, st7⟩ := Xl.aput hexec hBk rfl hlt rfl (fits_lo8 (cv A (o + i))) (g := (mkF m 31 #[.val (.ref b), .val (.int (Int32.ofNat (o + i))), .val (.ref d), .val (.int (Int32.ofNat (q + i))), .val (.int (Int32.ofNat len)), .val (.int (Int32.ofNat i)), .val (.int (cv A (o + i)))] [.int (lo8 (cv A (o + i))), .int (Int32.ofNat (q + i)), .ref d])) rfl (rest := []) rfl (hb hbytes d31)
      have c8 : Steps p.tables e below (s₁.setTop (entryFrame m #[.ref b, .int (Int32.ofNat o), .ref d, .int (Int32.ofNat q), .int (Int32.ofNat len)] 7)) (T7.setTop (mkF m 32 #[.val (.ref b), .val (.int (Int32.ofNat (o + i))), .val (.ref d), .val (.int (Int32.ofNat (q + i))), .val (.int (Int32.ofNat len)), .val (.int (Int32.ofNat i)), .val (.int (cv A (o + i)))] [])) := c6.trans (st7 _ (Steps.refl _))
      have c9 : Steps p.tables e below (s₁.setTop (entryFrame m #[.ref b, .int (Int32.ofNat o), .ref d, .int (Int32.ofNat q), .int (Int32.ofNat len)] 7)) (T7.setTop (mkF m 3 #[.val (.ref b), .val (.int (Int32.ofNat (o + i) + 1)), .val (.ref d), .val (.int (Int32.ofNat (q + i) + 1)), .val (.int (Int32.ofNat len)), .val (.int (Int32.ofNat i + 1)), .val (.int (cv A (o + i)))] [])) := c8.trans (by
        refine iincV X7.here hexec rfl 1 (hb hbytes d32) (by decide) rfl rfl ?_
        refine iincV X7.here hexec rfl 1 (hb hbytes d35) (by decide) rfl rfl ?_
        refine iincV X7.here hexec rfl 1 (hb hbytes d38) (by decide) rfl rfl ?_
        refine XS.goto X7.here hexec rfl (pc0 := 41) rfl (hb hbytes d41) (by decide) rfl ?_
        exact Steps.refl _)
      have c10 : Steps p.tables e below (s₁.setTop (entryFrame m #[.ref b, .int (Int32.ofNat o), .ref d, .int (Int32.ofNat q), .int (Int32.ofNat len)] 7)) (T7.setTop (mkF m 3 #[.val (.ref b), .val (.int (Int32.ofNat (o + (i + 1)))), .val (.ref d), .val (.int (Int32.ofNat (q + (i + 1)))), .val (.int (Int32.ofNat len)), .val (.int (Int32.ofNat (i + 1))), .val (.int (cv A (o + i)))] [])) := by
        have := c9
        rw [succ32, succ32, succ32] at this
        exact this
      exact ih (i + 1) (by omega) _ (Or.inr ⟨_, rfl, rfl⟩) T7 _ (by rw [copyLocs_step, ← List.append_assoc]; exact X7) (pl.trans p7) (fl.step (by omega) hlt (by simp)) c10
  obtain ⟨T9, B9, z9, X9, p9, f9, g9⟩ := loop len 0 (by omega) .unset (Or.inl rfl) s₁ B (by simpa [copyLocs] using X0) ⟨hB0.1, fun _ _ => rfl, rfl⟩ (Laid.zero _ _ _) c2
  have c11 : Steps p.tables e below (s₁.setTop (entryFrame m #[.ref b, .int (Int32.ofNat o), .ref d, .int (Int32.ofNat q), .int (Int32.ofNat len)] 7)) (T9.setTop (mkF m 46 #[.val (.ref b), .val (.int (Int32.ofNat (o + len))), .val (.ref d), .val (.int (Int32.ofNat (q + len))), .val (.int (Int32.ofNat len)), .val (.int (Int32.ofNat len)), z9] [.int (Int32.ofNat len)])) := g9.trans (by
    refine XS.iload X9.here hexec rfl (hb hbytes d3) rfl ?_
    refine XS.iload X9.here hexec rfl (hb hbytes d5) rfl ?_
    refine XS.icmpYes X9.here hexec rfl (pc0 := 7) rfl (hb hbytes d7) rfl (ii_ge_t (nlt32 (by omega) (Nat.le_refl _))) (by decide) rfl ?_
    refine XS.iload X9.here hexec rfl (hb hbytes d44) rfl ?_
    exact Steps.refl _)
  exact ⟨T9, some (.int (Int32.ofNat len)), _, _, _, X9, by simp, rfl, rfl, (fun h => by cases h), ⟨rfl, B9, p9.from hh0, f9⟩, fun fs hl => c11.trans (X9.ireturnOut hexec hret rfl (Or.inl rfl) (hb hbytes d46) hl)⟩
end Cmp5
namespace Cmp3
def yN : MethodName := ⟨"java/lang/StringUTF16", "compress", "([CII)[B"⟩
abbrev yB : ByteArray := jdk_52_method_16_code
theorem d0 : decode yB 0 = .ok (.iload_n 2, 1) := by decide +kernel
theorem d1 : decode yB 1 = .ok (.newarray .byte, 2) := by decide +kernel
theorem d3 : decode yB 3 = .ok (.astore_n 3, 1) := by decide +kernel
theorem d4 : decode yB 4 = .ok (.aload_n 0, 1) := by decide +kernel
theorem d5 : decode yB 5 = .ok (.iload_n 1, 1) := by decide +kernel
theorem d6 : decode yB 6 = .ok (.aload_n 3, 1) := by decide +kernel
theorem d7 : decode yB 7 = .ok (.iconst 0, 1) := by decide +kernel
theorem d8 : decode yB 8 = .ok (.iload_n 2, 1) := by decide +kernel
theorem d9 : decode yB 9 = .ok (.invokestatic 115, 3) := by decide +kernel
theorem d12 : decode yB 12 = .ok (.istore 4, 2) := by decide +kernel
theorem d14 : decode yB 14 = .ok (.iload 4, 2) := by decide +kernel
theorem d16 : decode yB 16 = .ok (.iload_n 2, 1) := by decide +kernel
theorem d17 : decode yB 17 = .ok (.if_icmp (.eq) 40, 3) := by decide +kernel
theorem d57 : decode yB 57 = .ok (.aload_n 3, 1) := by decide +kernel
theorem d58 : decode yB 58 = .ok (.areturn, 1) := by decide +kernel
def site : List Cond := [.arrayClass .byte, Cmp5.tab] ++ staticW U16 115 Cmp5.yN
def tab : Cond := tabOf yN yB 6 (some (.array .byte)) site
def P (b : Addr) (A : Cell) (o len : Nat) (args : Array Value) (s : State) : Prop := args = #[.ref b, .int (Int32.ofNat o), .int (Int32.ofNat len)] ∧ Ch b A s ∧ o + len ≤ A.slots.size ∧ len ≤ 536870912 ∧ ∀ i, i < len → ¬ 255 < cv A (o + i)
def E (b : Addr) (A : Cell) (o len : Nat) (r : Option Value) (s u : State) : Prop := NewArr .byte "[B" len (fun j => .int (lo8 (cv A (o + j)))) r s u ∧ u.heap.size = s.heap.size + 1
/-- no char of the range above 255: a new byte[] of their low bytes -/
theorem law (l : Launch) (b : Addr) (A : Cell) (o len : Nat) : Law l yN 3 3 1 18 yB 6 (some (.array .byte)) site (P b A o len) (E b A o len) [] 1 len := by
  refine Law.of_walk (plainFor_of_name (by decide +kernel)) (by decide +kernel) (by decide +kernel) (by decide) (fun _ _ h => by rw [h.1]; rfl) (fun _ U U' hal hh h => ⟨h.1, h.2.1.mv hal hh, h.2.2⟩) (fun r U U' V V' h1 hal h2 h => ⟨NewArr.mv r U U' V V' h1 hal h2 h.1, by rw [h1, h2]; exact h.2⟩) ?_
  intro p e s m args below meth c s₁ X0 hexec hbytes hml hret hlk hnm hown hh0 W hP
  obtain ⟨rfl, hA, l1, l2, hp⟩ := hP
  have a31 := hA.1.2.2.2
  have c1 : Steps p.tables e below (s₁.setTop (entryFrame m #[.ref b, .int (Int32.ofNat o), .int (Int32.ofNat len)] 6)) (s₁.setTop (mkF m 0 #[.val (.ref b), .val (.int (Int32.ofNat o)), .val (.int (Int32.ofNat len)), .unset, .unset, .unset] [])) := entry rfl
  have c2 : Steps p.tables e below (s₁.setTop (entryFrame m #[.ref b, .int (Int32.ofNat o), .int (Int32.ofNat len)] 6)) (s₁.setTop (mkF m 1 #[.val (.ref b), .val (.int (Int32.ofNat o)), .val (.int (Int32.ofNat len)), .unset, .unset, .unset] [.int (Int32.ofNat len)])) := c1.trans (by
    refine XS.iloadN X0.here hexec rfl (hb hbytes d0) rfl ?_
    exact Steps.refl _)
  obtain ⟨T3, B3, X3, ba3, bs3, bv3, bh3, bf3, st3⟩ := X0.anew hexec (atype := .byte) (wk W (.arrayClass .byte)) rfl (by show len * 1 ≤ _; omega) (by omega) (g := (mkF m 1 #[.val (.ref b), .val (.int (Int32.ofNat o)), .val (.int (Int32.ofNat len)), .unset, .unset, .unset] [.int (Int32.ofNat len)])) rfl (hb hbytes d1) (rest := []) rfl (Nat.le_refl _) (by show 0 + len ≤ len; omega)
  rw [hh0] at ba3 st3
  have kp3 : XT.Kept s T3 := (XT.Kept.of_eq hh0).push bh3
  have hA3 := hA.keep X3.warmed.alike (kp3 _ _ hA.1.1)
  have hne : b ≠ s.heap.size := hA.1.ne
  have c4 : Steps p.tables e below (s₁.setTop (entryFrame m #[.ref b, .int (Int32.ofNat o), .int (Int32.ofNat len)] 6)) (T3.setTop (mkF m 3 #[.val (.ref b), .val (.int (Int32.ofNat o)), .val (.int (Int32.ofNat len)), .unset, .unset, .unset] [.ref s.heap.size])) := c2.trans (st3 _ (Steps.refl _))
  have c5 : Steps p.tables e below (s₁.setTop (entryFrame m #[.ref b, .int (Int32.ofNat o), .int (Int32.ofNat len)] 6)) (T3.setTop (mkF m 9 #[.val (.ref b), .val (.int (Int32.ofNat o)), .val (.int (Int32.ofNat len)), .val (.ref s.heap.size), .unset, .unset] [.int (Int32.ofNat len), .int 0, .ref s.heap.size, .int (Int32.ofNat o), .ref b])) := c4.trans (by
    refine XS.astoreN X3.here hexec rfl (hb hbytes d3) rfl rfl rfl ?_
    refine XS.aloadN X3.here hexec rfl (hb hbytes d4) rfl rfl ?_
    refine XS.iloadN X3.here hexec rfl (hb hbytes d5) rfl ?_
    refine XS.aloadN X3.here hexec rfl (hb hbytes d6) rfl rfl ?_
    refine iconstV X3.here hexec rfl 0 (hb hbytes d7) (by decide) ?_
    refine XS.iloadN X3.here hexec rfl (hb hbytes d8) rfl ?_
    exact Steps.refl _)
  obtain ⟨v6, T6, X6, E6, g6⟩ := X3.callS hexec (Cmp5.law l b A s.heap.size B3 o 0 len) hown (wks W (staticW U16 115 Cmp5.yN)) (wk W Cmp5.tab) (W := 0) (Nat.le_of_ble_eq_true rfl) (Nat.le_of_ble_eq_true rfl) (Nat.le_refl _) (by show 0 + len + 0 ≤ len; omega) (g := (mkF m 9 #[.val (.ref b), .val (.int (Int32.ofNat o)), .val (.int (Int32.ofNat len)), .val (.ref s.heap.size), .unset, .unset] [.int (Int32.ofNat len), .int (Int32.ofNat 0), .ref s.heap.size, .int (Int32.ofNat o), .ref b])) rfl (by rw [hml]; rfl) c5 (argsL := [.ref b, .int (Int32.ofNat o), .ref s.heap.size, .int (Int32.ofNat 0), .int (Int32.ofNat len)]) (rest := []) rfl rfl (by show 2 * 0 + 0 ≤ _; decide) (hb hbytes d9) (⟨rfl, hA3, ba3, hne, l1, by rw [bs3]; simp, hp⟩)
  obtain ⟨rfl, B6, p6, f6⟩ := E6
  have c7 : Steps p.tables e below (s₁.setTop (entryFrame m #[.ref b, .int (Int32.ofNat o), .int (Int32.ofNat len)] 6)) (T6.setTop (mkF m 12 #[.val (.ref b), .val (.int (Int32.ofNat o)), .val (.int (Int32.ofNat len)), .val (.ref s.heap.size), .unset, .unset] [.int (Int32.ofNat len)])) := g6
  have c8 : Steps p.tables e below (s₁.setTop (entryFrame m #[.ref b, .int (Int32.ofNat o), .int (Int32.ofNat len)] 6)) (T6.setTop (mkF m 58 #[.val (.ref b), .val (.int (Int32.ofNat o)), .val (.int (Int32.ofNat len)), .val (.ref s.heap.size), .val (.int (Int32.ofNat len)), .unset] [.ref s.heap.size])) := c7.trans (by
    refine XS.istore X6.here hexec rfl (hb hbytes d12) rfl rfl ?_
    refine XS.iload X6.here hexec rfl (hb hbytes d14) rfl ?_
    refine XS.iloadN X6.here hexec rfl (hb hbytes d16) rfl ?_
    refine XS.icmpYes X6.here hexec rfl (pc0 := 17) rfl (hb hbytes d17) rfl (ii_eq_t rfl) (by decide) rfl ?_
    refine XS.aloadN X6.here hexec rfl (hb hbytes d57) rfl rfl ?_
    exact Steps.refl _)
  have X8 := X6.wide (L' := []) (cells' := 1) (slots' := len) (fun x hx hlt => by
    simp only [List.nil_append, copyLocs, List.mem_map, List.mem_range] at hx
    obtain ⟨i, -, rfl⟩ := hx
    exact absurd hlt (Nat.lt_irrefl _)) (Nat.le_refl _) (by omega)
  exact ⟨T6, some (.ref s.heap.size), _, _, _, X8, rfl, rfl, rfl, (fun h => by cases h), ⟨⟨rfl, B6, ba3.like (X3.warmed.alike.symm.trans X6.warmed.alike) p6.1 f6.1 f6.2.1 f6.2.2.1, f6.2.1.trans bv3, by rw [X6.warmed.alike.findClass, f6.1]; exact bf3, by rw [f6.2.2.1, bs3]; simp, fun j hj => by rw [f6.2.2.2 j, if_pos (by omega)]; rfl, kp3.put p6 (Nat.le_refl _)⟩, by rw [p6.2.2, bh3, hh0]; simp⟩, fun fs hl => c8.trans (X8.areturnOut hexec rfl hret rfl (hb hbytes d58) hl)⟩
end Cmp3
namespace CodL
def yN : MethodName := ⟨"java/lang/StringUTF16", "coderFromArrayLen", "([BI)B"⟩
abbrev yB : ByteArray := jdk_52_method_15_code
theorem d0 : decode yB 0 = .ok (.iload_n 1, 1) := by decide +kernel
theorem d1 : decode yB 1 = .ok (.aload_n 0, 1) := by decide +kernel
theorem d2 : decode yB 2 = .ok (.arraylength, 1) := by decide +kernel
theorem d3 : decode yB 3 = .ok (.isub, 1) := by decide +kernel
theorem d4 : decode yB 4 = .ok (.bipush 31, 2) := by decide +kernel
theorem d6 : decode yB 6 = .ok (.iushr, 1) := by decide +kernel
theorem d7 : decode yB 7 = .ok (.i2b, 1) := by decide +kernel
theorem d8 : decode yB 8 = .ok (.ireturn, 1) := by decide +kernel
def site : List Cond := []
def tab : Cond := tabOf yN yB 2 (some .byte) site
def P (d : Addr) (B : Cell) (args : Array Value) (s : State) : Prop := args = #[.ref d, .int (Int32.ofNat B.slots.size)] ∧ Arr .byte d B s
def E (r : Option Value) (s u : State) : Prop := XT.PureE (some (.int 0)) r s u
/-- an array as long as the number of chars: LATIN1 -/
theorem law (l : Launch) (d : Addr) (B : Cell) : Law l yN 2 2 0 0 yB 2 (some .byte) site (P d B) E [] 0 0 := by
  refine Law.of_walk (plainFor_of_name (by decide +kernel)) (by decide +kernel) (by decide +kernel) (by decide) (fun _ _ h => by rw [h.1]; rfl) (fun _ U U' hal hh h => ⟨h.1, h.2.mv hal hh⟩) (fun r U U' V V' h1 hal h2 h => XT.PureE.mv r U U' V V' h1 hal h2 h) ?_
  intro p e s m args below meth c s₁ X0 hexec hbytes hml hret hlk hnm hown hh0 W hP
  obtain ⟨rfl, hB⟩ := hP
  have hB0 := hB.mv X0.warmed.alike hh0
  have c1 : Steps p.tables e below (s₁.setTop (entryFrame m #[.ref d, .int (Int32.ofNat B.slots.size)] 2)) (s₁.setTop (mkF m 0 #[.val (.ref d), .val (.int (Int32.ofNat B.slots.size))] [])) := entry rfl
  have c2 : Steps p.tables e below (s₁.setTop (entryFrame m #[.ref d, .int (Int32.ofNat B.slots.size)] 2)) (s₁.setTop (mkF m 2 #[.val (.ref d), .val (.int (Int32.ofNat B.slots.size))] [.ref d, .int (Int32.ofNat B.slots.size)])) := c1.trans (by
    refine XS.iloadN X0.here hexec rfl (hb hbytes d0) rfl ?_
    refine XS.aloadN X0.here hexec rfl (hb hbytes d1) rfl rfl ?_
    exact Steps.refl _)
  have c3 : Steps p.tables e below (s₁.setTop (entryFrame m #[.ref d, .int (Int32.ofNat B.slots.size)] 2)) (s₁.setTop (mkF m 8 #[.val (.ref d), .val (.int (Int32.ofNat B.slots.size))] [.int (lo8 (ushr (Int32.ofNat B.slots.size - Int32.ofNat B.slots.size) 31))])) := c2.trans (by
    refine X0.alen hexec hB0 rfl rfl (hb hbytes d2) ?_
    refine XS.isub X0.here hexec rfl (hb hbytes d3) rfl ?_
    refine bipushV X0.here hexec rfl 31 (hb hbytes d4) (by decide) ?_
    refine iushr X0.here hexec rfl (hb hbytes d6) rfl ?_
    refine i2b X0.here hexec rfl (hb hbytes d7) rfl ?_
    exact Steps.refl _)
  have e0 : lo8 (ushr (Int32.ofNat B.slots.size - Int32.ofNat B.slots.size) 31) = 0 := by rw [Int32.sub_self]; decide
  rw [e0] at c3
  exact ⟨s₁, some (.int 0), _, _, _, X0, rfl, rfl, rfl, (fun h => by cases h), ⟨rfl, hh0⟩, fun fs hl => c3.trans (X0.ireturnOut hexec hret rfl (Or.inr (Or.inr (Or.inl rfl))) (hb hbytes d8) hl)⟩
end CodL
/-- the String at a is Latin-1 over a new byte[] (the heap's one new cell): the low bytes of the len chars of A from o on; every cell but a is kept -/
def Got (a : Addr) (D : Cell) (fV fC : Field) (A : Cell) (o len : Nat) (r : Option Value) (s u : State) : Prop := r = none ∧ ∃ D' V : Cell, Blank "java/lang/String" a D' u ∧ Same D D' [fV.slot, fC.slot] ∧ D'.slots[fV.slot]? = some (.ref s.heap.size) ∧ D'.slots[fC.slot]? = some (.int 0) ∧ Arr .byte s.heap.size V u ∧ V.vm = .none ∧ u.vm.findClass "[B" = some V.cls ∧ V.slots.size = len ∧ (∀ j, j < len → V.slots[j]? = some (.int (lo8 (cv A (o + j))))) ∧ (∀ (y : Addr) (c : Cell), y ≠ a → s.heap[y]? = some c → u.heap[y]? = some c) ∧ u.heap.size = s.heap.size + 1
theorem Got.mv {a : Addr} {D A : Cell} {fV fC : Field} {o len : Nat} : ∀ r (U U' V V' : State), U'.heap = U.heap → V.vm.Alike V'.vm → V'.heap = V.heap → Got a D fV fC A o len r U V → Got a D fV fC A o len r U' V' :=
  fun r U U' V V' h1 hal h2 ⟨e0, D', X, a1, a2, a3, a4, a5, a6, a7, a8, a9, a10, a11⟩ => ⟨e0, D', X, a1.mv hal h2, a2, by rw [h1]; exact a3, a4, by rw [h1]; exact a5.mv hal h2, a6, by rw [hal.findClass]; exact a7, a8, a9, by rw [h1, h2]; exact a10, by rw [h1, h2]; exact a11⟩
namespace New4
def yN : MethodName := ⟨"java/lang/String", "<init>", "([CIILjava/lang/Void;)V"⟩
abbrev yB : ByteArray := jdk_42_method_149_code
theorem d0 : decode yB 0 = .ok (.aload_n 0, 1) := by decide +kernel
theorem d1 : decode yB 1 = .ok (.invokespecial 1, 3) := by decide +kernel
theorem d4 : decode yB 4 = .ok (.iload_n 3, 1) := by decide +kernel
theorem d5 : decode yB 5 = .ok (.ifCond (.ne) 22, 3) := by decide +kernel
theorem d27 : decode yB 27 = .ok (.getstatic 38, 3) := by decide +kernel
theorem d30 : decode yB 30 = .ok (.ifCond (.eq) 28, 3) := by decide +kernel
theorem d33 : decode yB 33 = .ok (.aload_n 1, 1) := by decide +kernel
theorem d34 : decode yB 34 = .ok (.iload_n 2, 1) := by decide +kernel
theorem d35 : decode yB 35 = .ok (.iload_n 3, 1) := by decide +kernel
theorem d36 : decode yB 36 = .ok (.invokestatic 177, 3) := by decide +kernel
theorem d39 : decode yB 39 = .ok (.astore 5, 2) := by decide +kernel
theorem d41 : decode yB 41 = .ok (.aload_n 0, 1) := by decide +kernel
theorem d42 : decode yB 42 = .ok (.aload 5, 2) := by decide +kernel
theorem d44 : decode yB 44 = .ok (.iload_n 3, 1) := by decide +kernel
theorem d45 : decode yB 45 = .ok (.invokestatic 47, 3) := by decide +kernel
theorem d48 : decode yB 48 = .ok (.putfield 15, 3) := by decide +kernel
theorem d51 : decode yB 51 = .ok (.aload_n 0, 1) := by decide +kernel
theorem d52 : decode yB 52 = .ok (.aload 5, 2) := by decide +kernel
theorem d54 : decode yB 54 = .ok (.putfield 9, 3) := by decide +kernel
theorem d57 : decode yB 57 = .ok (.return_, 1) := by decide +kernel
def site : List Cond := [.fieldLink "java/lang/String" 38 "java/lang/String" "COMPACT_STRINGS" "Z", Cmp3.tab, CodL.tab, .laysFinal "java/lang/String" "java/lang/String" "value" "[B", .fieldLink "java/lang/String" 9 "java/lang/String" "value" "[B", .laysFinal "java/lang/String" "java/lang/String" "coder" "B", .fieldLink "java/lang/String" 15 "java/lang/String" "coder" "B"] ++ objW "java/lang/String" 1 ++ staticW "java/lang/String" 177 Cmp3.yN ++ staticW "java/lang/String" 47 CodL.yN
def tab : Cond := tabOf yN yB 6 none site
def P (a : Addr) (D : Cell) (fV fC : Field) (b : Addr) (A : Cell) (z : Int32) (o len : Nat) (args : Array Value) (s : State) : Prop := args = #[.ref a, .ref b, .int (Int32.ofNat o), .int (Int32.ofNat len), .null] ∧ Blank "java/lang/String" a D s ∧ Found "java/lang/String" "value" "[B" fV s ∧ Found "java/lang/String" "coder" "B" fC s ∧ Ch b A s ∧ StaticIs s "java/lang/String" "COMPACT_STRINGS" "Z" (.int z) ∧ ¬ z = 0 ∧ 0 < len ∧ o + len ≤ A.slots.size ∧ len ≤ 536870912 ∧ ∀ i, i < len → ¬ 255 < cv A (o + i)
def E (a : Addr) (D : Cell) (fV fC : Field) (A : Cell) (o len : Nat) (r : Option Value) (s u : State) : Prop := Got a D fV fC A o len r s u
/-- len > 0, no char of the range above 255: a Latin-1 String of their low bytes -/
theorem law (l : Launch) (a : Addr) (D : Cell) (fV fC : Field) (b : Addr) (A : Cell) (z : Int32) (o len : Nat) : Law l yN 5 4 2 35 yB 6 none site (P a D fV fC b A z o len) (E a D fV fC A o len) [⟨a, fC.slot⟩, ⟨a, fV.slot⟩] 1 len := by
  refine Law.of_walk (plainFor_of_name (by decide +kernel)) (by decide +kernel) (by decide +kernel) (by decide) (fun _ _ h => by rw [h.1]; rfl) (fun _ U U' hal hh h => ⟨h.1, h.2.1.mv hal hh, h.2.2.1.al hal, h.2.2.2.1.al hal, h.2.2.2.2.1.mv hal hh, h.2.2.2.2.2.1.there hal hh, h.2.2.2.2.2.2⟩) (fun r U U' V V' h1 hal h2 h => Got.mv r U U' V V' h1 hal h2 h) ?_
  intro p e s m args below meth c s₁ X0 hexec hbytes hml hret hlk hnm hown hh0 W hP
  obtain ⟨rfl, hB, f1, f2, hA, s1, hz, l0, l1, l2, hp⟩ := hP
  have a31 := hA.1.2.2.2
  have c1 : Steps p.tables e below (s₁.setTop (entryFrame m #[.ref a, .ref b, .int (Int32.ofNat o), .int (Int32.ofNat len), .null] 6)) (s₁.setTop (mkF m 0 #[.val (.ref a), .val (.ref b), .val (.int (Int32.ofNat o)), .val (.int (Int32.ofNat len)), .val .null, .unset] [])) := entry rfl
  have c2 : Steps p.tables e below (s₁.setTop (entryFrame m #[.ref a, .ref b, .int (Int32.ofNat o), .int (Int32.ofNat len), .null] 6)) (s₁.setTop (mkF m 1 #[.val (.ref a), .val (.ref b), .val (.int (Int32.ofNat o)), .val (.int (Int32.ofNat len)), .val .null, .unset] [.ref a])) := c1.trans (by
    refine XS.aloadN X0.here hexec rfl (hb hbytes d0) rfl rfl ?_
    exact Steps.refl _)
  obtain ⟨T3, X3, q3, st3⟩ := X0.oinit hexec hown (wks W (objW "java/lang/String" 1)) (g := (mkF m 1 #[.val (.ref a), .val (.ref b), .val (.int (Int32.ofNat o)), .val (.int (Int32.ofNat len)), .val .null, .unset] [.ref a])) rfl (by rw [hml]; rfl) (rest := []) rfl (hb hbytes d1) (W := 0) (by show 2 * 0 + 0 ≤ _; decide) (Nat.le_of_ble_eq_true rfl) (Nat.le_of_ble_eq_true rfl)
  have hh3 := q3.trans hh0
  have c4 : Steps p.tables e below (s₁.setTop (entryFrame m #[.ref a, .ref b, .int (Int32.ofNat o), .int (Int32.ofNat len), .null] 6)) (T3.setTop (mkF m 27 #[.val (.ref a), .val (.ref b), .val (.int (Int32.ofNat o)), .val (.int (Int32.ofNat len)), .val .null, .unset] [])) := (c2.trans (st3 _ (Steps.refl _))).trans (by
    refine XS.iloadN X3.here hexec rfl (hb hbytes d4) rfl ?_
    refine XS.ifYes X3.here hexec rfl (pc0 := 5) rfl (hb hbytes d5) rfl (i0_ne_t (nz32 (by omega) l0)) (by decide) rfl ?_
    exact Steps.refl _)
  obtain ⟨T5, X5, q5, st5⟩ := X3.sget hexec hown (wk W (.fieldLink "java/lang/String" 38 "java/lang/String" "COMPACT_STRINGS" "Z")) s1 (fun _ _ h => by rw [hh3]; exact h) (g := (mkF m 27 #[.val (.ref a), .val (.ref b), .val (.int (Int32.ofNat o)), .val (.int (Int32.ofNat len)), .val .null, .unset] [])) rfl (hb hbytes d27)
  have hh5 := q5.trans hh3
  have c6 : Steps p.tables e below (s₁.setTop (entryFrame m #[.ref a, .ref b, .int (Int32.ofNat o), .int (Int32.ofNat len), .null] 6)) (T5.setTop (mkF m 30 #[.val (.ref a), .val (.ref b), .val (.int (Int32.ofNat o)), .val (.int (Int32.ofNat len)), .val .null, .unset] [.int z])) := c4.trans (st5 _ (Steps.refl _))
  have c7 : Steps p.tables e below (s₁.setTop (entryFrame m #[.ref a, .ref b, .int (Int32.ofNat o), .int (Int32.ofNat len), .null] 6)) (T5.setTop (mkF m 36 #[.val (.ref a), .val (.ref b), .val (.int (Int32.ofNat o)), .val (.int (Int32.ofNat len)), .val .null, .unset] [.int (Int32.ofNat len), .int (Int32.ofNat o), .ref b])) := c6.trans (by
    refine XS.ifNo X5.here hexec rfl (hb hbytes d30) rfl (i0_eq_f hz) ?_
    refine XS.aloadN X5.here hexec rfl (hb hbytes d33) rfl rfl ?_
    refine XS.iloadN X5.here hexec rfl (hb hbytes d34) rfl ?_
    refine XS.iloadN X5.here hexec rfl (hb hbytes d35) rfl ?_
    exact Steps.refl _)
  obtain ⟨v8, T8, X8, E8, g8⟩ := X5.callS hexec (Cmp3.law l b A o len) hown (wks W (staticW "java/lang/String" 177 Cmp3.yN)) (wk W Cmp3.tab) (W := 0) (Nat.le_of_ble_eq_true rfl) (Nat.le_of_ble_eq_true rfl) (Nat.le_refl _) (by show 0 + len ≤ len; omega) (g := (mkF m 36 #[.val (.ref a), .val (.ref b), .val (.int (Int32.ofNat o)), .val (.int (Int32.ofNat len)), .val .null, .unset] [.int (Int32.ofNat len), .int (Int32.ofNat o), .ref b])) rfl (by rw [hml]; rfl) c7 (argsL := [.ref b, .int (Int32.ofNat o), .int (Int32.ofNat len)]) (rest := []) rfl rfl (by show 2 * 0 + 0 ≤ _; decide) (hb hbytes d36) (⟨rfl, hA.mv X5.warmed.alike hh5, l1, l2, hp⟩)
  obtain ⟨e8, z8⟩ := E8
  obtain ⟨rfl, N, n1, n2, n3, n4, n5, n6⟩ := NewArr.mv _ T5 s _ _ hh5.symm (Vm.Alike.refl _) rfl e8
  rw [hh5] at z8
  have hB1 := hB.keep X8.warmed.alike (n6 _ _ hB.1)
  have hne : s.heap.size ≠ a := (Nat.ne_of_lt (Array.getElem?_eq_some_iff.mp hB.1).1).symm
  have c9 : Steps p.tables e below (s₁.setTop (entryFrame m #[.ref a, .ref b, .int (Int32.ofNat o), .int (Int32.ofNat len), .null] 6)) (T8.setTop (mkF m 39 #[.val (.ref a), .val (.ref b), .val (.int (Int32.ofNat o)), .val (.int (Int32.ofNat len)), .val .null, .unset] [.ref s.heap.size])) := g8
  have c10 : Steps p.tables e below (s₁.setTop (entryFrame m #[.ref a, .ref b, .int (Int32.ofNat o), .int (Int32.ofNat len), .null] 6)) (T8.setTop (mkF m 45 #[.val (.ref a), .val (.ref b), .val (.int (Int32.ofNat o)), .val (.int (Int32.ofNat len)), .val .null, .val (.ref s.heap.size)] [.int (Int32.ofNat N.slots.size), .ref s.heap.size, .ref a])) := by
    have hc : Steps p.tables e below (s₁.setTop (entryFrame m #[.ref a, .ref b, .int (Int32.ofNat o), .int (Int32.ofNat len), .null] 6)) (T8.setTop (mkF m 45 #[.val (.ref a), .val (.ref b), .val (.int (Int32.ofNat o)), .val (.int (Int32.ofNat len)), .val .null, .val (.ref s.heap.size)] [.int (Int32.ofNat len), .ref s.heap.size, .ref a])) := c9.trans (by
      refine XS.astore X8.here hexec rfl (hb hbytes d39) rfl rfl rfl ?_
      refine XS.aloadN X8.here hexec rfl (hb hbytes d41) rfl rfl ?_
      refine XS.aload X8.here hexec rfl (hb hbytes d42) rfl rfl ?_
      refine XS.iloadN X8.here hexec rfl (hb hbytes d44) rfl ?_
      exact Steps.refl _)
    rw [n4]; exact hc
  obtain ⟨v11, T11, X11, E11, g11⟩ := X8.callS hexec (CodL.law l s.heap.size N) hown (wks W (staticW "java/lang/String" 47 CodL.yN)) (wk W CodL.tab) (W := 1) (Nat.le_of_ble_eq_true rfl) (Nat.le_of_ble_eq_true rfl) (Nat.le_refl _) (by show 0 + len + 0 ≤ len; omega) (g := (mkF m 45 #[.val (.ref a), .val (.ref b), .val (.int (Int32.ofNat o)), .val (.int (Int32.ofNat len)), .val .null, .val (.ref s.heap.size)] [.int (Int32.ofNat N.slots.size), .ref s.heap.size, .ref a])) rfl (by rw [hml]; rfl) c10 (argsL := [.ref s.heap.size, .int (Int32.ofNat N.slots.size)]) (rest := [.ref a]) rfl rfl (by show 2 * 0 + (1 + 0) ≤ _; decide) (hb hbytes d45) (⟨rfl, n1⟩)
  obtain ⟨rfl, q11⟩ := E11
  have hB11 := hB1.mv (X8.warmed.alike.symm.trans X11.warmed.alike) q11
  have c12 : Steps p.tables e below (s₁.setTop (entryFrame m #[.ref a, .ref b, .int (Int32.ofNat o), .int (Int32.ofNat len), .null] 6)) (T11.setTop (mkF m 48 #[.val (.ref a), .val (.ref b), .val (.int (Int32.ofNat o)), .val (.int (Int32.ofNat len)), .val .null, .val (.ref s.heap.size)] [.int 0, .ref a])) := g11
  obtain ⟨T13, X13, p13, bl13, sl13, st13⟩ := X11.finit hexec hown (wk W (.fieldLink "java/lang/String" 15 "java/lang/String" "coder" "B")) (Or.inr ⟨_, (wk W (.laysFinal "java/lang/String" "java/lang/String" "coder" "B"))⟩) (Or.inl ⟨rfl, hnm⟩) f2 (Or.inl rfl) hB11 (t := .byte) (by decide +kernel) rfl (g := (mkF m 48 #[.val (.ref a), .val (.ref b), .val (.int (Int32.ofNat o)), .val (.int (Int32.ofNat len)), .val .null, .val (.ref s.heap.size)] [.int 0, .ref a])) rfl (rest := []) rfl (hb hbytes d48)
  have c14 : Steps p.tables e below (s₁.setTop (entryFrame m #[.ref a, .ref b, .int (Int32.ofNat o), .int (Int32.ofNat len), .null] 6)) (T13.setTop (mkF m 54 #[.val (.ref a), .val (.ref b), .val (.int (Int32.ofNat o)), .val (.int (Int32.ofNat len)), .val .null, .val (.ref s.heap.size)] [.ref s.heap.size, .ref a])) := (c12.trans (st13 _ (Steps.refl _))).trans (by
    refine XS.aloadN X13.here hexec rfl (hb hbytes d51) rfl rfl ?_
    refine XS.aload X13.here hexec rfl (hb hbytes d52) rfl rfl ?_
    exact Steps.refl _)
  obtain ⟨T15, X15, p15, bl15, sl15, st15⟩ := X13.finit hexec hown (wk W (.fieldLink "java/lang/String" 9 "java/lang/String" "value" "[B")) (Or.inr ⟨_, (wk W (.laysFinal "java/lang/String" "java/lang/String" "value" "[B"))⟩) (Or.inl ⟨rfl, hnm⟩) f1 (Or.inl rfl) bl13 (t := (.array .byte)) (by decide +kernel) rfl (g := (mkF m 54 #[.val (.ref a), .val (.ref b), .val (.int (Int32.ofNat o)), .val (.int (Int32.ofNat len)), .val .null, .val (.ref s.heap.size)] [.ref s.heap.size, .ref a])) rfl (rest := []) rfl (hb hbytes d54)
  have c16 : Steps p.tables e below (s₁.setTop (entryFrame m #[.ref a, .ref b, .int (Int32.ofNat o), .int (Int32.ofNat len), .null] 6)) (T15.setTop (mkF m 57 #[.val (.ref a), .val (.ref b), .val (.int (Int32.ofNat o)), .val (.int (Int32.ofNat len)), .val .null, .val (.ref s.heap.size)] [])) := c14.trans (st15 _ (Steps.refl _))
  have ap := apart (Or.inr ⟨_, (wk W (.laysFinal "java/lang/String" "java/lang/String" "value" "[B"))⟩) (Or.inr ⟨_, (wk W (.laysFinal "java/lang/String" "java/lang/String" "coder" "B"))⟩) f1 f2 (t₁ := .array .byte) (t₂ := .byte) (by decide +kernel) (by decide +kernel) (by decide)
  have al := X8.warmed.alike.symm.trans X15.warmed.alike
  have n7 : T11.heap[s.heap.size]? = some N := by rw [q11]; exact n1.1
  exact ⟨T15, none, _, _, _, X15, by simp, rfl, by omega, (fun _ => rfl), ⟨rfl, _, N, bl15, ((Same.refl D _).set _ (by simp)).set _ (by simp), sl15, (Cell.slots_setSlot_ne _ ap).trans sl13, n1.keep al (p15.other hne (p13.other hne n7)), n2, by rw [al.findClass]; exact n3, n4, n5, fun y c h1 h2 => p15.other h1 (p13.other h1 (by rw [q11]; exact n6 y c h2)), by rw [p15.2.2, p13.2.2, q11]; exact z8⟩, fun fs hl => c16.trans (X15.returnOut hexec hret (hb hbytes d57) hl)⟩
end New4
namespace New1
def yN : MethodName := ⟨"java/lang/String", "<init>", "([C)V"⟩
abbrev yB : ByteArray := jdk_42_method_3_code
theorem d0 : decode yB 0 = .ok (.aload_n 0, 1) := by decide +kernel
theorem d1 : decode yB 1 = .ok (.aload_n 1, 1) := by decide +kernel
theorem d2 : decode yB 2 = .ok (.iconst 0, 1) := by decide +kernel
theorem d3 : decode yB 3 = .ok (.aload_n 1, 1) := by decide +kernel
theorem d4 : decode yB 4 = .ok (.arraylength, 1) := by decide +kernel
theorem d5 : decode yB 5 = .ok (.aconst_null, 1) := by decide +kernel
theorem d6 : decode yB 6 = .ok (.invokespecial 27, 3) := by decide +kernel
theorem d9 : decode yB 9 = .ok (.return_, 1) := by decide +kernel
def site : List Cond := [New4.tab] ++ initW "java/lang/String" 27 New4.yN
def tab : Cond := tabOf yN yB 2 none site
def P (a : Addr) (D : Cell) (fV fC : Field) (b : Addr) (A : Cell) (z : Int32) (args : Array Value) (s : State) : Prop := args = #[.ref a, .ref b] ∧ Blank "java/lang/String" a D s ∧ Found "java/lang/String" "value" "[B" fV s ∧ Found "java/lang/String" "coder" "B" fC s ∧ Ch b A s ∧ StaticIs s "java/lang/String" "COMPACT_STRINGS" "Z" (.int z) ∧ ¬ z = 0 ∧ 0 < A.slots.size ∧ A.slots.size ≤ 536870912 ∧ ∀ i, i < A.slots.size → ¬ 255 < cv A i
def E (a : Addr) (D : Cell) (fV fC : Field) (A : Cell) (r : Option Value) (s u : State) : Prop := Got a D fV fC A 0 A.slots.size r s u
/-- new String(chars), not empty, no char above 255: a Latin-1 String of their low bytes -/
theorem law (l : Launch) (a : Addr) (D : Cell) (fV fC : Field) (b : Addr) (A : Cell) (z : Int32) : Law l yN 2 1 3 52 yB 2 none site (P a D fV fC b A z) (E a D fV fC A) [⟨a, fC.slot⟩, ⟨a, fV.slot⟩] 1 A.slots.size := by
  refine Law.of_walk (plainFor_of_name (by decide +kernel)) (by decide +kernel) (by decide +kernel) (by decide) (fun _ _ h => by rw [h.1]; rfl) (fun _ U U' hal hh h => ⟨h.1, h.2.1.mv hal hh, h.2.2.1.al hal, h.2.2.2.1.al hal, h.2.2.2.2.1.mv hal hh, h.2.2.2.2.2.1.there hal hh, h.2.2.2.2.2.2⟩) (fun r U U' V V' h1 hal h2 h => Got.mv r U U' V V' h1 hal h2 h) ?_
  intro p e s m args below meth c s₁ X0 hexec hbytes hml hret hlk hnm hown hh0 W hP
  obtain ⟨rfl, hB, f1, f2, hA, s1, hz, l0, l2, hp⟩ := hP
  have c1 : Steps p.tables e below (s₁.setTop (entryFrame m #[.ref a, .ref b] 2)) (s₁.setTop (mkF m 0 #[.val (.ref a), .val (.ref b)] [])) := entry rfl
  have c2 : Steps p.tables e below (s₁.setTop (entryFrame m #[.ref a, .ref b] 2)) (s₁.setTop (mkF m 6 #[.val (.ref a), .val (.ref b)] [.null, .int (Int32.ofNat A.slots.size), .int 0, .ref b, .ref a])) := c1.trans (by
    refine XS.aloadN X0.here hexec rfl (hb hbytes d0) rfl rfl ?_
    refine XS.aloadN X0.here hexec rfl (hb hbytes d1) rfl rfl ?_
    refine iconstV X0.here hexec rfl 0 (hb hbytes d2) (by decide) ?_
    refine XS.aloadN X0.here hexec rfl (hb hbytes d3) rfl rfl ?_
    refine X0.alen hexec (hA.1.mv X0.warmed.alike hh0) rfl rfl (hb hbytes d4) ?_
    refine XS.aconstNull X0.here hexec rfl (hb hbytes d5) ?_
    exact Steps.refl _)
  obtain ⟨v3, T3, X3, E3, g3⟩ := X0.callN hexec (New4.law l a D fV fC b A z 0 A.slots.size) rfl hown (wks W (initW "java/lang/String" 27 New4.yN)) (W New4.tab (by simp only [site, List.mem_cons, List.mem_append, true_or, or_true])) (W := 0) (Nat.le_of_ble_eq_true rfl) (Nat.le_of_ble_eq_true rfl) (Nat.le_refl _) (by show 0 + A.slots.size ≤ A.slots.size; omega) (g := (mkF m 6 #[.val (.ref a), .val (.ref b)] [.null, .int (Int32.ofNat A.slots.size), .int (Int32.ofNat 0), .ref b, .ref a])) rfl (by rw [hml]; rfl) c2 (argsL := [.ref b, .int (Int32.ofNat 0), .int (Int32.ofNat A.slots.size), .null]) (rest := []) rfl rfl (by show 2 * 0 + 0 ≤ _; decide) (hb hbytes d6) (⟨rfl, hB.mv X0.warmed.alike hh0, f1.al X0.warmed.alike, f2.al X0.warmed.alike, hA.mv X0.warmed.alike hh0, s1.there X0.warmed.alike hh0, hz, l0, by omega, l2, fun i hi => by rw [Nat.zero_add]; exact hp i hi⟩)
  have e0 := Got.mv _ s₁ s _ _ hh0.symm (Vm.Alike.refl _) rfl E3
  obtain rfl := e0.1
  have c4 : Steps p.tables e below (s₁.setTop (entryFrame m #[.ref a, .ref b] 2)) (T3.setTop (mkF m 9 #[.val (.ref a), .val (.ref b)] [])) := g3
  exact ⟨T3, none, _, _, _, X3, by simp, rfl, by omega, (fun _ => rfl), e0, fun fs hl => c4.trans (X3.returnOut hexec hret (hb hbytes d9) hl)⟩
theorem pays {l : Launch} {R : Room} {p : Program} {e : Env} {below : List Frame} {s : State} {sargs : Array Value} {len W : Nat} (a : Addr) (D : Cell) (fV fC : Field) (b : Addr) (A : Cell) (z : Int32) (htab : tab.before sargs s = true) (hfr : 4 ≤ R.frames) (hlo : W + 65 ≤ R.locals) :
    Back l R p e below s sargs yN len W (fun A₁ a₁ => A₁.cells + 1 ≤ R.cells ∧ A₁.slots + A.slots.size ≤ R.slots ∧ P a D fV fC b A z a₁ A₁.U) (fun A₁ _ v₁ B₁ => E a D fV fC A v₁ A₁.U B₁.U ∧ B₁.locs = A₁.locs ++ [⟨a, fC.slot⟩, ⟨a, fV.slot⟩] ∧ B₁.cells = A₁.cells + 1 ∧ B₁.slots = A₁.slots + A.slots.size) :=
  (law l a D fV fC b A z).pays htab hfr (by omega)
end New1
end StrChars
namespace StrChars.Road
open Jvm Sem ClassFile Op Lib Jvm.Stand Jvm.Free Jvm.Free.XT
open Jvm.Lib.Cold (StaticIs)
abbrev ST : String := "java/lang/String"
/-- every table word that New1's law asks, flat -/
abbrev words : List Jvm.Cond := [.code New1.yN New1.yB 2 none, .initialized ST, .methodLink ST 27 New4.yN, .instanceMethod New4.yN,
  .code New4.yN New4.yB 6 none, .fieldLink ST 38 ST "COMPACT_STRINGS" "Z", .laysFinal ST ST "value" "[B", .fieldLink ST 9 ST "value" "[B", .laysFinal ST ST "coder" "B", .fieldLink ST 15 ST "coder" "B",
  .methodLink ST 1 Lib.objectInit, .instanceMethod Lib.objectInit, .code Lib.objectInit ⟨#[0xb1]⟩ 1 none, .methodLink ST 177 Cmp3.yN, .static Cmp3.yN, .methodLink ST 47 CodL.yN, .static CodL.yN,
  .code Cmp3.yN Cmp3.yB 6 (some (.array .byte)), .initialized U16, .arrayClass .byte, .methodLink U16 115 Cmp5.yN, .static Cmp5.yN, .code Cmp5.yN Cmp5.yB 7 (some .int), .code CodL.yN CodL.yB 2 (some .byte)]
theorem tab_of {a : Array Value} {s : State} (h : ∀ w ∈ words, w.before a s = true) : New1.tab.before a s = true := by
  have h5 : Cmp5.tab.before a s = true := unparts (wk h (.code Cmp5.yN Cmp5.yB 7 (some .int))) (wks h (.initialized Cmp5.yN.cls :: Cmp5.site))
  have hc : CodL.tab.before a s = true := unparts (wk h (.code CodL.yN CodL.yB 2 (some .byte))) (wks h (.initialized CodL.yN.cls :: CodL.site))
  have q5 : ∀ w ∈ Cmp5.tab :: words, w.before a s = true := fun w hw => (List.mem_cons.mp hw).elim (fun e => e ▸ h5) (h w)
  have h3 : Cmp3.tab.before a s = true := unparts (wk q5 (.code Cmp3.yN Cmp3.yB 6 (some (.array .byte)))) (wks q5 (.initialized Cmp3.yN.cls :: Cmp3.site))
  have q3 : ∀ w ∈ Cmp3.tab :: CodL.tab :: words, w.before a s = true := fun w hw => (List.mem_cons.mp hw).elim (fun e => e ▸ h3) fun hw => (List.mem_cons.mp hw).elim (fun e => e ▸ hc) (h w)
  have h4 : New4.tab.before a s = true := unparts (wk q3 (.code New4.yN New4.yB 6 none)) (wks q3 (.initialized New4.yN.cls :: New4.site))
  have q4 : ∀ w ∈ New4.tab :: words, w.before a s = true := fun w hw => (List.mem_cons.mp hw).elim (fun e => e ▸ h4) (h w)
  exact unparts (wk q4 (.code New1.yN New1.yB 2 none)) (wks q4 (.initialized New1.yN.cls :: New1.site))
/-- the words ride from the start Z to the walk's own state -/
theorem moved {Z s : State} {a0 args : Array Value} (hZ : Z.Warmed39 s.vm) (hw : ∀ d ∈ words, d.before a0 Z = true) : ∀ d ∈ words, d.before args s = true := fun d hd => by
  have q := hw d hd
  have t : ∀ d ∈ words, d = .arrayClass .byte ∨ (d.onTables && d.keepsFace) = true := by decide +kernel
  rcases t d hd with rfl | t
  · exact RoadKit.mvA hZ q
  · exact RoadKit.mv hZ q t
/-- WHAT COMES BACK, over the tables of the start Z: h the heap at the call, h' behind it -/
def Q (Z : State) (x : Addr) (A : Cell) (h : Heap) (v : Option Value) (h' : Heap) (L : List Loc) : Prop := v = none ∧ (∀ y ∈ L, y.base = x) ∧ RoadKit.Keep h h' [x] ∧ h'.size = h.size + 1 ∧ RoadKit.Exa Z h' x ST ∧ RoadKit.Fld Z h' x ST "value" "[B" (.ref h.size) ∧ RoadKit.Fld Z h' x ST "coder" "B" (.int 0) ∧
  (∃ V : Cell, RoadKit.Arr Z h' h.size V .byte ∧ V.vm = .none ∧ Z.vm.findClass "[B" = some V.cls ∧ V.slots.size = A.slots.size ∧ ∀ j, j < A.slots.size → V.slots[j]? = some (.int (lo8 (cv A j)))) ∧
  ∀ (O n d : String) (w : Value), RoadKit.Fld Z h x O n d w → RoadKit.slotOf Z O n d ≠ RoadKit.slotOf Z ST "value" "[B" → RoadKit.slotOf Z O n d ≠ RoadKit.slotOf Z ST "coder" "B" → RoadKit.Fld Z h' x O n d w
/-- **new String(chars) AT A CALL, IN THE ROAD'S FORM**: for specialBack behind newO: x the fresh String, b the char[] with the cell A -/
theorem back {p : Program} {l : Launch} {e : Env} {R : Room} {s : State} {args : Array Value} {below : List Frame} {len W : Nat} {Z : State} {a0 : Array Value} {h : Heap} (hZ : Z.Warmed39 s.vm) (hw : ∀ d ∈ words, d.before a0 Z = true) {kI : Nat} (wi : (Jvm.Cond.instantiable ST kI).before a0 Z = true)
    {x b : Addr} {A : Cell} {z : Int32} {v0 c0 : Value} (E : RoadKit.Exa Z h x ST) (V : RoadKit.Fld Z h x ST "value" "[B" v0) (C : RoadKit.Fld Z h x ST "coder" "B" c0) (K : RoadKit.Arr Z h b A .char) (hty : Typed .char A) (S : RoadKit.Sta Z h ST "COMPACT_STRINGS" "Z" (.int z)) (hz : ¬ z = 0)
    (l0 : 0 < A.slots.size) (l2 : A.slots.size ≤ 536870912) (hp : ∀ i, i < A.slots.size → ¬ 255 < cv A i) (hfr : 4 ≤ R.frames) (hlo : W + 65 ≤ R.locals) :
    Back l R p e below s args New1.yN len W (fun P a => a = #[.ref x, .ref b] ∧ P.U.heap = h ∧ P.cells + 1 ≤ R.cells ∧ P.slots + A.slots.size ≤ R.slots)
      (fun P _ v B => ∃ L, Q Z x A h v B.U.heap L ∧ B.locs = P.locs ++ L ∧ B.cells = P.cells + 1 ∧ B.slots = P.slots + A.slots.size) := by
  intro m meth c P g ig mk a X hg hsize hdg hW hn hp'
  obtain ⟨rfl, rfl, r1, r2⟩ := hp'
  have al : Z.vm.Alike P.U.vm := hZ.alike.trans X.warmed.alike
  obtain ⟨D, cfV, kV, iV, fV, hD, gV, stV, knV, obV, asV, slV⟩ := id V
  obtain ⟨D', cfC, kC, iC, fC, hD', gC, stC, -, -, asC, slC⟩ := id C
  cases hD.symm.trans hD'
  obtain ⟨D2, kD, e1, e2, e3, e4, e5⟩ := id E
  cases hD.symm.trans e1
  obtain ⟨c2, k2, i1, i2, i3, -⟩ := Cond.instantiable_spec wi
  cases e2.symm.trans i1
  cases e3.symm.trans i2
  obtain ⟨kU, u1, u2⟩ := al.2.2 _ _ e3
  have hB : Blank ST x D P.U := ⟨hD, ⟨knV, fun q hq => by rw [hq] at obV; cases obV⟩, by rw [al.findClass]; exact e2, kU, u1, by rw [u2]; exact i3, by rw [u2]; exact e5 i3⟩
  have F1 : Found ST "value" "[B" fV P.U := ⟨SBG.found_only al ⟨cfV, kV, iV, gV⟩, stV⟩
  have F2 : Found ST "coder" "B" fC P.U := ⟨SBG.found_only al ⟨cfC, kC, iC, gC⟩, stC⟩
  have hA : Ch b A P.U := ⟨⟨K.1, State.isArrayOf_alike al K.2.1, K.2.2, by omega⟩, hty⟩
  have hS : StaticIs P.U ST "COMPACT_STRINGS" "Z" (.int z) := by
    obtain ⟨cfS, iS, kS, fS, st, cS, t1, t2, t3, t4, t5, t6, t7⟩ := S
    exact StaticIs.there (s := { Z with heap := P.U.heap }) ⟨cfS, iS, kS, fS, st, cS, t1, t2, t3, t4, t5, (fun q => by rw [q] at t6; cases t6), t7⟩ al rfl
  obtain ⟨v, B, X', ⟨⟨hv, E', V', q1, q2, q3, q4, q5, q6, q7, q8, q9, q10, q11⟩, hl, hc, hs⟩, st⟩ := New1.pays x D fV fC b A z (tab_of (moved hZ hw)) hfr hlo m meth c P g ig mk _ X hg hsize hdg hW hn ⟨r1, r2, rfl, hB, F1, F2, hA, hS, hz, l0, l2, hp⟩
  have al' : Z.vm.Alike B.U.vm := hZ.alike.trans X'.warmed.alike
  have hsz : E'.slots.size = D.slots.size := by
    obtain ⟨-, -, -, kB, w1, w2, w3⟩ := q1
    obtain ⟨kB', y1, y2⟩ := al'.2.2 _ _ e3
    rw [q2.2.1] at w1
    cases w1.symm.trans y1
    rw [w3, e5 i3, y2]
  refine ⟨v, B, X', ⟨_, ⟨hv, ?_, ⟨by omega, fun y cy hy hn' => q10 y cy (by simpa using hn') hy, fun y cy hy => ?_⟩, q11, ⟨E', _, q1.1, by rw [q2.2.1]; exact e2, by rw [q2.2.1]; exact e3, by rw [q2.1]; exact obV, fun _ => by rw [hsz]; exact e5 i3⟩,
    ⟨E', cfV, kV, iV, fV, q1.1, gV, stV, by rw [q2.1]; exact knV, by rw [q2.1]; exact obV, by rw [q2.2.1]; exact asV, q3⟩, ⟨E', cfC, kC, iC, fC, q1.1, gC, stC, by rw [q2.1]; exact knV, by rw [q2.1]; exact obV, by rw [q2.2.1]; exact asC, q4⟩,
    ⟨V', ⟨q5.1, State.isArrayOf_alike al'.symm q5.2.1, q5.2.2.1⟩, q6, by rw [← al'.findClass]; exact q7, q8, fun j hj => by have := q9 j hj; rwa [Nat.zero_add] at this⟩, fun O n d w F n1 n2 => ?_⟩, hl, hc, hs⟩, st⟩
  · intro y hy
    simp only [List.mem_cons, List.not_mem_nil, or_false] at hy
    rcases hy with rfl | rfl <;> rfl
  · by_cases q : y = x
    · subst q
      cases hD.symm.trans hy
      exact ⟨E', q1.1, q2.2.1, q2.1, hsz⟩
    · exact ⟨cy, q10 y cy q hy, rfl, rfl, rfl⟩
  · obtain ⟨D3, cf, k, i, f, g1, g2, g3, g4, g5, g6, g7⟩ := F
    cases hD.symm.trans g1
    simp only [RoadKit.slotOf, g2, gV, gC, Option.map_some, Option.getD_some] at n1 n2
    exact ⟨E', cf, k, i, f, q1.1, g2, g3, by rw [q2.1]; exact g4, by rw [q2.1]; exact g5, by rw [q2.2.1]; exact g6, by rw [q2.2.2 f.slot (by simp [n1, n2])]; exact g7⟩
end StrChars.Road
namespace StrChars.Road
open Jvm Sem ClassFile Op Lib Jvm.Stand Jvm.Free Jvm.Free.XT
/-- WHAT COMES BACK, the byte[] as a list of values -/
def QA (Z : State) (x : Addr) (zn : Int32) (cs : List Int32) (h : Heap) (v : Option Value) (h' : Heap) (L : List Loc) : Prop := v = none ∧ (∀ y ∈ L, y.base = x) ∧ RoadKit.Keep h h' [x] ∧ h'.size = h.size + 1 ∧ RoadKit.Exa Z h' x ST ∧ RoadKit.Fld Z h' x ST "value" "[B" (.ref h.size) ∧ RoadKit.Fld Z h' x ST "coder" "B" (.int 0) ∧
  (∃ kb, Z.vm.findClass "[B" = some kb ∧ RoadKit.Arv Z h' h.size kb .byte zn (cs.map fun c => .int (lo8 c)) (.int 0)) ∧
  ∀ (O n d : String) (w : Value), RoadKit.Fld Z h x O n d w → RoadKit.slotOf Z O n d ≠ RoadKit.slotOf Z ST "value" "[B" → RoadKit.slotOf Z O n d ≠ RoadKit.slotOf Z ST "coder" "B" → RoadKit.Fld Z h' x O n d w
/-- **new String(chars) AT A CALL, THE ARRAYS AS LISTS**: the char[] at b holds cs, not empty, no char above 255 -/
theorem backArv {p : Program} {l : Launch} {e : Env} {R : Room} {s : State} {args : Array Value} {below : List Frame} {len W : Nat} {Z : State} {a0 : Array Value} {h : Heap} (hZ : Z.Warmed39 s.vm) (hw : ∀ d ∈ words, d.before a0 Z = true) {kI : Nat} (wi : (Jvm.Cond.instantiable ST kI).before a0 Z = true)
    {x b : Addr} {k : ClassId} {zn z : Int32} {cs : List Int32} {dv v0 c0 : Value} (E : RoadKit.Exa Z h x ST) (V : RoadKit.Fld Z h x ST "value" "[B" v0) (C : RoadKit.Fld Z h x ST "coder" "B" c0) (K : RoadKit.Arv Z h b k .char zn (cs.map Value.int) dv) (S : RoadKit.Sta Z h ST "COMPACT_STRINGS" "Z" (.int z)) (hz : ¬ z = 0)
    (hlen : zn.toNatClampNeg = cs.length) (h0 : 0 < cs.length) (hbig : cs.length ≤ 536870912) (hall : ∀ c ∈ cs, ¬ 255 < c) (hfr : 4 ≤ R.frames) (hlo : W + 65 ≤ R.locals) :
    Back l R p e below s args New1.yN len W (fun P a => a = #[.ref x, .ref b] ∧ P.U.heap = h ∧ P.cells + 1 ≤ R.cells ∧ P.slots + cs.length ≤ R.slots)
      (fun P _ v B => ∃ L, QA Z x zn cs h v B.U.heap L ∧ B.locs = P.locs ++ L ∧ B.cells = P.cells + 1 ∧ B.slots = P.slots + cs.length) := by
  obtain ⟨A, K1, K2, K3, K4, K5, K6⟩ := K
  have e : A.slots.size = cs.length := K3.trans hlen
  have hat : ∀ (i : Nat) (hi : i < cs.length), A.slots[i]? = some (.int cs[i]) := fun i hi => by rw [K5 i (by omega)]; simp [List.getD_eq_getElem?_getD, hi]
  have hcv : ∀ (i : Nat) (hi : i < cs.length), cv A i = cs[i] := fun i hi => by unfold cv; rw [hat i hi]
  have hty : Typed .char A := fun i v hv => by
    have hi : i < A.slots.size := (Array.getElem?_eq_some_iff.mp hv).1
    have q := K5 i hi
    rw [hv] at q
    rw [Option.some.inj q]
    exact K6 i hi
  refine Back.mono (back hZ hw wi E V C K1 hty S hz (by omega) (by omega) (fun i hi => by rw [hcv i (by omega)]; exact hall _ (List.getElem_mem _)) hfr hlo) (fun P a hp => ⟨hp.1, hp.2.1, hp.2.2.1, by rw [e]; exact hp.2.2.2⟩) (fun P a v B hp hq => ?_)
  obtain ⟨L, ⟨q1, q2, q3, q4, q5, q6, q7, ⟨V', v1, v2, v3, v4, v5⟩, q9⟩, hl, hc, hs⟩ := hq
  refine ⟨L, ⟨q1, q2, q3, q4, q5, q6, q7, ⟨V'.cls, v3, V', v1, rfl, by rw [v4, e, hlen], K4, fun i hi => ?_, fun i hi => ?_⟩, q9⟩, hl, hc, by rw [hs, e]⟩
  · have hi' : i < cs.length := by omega
    rw [v5 i (by omega), hcv i hi']; simp [List.getD_eq_getElem?_getD, hi']
  · have hi' : i < cs.length := by omega
    simp only [List.getD_eq_getElem?_getD, List.getElem?_map, List.getElem?_eq_getElem hi', Option.map_some, Option.getD_some]
    exact fits_lo8 _
end StrChars.Road
namespace StrChars.Road
open Jvm Sem ClassFile Op Lib Jvm.Stand Jvm.Free Jvm.Free.XT
/-- WHAT COMES BACK, in the writer's own shape -/
def QV (Z : State) (x : Addr) (N : Int32) (bs : List Int32) (h : Heap) (n0 : Nat) (v : Option Value) (h' : Heap) (L : List Loc) : Prop := v = none ∧ RoadKit.Fr n0 L ∧ RoadKit.Keep h h' [x] ∧ RoadKit.Exa Z h' x ST ∧ RoadKit.Fld Z h' x ST "coder" "B" (.int 0) ∧
  ∃ (t : Addr) (kb : ClassId), n0 ≤ t ∧ h.size ≤ t ∧ ¬ t = x ∧ RoadKit.Fld Z h' x ST "value" "[B" (.ref t) ∧ RoadKit.Arv Z h' t kb .byte N (bs.map Value.int) (.int 0)
/-- **new String(chars) AT A CALL, FOR THE WRITER**: a char[] of n known ints, each 0 to 255 -/
theorem backV {p : Program} {l : Launch} {e : Env} {R : Room} {s : State} {args : Array Value} {below : List Frame} {len W : Nat} {Z : State} {a0 : Array Value} {h : Heap} (hZ : Z.Warmed39 s.vm) (hw : ∀ d ∈ words, d.before a0 Z = true) {kI : Nat} (wi : (Jvm.Cond.instantiable ST kI).before a0 Z = true)
    {x b : Addr} {kC : ClassId} {cs bs : List Int32} {d v0 c0 : Value} {z N : Int32} {n n0 : Nat} (hx0 : n0 ≤ x) (hh0 : n0 ≤ h.size) (E : RoadKit.Exa Z h x ST) (V : RoadKit.Fld Z h x ST "value" "[B" v0) (C : RoadKit.Fld Z h x ST "coder" "B" c0) (K : RoadKit.Arv Z h b kC .char N (cs.map Value.int) d) (S : RoadKit.Sta Z h ST "COMPACT_STRINGS" "Z" (.int z)) (hz : ¬ z = 0)
    (hn : cs.length = n) (hN : N = Int32.ofNat n) (l0 : 0 < n) (l2 : n ≤ 4000) (hp : ∀ c ∈ cs, ¬ c < 0 ∧ ¬ (255 : Int32) < c) (hb : bs = cs.map (fun c => c.toInt8.toInt32)) (hfr : 4 ≤ R.frames) (hlo : W + 65 ≤ R.locals) :
    Back l R p e below s args (⟨"java/lang/String", "<init>", "([C)V"⟩ : MethodName) len W (fun P a => a = #[.ref x, .ref b] ∧ P.U.heap = h ∧ P.cells + 1 ≤ R.cells ∧ P.slots + n ≤ R.slots)
      (fun P _ v B => ∃ L, QV Z x N bs h n0 v B.U.heap L ∧ B.locs = P.locs ++ L ∧ B.cells = P.cells + 1 ∧ B.slots = P.slots + n) := by
  subst hn hN hb
  refine Back.mono (backArv hZ hw wi E V C K S hz (n32 (by omega)) l0 (by omega) (fun c hc => (hp c hc).2) hfr hlo) (fun P a hp => hp) (fun P a v B hp hq => ?_)
  obtain ⟨L, ⟨q1, q2, q3, q4, q5, q6, q7, ⟨kb, v1, v2⟩, q9⟩, hl, hc, hs⟩ := hq
  exact ⟨L, ⟨q1, fun y hy => by rw [q2 y hy]; exact hx0, q3, q5, q7, h.size, kb, hh0, Nat.le_refl _, Nat.ne_of_gt E.lt, q6, by rw [List.map_map]; exact v2⟩, hl, hc, hs⟩
end StrChars.Road
end Jvm.Pilot.@@N@@
namespace Jvm.Pilot.@@N@@
open Jvm Jvm.ClassFile Sem Op Lib Jvm.Free Jvm.Stand Jvm.LawKit Jvm.RoadKit Bundle Jvm.Pilot.@@N@@.Jvm.D
section OwnKit
variable {p : Program} {l : Launch} {e : Env} {R : Room} {s : State} {m : MethodId} {args : Array Value} {below : List Frame} {meth : Method} {c : Code} {T : State} {locs : List Loc} {cells slots : Nat}
/-- from the state A the body runs to its end and leaves what Q says -/
def own_Go (p : Program) (e : Env) (below : List Frame) (s : State) (Q : Option Value → Heap → List Loc → Prop) (kc ks : Nat) (A : State) : Prop :=
  ∃ s₂ o, Steps p.tables e below A s₂ ∧ s₂.status = .running ∧ Ended s₂ below o ∧ ∃ v L, o = .returned v ∧ Q v s₂.heap L ∧ FrameEnd s o s₂ L kc ks
theorem own_go {Q : Option Value → Heap → List Loc → Prop} {kc ks : Nat} {A B : State} (h : ∀ t, Steps p.tables e below B t → Steps p.tables e below A t) (k : own_Go p e below s Q kc ks B) : own_Go p e below s Q kc ks A := by
  obtain ⟨s₂, o, h1, h2⟩ := k
  exact ⟨s₂, o, h _ h1, h2⟩
/-- from the state A the body runs to the frame g', the heap as it was -/
def own_Arm (p : Program) (l : Launch) (e : Env) (R : Room) (s : State) (m : MethodId) (args : Array Value) (below : List Frame) (meth : Method) (c : Code) (cells slots n0 : Nat) (h : Heap) (g' : JFrame) (A : State) : Prop :=
  ∃ (T' : State) (locs' : List Loc), Stand p l e R s m args below meth c T' locs' cells slots ∧ Fr n0 locs' ∧ T'.heap = h ∧ ∀ t, Steps p.tables e below (T'.setTop g') t → Steps p.tables e below A t
theorem own_arm {n0 : Nat} {h : Heap} {g' : JFrame} {A B : State} (k1 : ∀ t, Steps p.tables e below B t → Steps p.tables e below A t) (k : own_Arm p l e R s m args below meth c cells slots n0 h g' B) : own_Arm p l e R s m args below meth c cells slots n0 h g' A := by
  obtain ⟨T', locs', h1, h2, h3, h4⟩ := k
  exact ⟨T', locs', h1, h2, h3, fun t kt => k1 t (h4 t kt)⟩
theorem own_armEnd {n0 : Nat} {h : Heap} {g g' : JFrame} (X : Stand p l e R s m args below meth c T locs cells slots) (N : Fr n0 locs) (eT : T.heap = h) (q : g' = g) : own_Arm p l e R s m args below meth c cells slots n0 h g' (T.setTop g) :=
  ⟨T, locs, X, N, eT, fun t kt => q ▸ kt⟩
theorem own_mrg {n0 : Nat} {h : Heap} {g g' : JFrame} (X : Stand p l e R s m args below meth c T locs cells slots) (k : own_Arm p l e R s m args below meth c cells slots n0 h g' (T.setTop g)) :
    ∃ (T' : State) (locs' : List Loc), Stand p l e R s m args below meth c T' locs' cells slots ∧ Fr n0 locs' ∧ T'.heap = h ∧ ∀ t, Steps p.tables e below (T'.setTop g') t → Steps p.tables e below (T.setTop g) t := k
theorem own_leave {Q : Option Value → Heap → List Loc → Prop} {kc ks : Nat} {A : State} {v : Option Value} (X : Stand p l e R s m args below meth c T locs cells slots) (hv : meth.sig.returnType = none → v = none) (hlk : meth.locks = false)
    (hc : cells ≤ kc) (hs : slots ≤ ks) (hQ : Q v T.heap locs) (k : ∀ fs, (∀ (f : JFrame) (acts : List Action), f.method = m → f.locked = none → f.entered = [] → (doReturn e (T.setTop f) acts v).1 = T.setFrames fs) → Steps p.tables e below A (T.setFrames fs)) : own_Go p e below s Q kc ks A := by
  obtain ⟨fs, hr, hrun, hended, hW, hsame⟩ := X.leave (v := v) hv hlk
  exact ⟨_, _, k fs hr, hrun, hended, _, _, rfl, hQ, ⟨_, rfl⟩, hW, hsame.mono hc hs⟩
theorem own_retI {Q : Option Value → Heap → List Loc → Prop} {kc ks pc : Nat} {Ls : Array Slot} {z : Int32} {rest : List Value} (X : Stand p l e R s m args below meth c T locs cells slots) (hx : p.tables.exec = Jvm.exec) (hret : meth.sig.returnType = some .int) (hlk : meth.locks = false)
    (hd : decode c.code pc = .ok (.ireturn, 1)) (hc : cells ≤ kc) (hs : slots ≤ ks) (hQ : Q (some (.int z)) T.heap locs) : own_Go p e below s Q kc ks (T.setTop (mkF m pc Ls (.int z :: rest))) := by
  refine own_leave X (fun h => by rw [hret] at h; cases h) hlk hc hs hQ fun fs hl => ?_
  have hm' : T.vm.method? m = some meth := X.method'
  have hn : narrow .int (.int z) = .int z := rfl
  show Steps p.tables e below (T.setTop { method := m, pc := pc, locals := Ls, stack := _ :: rest, locked := none }) _
  jvm_step X.here [X.here.top, hx, hd, hm', hret, hn]
  first | (intro acts; rw [hl _ acts rfl rfl rfl]) | rw [hl _ _ rfl rfl rfl]
  exact Steps.refl _
theorem own_retN {Q : Option Value → Heap → List Loc → Prop} {kc ks pc : Nat} {Ls : Array Slot} {z : Int32} {rest : List Value} {t : FieldType} (X : Stand p l e R s m args below meth c T locs cells slots) (hx : p.tables.exec = Jvm.exec) (hret : meth.sig.returnType = some t) (ht : t = .boolean ∨ t = .byte ∨ t = .char ∨ t = .short) (hlk : meth.locks = false)
    (hd : decode c.code pc = .ok (.ireturn, 1)) (hc : cells ≤ kc) (hs : slots ≤ ks) (hQ : Q (some (.int (nar t z))) T.heap locs) : own_Go p e below s Q kc ks (T.setTop (mkF m pc Ls (.int z :: rest))) :=
  own_leave X (fun h => by rw [hret] at h; cases h) hlk hc hs hQ fun fs hl => retN X hx (t := t) hret ht hd hl
theorem own_nar01 {z : Int32} (h : z = 0 ∨ z = 1) : nar .boolean z = z := by rcases h with rfl | rfl <;> rfl
theorem own_retZ {Q : Option Value → Heap → List Loc → Prop} {kc ks pc : Nat} {Ls : Array Slot} {z : Int32} {rest : List Value} (X : Stand p l e R s m args below meth c T locs cells slots) (hx : p.tables.exec = Jvm.exec) (hret : meth.sig.returnType = some .boolean) (hlk : meth.locks = false)
    (hd : decode c.code pc = .ok (.ireturn, 1)) (hc : cells ≤ kc) (hs : slots ≤ ks) (hz : z = 0 ∨ z = 1) (hQ : Q (some (.int z)) T.heap locs) : own_Go p e below s Q kc ks (T.setTop (mkF m pc Ls (.int z :: rest))) :=
  own_retN X hx hret (Or.inl rfl) hlk hd hc hs (by rw [own_nar01 hz]; exact hQ)
theorem own_retJ {Q : Option Value → Heap → List Loc → Prop} {kc ks pc : Nat} {Ls : Array Slot} {z : Int64} (X : Stand p l e R s m args below meth c T locs cells slots) (hx : p.tables.exec = Jvm.exec) (hret : meth.sig.returnType = some .long) (hlk : meth.locks = false)
    (hd : decode c.code pc = .ok (.lreturn, 1)) (hc : cells ≤ kc) (hs : slots ≤ ks) (hQ : Q (some (.long z)) T.heap locs) : own_Go p e below s Q kc ks (T.setTop (mkF m pc Ls [.long z])) :=
  own_leave X (fun h => by rw [hret] at h; cases h) hlk hc hs hQ fun fs hl => X.lreturnOut hx hret hd hl
theorem own_retA {Q : Option Value → Heap → List Loc → Prop} {kc ks pc : Nat} {Ls : Array Slot} {w : Value} {t : FieldType} {rest : List Value} (X : Stand p l e R s m args below meth c T locs cells slots) (hx : p.tables.exec = Jvm.exec) (hret : meth.sig.returnType = some t) (ht : t.isReference = true) (hw : w.isRef = true) (hlk : meth.locks = false)
    (hd : decode c.code pc = .ok (.areturn, 1)) (hc : cells ≤ kc) (hs : slots ≤ ks) (hQ : Q (some w) T.heap locs) : own_Go p e below s Q kc ks (T.setTop (mkF m pc Ls (w :: rest))) := by
  refine own_leave X (fun h => by rw [hret] at h; cases h) hlk hc hs hQ fun fs hl => ?_
  have hm' : T.vm.method? m = some meth := X.method'
  show Steps p.tables e below (T.setTop { method := m, pc := pc, locals := Ls, stack := _ :: rest, locked := none }) _
  rcases ref_cases hw with rfl | ⟨a, rfl⟩
  all_goals
    jvm_step X.here [X.here.top, hx, hd, hm', hret, Value.isRef, ht]
    first | (intro acts; rw [hl _ acts rfl rfl rfl]) | rw [hl _ _ rfl rfl rfl]
    exact Steps.refl _
theorem own_retV {Q : Option Value → Heap → List Loc → Prop} {kc ks pc : Nat} {Ls : Array Slot} (X : Stand p l e R s m args below meth c T locs cells slots) (hx : p.tables.exec = Jvm.exec) (hret : meth.sig.returnType = none) (hlk : meth.locks = false)
    (hd : decode c.code pc = .ok (.return_, 1)) (hc : cells ≤ kc) (hs : slots ≤ ks) (hQ : Q none T.heap locs) : own_Go p e below s Q kc ks (T.setTop (mkF m pc Ls [])) :=
  own_leave X (fun _ => rfl) hlk hc hs hQ fun fs hl => X.returnOut hx hret hd hl
theorem own_getFR {Z : State} {a0 : Array Value} {h : Heap} (X : Stand p l e R s m args below meth c T locs cells slots) (hx : p.tables.exec = Jvm.exec) (hZ : Z.Warmed39 s.vm) {own O n d : String} {index : Nat} (hown : s.vm.findClass own = some m.cls) (w : (Jvm.Cond.fieldRef own index O n d).before a0 Z = true)
    (eT : T.heap = h) {a : Addr} {v : Value} (F : Fld Z h a O n d v) {g : JFrame} (hg : g.method = m) {rest : List Value} (hs : g.stack = .ref a :: rest) (hd : decode c.code g.pc = .ok (.getfield index, 3)) (target : State) (k : Steps p.tables e below (T.setTop { g with pc := g.pc + 3, stack := v :: rest }) target) : Steps p.tables e below (T.setTop g) target := by
  obtain ⟨cell, cf, kc, i, f, h1, h2, h3, h4, -, -, h7⟩ := F
  have hW : Z.Warmed39 T.vm := wtrans hZ X.warmed
  have w2 := Cond.fieldRef_warmed39 hW w
  obtain ⟨k', hi, -⟩ := State.fieldFound?_setVm (s := Z) hW.alike h2
  have hc : (Z.setVm T.vm).vm.findClass own = some m.cls := by show T.vm.findClass own = _; rw [X.warmed.alike.findClass]; exact hown
  obtain ⟨c1, k1, i1, f1, e1, hr⟩ := Cond.fieldRef_spec hc w2
  cases hi.symm.trans e1
  exact (X.getfieldR hx hg (cF := cf) (field := f) hr h3 hs (by rw [eT]; exact h1) h4 h7 hd (Steps.refl _)).trans k
theorem own_ite01 {c : Prop} [Decidable c] {a b : Int32} (ha : a = 0 ∨ a = 1) (hb : b = 0 ∨ b = 1) : (if c then a else b) = 0 ∨ (if c then a else b) = 1 := by split <;> assumption
end OwnKit
theorem own_remI (a b : Int32) : a - a / b * b = a % b := by
  apply Int32.toInt_inj.mp
  rw [Int32.toInt_sub, Int32.toInt_mul, Int32.toInt_div, Int32.toInt_mod]
  rw [Int.bmod_mul_bmod, Int.sub_bmod_bmod]
  have e : a.toInt - a.toInt.tdiv b.toInt * b.toInt = a.toInt.tmod b.toInt := by
    have := Int.mul_tdiv_add_tmod a.toInt b.toInt
    rw [Int.mul_comm] at this
    omega
  rw [e, ← Int32.toInt_mod]
  exact Int.bmod_eq_of_le (by have := Int32.le_toInt (a % b); omega) (by have := Int32.toInt_lt (a % b); omega)
theorem own_remJ (a b : Int64) : a - a / b * b = a % b := by
  apply Int64.toInt_inj.mp
  rw [Int64.toInt_sub, Int64.toInt_mul, Int64.toInt_div, Int64.toInt_mod]
  rw [Int.bmod_mul_bmod, Int.sub_bmod_bmod]
  have e : a.toInt - a.toInt.tdiv b.toInt * b.toInt = a.toInt.tmod b.toInt := by
    have := Int.mul_tdiv_add_tmod a.toInt b.toInt
    rw [Int.mul_comm] at this
    omega
  rw [e, ← Int64.toInt_mod]
  exact Int.bmod_eq_of_le (by have := Int64.le_toInt (a % b); omega) (by have := Int64.toInt_lt (a % b); omega)
theorem own_lc_eq {a b : Int64} (h : a = b) : lcmpW a b = 0 := by subst h; simp [lcmpW]
theorem own_lc_neq {a b : Int64} (h : ¬ (a = b)) : ¬ (lcmpW a b = 0) := by unfold lcmpW; split <;> first | decide | (rw [if_neg h]; decide)
theorem own_lc_lt {a b : Int64} (h : a < b) : lcmpW a b < 0 := by
  have h1 : ¬ (a > b) := fun q => Int64.lt_irrefl (Int64.lt_trans h q)
  have h2 : ¬ (a = b) := fun q => by subst q; exact Int64.lt_irrefl h
  rw [lcmpW, if_neg h1, if_neg h2]; decide
theorem own_lc_nlt {a b : Int64} (h : ¬ (a < b)) : ¬ (lcmpW a b < 0) := by
  unfold lcmpW
  split
  · decide
  · rename_i h1
    split
    · decide
    · rename_i h2; exact absurd (Int64.le_antisymm (Int64.not_lt.mp h1) (Int64.not_lt.mp h)) h2
theorem own_lc_gt {a b : Int64} (h : b < a) : (0 : Int32) < lcmpW a b := by rw [lcmpW, if_pos h]; decide
theorem own_lc_ngt {a b : Int64} (h : ¬ (b < a)) : ¬ ((0 : Int32) < lcmpW a b) := by
  rw [lcmpW, if_neg h]; split <;> decide
theorem own_rn {w : Value} {C : String} (h : w.isRef = true) : narrow (.object C) w = w := by rcases ref_cases h with rfl | ⟨a, rfl⟩ <;> rfl
theorem own_rf {w : Value} {C : String} (h : w.isRef = true) : fits (.object C) w = true := by rcases ref_cases h with rfl | ⟨a, rfl⟩ <;> rfl
theorem own_plainE {Z : State} {h : Heap} {a : Addr} {C : String} (E : Exa Z h a C) : ∀ cell : Cell, h[a]? = some cell → cell.vm.isStatics = false := fun cell hc => by
  obtain ⟨c, k, h1, -, -, h4, -⟩ := E
  cases h1.symm.trans hc; exact h4
theorem own_staKeep {Z : State} {h h' : Heap} {C n d : String} {v : Value} {ws : List Addr} (F : Sta Z h C n d v) (K : Keep h h' ws) (q : ∀ x ∈ ws, ∀ cell : Cell, h[x]? = some cell → cell.vm.isStatics = false) : Sta Z h' C n d v := by
  obtain ⟨cf, i, k, f, st, cell, h1, h2, h3, h4, h5, h6, h7⟩ := F
  exact ⟨cf, i, k, f, st, cell, h1, h2, h3, h4, K.2.1 st cell h5 (fun hm => by rw [q st hm cell h5] at h6; cases h6), h6, h7⟩
def own_up {α : Type} (f : Nat → α) (i : Nat) (v : α) : Nat → α := fun k => if k = i then v else f k
def own_AI (Z : State) (h : Heap) (a : Addr) (ty : FieldType) (n : Nat) (f : Nat → Int32) : Prop := ∃ c : Cell, Arr Z h a c ty ∧ c.slots.size = n ∧ n < 2 ^ 31 ∧ ∀ j, j < n → c.slots[j]? = some (.int (f j))
theorem own_AI.lt {Z : State} {h : Heap} {a : Addr} {ty : FieldType} {n : Nat} {f : Nat → Int32} (F : own_AI Z h a ty n f) : a < h.size := by obtain ⟨c, A, -⟩ := F; exact A.lt
theorem own_AI.ext {Z : State} {h h' : Heap} {a : Addr} {ty : FieldType} {n : Nat} {f : Nat → Int32} (F : own_AI Z h a ty n f) (E : Ext h h') : own_AI Z h' a ty n f := by obtain ⟨c, A, r⟩ := F; exact ⟨c, A.ext E, r⟩
theorem own_AI.other {Z : State} {h h' : Heap} {a b : Addr} {ty : FieldType} {n sl : Nat} {w : Value} {f : Nat → Int32} (F : own_AI Z h a ty n f) (W : Wr h h' b sl w) (q : a ≠ b) : own_AI Z h' a ty n f := by obtain ⟨c, A, r⟩ := F; exact ⟨c, A.other W q, r⟩
theorem own_AI.keep {Z : State} {h h' : Heap} {a : Addr} {ty : FieldType} {n : Nat} {ws : List Addr} {f : Nat → Int32} (F : own_AI Z h a ty n f) (K : Keep h h' ws) (q : a ∉ ws) : own_AI Z h' a ty n f := by obtain ⟨c, A, r⟩ := F; exact ⟨c, ⟨K.2.1 a c A.1 q, A.2⟩, r⟩
theorem own_plainAI {Z : State} {h : Heap} {a : Addr} {ty : FieldType} {n : Nat} {f : Nat → Int32} (F : own_AI Z h a ty n f) : ∀ cell : Cell, h[a]? = some cell → cell.vm.isStatics = false := fun cell hc => by
  obtain ⟨c, A, -⟩ := F
  cases A.1.symm.trans hc; exact A.plain
theorem own_AI.wr {Z : State} {h h' : Heap} {a : Addr} {ty : FieldType} {n i : Nat} {x : Int32} {f : Nat → Int32} (F : own_AI Z h a ty n f) (W : Wr h h' a i (.int x)) : own_AI Z h' a ty n (own_up f i x) := by
  obtain ⟨c, A, S, B, H⟩ := F
  refine ⟨_, A.same W, by rw [sz_set]; exact S, B, fun j hj => ?_⟩
  show (c.slots.setIfInBounds i _)[j]? = _
  rw [Array.getElem?_setIfInBounds]
  by_cases q : i = j
  · subst q
    rw [if_pos rfl, if_pos (by rw [S]; exact hj)]; simp [own_up]
  · rw [if_neg q, H j hj, own_up, if_neg (fun e => q e.symm)]
theorem own_AI.new {Z : State} {h : Heap} {a : Addr} {k : ClassId} {ty : FieldType} {z : Int32} {n : Nat} (A : Arr Z h a (newA k ty z) ty) (hd : defaultValue ty = .int 0) (hn : z.toNatClampNeg = n) : own_AI Z h a ty n (fun _ => 0) := by
  refine ⟨_, A, by rw [sz_new]; exact hn, ?_, fun j hj => ?_⟩
  · have := Int32.toInt_lt z; rw [← hn]; unfold Int32.toNatClampNeg; omega
  · have hs : (newA k ty z).slots.size = n := by rw [sz_new]; exact hn
    simp only [newA] at hs ⊢
    rw [Array.getElem?_replicate, if_pos (by rw [hn]; exact hj), hd]
def own_AJ (Z : State) (h : Heap) (a : Addr) (ty : FieldType) (n : Nat) (f : Nat → Int64) : Prop := ∃ c : Cell, Arr Z h a c ty ∧ c.slots.size = n ∧ n < 2 ^ 31 ∧ ∀ j, j < n → c.slots[j]? = some (.long (f j))
theorem own_AJ.lt {Z : State} {h : Heap} {a : Addr} {ty : FieldType} {n : Nat} {f : Nat → Int64} (F : own_AJ Z h a ty n f) : a < h.size := by obtain ⟨c, A, -⟩ := F; exact A.lt
theorem own_AJ.ext {Z : State} {h h' : Heap} {a : Addr} {ty : FieldType} {n : Nat} {f : Nat → Int64} (F : own_AJ Z h a ty n f) (E : Ext h h') : own_AJ Z h' a ty n f := by obtain ⟨c, A, r⟩ := F; exact ⟨c, A.ext E, r⟩
theorem own_AJ.other {Z : State} {h h' : Heap} {a b : Addr} {ty : FieldType} {n sl : Nat} {w : Value} {f : Nat → Int64} (F : own_AJ Z h a ty n f) (W : Wr h h' b sl w) (q : a ≠ b) : own_AJ Z h' a ty n f := by obtain ⟨c, A, r⟩ := F; exact ⟨c, A.other W q, r⟩
theorem own_AJ.keep {Z : State} {h h' : Heap} {a : Addr} {ty : FieldType} {n : Nat} {ws : List Addr} {f : Nat → Int64} (F : own_AJ Z h a ty n f) (K : Keep h h' ws) (q : a ∉ ws) : own_AJ Z h' a ty n f := by obtain ⟨c, A, r⟩ := F; exact ⟨c, ⟨K.2.1 a c A.1 q, A.2⟩, r⟩
theorem own_plainAJ {Z : State} {h : Heap} {a : Addr} {ty : FieldType} {n : Nat} {f : Nat → Int64} (F : own_AJ Z h a ty n f) : ∀ cell : Cell, h[a]? = some cell → cell.vm.isStatics = false := fun cell hc => by
  obtain ⟨c, A, -⟩ := F
  cases A.1.symm.trans hc; exact A.plain
theorem own_AJ.wr {Z : State} {h h' : Heap} {a : Addr} {ty : FieldType} {n i : Nat} {x : Int64} {f : Nat → Int64} (F : own_AJ Z h a ty n f) (W : Wr h h' a i (.long x)) : own_AJ Z h' a ty n (own_up f i x) := by
  obtain ⟨c, A, S, B, H⟩ := F
  refine ⟨_, A.same W, by rw [sz_set]; exact S, B, fun j hj => ?_⟩
  show (c.slots.setIfInBounds i _)[j]? = _
  rw [Array.getElem?_setIfInBounds]
  by_cases q : i = j
  · subst q
    rw [if_pos rfl, if_pos (by rw [S]; exact hj)]; simp [own_up]
  · rw [if_neg q, H j hj, own_up, if_neg (fun e => q e.symm)]
theorem own_AJ.new {Z : State} {h : Heap} {a : Addr} {k : ClassId} {ty : FieldType} {z : Int32} {n : Nat} (A : Arr Z h a (newA k ty z) ty) (hd : defaultValue ty = .long 0) (hn : z.toNatClampNeg = n) : own_AJ Z h a ty n (fun _ => 0) := by
  refine ⟨_, A, by rw [sz_new]; exact hn, ?_, fun j hj => ?_⟩
  · have := Int32.toInt_lt z; rw [← hn]; unfold Int32.toNatClampNeg; omega
  · have hs : (newA k ty z).slots.size = n := by rw [sz_new]; exact hn
    simp only [newA] at hs ⊢
    rw [Array.getElem?_replicate, if_pos (by rw [hn]; exact hj), hd]
section OwnArr
variable {p : Program} {l : Launch} {e : Env} {R : Room} {s : State} {m : MethodId} {args : Array Value} {below : List Frame} {meth : Method} {c : Code} {T : State} {locs : List Loc} {cells slots : Nat} {Z : State} {h : Heap}
theorem own_inb {j : Int32} {n k : Nat} (S : k = n) (hj : ¬ j < 0 ∧ j.toNatClampNeg < n) : ¬ (j < 0 ∨ k ≤ j.toNatClampNeg) := fun q => q.elim hj.1 (fun u => absurd hj.2 (by omega))
theorem own_ldI (X : Stand p l e R s m args below meth c T locs cells slots) (hx : p.tables.exec = Jvm.exec) (hZ : Z.Warmed39 s.vm) (eT : T.heap = h) {a : Addr} {n : Nat} {f : Nat → Int32} (A : own_AI Z h a .int n f) {j : Int32} (hj : ¬ j < 0 ∧ j.toNatClampNeg < n)
    {g : JFrame} (hg : g.method = m) {rest : List Value} (hs : g.stack = .int j :: .ref a :: rest) (hd : decode c.code g.pc = .ok (.iaload, 1)) (target : State) (k : Steps p.tables e below (T.setTop { g with pc := g.pc + 1, stack := .int (f j.toNatClampNeg) :: rest }) target) : Steps p.tables e below (T.setTop g) target := by
  obtain ⟨c', Ar, S, -, H⟩ := A
  exact X.iaload hx (by rw [eT]; exact Ar.1) (State.isArrayOf_alike hZ.alike Ar.2.1) Ar.2.2 (own_inb S hj) (H _ hj.2) hg hs hd target k
theorem own_ldB (X : Stand p l e R s m args below meth c T locs cells slots) (hx : p.tables.exec = Jvm.exec) (hZ : Z.Warmed39 s.vm) (eT : T.heap = h) {a : Addr} {n : Nat} {f : Nat → Int32} (A : own_AI Z h a .byte n f) {j : Int32} (hj : ¬ j < 0 ∧ j.toNatClampNeg < n)
    {g : JFrame} (hg : g.method = m) {rest : List Value} (hs : g.stack = .int j :: .ref a :: rest) (hd : decode c.code g.pc = .ok (.baload, 1)) (target : State) (k : Steps p.tables e below (T.setTop { g with pc := g.pc + 1, stack := .int (f j.toNatClampNeg) :: rest }) target) : Steps p.tables e below (T.setTop g) target := by
  obtain ⟨c', Ar, S, -, H⟩ := A
  exact X.baloadBytes hx (by rw [eT]; exact Ar.1) (State.isArrayOf_alike hZ.alike Ar.2.1) Ar.2.2 (own_inb S hj) (H _ hj.2) hg hs hd target k
theorem own_ldJ (X : Stand p l e R s m args below meth c T locs cells slots) (hx : p.tables.exec = Jvm.exec) (hZ : Z.Warmed39 s.vm) (eT : T.heap = h) {a : Addr} {n : Nat} {f : Nat → Int64} (A : own_AJ Z h a .long n f) {j : Int32} (hj : ¬ j < 0 ∧ j.toNatClampNeg < n)
    {g : JFrame} (hg : g.method = m) {rest : List Value} (hs : g.stack = .int j :: .ref a :: rest) (hd : decode c.code g.pc = .ok (.laload, 1)) (target : State) (k : Steps p.tables e below (T.setTop { g with pc := g.pc + 1, stack := .long (f j.toNatClampNeg) :: rest }) target) : Steps p.tables e below (T.setTop g) target := by
  obtain ⟨c', Ar, S, -, H⟩ := A
  exact X.laload hx (by rw [eT]; exact Ar.1) (State.isArrayOf_alike hZ.alike Ar.2.1) Ar.2.2 (own_inb S hj) (H _ hj.2) hg hs hd target k
theorem own_lenI (X : Stand p l e R s m args below meth c T locs cells slots) (hx : p.tables.exec = Jvm.exec) (hZ : Z.Warmed39 s.vm) (eT : T.heap = h) {a : Addr} {ty : FieldType} {n : Nat} {f : Nat → Int32} (A : own_AI Z h a ty n f)
    {g : JFrame} (hg : g.method = m) {rest : List Value} (hs : g.stack = .ref a :: rest) (hd : decode c.code g.pc = .ok (.arraylength, 1)) (target : State) (k : Steps p.tables e below (T.setTop { g with pc := g.pc + 1, stack := .int (n.toInt32) :: rest }) target) : Steps p.tables e below (T.setTop g) target := by
  obtain ⟨c', Ar, S, -, H⟩ := A
  exact X.arraylength hx (by rw [eT]; exact Ar.1) (State.isArrayOf_alike hZ.alike Ar.2.1) hg hs hd target (by rw [S]; exact k)
theorem own_lenJ (X : Stand p l e R s m args below meth c T locs cells slots) (hx : p.tables.exec = Jvm.exec) (hZ : Z.Warmed39 s.vm) (eT : T.heap = h) {a : Addr} {ty : FieldType} {n : Nat} {f : Nat → Int64} (A : own_AJ Z h a ty n f)
    {g : JFrame} (hg : g.method = m) {rest : List Value} (hs : g.stack = .ref a :: rest) (hd : decode c.code g.pc = .ok (.arraylength, 1)) (target : State) (k : Steps p.tables e below (T.setTop { g with pc := g.pc + 1, stack := .int (n.toInt32) :: rest }) target) : Steps p.tables e below (T.setTop g) target := by
  obtain ⟨c', Ar, S, -, H⟩ := A
  exact X.arraylength hx (by rw [eT]; exact Ar.1) (State.isArrayOf_alike hZ.alike Ar.2.1) hg hs hd target (by rw [S]; exact k)
theorem own_stI (X : Stand p l e R s m args below meth c T locs cells slots) (hx : p.tables.exec = Jvm.exec) (hZ : Z.Warmed39 s.vm) (eT : T.heap = h) {a : Addr} {n : Nat} {f : Nat → Int32} (A : own_AI Z h a .int n f) {j x : Int32} (hj : ¬ j < 0 ∧ j.toNatClampNeg < n)
    {g : JFrame} (hg : g.method = m) {rest : List Value} (hs : g.stack = .int x :: .int j :: .ref a :: rest) (hd : decode c.code g.pc = .ok (.iastore, 1)) :
    ∃ T' h', Stand p l e R s m args below meth c T' (locs ++ [⟨a, j.toNatClampNeg⟩]) cells slots ∧ T'.heap = h' ∧ Wr h h' a j.toNatClampNeg (.int x) ∧ own_AI Z h' a .int n (own_up f j.toNatClampNeg x) ∧ ∀ target, Steps p.tables e below (T'.setTop { g with pc := g.pc + 1, stack := rest }) target → Steps p.tables e below (T.setTop g) target := by
  have A2 := A
  obtain ⟨c', Ar, S, -, H⟩ := A
  obtain ⟨T', h', X', e', W, st⟩ := stI X hx hZ eT Ar (j := j) (x := x) (own_inb S hj) hg hs hd
  exact ⟨T', h', X', e', W, A2.wr W, st⟩
theorem own_stB (X : Stand p l e R s m args below meth c T locs cells slots) (hx : p.tables.exec = Jvm.exec) (hZ : Z.Warmed39 s.vm) (eT : T.heap = h) {a : Addr} {n : Nat} {f : Nat → Int32} (A : own_AI Z h a .byte n f) {j x : Int32} (hj : ¬ j < 0 ∧ j.toNatClampNeg < n)
    {g : JFrame} (hg : g.method = m) {rest : List Value} (hs : g.stack = .int x :: .int j :: .ref a :: rest) (hd : decode c.code g.pc = .ok (.bastore, 1)) :
    ∃ T' h', Stand p l e R s m args below meth c T' (locs ++ [⟨a, j.toNatClampNeg⟩]) cells slots ∧ T'.heap = h' ∧ Wr h h' a j.toNatClampNeg (.int (nar .byte x)) ∧ own_AI Z h' a .byte n (own_up f j.toNatClampNeg (nar .byte x)) ∧ ∀ target, Steps p.tables e below (T'.setTop { g with pc := g.pc + 1, stack := rest }) target → Steps p.tables e below (T.setTop g) target := by
  have A2 := A
  obtain ⟨c', Ar, S, -, H⟩ := A
  obtain ⟨T', h', X', e', W, st⟩ := stB X hx hZ eT Ar (j := j) (x := x) (own_inb S hj) hg hs hd
  exact ⟨T', h', X', e', W, A2.wr W, st⟩
theorem own_stC (X : Stand p l e R s m args below meth c T locs cells slots) (hx : p.tables.exec = Jvm.exec) (hZ : Z.Warmed39 s.vm) (eT : T.heap = h) {a : Addr} {n : Nat} {f : Nat → Int32} (A : own_AI Z h a .char n f) {j x : Int32} (hj : ¬ j < 0 ∧ j.toNatClampNeg < n)
    {g : JFrame} (hg : g.method = m) {rest : List Value} (hs : g.stack = .int x :: .int j :: .ref a :: rest) (hd : decode c.code g.pc = .ok (.castore, 1)) :
    ∃ T' h', Stand p l e R s m args below meth c T' (locs ++ [⟨a, j.toNatClampNeg⟩]) cells slots ∧ T'.heap = h' ∧ Wr h h' a j.toNatClampNeg (.int (nar .char x)) ∧ own_AI Z h' a .char n (own_up f j.toNatClampNeg (nar .char x)) ∧ ∀ target, Steps p.tables e below (T'.setTop { g with pc := g.pc + 1, stack := rest }) target → Steps p.tables e below (T.setTop g) target := by
  have A2 := A
  obtain ⟨c', Ar, S, -, H⟩ := A
  obtain ⟨T', h', X', e', W, st⟩ := stC X hx hZ eT Ar (j := j) (x := x) (own_inb S hj) hg hs hd
  exact ⟨T', h', X', e', W, A2.wr W, st⟩
theorem own_stJ (X : Stand p l e R s m args below meth c T locs cells slots) (hx : p.tables.exec = Jvm.exec) (hZ : Z.Warmed39 s.vm) (eT : T.heap = h) {a : Addr} {n : Nat} {f : Nat → Int64} (A : own_AJ Z h a .long n f) {j : Int32} {x : Int64} (hj : ¬ j < 0 ∧ j.toNatClampNeg < n)
    {g : JFrame} (hg : g.method = m) {rest : List Value} (hs : g.stack = .long x :: .int j :: .ref a :: rest) (hd : decode c.code g.pc = .ok (.lastore, 1)) :
    ∃ T' h', Stand p l e R s m args below meth c T' (locs ++ [⟨a, j.toNatClampNeg⟩]) cells slots ∧ T'.heap = h' ∧ Wr h h' a j.toNatClampNeg (.long x) ∧ own_AJ Z h' a .long n (own_up f j.toNatClampNeg x) ∧ ∀ target, Steps p.tables e below (T'.setTop { g with pc := g.pc + 1, stack := rest }) target → Steps p.tables e below (T.setTop g) target := by
  have A2 := A
  obtain ⟨c', Ar, S, -, H⟩ := A
  obtain ⟨T', h', X', e', W, st⟩ := stJ X hx hZ eT Ar (j := j) (x := x) (own_inb S hj) hg hs hd
  exact ⟨T', h', X', e', W, A2.wr W, st⟩
end OwnArr
theorem own_fldI {s : State} {args : Array Value} {t : Term} {u : Addr} {C n d : String} {k : Int32} (et : t.eval args s none [] s = some (.ref u)) (h : (Jvm.Cond.eq (.field t C n d) (.int k)).value args s none s [] = some true) : Fld s s.heap u C n d (.int k) := by
  obtain ⟨x, y, ha, hb, -, -⟩ := cmp_v (Or.inl h)
  have hy : y = .int k := (Option.some.inj ((Term.int_eval k).symm.trans hb)).symm
  subst hy
  refine Fld.start ?_
  rw [← fld_at (o := none) (idx := []) et, ha]
  simp only [Cond.value, ha, hb] at h
  cases x <;> simp_all
theorem own_fldN {s : State} {args : Array Value} {t : Term} {u : Addr} {C n d : String} (et : t.eval args s none [] s = some (.ref u)) (h : (Jvm.Cond.eq (.field t C n d) .null).value args s none s [] = some true) : Fld s s.heap u C n d .null :=
  Fld.start (by rw [← fld_at (o := none) (idx := []) et]; exact null_v h)
theorem own_fldR {s : State} {args : Array Value} {t t' : Term} {u u' : Addr} {C n d : String} (et : t.eval args s none [] s = some (.ref u)) (et' : t'.eval args s none [] s = some (.ref u')) (h : (Jvm.Cond.eq (.field t C n d) t').value args s none s [] = some true) : Fld s s.heap u C n d (.ref u') := by
  obtain ⟨x, y, ha, hb, -, -⟩ := cmp_v (Or.inl h)
  have hy : y = .ref u' := Option.some.inj (hb.symm.trans et')
  subst hy
  refine Fld.start ?_
  rw [← fld_at (o := none) (idx := []) et, ha]
  simp only [Cond.value, ha, hb] at h
  cases x <;> simp_all
theorem own_neI {s : State} {args : Array Value} {t : Term} {u k : Int32} (et : t.eval args s none [] s = some (.int u)) (h : (Jvm.Cond.not (Jvm.Cond.eq t (.int k))).value args s none s [] = some true) : ¬ (u = k) := fun q => by
  have q2 := not_v h
  have hb : (Term.int k).eval args s none [] s = some (.int k) := Term.int_eval k
  subst q
  simp only [Cond.value, et, hb] at q2
  simp at q2
theorem own_ti {x : Int32} (h : x.toBitVec.toNat < 2147483648) : x.toInt = (x.toBitVec.toNat : Int) := by
  show x.toBitVec.toInt = _
  rw [BitVec.toInt_eq_toNat_cond, if_pos (by omega)]
theorem own_tn {x : Int32} (h : 0 ≤ x.toInt) : x.toInt = (x.toBitVec.toNat : Int) ∧ x.toBitVec.toNat < 2147483648 := by
  have e : x.toInt = x.toBitVec.toInt := rfl
  have c := BitVec.toInt_eq_toNat_cond x.toBitVec
  have l := x.toBitVec.isLt
  rw [e] at h ⊢
  rw [c] at h ⊢
  split at h
  · rename_i q
    rw [if_pos q]; omega
  · omega
theorem own_andn (x y : Int32) : (x &&& y).toBitVec.toNat = x.toBitVec.toNat &&& y.toBitVec.toNat := by rw [Int32.toBitVec_and, BitVec.toNat_and]
theorem own_orn (x y : Int32) : (x ||| y).toBitVec.toNat = x.toBitVec.toNat ||| y.toBitVec.toNat := by rw [Int32.toBitVec_or, BitVec.toNat_or]
theorem own_shln {x k : Int32} {n : Nat} (hk : (k.toBitVec.smod 32).toNat = n) (h : x.toBitVec.toNat * 2 ^ n < 2 ^ 32) : (x <<< k).toBitVec.toNat = x.toBitVec.toNat * 2 ^ n := by
  rw [Int32.toBitVec_shiftLeft, BitVec.shiftLeft_eq', BitVec.toNat_shiftLeft, hk, Nat.shiftLeft_eq, Nat.mod_eq_of_lt h]
theorem own_mask {x m : Int32} {k : Nat} (hm : m.toBitVec.toNat = 2 ^ k - 1) : (x &&& m).toBitVec.toNat = x.toBitVec.toNat % 2 ^ k := by
  rw [own_andn, hm, Nat.and_two_pow_sub_one_eq_mod]
theorem own_oradd {a b k : Nat} (hb : b < 2 ^ k) : (a * 2 ^ k) ||| b = a * 2 ^ k + b := by
  rw [Nat.mul_comm, ← Nat.two_pow_add_eq_or_of_lt hb]
theorem own_c255 (y : Int32) : (nar .char ((y &&& (255 : Int32)).toUInt32.toUInt16.toUInt32.toInt32)).toBitVec.toNat < 256 := by
  have e := own_mask (x := y) (m := 255) (k := 8) rfl
  have c : ∀ z : Int32, (z.toUInt32.toUInt16.toUInt32.toInt32).toBitVec.toNat = z.toBitVec.toNat % 65536 := fun z => by
    show z.toUInt32.toUInt16.toUInt32.toNat = _
    rw [UInt16.toNat_toUInt32, UInt32.toNat_toUInt16]; rfl
  show ((((y &&& (255 : Int32)).toUInt32.toUInt16.toUInt32.toInt32)).toUInt32.toUInt16.toUInt32.toInt32).toBitVec.toNat < 256
  rw [c, c, e]; omega
theorem own_rg {z : Int32} (h : z.toBitVec.toNat < 256) : ¬ z < 0 ∧ ¬ (255 : Int32) < z := by
  have t := own_ti (x := z) (by omega)
  constructor
  · rw [Int32.lt_iff_toInt_lt, t, show (0 : Int32).toInt = 0 from rfl]; omega
  · rw [Int32.lt_iff_toInt_lt, t, show (255 : Int32).toInt = 255 from rfl]; omega
theorem own_chs {x y v3 v5 : Int32} {v2 v4 v6 : Nat → Int32} (hv2 : v2 = (fun _ => (0 : Int32))) (hv3 : v3 = ((x &&& (255 : Int32)).toUInt32.toUInt16.toUInt32.toInt32)) (hv4 : v4 = (own_up v2 0 (nar .char v3))) (hv5 : v5 = ((y &&& (255 : Int32)).toUInt32.toUInt16.toUInt32.toInt32)) (hv6 : v6 = (own_up v4 1 (nar .char v5))) : (∀ c ∈ [v6 0, v6 1], ¬ c < 0 ∧ ¬ (255 : Int32) < c) ∧ (∀ j, j < 2 → fits .char (.int (v6 j)) = true) := by
  have e0 : v6 0 = nar .char v3 := by rw [hv6, own_up, if_neg (by decide), hv4, own_up, if_pos rfl]
  have e1 : v6 1 = nar .char v5 := by rw [hv6, own_up, if_pos rfl]
  constructor
  · intro c hc
    rcases List.mem_cons.mp hc with q | hc
    · rw [q, e0, hv3]; exact own_rg (own_c255 x)
    · rcases List.mem_cons.mp hc with q | hc
      · rw [q, e1, hv5]; exact own_rg (own_c255 y)
      · exact absurd hc (by simp)
  · intro j hj
    rcases Nat.lt_succ_iff_lt_or_eq.mp hj with q | q
    · rw [show j = 0 by omega, e0]; exact fits_nar_char _
    · rw [q, e1]; exact fits_nar_char _
theorem own_arvC {Z : State} {h : Heap} {a : Addr} {f : Nat → Int32} (A : own_AI Z h a .char 2 f) (hf : ∀ j, j < 2 → fits .char (.int (f j)) = true) : ∃ k, Arv Z h a k .char (2 : Int32) ([f 0, f 1].map Value.int) (.int (0 : Int32)) := by
  obtain ⟨c, Ar, S, -, H⟩ := A
  have g : ∀ i, i < 2 → (([f 0, f 1].map Value.int).getD i (.int (0 : Int32))) = .int (f i) := fun i hi => by
    rcases Nat.lt_succ_iff_lt_or_eq.mp hi with q | q
    · rw [show i = 0 by omega]; rfl
    · rw [q]; rfl
  refine ⟨c.cls, c, Ar, rfl, by rw [S]; rfl, by decide, fun i hi => ?_, fun i hi => ?_⟩
  · rw [S] at hi; rw [g i hi]; exact H i hi
  · rw [S] at hi; rw [g i hi]; exact hf i hi

theorem pd0 : parseMethodDescriptor "([C)V" = some ⟨[(.array .char)], none⟩ := by decide +kernel
theorem d1_0 : decode method_4_code 0 = .ok (.iload_n 0, 1) := by decide +kernel
theorem d1_1 : decode method_4_code 1 = .ok (.ifCond .ne 5, 3) := by decide +kernel
theorem d1_4 : decode method_4_code 4 = .ok (.aconst_null, 1) := by decide +kernel
theorem d1_5 : decode method_4_code 5 = .ok (.areturn, 1) := by decide +kernel
theorem d1_6 : decode method_4_code 6 = .ok (.iconst 2, 1) := by decide +kernel
theorem d1_7 : decode method_4_code 7 = .ok (.newarray .char, 2) := by decide +kernel
theorem d1_9 : decode method_4_code 9 = .ok (.astore_n 2, 1) := by decide +kernel
theorem d1_10 : decode method_4_code 10 = .ok (.aload_n 2, 1) := by decide +kernel
theorem d1_11 : decode method_4_code 11 = .ok (.iconst 0, 1) := by decide +kernel
theorem d1_12 : decode method_4_code 12 = .ok (.iload_n 1, 1) := by decide +kernel
theorem d1_13 : decode method_4_code 13 = .ok (.sipush 255, 3) := by decide +kernel
theorem d1_16 : decode method_4_code 16 = .ok (.iand, 1) := by decide +kernel
theorem d1_17 : decode method_4_code 17 = .ok (.i2c, 1) := by decide +kernel
theorem d1_18 : decode method_4_code 18 = .ok (.castore, 1) := by decide +kernel
theorem d1_19 : decode method_4_code 19 = .ok (.aload_n 2, 1) := by decide +kernel
theorem d1_20 : decode method_4_code 20 = .ok (.iconst 1, 1) := by decide +kernel
theorem d1_21 : decode method_4_code 21 = .ok (.iload_n 1, 1) := by decide +kernel
theorem d1_22 : decode method_4_code 22 = .ok (.bipush 8, 2) := by decide +kernel
theorem d1_24 : decode method_4_code 24 = .ok (.iushr, 1) := by decide +kernel
theorem d1_25 : decode method_4_code 25 = .ok (.sipush 255, 3) := by decide +kernel
theorem d1_28 : decode method_4_code 28 = .ok (.iand, 1) := by decide +kernel
theorem d1_29 : decode method_4_code 29 = .ok (.i2c, 1) := by decide +kernel
theorem d1_30 : decode method_4_code 30 = .ok (.castore, 1) := by decide +kernel
theorem d1_31 : decode method_4_code 31 = .ok (.new 42, 3) := by decide +kernel
theorem d1_34 : decode method_4_code 34 = .ok (.dup, 1) := by decide +kernel
theorem d1_35 : decode method_4_code 35 = .ok (.aload_n 2, 1) := by decide +kernel
theorem d1_36 : decode method_4_code 36 = .ok (.invokespecial 44, 3) := by decide +kernel
theorem d1_39 : decode method_4_code 39 = .ok (.areturn, 1) := by decide +kernel
theorem ef_1 (m : MethodId) (p0 : Int32) (p1 : Int32) : entryFrame m #[(.int p0), (.int p1)] 3 = mkF m 0 #[.val (.int p0), .val (.int p1), .unset] [] := by (first | (simp [entryFrame, mkF, argsToLocals, Value.category]; done) | rfl)
theorem pn1 : plainName "inducere/ActivationSwitchedOffPinLaw" = true := by first | (simp [plainName, overriddenIn]; done) | decide +kernel
def Q1 (Z : State) (p0 : Int32) (p1 : Int32) (ucs : Int32) (h0 : Heap) (n0 : Nat) (v : Option Value) (h : Heap) (L : List Loc) : Prop := ∃ x0 : Value, v = some x0 ∧ Fr n0 L ∧ Keep h0 h [] ∧ x0.isRef = true
set_option maxRecDepth 65536 in
set_option maxHeartbeats 40000000 in
theorem rm1 (l : Launch) (Z : State) (a0 : Array Value) (hw : ∀ d ∈ tables_1, d.before a0 Z = true) (ws : List Jvm.Cond) (p0 : Int32) (p1 : Int32) (ucs : Int32) (h0 : Heap) (n0 : Nat) (Z0 : n0 ≤ h0.size) (S_cs : Sta Z h0 "java/lang/String" "COMPACT_STRINGS" "Z" (.int ucs)) (hcs : ¬ (ucs = (0 : Int32))) :
    MetFree l (⟨"inducere/ActivationSwitchedOffPinLaw", "drawn", "(ZI)Ljava/lang/String;"⟩ : MethodName) (head1 (Jvm.Cond.code (⟨"inducere/ActivationSwitchedOffPinLaw", "drawn", "(ZI)Ljava/lang/String;"⟩ : MethodName) method_4_code 3 (some (.object "java/lang/String")) :: ws) ({ frames := 4, cells := 3, slots := 8, locals := 66 } : Room)) (fun a U => a = #[(.int p0), (.int p1)] ∧ Z.Warmed39 U.vm ∧ U.heap = h0) (fun _ _ _ _ _ => True) (fun _ U o U' => ∃ v L, o = .returned v ∧ Q1 Z p0 p1 ucs h0 n0 v U'.heap L ∧ FrameEnd U o U' L ({ frames := 4, cells := 3, slots := 8, locals := 66 } : Room).cells ({ frames := 4, cells := 3, slots := 8, locals := 66 } : Room).slots) := by
  refine MetFree.of_bodySF (plainFor_of_name pn1) hisR ?_
  intro p e s m args below meth c s₁ Bd hml0 hP hK
  obtain ⟨rfl, hZ, hh⟩ := hP
  have hx := Bd.exec
  have hby := Bd.bytes
  have hml : c.maxLocals = 3 := hml0
  have hown : s.vm.findClass "inducere/ActivationSwitchedOffPinLaw" = some m.cls := findClass_of_methodNamed Bd.named
  have hnm := (name_of_methodNamed Bd.named Bd.method).1
  have X0 : Stand p l e ({ frames := 4, cells := 3, slots := 8, locals := 66 } : Room) s m #[(.int p0), (.int p1)] below meth c s₁ [] 0 0 := Stand.of_body Bd
  have e0 : s₁.heap = h0 := by rw [← hh, Bd.state]; rfl
  have N0 := Fr.nil n0
  have K0 : Keep h0 h0 [] := Keep.refl h0 _
  show own_Go p e below s (Q1 Z p0 p1 ucs h0 n0) ({ frames := 4, cells := 3, slots := 8, locals := 66 } : Room).cells ({ frames := 4, cells := 3, slots := 8, locals := 66 } : Room).slots (s₁.setTop (entryFrame m #[(.int p0), (.int p1)] 3))
  refine own_go (fun t k => castTop (ef_1 m p0 p1) k) ?_
  have hgo101 : ∀ t, Steps p.tables e below (s₁.setTop (mkF m 1 #[.val (.int p0), .val (.int p1), .unset] [(.int p0)])) t → Steps p.tables e below (s₁.setTop (mkF m 0 #[.val (.int p0), .val (.int p1), .unset] [])) t := by
    intro t kt
    show Steps p.tables e below (s₁.setTop (mkF m 0 #[.val (.int p0), .val (.int p1), .unset] [])) _
    refine XS.iloadN X0.here hx rfl (hb hby d1_0) rfl ?_
    exact kt
  refine own_go hgo101 ?_
  by_cases hc1_1 : p0 = (0 : Int32)
  · have hgo102 : ∀ t, Steps p.tables e below (s₁.setTop (mkF m 5 #[.val (.int p0), .val (.int p1), .unset] [.null])) t → Steps p.tables e below (s₁.setTop (mkF m 1 #[.val (.int p0), .val (.int p1), .unset] [(.int p0)])) t := by
      intro t kt
      show Steps p.tables e below (s₁.setTop (mkF m 1 #[.val (.int p0), .val (.int p1), .unset] [(.int p0)])) _
      refine XS.ifNo X0.here hx rfl (hb hby d1_1) rfl ((if0 _ _).trans (teq hc1_1).2) ?_
      show Steps p.tables e below (s₁.setTop (mkF m 4 #[.val (.int p0), .val (.int p1), .unset] [])) _
      refine XS.aconstNull X0.here hx rfl (hb hby d1_4) ?_
      exact kt
    refine own_go hgo102 ?_
    exact own_retA X0 hx Bd.returns rfl rfl Bd.notSynchronized (hb hby d1_5) (by decide) (by decide) (by rw [e0]; exact ⟨.null, (by rfl), N0, K0, rfl⟩)
  · obtain ⟨T103, h103, k103, X103, e103, E103, A103, st103⟩ := newP X0 hx hZ (hw _ (List.mem_of_getElem? (i := 5) rfl)) e0 (g := (mkF m 7 #[.val (.int p0), .val (.int p1), .unset] [(.int (2 : Int32))])) rfl (hb hby d1_7) rfl (by decide) (cap := 2) (by decide) (by decide) (by decide) (by decide)
    obtain ⟨b103, g103⟩ : ∃ z, z = h0.size := ⟨_, rfl⟩
    rw [← g103] at A103 st103
    have g_b103 : n0 ≤ b103 := Nat.le_trans Z0 (Nat.le_of_eq g103.symm)
    have sz_b103 : h0.size ≤ b103 := Nat.le_trans K0.1 (Nat.le_of_eq g103.symm)
    have F104 := S_cs.ext E103
    have Z105 : n0 ≤ h103.size := Nat.le_trans Z0 E103.1
    have K106 : Keep h0 h103 [] := K0.ext E103
    obtain ⟨v2, hv2⟩ : ∃ z : Nat → Int32, z = (fun _ => (0 : Int32)) := ⟨_, rfl⟩
    have F107 : own_AI Z h103 b103 .char 2 v2 := by rw [hv2]; exact own_AI.new A103 rfl (by decide)
    obtain ⟨v3, hv3⟩ : ∃ z : Int32, z = ((p1 &&& (255 : Int32)).toUInt32.toUInt16.toUInt32.toInt32) := ⟨_, rfl⟩
    have hin18_108 : ¬ (0 : Int32) < 0 ∧ (0 : Int32).toNatClampNeg < 2 := by decide
    obtain ⟨T109, h109, X109, e109, W109, B109, st109⟩ := own_stC X103 hx hZ e103 F107 (j := (0 : Int32)) (x := v3) hin18_108 (g := (mkF m 18 #[.val (.int p0), .val (.int p1), .val (.ref b103)] [(.int v3), (.int (0 : Int32)), (.ref b103)])) rfl rfl (hb hby d1_18)
    obtain ⟨v4, hv4⟩ : ∃ z : Nat → Int32, z = (own_up v2 0 (nar .char v3)) := ⟨_, rfl⟩
    have B109n : own_AI Z h109 b103 .char 2 v4 := by rw [hv4]; exact B109
    have F110 := F104.wr W109
    have Z111 : n0 ≤ h109.size := Nat.le_trans Z105 (Keep.of_wr W109).1
    have K112 : Keep h0 h109 [] := K106.wr W109 (Or.inr sz_b103)
    have N113 := Fr.snoc X109 N0 g_b103
    obtain ⟨v5, hv5⟩ : ∃ z : Int32, z = ((((p1.toUInt32 >>> ((8 : Int32) &&& 31).toUInt32).toInt32) &&& (255 : Int32)).toUInt32.toUInt16.toUInt32.toInt32) := ⟨_, rfl⟩
    have hin30_114 : ¬ (1 : Int32) < 0 ∧ (1 : Int32).toNatClampNeg < 2 := by decide
    obtain ⟨T115, h115, X115, e115, W115, B115, st115⟩ := own_stC X109 hx hZ e109 B109n (j := (1 : Int32)) (x := v5) hin30_114 (g := (mkF m 30 #[.val (.int p0), .val (.int p1), .val (.ref b103)] [(.int v5), (.int (1 : Int32)), (.ref b103)])) rfl rfl (hb hby d1_30)
    obtain ⟨v6, hv6⟩ : ∃ z : Nat → Int32, z = (own_up v4 1 (nar .char v5)) := ⟨_, rfl⟩
    have B115n : own_AI Z h115 b103 .char 2 v6 := by rw [hv6]; exact B115
    have F116 := F110.wr W115
    have Z117 : n0 ≤ h115.size := Nat.le_trans Z111 (Keep.of_wr W115).1
    have K118 : Keep h0 h115 [] := K112.wr W115 (Or.inr sz_b103)
    have N119 := Fr.snoc X115 N113 g_b103
    obtain ⟨T120, h120, X120, e120, E120, A120, D120, -, st120⟩ := newO X115 hx hZ hown (hw _ (List.mem_of_getElem? (i := 6) rfl)) (hw _ (List.mem_of_getElem? (i := 7) rfl)) (hw _ (List.mem_of_getElem? (i := 8) rfl)) e115 (g := (mkF m 31 #[.val (.int p0), .val (.int p1), .val (.ref b103)] [])) rfl (hb hby d1_31) (by decide) (by decide)
    obtain ⟨b120, g120⟩ : ∃ z, z = h115.size := ⟨_, rfl⟩
    rw [← g120] at A120 D120 st120
    have ne_b103_b120 : b103 ≠ b120 := Nat.ne_of_lt (Nat.lt_of_lt_of_le B115n.lt (Nat.le_of_eq g120.symm))
    have g_b120 : n0 ≤ b120 := Nat.le_trans Z117 (Nat.le_of_eq g120.symm)
    have sz_b120 : h0.size ≤ b120 := Nat.le_trans K118.1 (Nat.le_of_eq g120.symm)
    have F121 := F116.ext E120
    have F122 := B115n.ext E120
    have Z123 : n0 ≤ h120.size := Nat.le_trans Z117 E120.1
    have K124 : Keep h0 h120 [] := K118.ext E120
    have F125 : Fld Z h120 b120 "java/lang/String" "coder" "B" (.int (0 : Int32)) := D120 (Or.inr (hw _ (List.mem_of_getElem? (i := 32) rfl))) (ty := .byte) (by decide)
    have F126 : Fld Z h120 b120 "java/lang/String" "value" "[B" .null := D120 (Or.inr (hw _ (List.mem_of_getElem? (i := 34) rfl))) (ty := (.array .byte)) (by decide)
    have hlat := own_chs hv2 hv3 hv4 hv5 hv6
    obtain ⟨kC, hKC⟩ := own_arvC F122 hlat.2
    have hws : ∀ d ∈ StrChars.Road.words, d.before a0 Z = true := fun d hd => hw d ((by decide +kernel : ∀ d ∈ StrChars.Road.words, d ∈ tables_1) d hd)
    obtain ⟨_, _, ⟨T127, L127, k127, n127⟩, -, X127, ⟨Lc127, hQ127, l127, y127, z127⟩, st127⟩ := X120.specialBack hx (y := (⟨"java/lang/String", "<init>", "([C)V"⟩ : MethodName)) rfl hown (mvT hZ (hw _ (List.mem_of_getElem? (i := 9) rfl))) (mvT hZ (hw _ (List.mem_of_getElem? (i := 10) rfl))) (mvT hZ (hw _ (List.mem_of_getElem? (i := 11) rfl))) (by decide) (StrChars.Road.backV (W := 1) hZ hws (kI := 4) (hw _ (List.mem_of_getElem? (i := 7) rfl)) (cs := [v6 0, v6 1]) (bs := ([v6 0, v6 1].map fun c => c.toInt8.toInt32)) (n := 2) g_b120 Z123 A120 F126 F125 hKC F121 hcs rfl rfl (by decide) (by decide) hlat.1 rfl (by decide) (by decide)) (g := (mkF m 36 #[.val (.int p0), .val (.int p1), .val (.ref b103)] [(.ref b103), (.ref b120), (.ref b120)])) rfl (by rw [hml]; rfl) (Steps.refl _) (a := b120) (argsL := [(.ref b103)]) (rest := [(.ref b120)]) (lenOf pd0 rfl) rfl (by show 2 * 0 + _ ≤ _; exact Nat.le_of_eq rfl) (hb hby d1_36) (fun _ _ => ⟨rfl, e120, (by decide : 2 + 1 ≤ _), (by decide : 6 + 2 ≤ _)⟩)
    dsimp only [Pt.U, Pt.locs, Pt.cells, Pt.slots] at X127 l127 y127 z127 st127 hQ127
    subst l127 y127 z127
    obtain ⟨rfl, N127q, K127q, F127_0, F127_1⟩ := hQ127
    have F128 := own_staKeep F121 K127q (allS (own_plainE A120) all0)
    have F129 := F122.keep K127q (ninS ne_b103_b120 nin0)
    have F130 := A120.keep K127q
    have Z131 : n0 ≤ T127.heap.size := Nat.le_trans Z123 K127q.1
    have K132 : Keep h0 T127.heap [] := K124.trans K127q (allS (Or.inr sz_b120) all0)
    have N127 := Fr.app N119 N127q
    have hgo133 : ∀ t, Steps p.tables e below (T127.setTop (mkF m 39 #[.val (.int p0), .val (.int p1), .val (.ref b103)] [(.ref b120)])) t → Steps p.tables e below (s₁.setTop (mkF m 1 #[.val (.int p0), .val (.int p1), .unset] [(.int p0)])) t := by
      intro t kt
      show Steps p.tables e below (s₁.setTop (mkF m 1 #[.val (.int p0), .val (.int p1), .unset] [(.int p0)])) _
      refine XS.ifYes X0.here hx rfl (pc0 := 1) (pc' := 6) rfl (hb hby d1_1) rfl ((if0 _ _).trans (feq hc1_1).2) (by decide) (by decide) ?_
      show Steps p.tables e below (s₁.setTop (mkF m 6 #[.val (.int p0), .val (.int p1), .unset] [])) _
      refine XS.iconst X0.here hx rfl (hb hby d1_6) ?_
      show Steps p.tables e below (s₁.setTop (mkF m 7 #[.val (.int p0), .val (.int p1), .unset] [(.int (2 : Int32))])) _
      refine st103 _ ?_
      show Steps p.tables e below (T103.setTop (mkF m 9 #[.val (.int p0), .val (.int p1), .unset] [(.ref b103)])) _
      refine XS.astoreN X103.here hx rfl (hb hby d1_9) rfl rfl (l' := #[.val (.int p0), .val (.int p1), .val (.ref b103)]) rfl ?_
      show Steps p.tables e below (T103.setTop (mkF m 10 #[.val (.int p0), .val (.int p1), .val (.ref b103)] [])) _
      refine XS.aloadN X103.here hx rfl (hb hby d1_10) rfl rfl ?_
      show Steps p.tables e below (T103.setTop (mkF m 11 #[.val (.int p0), .val (.int p1), .val (.ref b103)] [(.ref b103)])) _
      refine XS.iconst X103.here hx rfl (hb hby d1_11) ?_
      show Steps p.tables e below (T103.setTop (mkF m 12 #[.val (.int p0), .val (.int p1), .val (.ref b103)] [(.int (0 : Int32)), (.ref b103)])) _
      refine XS.iloadN X103.here hx rfl (hb hby d1_12) rfl ?_
      show Steps p.tables e below (T103.setTop (mkF m 13 #[.val (.int p0), .val (.int p1), .val (.ref b103)] [(.int p1), (.int (0 : Int32)), (.ref b103)])) _
      refine XS.sipush X103.here hx rfl (hb hby d1_13) ?_
      show Steps p.tables e below (T103.setTop (mkF m 16 #[.val (.int p0), .val (.int p1), .val (.ref b103)] [(.int (255 : Int32)), (.int p1), (.int (0 : Int32)), (.ref b103)])) _
      refine XS.iand X103.here hx rfl (hb hby d1_16) rfl ?_
      show Steps p.tables e below (T103.setTop (mkF m 17 #[.val (.int p0), .val (.int p1), .val (.ref b103)] [(.int (p1 &&& (255 : Int32))), (.int (0 : Int32)), (.ref b103)])) _
      refine XS.i2c X103.here hx rfl (hb hby d1_17) rfl ?_
      show Steps p.tables e below (T103.setTop (mkF m 18 #[.val (.int p0), .val (.int p1), .val (.ref b103)] [(.int ((p1 &&& (255 : Int32)).toUInt32.toUInt16.toUInt32.toInt32)), (.int (0 : Int32)), (.ref b103)])) _
      rw [← hv3]
      refine st109 _ ?_
      show Steps p.tables e below (T109.setTop (mkF m 19 #[.val (.int p0), .val (.int p1), .val (.ref b103)] [])) _
      refine XS.aloadN X109.here hx rfl (hb hby d1_19) rfl rfl ?_
      show Steps p.tables e below (T109.setTop (mkF m 20 #[.val (.int p0), .val (.int p1), .val (.ref b103)] [(.ref b103)])) _
      refine XS.iconst X109.here hx rfl (hb hby d1_20) ?_
      show Steps p.tables e below (T109.setTop (mkF m 21 #[.val (.int p0), .val (.int p1), .val (.ref b103)] [(.int (1 : Int32)), (.ref b103)])) _
      refine XS.iloadN X109.here hx rfl (hb hby d1_21) rfl ?_
      show Steps p.tables e below (T109.setTop (mkF m 22 #[.val (.int p0), .val (.int p1), .val (.ref b103)] [(.int p1), (.int (1 : Int32)), (.ref b103)])) _
      refine XS.bipush X109.here hx rfl (hb hby d1_22) ?_
      show Steps p.tables e below (T109.setTop (mkF m 24 #[.val (.int p0), .val (.int p1), .val (.ref b103)] [(.int (8 : Int32)), (.int p1), (.int (1 : Int32)), (.ref b103)])) _
      refine XS.iushr X109.here hx rfl (hb hby d1_24) rfl ?_
      show Steps p.tables e below (T109.setTop (mkF m 25 #[.val (.int p0), .val (.int p1), .val (.ref b103)] [(.int ((p1.toUInt32 >>> ((8 : Int32) &&& 31).toUInt32).toInt32)), (.int (1 : Int32)), (.ref b103)])) _
      refine XS.sipush X109.here hx rfl (hb hby d1_25) ?_
      show Steps p.tables e below (T109.setTop (mkF m 28 #[.val (.int p0), .val (.int p1), .val (.ref b103)] [(.int (255 : Int32)), (.int ((p1.toUInt32 >>> ((8 : Int32) &&& 31).toUInt32).toInt32)), (.int (1 : Int32)), (.ref b103)])) _
      refine XS.iand X109.here hx rfl (hb hby d1_28) rfl ?_
      show Steps p.tables e below (T109.setTop (mkF m 29 #[.val (.int p0), .val (.int p1), .val (.ref b103)] [(.int (((p1.toUInt32 >>> ((8 : Int32) &&& 31).toUInt32).toInt32) &&& (255 : Int32))), (.int (1 : Int32)), (.ref b103)])) _
      refine XS.i2c X109.here hx rfl (hb hby d1_29) rfl ?_
      show Steps p.tables e below (T109.setTop (mkF m 30 #[.val (.int p0), .val (.int p1), .val (.ref b103)] [(.int ((((p1.toUInt32 >>> ((8 : Int32) &&& 31).toUInt32).toInt32) &&& (255 : Int32)).toUInt32.toUInt16.toUInt32.toInt32)), (.int (1 : Int32)), (.ref b103)])) _
      rw [← hv5]
      refine st115 _ ?_
      show Steps p.tables e below (T115.setTop (mkF m 31 #[.val (.int p0), .val (.int p1), .val (.ref b103)] [])) _
      refine st120 _ ?_
      show Steps p.tables e below (T120.setTop (mkF m 34 #[.val (.int p0), .val (.int p1), .val (.ref b103)] [(.ref b120)])) _
      refine XS.dup X120.here hx rfl (hb hby d1_34) rfl rfl ?_
      show Steps p.tables e below (T120.setTop (mkF m 35 #[.val (.int p0), .val (.int p1), .val (.ref b103)] [(.ref b120), (.ref b120)])) _
      refine XS.aloadN X120.here hx rfl (hb hby d1_35) rfl rfl ?_
      show Steps p.tables e below (T120.setTop (mkF m 36 #[.val (.int p0), .val (.int p1), .val (.ref b103)] [(.ref b103), (.ref b120), (.ref b120)])) _
      refine st127.trans ?_
      exact kt
    refine own_go hgo133 ?_
    exact own_retA X127 hx Bd.returns rfl rfl Bd.notSynchronized (hb hby d1_39) (by decide) (by decide) ⟨(.ref b120), (by rfl), N127, K132, rfl⟩
theorem d8_0 : decode method_3_code 0 = .ok (.iload_n 0, 1) := by decide +kernel
theorem d8_1 : decode method_3_code 1 = .ok (.ifCond .ne 5, 3) := by decide +kernel
theorem d8_4 : decode method_3_code 4 = .ok (.aconst_null, 1) := by decide +kernel
theorem d8_5 : decode method_3_code 5 = .ok (.areturn, 1) := by decide +kernel
theorem ef_8_0 (m : MethodId) (p0 : Int32) : entryFrame m #[(.int p0)] 1 = mkF m 0 #[.val (.int p0)] [] := by (first | (simp [entryFrame, mkF, argsToLocals, Value.category]; done) | rfl)
def Q8_0 (Z : State) (p0 : Int32) (h0 : Heap) (n0 : Nat) (v : Option Value) (h : Heap) (L : List Loc) : Prop := v = some .null ∧ Fr n0 L ∧ h = h0
set_option maxRecDepth 65536 in
set_option maxHeartbeats 40000000 in
theorem rm8_0 (l : Launch) (Z : State) (a0 : Array Value) (hw : ∀ d ∈ tables_1, d.before a0 Z = true) (ws : List Jvm.Cond) (p0 : Int32) (h0 : Heap) (n0 : Nat) (Z0 : n0 ≤ h0.size) (hbb : p0 = (0 : Int32)) :
    MetFree l (⟨"inducere/ActivationSwitchedOffPinLaw", "status", "(I)Linducere/Activation$Status;"⟩ : MethodName) (head1 (Jvm.Cond.code (⟨"inducere/ActivationSwitchedOffPinLaw", "status", "(I)Linducere/Activation$Status;"⟩ : MethodName) method_3_code 1 (some (.object "inducere/Activation$Status")) :: ws) ({ frames := 0, cells := 0, slots := 0, locals := 0 } : Room)) (fun a U => a = #[(.int p0)] ∧ Z.Warmed39 U.vm ∧ U.heap = h0) (fun _ _ _ _ _ => True) (fun _ U o U' => ∃ v L, o = .returned v ∧ Q8_0 Z p0 h0 n0 v U'.heap L ∧ FrameEnd U o U' L ({ frames := 0, cells := 0, slots := 0, locals := 0 } : Room).cells ({ frames := 0, cells := 0, slots := 0, locals := 0 } : Room).slots) := by
  refine MetFree.of_bodySF (plainFor_of_name pn1) hisR ?_
  intro p e s m args below meth c s₁ Bd hml0 hP hK
  obtain ⟨rfl, hZ, hh⟩ := hP
  have hx := Bd.exec
  have hby := Bd.bytes
  have hml : c.maxLocals = 1 := hml0
  have hown : s.vm.findClass "inducere/ActivationSwitchedOffPinLaw" = some m.cls := findClass_of_methodNamed Bd.named
  have hnm := (name_of_methodNamed Bd.named Bd.method).1
  have X0 : Stand p l e ({ frames := 0, cells := 0, slots := 0, locals := 0 } : Room) s m #[(.int p0)] below meth c s₁ [] 0 0 := Stand.of_body Bd
  have e0 : s₁.heap = h0 := by rw [← hh, Bd.state]; rfl
  have N0 := Fr.nil n0
  have K0 : Keep h0 h0 [] := Keep.refl h0 _
  show own_Go p e below s (Q8_0 Z p0 h0 n0) ({ frames := 0, cells := 0, slots := 0, locals := 0 } : Room).cells ({ frames := 0, cells := 0, slots := 0, locals := 0 } : Room).slots (s₁.setTop (entryFrame m #[(.int p0)] 1))
  refine own_go (fun t k => castTop (ef_8_0 m p0) k) ?_
  have hgo101 : ∀ t, Steps p.tables e below (s₁.setTop (mkF m 5 #[.val (.int p0)] [.null])) t → Steps p.tables e below (s₁.setTop (mkF m 0 #[.val (.int p0)] [])) t := by
    intro t kt
    show Steps p.tables e below (s₁.setTop (mkF m 0 #[.val (.int p0)] [])) _
    refine XS.iloadN X0.here hx rfl (hb hby d8_0) rfl ?_
    show Steps p.tables e below (s₁.setTop (mkF m 1 #[.val (.int p0)] [(.int p0)])) _
    refine XS.ifNo X0.here hx rfl (hb hby d8_1) rfl ((if0 _ _).trans (teq hbb).2) ?_
    show Steps p.tables e below (s₁.setTop (mkF m 4 #[.val (.int p0)] [])) _
    refine XS.aconstNull X0.here hx rfl (hb hby d8_4) ?_
    exact kt
  refine own_go hgo101 ?_
  exact own_retA X0 hx Bd.returns rfl rfl Bd.notSynchronized (hb hby d8_5) (by decide) (by decide) (by rw [e0]; exact ⟨(by rfl), N0, rfl⟩)
theorem d8_6 : decode method_3_code 6 = .ok (.iload_n 0, 1) := by decide +kernel
theorem d8_7 : decode method_3_code 7 = .ok (.iconst 1, 1) := by decide +kernel
theorem d8_8 : decode method_3_code 8 = .ok (.if_icmp .ne 7, 3) := by decide +kernel
theorem d8_11 : decode method_3_code 11 = .ok (.getstatic 31, 3) := by decide +kernel
theorem d8_14 : decode method_3_code 14 = .ok (.areturn, 1) := by decide +kernel
theorem ef_8_1 (m : MethodId) (p0 : Int32) : entryFrame m #[(.int p0)] 1 = mkF m 0 #[.val (.int p0)] [] := by (first | (simp [entryFrame, mkF, argsToLocals, Value.category]; done) | rfl)
def Q8_1 (Z : State) (p0 : Int32) (u1 : Addr) (h0 : Heap) (n0 : Nat) (v : Option Value) (h : Heap) (L : List Loc) : Prop := v = some (.ref u1) ∧ Fr n0 L ∧ h = h0
set_option maxRecDepth 65536 in
set_option maxHeartbeats 40000000 in
theorem rm8_1 (l : Launch) (Z : State) (a0 : Array Value) (hw : ∀ d ∈ tables_1, d.before a0 Z = true) (ws : List Jvm.Cond) (p0 : Int32) (u1 : Addr) (h0 : Heap) (n0 : Nat) (Z0 : n0 ≤ h0.size) (ha0 : ¬ (p0 = (0 : Int32))) (hbb : p0 = (1 : Int32)) (S_ENABLED : Sta Z h0 "inducere/Activation$Status" "ENABLED" "Linducere/Activation$Status;" (.ref u1)) :
    MetFree l (⟨"inducere/ActivationSwitchedOffPinLaw", "status", "(I)Linducere/Activation$Status;"⟩ : MethodName) (head1 (Jvm.Cond.code (⟨"inducere/ActivationSwitchedOffPinLaw", "status", "(I)Linducere/Activation$Status;"⟩ : MethodName) method_3_code 1 (some (.object "inducere/Activation$Status")) :: ws) ({ frames := 0, cells := 0, slots := 0, locals := 0 } : Room)) (fun a U => a = #[(.int p0)] ∧ Z.Warmed39 U.vm ∧ U.heap = h0) (fun _ _ _ _ _ => True) (fun _ U o U' => ∃ v L, o = .returned v ∧ Q8_1 Z p0 u1 h0 n0 v U'.heap L ∧ FrameEnd U o U' L ({ frames := 0, cells := 0, slots := 0, locals := 0 } : Room).cells ({ frames := 0, cells := 0, slots := 0, locals := 0 } : Room).slots) := by
  refine MetFree.of_bodySF (plainFor_of_name pn1) hisR ?_
  intro p e s m args below meth c s₁ Bd hml0 hP hK
  obtain ⟨rfl, hZ, hh⟩ := hP
  have hx := Bd.exec
  have hby := Bd.bytes
  have hml : c.maxLocals = 1 := hml0
  have hown : s.vm.findClass "inducere/ActivationSwitchedOffPinLaw" = some m.cls := findClass_of_methodNamed Bd.named
  have hnm := (name_of_methodNamed Bd.named Bd.method).1
  have X0 : Stand p l e ({ frames := 0, cells := 0, slots := 0, locals := 0 } : Room) s m #[(.int p0)] below meth c s₁ [] 0 0 := Stand.of_body Bd
  have e0 : s₁.heap = h0 := by rw [← hh, Bd.state]; rfl
  have N0 := Fr.nil n0
  have K0 : Keep h0 h0 [] := Keep.refl h0 _
  show own_Go p e below s (Q8_1 Z p0 u1 h0 n0) ({ frames := 0, cells := 0, slots := 0, locals := 0 } : Room).cells ({ frames := 0, cells := 0, slots := 0, locals := 0 } : Room).slots (s₁.setTop (entryFrame m #[(.int p0)] 1))
  refine own_go (fun t k => castTop (ef_8_1 m p0) k) ?_
  obtain ⟨T101, X101, e101, st101⟩ := getS2 X0 hx hZ hown (host := "") (Or.inl (hw _ (List.mem_of_getElem? (i := 86) rfl))) Via.refl e0 S_ENABLED (g := (mkF m 11 #[.val (.int p0)] [])) rfl (hb hby d8_11)
  have hgo102 : ∀ t, Steps p.tables e below (T101.setTop (mkF m 14 #[.val (.int p0)] [(.ref u1)])) t → Steps p.tables e below (s₁.setTop (mkF m 0 #[.val (.int p0)] [])) t := by
    intro t kt
    show Steps p.tables e below (s₁.setTop (mkF m 0 #[.val (.int p0)] [])) _
    refine XS.iloadN X0.here hx rfl (hb hby d8_0) rfl ?_
    show Steps p.tables e below (s₁.setTop (mkF m 1 #[.val (.int p0)] [(.int p0)])) _
    refine XS.ifYes X0.here hx rfl (pc0 := 1) (pc' := 6) rfl (hb hby d8_1) rfl ((if0 _ _).trans (feq ha0).2) (by decide) (by decide) ?_
    show Steps p.tables e below (s₁.setTop (mkF m 6 #[.val (.int p0)] [])) _
    refine XS.iloadN X0.here hx rfl (hb hby d8_6) rfl ?_
    show Steps p.tables e below (s₁.setTop (mkF m 7 #[.val (.int p0)] [(.int p0)])) _
    refine XS.iconst X0.here hx rfl (hb hby d8_7) ?_
    show Steps p.tables e below (s₁.setTop (mkF m 8 #[.val (.int p0)] [(.int (1 : Int32)), (.int p0)])) _
    refine XS.icmpNo X0.here hx rfl (hb hby d8_8) rfl (teq hbb).2 ?_
    show Steps p.tables e below (s₁.setTop (mkF m 11 #[.val (.int p0)] [])) _
    refine st101 _ ?_
    exact kt
  refine own_go hgo102 ?_
  exact own_retA X101 hx Bd.returns rfl rfl Bd.notSynchronized (hb hby d8_14) (by decide) (by decide) (by rw [e101]; exact ⟨(by rfl), N0, rfl⟩)
theorem d8_15 : decode method_3_code 15 = .ok (.iload_n 0, 1) := by decide +kernel
theorem d8_16 : decode method_3_code 16 = .ok (.iconst 2, 1) := by decide +kernel
theorem d8_17 : decode method_3_code 17 = .ok (.if_icmp .ne 7, 3) := by decide +kernel
theorem d8_20 : decode method_3_code 20 = .ok (.getstatic 37, 3) := by decide +kernel
theorem d8_23 : decode method_3_code 23 = .ok (.areturn, 1) := by decide +kernel
theorem ef_8_2 (m : MethodId) (p0 : Int32) : entryFrame m #[(.int p0)] 1 = mkF m 0 #[.val (.int p0)] [] := by (first | (simp [entryFrame, mkF, argsToLocals, Value.category]; done) | rfl)
def Q8_2 (Z : State) (p0 : Int32) (u1 : Addr) (h0 : Heap) (n0 : Nat) (v : Option Value) (h : Heap) (L : List Loc) : Prop := v = some (.ref u1) ∧ Fr n0 L ∧ h = h0
set_option maxRecDepth 65536 in
set_option maxHeartbeats 40000000 in
theorem rm8_2 (l : Launch) (Z : State) (a0 : Array Value) (hw : ∀ d ∈ tables_1, d.before a0 Z = true) (ws : List Jvm.Cond) (p0 : Int32) (u1 : Addr) (h0 : Heap) (n0 : Nat) (Z0 : n0 ≤ h0.size) (ha0 : ¬ (p0 = (0 : Int32))) (ha1 : ¬ (p0 = (1 : Int32))) (hbb : p0 = (2 : Int32)) (S_DISABLED : Sta Z h0 "inducere/Activation$Status" "DISABLED" "Linducere/Activation$Status;" (.ref u1)) :
    MetFree l (⟨"inducere/ActivationSwitchedOffPinLaw", "status", "(I)Linducere/Activation$Status;"⟩ : MethodName) (head1 (Jvm.Cond.code (⟨"inducere/ActivationSwitchedOffPinLaw", "status", "(I)Linducere/Activation$Status;"⟩ : MethodName) method_3_code 1 (some (.object "inducere/Activation$Status")) :: ws) ({ frames := 0, cells := 0, slots := 0, locals := 0 } : Room)) (fun a U => a = #[(.int p0)] ∧ Z.Warmed39 U.vm ∧ U.heap = h0) (fun _ _ _ _ _ => True) (fun _ U o U' => ∃ v L, o = .returned v ∧ Q8_2 Z p0 u1 h0 n0 v U'.heap L ∧ FrameEnd U o U' L ({ frames := 0, cells := 0, slots := 0, locals := 0 } : Room).cells ({ frames := 0, cells := 0, slots := 0, locals := 0 } : Room).slots) := by
  refine MetFree.of_bodySF (plainFor_of_name pn1) hisR ?_
  intro p e s m args below meth c s₁ Bd hml0 hP hK
  obtain ⟨rfl, hZ, hh⟩ := hP
  have hx := Bd.exec
  have hby := Bd.bytes
  have hml : c.maxLocals = 1 := hml0
  have hown : s.vm.findClass "inducere/ActivationSwitchedOffPinLaw" = some m.cls := findClass_of_methodNamed Bd.named
  have hnm := (name_of_methodNamed Bd.named Bd.method).1
  have X0 : Stand p l e ({ frames := 0, cells := 0, slots := 0, locals := 0 } : Room) s m #[(.int p0)] below meth c s₁ [] 0 0 := Stand.of_body Bd
  have e0 : s₁.heap = h0 := by rw [← hh, Bd.state]; rfl
  have N0 := Fr.nil n0
  have K0 : Keep h0 h0 [] := Keep.refl h0 _
  show own_Go p e below s (Q8_2 Z p0 u1 h0 n0) ({ frames := 0, cells := 0, slots := 0, locals := 0 } : Room).cells ({ frames := 0, cells := 0, slots := 0, locals := 0 } : Room).slots (s₁.setTop (entryFrame m #[(.int p0)] 1))
  refine own_go (fun t k => castTop (ef_8_2 m p0) k) ?_
  obtain ⟨T101, X101, e101, st101⟩ := getS2 X0 hx hZ hown (host := "") (Or.inl (hw _ (List.mem_of_getElem? (i := 78) rfl))) Via.refl e0 S_DISABLED (g := (mkF m 20 #[.val (.int p0)] [])) rfl (hb hby d8_20)
  have hgo102 : ∀ t, Steps p.tables e below (T101.setTop (mkF m 23 #[.val (.int p0)] [(.ref u1)])) t → Steps p.tables e below (s₁.setTop (mkF m 0 #[.val (.int p0)] [])) t := by
    intro t kt
    show Steps p.tables e below (s₁.setTop (mkF m 0 #[.val (.int p0)] [])) _
    refine XS.iloadN X0.here hx rfl (hb hby d8_0) rfl ?_
    show Steps p.tables e below (s₁.setTop (mkF m 1 #[.val (.int p0)] [(.int p0)])) _
    refine XS.ifYes X0.here hx rfl (pc0 := 1) (pc' := 6) rfl (hb hby d8_1) rfl ((if0 _ _).trans (feq ha0).2) (by decide) (by decide) ?_
    show Steps p.tables e below (s₁.setTop (mkF m 6 #[.val (.int p0)] [])) _
    refine XS.iloadN X0.here hx rfl (hb hby d8_6) rfl ?_
    show Steps p.tables e below (s₁.setTop (mkF m 7 #[.val (.int p0)] [(.int p0)])) _
    refine XS.iconst X0.here hx rfl (hb hby d8_7) ?_
    show Steps p.tables e below (s₁.setTop (mkF m 8 #[.val (.int p0)] [(.int (1 : Int32)), (.int p0)])) _
    refine XS.icmpYes X0.here hx rfl (pc0 := 8) (pc' := 15) rfl (hb hby d8_8) rfl (feq ha1).2 (by decide) (by decide) ?_
    show Steps p.tables e below (s₁.setTop (mkF m 15 #[.val (.int p0)] [])) _
    refine XS.iloadN X0.here hx rfl (hb hby d8_15) rfl ?_
    show Steps p.tables e below (s₁.setTop (mkF m 16 #[.val (.int p0)] [(.int p0)])) _
    refine XS.iconst X0.here hx rfl (hb hby d8_16) ?_
    show Steps p.tables e below (s₁.setTop (mkF m 17 #[.val (.int p0)] [(.int (2 : Int32)), (.int p0)])) _
    refine XS.icmpNo X0.here hx rfl (hb hby d8_17) rfl (teq hbb).2 ?_
    show Steps p.tables e below (s₁.setTop (mkF m 20 #[.val (.int p0)] [])) _
    refine st101 _ ?_
    exact kt
  refine own_go hgo102 ?_
  exact own_retA X101 hx Bd.returns rfl rfl Bd.notSynchronized (hb hby d8_23) (by decide) (by decide) (by rw [e101]; exact ⟨(by rfl), N0, rfl⟩)
theorem d8_24 : decode method_3_code 24 = .ok (.getstatic 40, 3) := by decide +kernel
theorem d8_27 : decode method_3_code 27 = .ok (.areturn, 1) := by decide +kernel
theorem ef_8_3 (m : MethodId) (p0 : Int32) : entryFrame m #[(.int p0)] 1 = mkF m 0 #[.val (.int p0)] [] := by (first | (simp [entryFrame, mkF, argsToLocals, Value.category]; done) | rfl)
def Q8_3 (Z : State) (p0 : Int32) (u1 : Addr) (h0 : Heap) (n0 : Nat) (v : Option Value) (h : Heap) (L : List Loc) : Prop := v = some (.ref u1) ∧ Fr n0 L ∧ h = h0
set_option maxRecDepth 65536 in
set_option maxHeartbeats 40000000 in
theorem rm8_3 (l : Launch) (Z : State) (a0 : Array Value) (hw : ∀ d ∈ tables_1, d.before a0 Z = true) (ws : List Jvm.Cond) (p0 : Int32) (u1 : Addr) (h0 : Heap) (n0 : Nat) (Z0 : n0 ≤ h0.size) (ha0 : ¬ (p0 = (0 : Int32))) (ha1 : ¬ (p0 = (1 : Int32))) (ha2 : ¬ (p0 = (2 : Int32))) (S_ARCHIVED : Sta Z h0 "inducere/Activation$Status" "ARCHIVED" "Linducere/Activation$Status;" (.ref u1)) :
    MetFree l (⟨"inducere/ActivationSwitchedOffPinLaw", "status", "(I)Linducere/Activation$Status;"⟩ : MethodName) (head1 (Jvm.Cond.code (⟨"inducere/ActivationSwitchedOffPinLaw", "status", "(I)Linducere/Activation$Status;"⟩ : MethodName) method_3_code 1 (some (.object "inducere/Activation$Status")) :: ws) ({ frames := 0, cells := 0, slots := 0, locals := 0 } : Room)) (fun a U => a = #[(.int p0)] ∧ Z.Warmed39 U.vm ∧ U.heap = h0) (fun _ _ _ _ _ => True) (fun _ U o U' => ∃ v L, o = .returned v ∧ Q8_3 Z p0 u1 h0 n0 v U'.heap L ∧ FrameEnd U o U' L ({ frames := 0, cells := 0, slots := 0, locals := 0 } : Room).cells ({ frames := 0, cells := 0, slots := 0, locals := 0 } : Room).slots) := by
  refine MetFree.of_bodySF (plainFor_of_name pn1) hisR ?_
  intro p e s m args below meth c s₁ Bd hml0 hP hK
  obtain ⟨rfl, hZ, hh⟩ := hP
  have hx := Bd.exec
  have hby := Bd.bytes
  have hml : c.maxLocals = 1 := hml0
  have hown : s.vm.findClass "inducere/ActivationSwitchedOffPinLaw" = some m.cls := findClass_of_methodNamed Bd.named
  have hnm := (name_of_methodNamed Bd.named Bd.method).1
  have X0 : Stand p l e ({ frames := 0, cells := 0, slots := 0, locals := 0 } : Room) s m #[(.int p0)] below meth c s₁ [] 0 0 := Stand.of_body Bd
  have e0 : s₁.heap = h0 := by rw [← hh, Bd.state]; rfl
  have N0 := Fr.nil n0
  have K0 : Keep h0 h0 [] := Keep.refl h0 _
  show own_Go p e below s (Q8_3 Z p0 u1 h0 n0) ({ frames := 0, cells := 0, slots := 0, locals := 0 } : Room).cells ({ frames := 0, cells := 0, slots := 0, locals := 0 } : Room).slots (s₁.setTop (entryFrame m #[(.int p0)] 1))
  refine own_go (fun t k => castTop (ef_8_3 m p0) k) ?_
  obtain ⟨T101, X101, e101, st101⟩ := getS2 X0 hx hZ hown (host := "") (Or.inl (hw _ (List.mem_of_getElem? (i := 41) rfl))) Via.refl e0 S_ARCHIVED (g := (mkF m 24 #[.val (.int p0)] [])) rfl (hb hby d8_24)
  have hgo102 : ∀ t, Steps p.tables e below (T101.setTop (mkF m 27 #[.val (.int p0)] [(.ref u1)])) t → Steps p.tables e below (s₁.setTop (mkF m 0 #[.val (.int p0)] [])) t := by
    intro t kt
    show Steps p.tables e below (s₁.setTop (mkF m 0 #[.val (.int p0)] [])) _
    refine XS.iloadN X0.here hx rfl (hb hby d8_0) rfl ?_
    show Steps p.tables e below (s₁.setTop (mkF m 1 #[.val (.int p0)] [(.int p0)])) _
    refine XS.ifYes X0.here hx rfl (pc0 := 1) (pc' := 6) rfl (hb hby d8_1) rfl ((if0 _ _).trans (feq ha0).2) (by decide) (by decide) ?_
    show Steps p.tables e below (s₁.setTop (mkF m 6 #[.val (.int p0)] [])) _
    refine XS.iloadN X0.here hx rfl (hb hby d8_6) rfl ?_
    show Steps p.tables e below (s₁.setTop (mkF m 7 #[.val (.int p0)] [(.int p0)])) _
    refine XS.iconst X0.here hx rfl (hb hby d8_7) ?_
    show Steps p.tables e below (s₁.setTop (mkF m 8 #[.val (.int p0)] [(.int (1 : Int32)), (.int p0)])) _
    refine XS.icmpYes X0.here hx rfl (pc0 := 8) (pc' := 15) rfl (hb hby d8_8) rfl (feq ha1).2 (by decide) (by decide) ?_
    show Steps p.tables e below (s₁.setTop (mkF m 15 #[.val (.int p0)] [])) _
    refine XS.iloadN X0.here hx rfl (hb hby d8_15) rfl ?_
    show Steps p.tables e below (s₁.setTop (mkF m 16 #[.val (.int p0)] [(.int p0)])) _
    refine XS.iconst X0.here hx rfl (hb hby d8_16) ?_
    show Steps p.tables e below (s₁.setTop (mkF m 17 #[.val (.int p0)] [(.int (2 : Int32)), (.int p0)])) _
    refine XS.icmpYes X0.here hx rfl (pc0 := 17) (pc' := 24) rfl (hb hby d8_17) rfl (feq ha2).2 (by decide) (by decide) ?_
    show Steps p.tables e below (s₁.setTop (mkF m 24 #[.val (.int p0)] [])) _
    refine st101 _ ?_
    exact kt
  refine own_go hgo102 ?_
  exact own_retA X101 hx Bd.returns rfl rfl Bd.notSynchronized (hb hby d8_27) (by decide) (by decide) (by rw [e101]; exact ⟨(by rfl), N0, rfl⟩)
def own_on (l : Int32) : Int32 := if l = (2 : Int32) then (1 : Int32) else if l = (3 : Int32) then (1 : Int32) else (0 : Int32)
theorem d9_0 : decode method_2_code 0 = .ok (.iload_n 0, 1) := by decide +kernel
theorem d9_1 : decode method_2_code 1 = .ok (.ifCond .ne 7, 3) := by decide +kernel
theorem d9_4 : decode method_2_code 4 = .ok (.getstatic 7, 3) := by decide +kernel
theorem d9_7 : decode method_2_code 7 = .ok (.areturn, 1) := by decide +kernel
theorem d9_8 : decode method_2_code 8 = .ok (.iload_n 0, 1) := by decide +kernel
theorem d9_9 : decode method_2_code 9 = .ok (.iconst 1, 1) := by decide +kernel
theorem d9_10 : decode method_2_code 10 = .ok (.if_icmp .ne 7, 3) := by decide +kernel
theorem d9_13 : decode method_2_code 13 = .ok (.getstatic 13, 3) := by decide +kernel
theorem d9_16 : decode method_2_code 16 = .ok (.areturn, 1) := by decide +kernel
theorem d9_17 : decode method_2_code 17 = .ok (.iload_n 0, 1) := by decide +kernel
theorem d9_18 : decode method_2_code 18 = .ok (.iconst 2, 1) := by decide +kernel
theorem d9_19 : decode method_2_code 19 = .ok (.if_icmp .ne 7, 3) := by decide +kernel
theorem d9_22 : decode method_2_code 22 = .ok (.getstatic 16, 3) := by decide +kernel
theorem d9_25 : decode method_2_code 25 = .ok (.areturn, 1) := by decide +kernel
theorem d9_26 : decode method_2_code 26 = .ok (.iload_n 0, 1) := by decide +kernel
theorem d9_27 : decode method_2_code 27 = .ok (.iconst 3, 1) := by decide +kernel
theorem d9_28 : decode method_2_code 28 = .ok (.if_icmp .ne 7, 3) := by decide +kernel
theorem d9_31 : decode method_2_code 31 = .ok (.getstatic 19, 3) := by decide +kernel
theorem d9_34 : decode method_2_code 34 = .ok (.areturn, 1) := by decide +kernel
theorem d9_35 : decode method_2_code 35 = .ok (.iload_n 0, 1) := by decide +kernel
theorem d9_36 : decode method_2_code 36 = .ok (.iconst 4, 1) := by decide +kernel
theorem d9_37 : decode method_2_code 37 = .ok (.if_icmp .ne 7, 3) := by decide +kernel
theorem d9_40 : decode method_2_code 40 = .ok (.getstatic 22, 3) := by decide +kernel
theorem d9_43 : decode method_2_code 43 = .ok (.areturn, 1) := by decide +kernel
theorem d9_44 : decode method_2_code 44 = .ok (.iload_n 0, 1) := by decide +kernel
theorem d9_45 : decode method_2_code 45 = .ok (.iconst 5, 1) := by decide +kernel
theorem d9_46 : decode method_2_code 46 = .ok (.if_icmp .ne 7, 3) := by decide +kernel
theorem d9_49 : decode method_2_code 49 = .ok (.getstatic 25, 3) := by decide +kernel
theorem d9_52 : decode method_2_code 52 = .ok (.areturn, 1) := by decide +kernel
theorem d9_53 : decode method_2_code 53 = .ok (.getstatic 28, 3) := by decide +kernel
theorem d9_56 : decode method_2_code 56 = .ok (.areturn, 1) := by decide +kernel
theorem ef_9 (m : MethodId) (p0 : Int32) : entryFrame m #[(.int p0)] 1 = mkF m 0 #[.val (.int p0)] [] := by (first | (simp [entryFrame, mkF, argsToLocals, Value.category]; done) | rfl)
def Q9 (Z : State) (p0 : Int32) (us1 : Addr) (us2 : Addr) (us4 : Addr) (us5 : Addr) (us7 : Addr) (us8 : Addr) (us9 : Addr) (h0 : Heap) (n0 : Nat) (v : Option Value) (h : Heap) (L : List Loc) : Prop := ∃ x0 : Addr, v = some (.ref x0) ∧ Fr n0 L ∧ Keep h0 h [] ∧ Exa Z h x0 "inducere/Activation$Lifecycle" ∧ Fld Z h x0 "inducere/Activation$Lifecycle" "on" "Z" (.int (own_on p0))
set_option maxRecDepth 65536 in
set_option maxHeartbeats 40000000 in
theorem rm9 (l : Launch) (Z : State) (a0 : Array Value) (hw : ∀ d ∈ tables_1, d.before a0 Z = true) (ws : List Jvm.Cond) (p0 : Int32) (us1 : Addr) (us2 : Addr) (us4 : Addr) (us5 : Addr) (us7 : Addr) (us8 : Addr) (us9 : Addr) (h0 : Heap) (n0 : Nat) (Z0 : n0 ≤ h0.size) (S_us1 : Sta Z h0 "inducere/Activation$Lifecycle" "DRAFT" "Linducere/Activation$Lifecycle;" (.ref us1)) (E_us1 : Exa Z h0 us1 "inducere/Activation$Lifecycle") (S_us2 : Sta Z h0 "inducere/Activation$Lifecycle" "DEPRECATED" "Linducere/Activation$Lifecycle;" (.ref us2)) (E_us2 : Exa Z h0 us2 "inducere/Activation$Lifecycle") (S_us4 : Sta Z h0 "inducere/Activation$Lifecycle" "ARCHIVED" "Linducere/Activation$Lifecycle;" (.ref us4)) (E_us4 : Exa Z h0 us4 "inducere/Activation$Lifecycle") (S_us5 : Sta Z h0 "inducere/Activation$Lifecycle" "PROPOSED" "Linducere/Activation$Lifecycle;" (.ref us5)) (E_us5 : Exa Z h0 us5 "inducere/Activation$Lifecycle") (S_us7 : Sta Z h0 "inducere/Activation$Lifecycle" "FAILED" "Linducere/Activation$Lifecycle;" (.ref us7)) (E_us7 : Exa Z h0 us7 "inducere/Activation$Lifecycle") (S_us8 : Sta Z h0 "inducere/Activation$Lifecycle" "ACTIVE" "Linducere/Activation$Lifecycle;" (.ref us8)) (E_us8 : Exa Z h0 us8 "inducere/Activation$Lifecycle") (S_us9 : Sta Z h0 "inducere/Activation$Lifecycle" "SUSPENDED" "Linducere/Activation$Lifecycle;" (.ref us9)) (E_us9 : Exa Z h0 us9 "inducere/Activation$Lifecycle") (F_on_us1 : Fld Z h0 us1 "inducere/Activation$Lifecycle" "on" "Z" (.int (0 : Int32))) (F_on_us2 : Fld Z h0 us2 "inducere/Activation$Lifecycle" "on" "Z" (.int (1 : Int32))) (F_on_us4 : Fld Z h0 us4 "inducere/Activation$Lifecycle" "on" "Z" (.int (0 : Int32))) (F_on_us5 : Fld Z h0 us5 "inducere/Activation$Lifecycle" "on" "Z" (.int (0 : Int32))) (F_on_us7 : Fld Z h0 us7 "inducere/Activation$Lifecycle" "on" "Z" (.int (0 : Int32))) (F_on_us8 : Fld Z h0 us8 "inducere/Activation$Lifecycle" "on" "Z" (.int (1 : Int32))) (F_on_us9 : Fld Z h0 us9 "inducere/Activation$Lifecycle" "on" "Z" (.int (0 : Int32))) :
    MetFree l (⟨"inducere/ActivationSwitchedOffPinLaw", "life", "(I)Linducere/Activation$Lifecycle;"⟩ : MethodName) (head1 (Jvm.Cond.code (⟨"inducere/ActivationSwitchedOffPinLaw", "life", "(I)Linducere/Activation$Lifecycle;"⟩ : MethodName) method_2_code 1 (some (.object "inducere/Activation$Lifecycle")) :: ws) ({ frames := 0, cells := 0, slots := 0, locals := 0 } : Room)) (fun a U => a = #[(.int p0)] ∧ Z.Warmed39 U.vm ∧ U.heap = h0) (fun _ _ _ _ _ => True) (fun _ U o U' => ∃ v L, o = .returned v ∧ Q9 Z p0 us1 us2 us4 us5 us7 us8 us9 h0 n0 v U'.heap L ∧ FrameEnd U o U' L ({ frames := 0, cells := 0, slots := 0, locals := 0 } : Room).cells ({ frames := 0, cells := 0, slots := 0, locals := 0 } : Room).slots) := by
  refine MetFree.of_bodySF (plainFor_of_name pn1) hisR ?_
  intro p e s m args below meth c s₁ Bd hml0 hP hK
  obtain ⟨rfl, hZ, hh⟩ := hP
  have hx := Bd.exec
  have hby := Bd.bytes
  have hml : c.maxLocals = 1 := hml0
  have hown : s.vm.findClass "inducere/ActivationSwitchedOffPinLaw" = some m.cls := findClass_of_methodNamed Bd.named
  have hnm := (name_of_methodNamed Bd.named Bd.method).1
  have X0 : Stand p l e ({ frames := 0, cells := 0, slots := 0, locals := 0 } : Room) s m #[(.int p0)] below meth c s₁ [] 0 0 := Stand.of_body Bd
  have e0 : s₁.heap = h0 := by rw [← hh, Bd.state]; rfl
  have N0 := Fr.nil n0
  have K0 : Keep h0 h0 [] := Keep.refl h0 _
  show own_Go p e below s (Q9 Z p0 us1 us2 us4 us5 us7 us8 us9 h0 n0) ({ frames := 0, cells := 0, slots := 0, locals := 0 } : Room).cells ({ frames := 0, cells := 0, slots := 0, locals := 0 } : Room).slots (s₁.setTop (entryFrame m #[(.int p0)] 1))
  refine own_go (fun t k => castTop (ef_9 m p0) k) ?_
  have hgo101 : ∀ t, Steps p.tables e below (s₁.setTop (mkF m 1 #[.val (.int p0)] [(.int p0)])) t → Steps p.tables e below (s₁.setTop (mkF m 0 #[.val (.int p0)] [])) t := by
    intro t kt
    show Steps p.tables e below (s₁.setTop (mkF m 0 #[.val (.int p0)] [])) _
    refine XS.iloadN X0.here hx rfl (hb hby d9_0) rfl ?_
    exact kt
  refine own_go hgo101 ?_
  by_cases hc1_1 : p0 = (0 : Int32)
  · obtain ⟨T102, X102, e102, st102⟩ := getS2 X0 hx hZ hown (host := "") (Or.inl (hw _ (List.mem_of_getElem? (i := 47) rfl))) Via.refl e0 S_us1 (g := (mkF m 4 #[.val (.int p0)] [])) rfl (hb hby d9_4)
    have hgo103 : ∀ t, Steps p.tables e below (T102.setTop (mkF m 7 #[.val (.int p0)] [(.ref us1)])) t → Steps p.tables e below (s₁.setTop (mkF m 1 #[.val (.int p0)] [(.int p0)])) t := by
      intro t kt
      show Steps p.tables e below (s₁.setTop (mkF m 1 #[.val (.int p0)] [(.int p0)])) _
      refine XS.ifNo X0.here hx rfl (hb hby d9_1) rfl ((if0 _ _).trans (teq hc1_1).2) ?_
      show Steps p.tables e below (s₁.setTop (mkF m 4 #[.val (.int p0)] [])) _
      refine st102 _ ?_
      exact kt
    refine own_go hgo103 ?_
    exact own_retA X102 hx Bd.returns rfl rfl Bd.notSynchronized (hb hby d9_7) (by decide) (by decide) (by rw [e102]; exact ⟨us1, (by rfl), N0, K0, E_us1, (by rw [show own_on p0 = (0 : Int32) from by rw [hc1_1]; decide]; exact F_on_us1)⟩)
  · have hgo104 : ∀ t, Steps p.tables e below (s₁.setTop (mkF m 10 #[.val (.int p0)] [(.int (1 : Int32)), (.int p0)])) t → Steps p.tables e below (s₁.setTop (mkF m 1 #[.val (.int p0)] [(.int p0)])) t := by
      intro t kt
      show Steps p.tables e below (s₁.setTop (mkF m 1 #[.val (.int p0)] [(.int p0)])) _
      refine XS.ifYes X0.here hx rfl (pc0 := 1) (pc' := 8) rfl (hb hby d9_1) rfl ((if0 _ _).trans (feq hc1_1).2) (by decide) (by decide) ?_
      show Steps p.tables e below (s₁.setTop (mkF m 8 #[.val (.int p0)] [])) _
      refine XS.iloadN X0.here hx rfl (hb hby d9_8) rfl ?_
      show Steps p.tables e below (s₁.setTop (mkF m 9 #[.val (.int p0)] [(.int p0)])) _
      refine XS.iconst X0.here hx rfl (hb hby d9_9) ?_
      exact kt
    refine own_go hgo104 ?_
    by_cases hc10_2 : p0 = (1 : Int32)
    · obtain ⟨T105, X105, e105, st105⟩ := getS2 X0 hx hZ hown (host := "") (Or.inl (hw _ (List.mem_of_getElem? (i := 84) rfl))) Via.refl e0 S_us5 (g := (mkF m 13 #[.val (.int p0)] [])) rfl (hb hby d9_13)
      have hgo106 : ∀ t, Steps p.tables e below (T105.setTop (mkF m 16 #[.val (.int p0)] [(.ref us5)])) t → Steps p.tables e below (s₁.setTop (mkF m 10 #[.val (.int p0)] [(.int (1 : Int32)), (.int p0)])) t := by
        intro t kt
        show Steps p.tables e below (s₁.setTop (mkF m 10 #[.val (.int p0)] [(.int (1 : Int32)), (.int p0)])) _
        refine XS.icmpNo X0.here hx rfl (hb hby d9_10) rfl (teq hc10_2).2 ?_
        show Steps p.tables e below (s₁.setTop (mkF m 13 #[.val (.int p0)] [])) _
        refine st105 _ ?_
        exact kt
      refine own_go hgo106 ?_
      exact own_retA X105 hx Bd.returns rfl rfl Bd.notSynchronized (hb hby d9_16) (by decide) (by decide) (by rw [e105]; exact ⟨us5, (by rfl), N0, K0, E_us5, (by rw [show own_on p0 = (0 : Int32) from by rw [hc10_2]; decide]; exact F_on_us5)⟩)
    · have hgo107 : ∀ t, Steps p.tables e below (s₁.setTop (mkF m 19 #[.val (.int p0)] [(.int (2 : Int32)), (.int p0)])) t → Steps p.tables e below (s₁.setTop (mkF m 10 #[.val (.int p0)] [(.int (1 : Int32)), (.int p0)])) t := by
        intro t kt
        show Steps p.tables e below (s₁.setTop (mkF m 10 #[.val (.int p0)] [(.int (1 : Int32)), (.int p0)])) _
        refine XS.icmpYes X0.here hx rfl (pc0 := 10) (pc' := 17) rfl (hb hby d9_10) rfl (feq hc10_2).2 (by decide) (by decide) ?_
        show Steps p.tables e below (s₁.setTop (mkF m 17 #[.val (.int p0)] [])) _
        refine XS.iloadN X0.here hx rfl (hb hby d9_17) rfl ?_
        show Steps p.tables e below (s₁.setTop (mkF m 18 #[.val (.int p0)] [(.int p0)])) _
        refine XS.iconst X0.here hx rfl (hb hby d9_18) ?_
        exact kt
      refine own_go hgo107 ?_
      by_cases hc19_3 : p0 = (2 : Int32)
      · obtain ⟨T108, X108, e108, st108⟩ := getS2 X0 hx hZ hown (host := "") (Or.inl (hw _ (List.mem_of_getElem? (i := 90) rfl))) Via.refl e0 S_us8 (g := (mkF m 22 #[.val (.int p0)] [])) rfl (hb hby d9_22)
        have hgo109 : ∀ t, Steps p.tables e below (T108.setTop (mkF m 25 #[.val (.int p0)] [(.ref us8)])) t → Steps p.tables e below (s₁.setTop (mkF m 19 #[.val (.int p0)] [(.int (2 : Int32)), (.int p0)])) t := by
          intro t kt
          show Steps p.tables e below (s₁.setTop (mkF m 19 #[.val (.int p0)] [(.int (2 : Int32)), (.int p0)])) _
          refine XS.icmpNo X0.here hx rfl (hb hby d9_19) rfl (teq hc19_3).2 ?_
          show Steps p.tables e below (s₁.setTop (mkF m 22 #[.val (.int p0)] [])) _
          refine st108 _ ?_
          exact kt
        refine own_go hgo109 ?_
        exact own_retA X108 hx Bd.returns rfl rfl Bd.notSynchronized (hb hby d9_25) (by decide) (by decide) (by rw [e108]; exact ⟨us8, (by rfl), N0, K0, E_us8, (by rw [show own_on p0 = (1 : Int32) from by rw [hc19_3]; decide]; exact F_on_us8)⟩)
      · have hgo110 : ∀ t, Steps p.tables e below (s₁.setTop (mkF m 28 #[.val (.int p0)] [(.int (3 : Int32)), (.int p0)])) t → Steps p.tables e below (s₁.setTop (mkF m 19 #[.val (.int p0)] [(.int (2 : Int32)), (.int p0)])) t := by
          intro t kt
          show Steps p.tables e below (s₁.setTop (mkF m 19 #[.val (.int p0)] [(.int (2 : Int32)), (.int p0)])) _
          refine XS.icmpYes X0.here hx rfl (pc0 := 19) (pc' := 26) rfl (hb hby d9_19) rfl (feq hc19_3).2 (by decide) (by decide) ?_
          show Steps p.tables e below (s₁.setTop (mkF m 26 #[.val (.int p0)] [])) _
          refine XS.iloadN X0.here hx rfl (hb hby d9_26) rfl ?_
          show Steps p.tables e below (s₁.setTop (mkF m 27 #[.val (.int p0)] [(.int p0)])) _
          refine XS.iconst X0.here hx rfl (hb hby d9_27) ?_
          exact kt
        refine own_go hgo110 ?_
        by_cases hc28_4 : p0 = (3 : Int32)
        · obtain ⟨T111, X111, e111, st111⟩ := getS2 X0 hx hZ hown (host := "") (Or.inl (hw _ (List.mem_of_getElem? (i := 76) rfl))) Via.refl e0 S_us2 (g := (mkF m 31 #[.val (.int p0)] [])) rfl (hb hby d9_31)
          have hgo112 : ∀ t, Steps p.tables e below (T111.setTop (mkF m 34 #[.val (.int p0)] [(.ref us2)])) t → Steps p.tables e below (s₁.setTop (mkF m 28 #[.val (.int p0)] [(.int (3 : Int32)), (.int p0)])) t := by
            intro t kt
            show Steps p.tables e below (s₁.setTop (mkF m 28 #[.val (.int p0)] [(.int (3 : Int32)), (.int p0)])) _
            refine XS.icmpNo X0.here hx rfl (hb hby d9_28) rfl (teq hc28_4).2 ?_
            show Steps p.tables e below (s₁.setTop (mkF m 31 #[.val (.int p0)] [])) _
            refine st111 _ ?_
            exact kt
          refine own_go hgo112 ?_
          exact own_retA X111 hx Bd.returns rfl rfl Bd.notSynchronized (hb hby d9_34) (by decide) (by decide) (by rw [e111]; exact ⟨us2, (by rfl), N0, K0, E_us2, (by rw [show own_on p0 = (1 : Int32) from by rw [hc28_4]; decide]; exact F_on_us2)⟩)
        · have hgo113 : ∀ t, Steps p.tables e below (s₁.setTop (mkF m 37 #[.val (.int p0)] [(.int (4 : Int32)), (.int p0)])) t → Steps p.tables e below (s₁.setTop (mkF m 28 #[.val (.int p0)] [(.int (3 : Int32)), (.int p0)])) t := by
            intro t kt
            show Steps p.tables e below (s₁.setTop (mkF m 28 #[.val (.int p0)] [(.int (3 : Int32)), (.int p0)])) _
            refine XS.icmpYes X0.here hx rfl (pc0 := 28) (pc' := 35) rfl (hb hby d9_28) rfl (feq hc28_4).2 (by decide) (by decide) ?_
            show Steps p.tables e below (s₁.setTop (mkF m 35 #[.val (.int p0)] [])) _
            refine XS.iloadN X0.here hx rfl (hb hby d9_35) rfl ?_
            show Steps p.tables e below (s₁.setTop (mkF m 36 #[.val (.int p0)] [(.int p0)])) _
            refine XS.iconst X0.here hx rfl (hb hby d9_36) ?_
            exact kt
          refine own_go hgo113 ?_
          by_cases hc37_5 : p0 = (4 : Int32)
          · obtain ⟨T114, X114, e114, st114⟩ := getS2 X0 hx hZ hown (host := "") (Or.inl (hw _ (List.mem_of_getElem? (i := 92) rfl))) Via.refl e0 S_us9 (g := (mkF m 40 #[.val (.int p0)] [])) rfl (hb hby d9_40)
            have hgo115 : ∀ t, Steps p.tables e below (T114.setTop (mkF m 43 #[.val (.int p0)] [(.ref us9)])) t → Steps p.tables e below (s₁.setTop (mkF m 37 #[.val (.int p0)] [(.int (4 : Int32)), (.int p0)])) t := by
              intro t kt
              show Steps p.tables e below (s₁.setTop (mkF m 37 #[.val (.int p0)] [(.int (4 : Int32)), (.int p0)])) _
              refine XS.icmpNo X0.here hx rfl (hb hby d9_37) rfl (teq hc37_5).2 ?_
              show Steps p.tables e below (s₁.setTop (mkF m 40 #[.val (.int p0)] [])) _
              refine st114 _ ?_
              exact kt
            refine own_go hgo115 ?_
            exact own_retA X114 hx Bd.returns rfl rfl Bd.notSynchronized (hb hby d9_43) (by decide) (by decide) (by rw [e114]; exact ⟨us9, (by rfl), N0, K0, E_us9, (by rw [show own_on p0 = (0 : Int32) from by rw [hc37_5]; decide]; exact F_on_us9)⟩)
          · have hgo116 : ∀ t, Steps p.tables e below (s₁.setTop (mkF m 46 #[.val (.int p0)] [(.int (5 : Int32)), (.int p0)])) t → Steps p.tables e below (s₁.setTop (mkF m 37 #[.val (.int p0)] [(.int (4 : Int32)), (.int p0)])) t := by
              intro t kt
              show Steps p.tables e below (s₁.setTop (mkF m 37 #[.val (.int p0)] [(.int (4 : Int32)), (.int p0)])) _
              refine XS.icmpYes X0.here hx rfl (pc0 := 37) (pc' := 44) rfl (hb hby d9_37) rfl (feq hc37_5).2 (by decide) (by decide) ?_
              show Steps p.tables e below (s₁.setTop (mkF m 44 #[.val (.int p0)] [])) _
              refine XS.iloadN X0.here hx rfl (hb hby d9_44) rfl ?_
              show Steps p.tables e below (s₁.setTop (mkF m 45 #[.val (.int p0)] [(.int p0)])) _
              refine XS.iconst X0.here hx rfl (hb hby d9_45) ?_
              exact kt
            refine own_go hgo116 ?_
            by_cases hc46_6 : p0 = (5 : Int32)
            · obtain ⟨T117, X117, e117, st117⟩ := getS2 X0 hx hZ hown (host := "") (Or.inl (hw _ (List.mem_of_getElem? (i := 80) rfl))) Via.refl e0 S_us4 (g := (mkF m 49 #[.val (.int p0)] [])) rfl (hb hby d9_49)
              have hgo118 : ∀ t, Steps p.tables e below (T117.setTop (mkF m 52 #[.val (.int p0)] [(.ref us4)])) t → Steps p.tables e below (s₁.setTop (mkF m 46 #[.val (.int p0)] [(.int (5 : Int32)), (.int p0)])) t := by
                intro t kt
                show Steps p.tables e below (s₁.setTop (mkF m 46 #[.val (.int p0)] [(.int (5 : Int32)), (.int p0)])) _
                refine XS.icmpNo X0.here hx rfl (hb hby d9_46) rfl (teq hc46_6).2 ?_
                show Steps p.tables e below (s₁.setTop (mkF m 49 #[.val (.int p0)] [])) _
                refine st117 _ ?_
                exact kt
              refine own_go hgo118 ?_
              exact own_retA X117 hx Bd.returns rfl rfl Bd.notSynchronized (hb hby d9_52) (by decide) (by decide) (by rw [e117]; exact ⟨us4, (by rfl), N0, K0, E_us4, (by rw [show own_on p0 = (0 : Int32) from by rw [hc46_6]; decide]; exact F_on_us4)⟩)
            · obtain ⟨T119, X119, e119, st119⟩ := getS2 X0 hx hZ hown (host := "") (Or.inl (hw _ (List.mem_of_getElem? (i := 88) rfl))) Via.refl e0 S_us7 (g := (mkF m 53 #[.val (.int p0)] [])) rfl (hb hby d9_53)
              have hgo120 : ∀ t, Steps p.tables e below (T119.setTop (mkF m 56 #[.val (.int p0)] [(.ref us7)])) t → Steps p.tables e below (s₁.setTop (mkF m 46 #[.val (.int p0)] [(.int (5 : Int32)), (.int p0)])) t := by
                intro t kt
                show Steps p.tables e below (s₁.setTop (mkF m 46 #[.val (.int p0)] [(.int (5 : Int32)), (.int p0)])) _
                refine XS.icmpYes X0.here hx rfl (pc0 := 46) (pc' := 53) rfl (hb hby d9_46) rfl (feq hc46_6).2 (by decide) (by decide) ?_
                show Steps p.tables e below (s₁.setTop (mkF m 53 #[.val (.int p0)] [])) _
                refine st119 _ ?_
                exact kt
              refine own_go hgo120 ?_
              exact own_retA X119 hx Bd.returns rfl rfl Bd.notSynchronized (hb hby d9_56) (by decide) (by decide) (by rw [e119]; exact ⟨us7, (by rfl), N0, K0, E_us7, (by rw [show own_on p0 = (0 : Int32) from by rw [own_on, if_neg hc19_3, if_neg hc28_4]]; exact F_on_us7)⟩)
theorem d11_0 : decode jdk_30_method_1_code 0 = .ok (.aload_n 0, 1) := by decide +kernel
theorem d11_1 : decode jdk_30_method_1_code 1 = .ok (.invokespecial 1, 3) := by decide +kernel
theorem d11_4 : decode jdk_30_method_1_code 4 = .ok (.return_, 1) := by decide +kernel
theorem ef_11 (m : MethodId) (r0 : Addr) : entryFrame m #[(.ref r0)] 1 = mkF m 0 #[.val (.ref r0)] [] := by (first | (simp [entryFrame, mkF, argsToLocals, Value.category]; done) | rfl)
theorem pn2 : plainName "java/lang/Record" = true := by first | (simp [plainName, overriddenIn]; done) | decide +kernel
def Q11 (Z : State) (r0 : Addr) (h0 : Heap) (n0 : Nat) (v : Option Value) (h : Heap) (L : List Loc) : Prop := v = none ∧ Fr n0 L ∧ h = h0
set_option maxRecDepth 65536 in
set_option maxHeartbeats 40000000 in
theorem rm11 (l : Launch) (Z : State) (a0 : Array Value) (hw : ∀ d ∈ tables_1, d.before a0 Z = true) (ws : List Jvm.Cond) (r0 : Addr) (h0 : Heap) (n0 : Nat) (Z0 : n0 ≤ h0.size) :
    MetFree l (⟨"java/lang/Record", "<init>", "()V"⟩ : MethodName) (head1 (Jvm.Cond.code (⟨"java/lang/Record", "<init>", "()V"⟩ : MethodName) jdk_30_method_1_code 1 none :: ws) ({ frames := 1, cells := 0, slots := 0, locals := 12 } : Room)) (fun a U => a = #[(.ref r0)] ∧ Z.Warmed39 U.vm ∧ U.heap = h0) (fun _ _ _ _ _ => True) (fun _ U o U' => ∃ v L, o = .returned v ∧ Q11 Z r0 h0 n0 v U'.heap L ∧ FrameEnd U o U' L ({ frames := 1, cells := 0, slots := 0, locals := 12 } : Room).cells ({ frames := 1, cells := 0, slots := 0, locals := 12 } : Room).slots) := by
  refine MetFree.of_bodySF (plainFor_of_name pn2) hisR ?_
  intro p e s m args below meth c s₁ Bd hml0 hP hK
  obtain ⟨rfl, hZ, hh⟩ := hP
  have hx := Bd.exec
  have hby := Bd.bytes
  have hml : c.maxLocals = 1 := hml0
  have hown : s.vm.findClass "java/lang/Record" = some m.cls := findClass_of_methodNamed Bd.named
  have hnm := (name_of_methodNamed Bd.named Bd.method).1
  have X0 : Stand p l e ({ frames := 1, cells := 0, slots := 0, locals := 12 } : Room) s m #[(.ref r0)] below meth c s₁ [] 0 0 := Stand.of_body Bd
  have e0 : s₁.heap = h0 := by rw [← hh, Bd.state]; rfl
  have N0 := Fr.nil n0
  have K0 : Keep h0 h0 [] := Keep.refl h0 _
  show own_Go p e below s (Q11 Z r0 h0 n0) ({ frames := 1, cells := 0, slots := 0, locals := 12 } : Room).cells ({ frames := 1, cells := 0, slots := 0, locals := 12 } : Room).slots (s₁.setTop (entryFrame m #[(.ref r0)] 1))
  refine own_go (fun t k => castTop (ef_11 m r0) k) ?_
  obtain ⟨T101, X101, e101, st101⟩ := initO X0 hx hZ hown (hw _ (List.mem_of_getElem? (i := 58) rfl)) (hw _ (List.mem_of_getElem? (i := 17) rfl)) (hw _ (List.mem_of_getElem? (i := 18) rfl)) e0 (g := (mkF m 1 #[.val (.ref r0)] [(.ref r0)])) rfl (by rw [hml]; rfl) rfl (hb hby d11_1) (by decide) (W := 0) (by show 2 * 0 + _ ≤ _; exact Nat.le_of_eq rfl) (by decide)
  have hgo102 : ∀ t, Steps p.tables e below (T101.setTop (mkF m 4 #[.val (.ref r0)] [])) t → Steps p.tables e below (s₁.setTop (mkF m 0 #[.val (.ref r0)] [])) t := by
    intro t kt
    show Steps p.tables e below (s₁.setTop (mkF m 0 #[.val (.ref r0)] [])) _
    refine XS.aloadN X0.here hx rfl (hb hby d11_0) rfl rfl ?_
    show Steps p.tables e below (s₁.setTop (mkF m 1 #[.val (.ref r0)] [(.ref r0)])) _
    refine st101 _ ?_
    exact kt
  refine own_go hgo102 ?_
  exact own_retV X101 hx Bd.returns Bd.notSynchronized (hb hby d11_4) (by decide) (by decide) (by rw [e101]; exact ⟨(by rfl), N0, rfl⟩)
theorem pd3 : parseMethodDescriptor "()V" = some ⟨[], none⟩ := by decide +kernel
theorem d10_0 : decode prog_1_method_1_code 0 = .ok (.aload_n 0, 1) := by decide +kernel
theorem d10_1 : decode prog_1_method_1_code 1 = .ok (.invokespecial 1, 3) := by decide +kernel
theorem d10_4 : decode prog_1_method_1_code 4 = .ok (.aload_n 0, 1) := by decide +kernel
theorem d10_5 : decode prog_1_method_1_code 5 = .ok (.aload_n 1, 1) := by decide +kernel
theorem d10_6 : decode prog_1_method_1_code 6 = .ok (.putfield 7, 3) := by decide +kernel
theorem d10_9 : decode prog_1_method_1_code 9 = .ok (.aload_n 0, 1) := by decide +kernel
theorem d10_10 : decode prog_1_method_1_code 10 = .ok (.aload_n 2, 1) := by decide +kernel
theorem d10_11 : decode prog_1_method_1_code 11 = .ok (.putfield 13, 3) := by decide +kernel
theorem d10_14 : decode prog_1_method_1_code 14 = .ok (.aload_n 0, 1) := by decide +kernel
theorem d10_15 : decode prog_1_method_1_code 15 = .ok (.aload_n 3, 1) := by decide +kernel
theorem d10_16 : decode prog_1_method_1_code 16 = .ok (.putfield 17, 3) := by decide +kernel
theorem d10_19 : decode prog_1_method_1_code 19 = .ok (.aload_n 0, 1) := by decide +kernel
theorem d10_20 : decode prog_1_method_1_code 20 = .ok (.aload 4, 2) := by decide +kernel
theorem d10_22 : decode prog_1_method_1_code 22 = .ok (.putfield 21, 3) := by decide +kernel
theorem d10_25 : decode prog_1_method_1_code 25 = .ok (.aload_n 0, 1) := by decide +kernel
theorem d10_26 : decode prog_1_method_1_code 26 = .ok (.iload 5, 2) := by decide +kernel
theorem d10_28 : decode prog_1_method_1_code 28 = .ok (.putfield 24, 3) := by decide +kernel
theorem d10_31 : decode prog_1_method_1_code 31 = .ok (.return_, 1) := by decide +kernel
theorem ef_10 (m : MethodId) (r0 : Addr) (wv1 : Value) (r2 : Addr) (wv3 : Value) (wv4 : Value) (p5 : Int32) (hwv1 : wv1.isRef = true) (hwv3 : wv3.isRef = true) (hwv4 : wv4.isRef = true) : entryFrame m #[(.ref r0), wv1, (.ref r2), wv3, wv4, (.int p5)] 6 = mkF m 0 #[.val (.ref r0), .val wv1, .val (.ref r2), .val wv3, .val wv4, .val (.int p5)] [] := by rcases ref_cases hwv1 with rfl | ⟨a1, rfl⟩ <;> rcases ref_cases hwv3 with rfl | ⟨a3, rfl⟩ <;> rcases ref_cases hwv4 with rfl | ⟨a4, rfl⟩ <;> (first | (simp [entryFrame, mkF, argsToLocals, Value.category]; done) | rfl)
theorem pn4 : plainName "inducere/Activation" = true := by first | (simp [plainName, overriddenIn]; done) | decide +kernel
def Q10 (Z : State) (r0 : Addr) (wv1 : Value) (r2 : Addr) (wv3 : Value) (wv4 : Value) (p5 : Int32) (u_status_r0 : Value) (u_lifecycle_r0 : Value) (u_validFrom_r0 : Value) (u_validTo_r0 : Value) (w10 : Int32) (h0 : Heap) (n0 : Nat) (v : Option Value) (h : Heap) (L : List Loc) : Prop := v = none ∧ Fr n0 L ∧ Keep h0 h [r0] ∧ Exa Z h r0 "inducere/Activation" ∧ Fld Z h r0 "inducere/Activation" "status" "Linducere/Activation$Status;" wv1 ∧ Fld Z h r0 "inducere/Activation" "lifecycle" "Linducere/Activation$Lifecycle;" (.ref r2) ∧ Fld Z h r0 "inducere/Activation" "validFrom" "Ljava/lang/String;" wv3 ∧ Fld Z h r0 "inducere/Activation" "validTo" "Ljava/lang/String;" wv4 ∧ Fld Z h r0 "inducere/Activation" "conditional" "Z" (.int (nar .boolean p5))
set_option maxRecDepth 65536 in
set_option maxHeartbeats 40000000 in
theorem rm10 (l : Launch) (Z : State) (a0 : Array Value) (hw : ∀ d ∈ tables_1, d.before a0 Z = true) (ws : List Jvm.Cond) (r0 : Addr) (wv1 : Value) (r2 : Addr) (wv3 : Value) (wv4 : Value) (p5 : Int32) (u_status_r0 : Value) (u_lifecycle_r0 : Value) (u_validFrom_r0 : Value) (u_validTo_r0 : Value) (w10 : Int32) (h0 : Heap) (n0 : Nat) (Z0 : n0 ≤ h0.size) (hwv1 : wv1.isRef = true) (hwv3 : wv3.isRef = true) (hwv4 : wv4.isRef = true) (E_r0 : Exa Z h0 r0 "inducere/Activation") (F_status_r0 : Fld Z h0 r0 "inducere/Activation" "status" "Linducere/Activation$Status;" u_status_r0) (F_lifecycle_r0 : Fld Z h0 r0 "inducere/Activation" "lifecycle" "Linducere/Activation$Lifecycle;" u_lifecycle_r0) (F_validFrom_r0 : Fld Z h0 r0 "inducere/Activation" "validFrom" "Ljava/lang/String;" u_validFrom_r0) (F_validTo_r0 : Fld Z h0 r0 "inducere/Activation" "validTo" "Ljava/lang/String;" u_validTo_r0) (F_conditional_r0 : Fld Z h0 r0 "inducere/Activation" "conditional" "Z" (.int w10)) (g_r0 : n0 ≤ r0) :
    MetFree l (⟨"inducere/Activation", "<init>", "(Linducere/Activation$Status;Linducere/Activation$Lifecycle;Ljava/lang/String;Ljava/lang/String;Z)V"⟩ : MethodName) (head1 (Jvm.Cond.code (⟨"inducere/Activation", "<init>", "(Linducere/Activation$Status;Linducere/Activation$Lifecycle;Ljava/lang/String;Ljava/lang/String;Z)V"⟩ : MethodName) prog_1_method_1_code 6 none :: ws) ({ frames := 2, cells := 0, slots := 0, locals := 24 } : Room)) (fun a U => a = #[(.ref r0), wv1, (.ref r2), wv3, wv4, (.int p5)] ∧ Z.Warmed39 U.vm ∧ U.heap = h0) (fun _ _ _ _ _ => True) (fun _ U o U' => ∃ v L, o = .returned v ∧ Q10 Z r0 wv1 r2 wv3 wv4 p5 u_status_r0 u_lifecycle_r0 u_validFrom_r0 u_validTo_r0 w10 h0 n0 v U'.heap L ∧ FrameEnd U o U' L ({ frames := 2, cells := 0, slots := 0, locals := 24 } : Room).cells ({ frames := 2, cells := 0, slots := 0, locals := 24 } : Room).slots) := by
  refine MetFree.of_bodySF (plainFor_of_name pn4) hisR ?_
  intro p e s m args below meth c s₁ Bd hml0 hP hK
  obtain ⟨rfl, hZ, hh⟩ := hP
  have hx := Bd.exec
  have hby := Bd.bytes
  have hml : c.maxLocals = 6 := hml0
  have hown : s.vm.findClass "inducere/Activation" = some m.cls := findClass_of_methodNamed Bd.named
  have hnm := (name_of_methodNamed Bd.named Bd.method).1
  have X0 : Stand p l e ({ frames := 2, cells := 0, slots := 0, locals := 24 } : Room) s m #[(.ref r0), wv1, (.ref r2), wv3, wv4, (.int p5)] below meth c s₁ [] 0 0 := Stand.of_body Bd
  have e0 : s₁.heap = h0 := by rw [← hh, Bd.state]; rfl
  have N0 := Fr.nil n0
  have K0 : Keep h0 h0 [r0] := Keep.refl h0 _
  show own_Go p e below s (Q10 Z r0 wv1 r2 wv3 wv4 p5 u_status_r0 u_lifecycle_r0 u_validFrom_r0 u_validTo_r0 w10 h0 n0) ({ frames := 2, cells := 0, slots := 0, locals := 24 } : Room).cells ({ frames := 2, cells := 0, slots := 0, locals := 24 } : Room).slots (s₁.setTop (entryFrame m #[(.ref r0), wv1, (.ref r2), wv3, wv4, (.int p5)] 6))
  refine own_go (fun t k => castTop (ef_10 m r0 wv1 r2 wv3 wv4 p5 hwv1 hwv3 hwv4) k) ?_
  obtain ⟨_, _, ⟨T101, L101, k101, n101⟩, -, X101, ⟨Lc101, hQ101, l101, y101, z101⟩, st101⟩ := X0.specialBack hx (y := (⟨"java/lang/Record", "<init>", "()V"⟩ : MethodName)) rfl hown (mvT hZ (hw _ (List.mem_of_getElem? (i := 53) rfl))) (mvT hZ (hw _ (List.mem_of_getElem? (i := 54) rfl))) (mvT hZ (hw _ (List.mem_of_getElem? (i := 57) rfl))) (by decide) (backOf (W := 0) (rm11 l Z a0 hw [] r0 h0 n0 Z0 ) hZ (hw _ (List.mem_of_getElem? (i := 57) rfl)) (hw _ (List.mem_of_getElem? (i := 56) rfl)) (by decide) (by decide)) (g := (mkF m 1 #[.val (.ref r0), .val wv1, .val (.ref r2), .val wv3, .val wv4, .val (.int p5)] [(.ref r0)])) rfl (by rw [hml]; rfl) (Steps.refl _) (a := r0) (argsL := []) (rest := []) (lenOf pd3 rfl) rfl (by show 2 * 0 + _ ≤ _; exact Nat.le_of_eq rfl) (hb hby d10_1) (fun _ _ => ⟨rfl, e0, (by decide : 0 + 0 ≤ _), (by decide : 0 + 0 ≤ _)⟩)
  dsimp only [Pt.U, Pt.locs, Pt.cells, Pt.slots] at X101 l101 y101 z101 st101 hQ101
  subst l101 y101 z101
  obtain ⟨rfl, N101q, e101⟩ := hQ101
  have N101 := Fr.app N0 N101q
  obtain ⟨T102, h102, X102, e102, W102, st102⟩ := putF X101 hx hZ hown (host := "") (Or.inl (hw _ (List.mem_of_getElem? (i := 59) rfl))) Via.refl e101 F_status_r0 E_r0 (Or.inr ⟨(hw _ (List.mem_of_getElem? (i := 60) rfl)), rfl, hnm⟩) (hw _ (List.mem_of_getElem? (i := 36) rfl)) (ty := (.object "inducere/Activation$Status")) (by decide) (own_rn hwv1) (own_rf hwv1) (g := (mkF m 6 #[.val (.ref r0), .val wv1, .val (.ref r2), .val wv3, .val wv4, .val (.int p5)] [wv1, (.ref r0)])) rfl rfl (hb hby d10_6)
  have F103 := E_r0.wr W102
  have F104 := F_status_r0.same W102
  have F105 := F_lifecycle_r0.other W102 (Or.inr (slot_ne (Or.inr (hw _ (List.mem_of_getElem? (i := 62) rfl))) (Or.inr (hw _ (List.mem_of_getElem? (i := 60) rfl))) (by decide) (t := (.object "inducere/Activation$Lifecycle")) (t' := (.object "inducere/Activation$Status")) (by decide) (by decide)))
  have F106 := F_validFrom_r0.other W102 (Or.inr (slot_ne (Or.inr (hw _ (List.mem_of_getElem? (i := 64) rfl))) (Or.inr (hw _ (List.mem_of_getElem? (i := 60) rfl))) (by decide) (t := (.object "java/lang/String")) (t' := (.object "inducere/Activation$Status")) (by decide) (by decide)))
  have F107 := F_validTo_r0.other W102 (Or.inr (slot_ne (Or.inr (hw _ (List.mem_of_getElem? (i := 66) rfl))) (Or.inr (hw _ (List.mem_of_getElem? (i := 60) rfl))) (by decide) (t := (.object "java/lang/String")) (t' := (.object "inducere/Activation$Status")) (by decide) (by decide)))
  have F108 := F_conditional_r0.other W102 (Or.inr (slot_ne (Or.inr (hw _ (List.mem_of_getElem? (i := 68) rfl))) (Or.inr (hw _ (List.mem_of_getElem? (i := 60) rfl))) (by decide) (t := .boolean) (t' := (.object "inducere/Activation$Status")) (by decide) (by decide)))
  have Z109 : n0 ≤ h102.size := Nat.le_trans Z0 (Keep.of_wr W102).1
  have K110 : Keep h0 h102 [r0] := K0.wr W102 (Or.inl (List.mem_of_getElem? (i := 0) rfl))
  have N111 := Fr.snoc X102 N101 g_r0
  obtain ⟨T112, h112, X112, e112, W112, st112⟩ := putF X102 hx hZ hown (host := "") (Or.inl (hw _ (List.mem_of_getElem? (i := 61) rfl))) Via.refl e102 F105 F103 (Or.inr ⟨(hw _ (List.mem_of_getElem? (i := 62) rfl)), rfl, hnm⟩) (hw _ (List.mem_of_getElem? (i := 36) rfl)) (ty := (.object "inducere/Activation$Lifecycle")) (by decide) rfl rfl (g := (mkF m 11 #[.val (.ref r0), .val wv1, .val (.ref r2), .val wv3, .val wv4, .val (.int p5)] [(.ref r2), (.ref r0)])) rfl rfl (hb hby d10_11)
  have F113 := F103.wr W112
  have F114 := F104.other W112 (Or.inr (slot_ne (Or.inr (hw _ (List.mem_of_getElem? (i := 60) rfl))) (Or.inr (hw _ (List.mem_of_getElem? (i := 62) rfl))) (by decide) (t := (.object "inducere/Activation$Status")) (t' := (.object "inducere/Activation$Lifecycle")) (by decide) (by decide)))
  have F115 := F105.same W112
  have F116 := F106.other W112 (Or.inr (slot_ne (Or.inr (hw _ (List.mem_of_getElem? (i := 64) rfl))) (Or.inr (hw _ (List.mem_of_getElem? (i := 62) rfl))) (by decide) (t := (.object "java/lang/String")) (t' := (.object "inducere/Activation$Lifecycle")) (by decide) (by decide)))
  have F117 := F107.other W112 (Or.inr (slot_ne (Or.inr (hw _ (List.mem_of_getElem? (i := 66) rfl))) (Or.inr (hw _ (List.mem_of_getElem? (i := 62) rfl))) (by decide) (t := (.object "java/lang/String")) (t' := (.object "inducere/Activation$Lifecycle")) (by decide) (by decide)))
  have F118 := F108.other W112 (Or.inr (slot_ne (Or.inr (hw _ (List.mem_of_getElem? (i := 68) rfl))) (Or.inr (hw _ (List.mem_of_getElem? (i := 62) rfl))) (by decide) (t := .boolean) (t' := (.object "inducere/Activation$Lifecycle")) (by decide) (by decide)))
  have Z119 : n0 ≤ h112.size := Nat.le_trans Z109 (Keep.of_wr W112).1
  have K120 : Keep h0 h112 [r0] := K110.wr W112 (Or.inl (List.mem_of_getElem? (i := 0) rfl))
  have N121 := Fr.snoc X112 N111 g_r0
  obtain ⟨T122, h122, X122, e122, W122, st122⟩ := putF X112 hx hZ hown (host := "") (Or.inl (hw _ (List.mem_of_getElem? (i := 63) rfl))) Via.refl e112 F116 F113 (Or.inr ⟨(hw _ (List.mem_of_getElem? (i := 64) rfl)), rfl, hnm⟩) (hw _ (List.mem_of_getElem? (i := 36) rfl)) (ty := (.object "java/lang/String")) (by decide) (own_rn hwv3) (own_rf hwv3) (g := (mkF m 16 #[.val (.ref r0), .val wv1, .val (.ref r2), .val wv3, .val wv4, .val (.int p5)] [wv3, (.ref r0)])) rfl rfl (hb hby d10_16)
  have F123 := F113.wr W122
  have F124 := F114.other W122 (Or.inr (slot_ne (Or.inr (hw _ (List.mem_of_getElem? (i := 60) rfl))) (Or.inr (hw _ (List.mem_of_getElem? (i := 64) rfl))) (by decide) (t := (.object "inducere/Activation$Status")) (t' := (.object "java/lang/String")) (by decide) (by decide)))
  have F125 := F115.other W122 (Or.inr (slot_ne (Or.inr (hw _ (List.mem_of_getElem? (i := 62) rfl))) (Or.inr (hw _ (List.mem_of_getElem? (i := 64) rfl))) (by decide) (t := (.object "inducere/Activation$Lifecycle")) (t' := (.object "java/lang/String")) (by decide) (by decide)))
  have F126 := F116.same W122
  have F127 := F117.other W122 (Or.inr (slot_ne (Or.inr (hw _ (List.mem_of_getElem? (i := 66) rfl))) (Or.inr (hw _ (List.mem_of_getElem? (i := 64) rfl))) (by decide) (t := (.object "java/lang/String")) (t' := (.object "java/lang/String")) (by decide) (by decide)))
  have F128 := F118.other W122 (Or.inr (slot_ne (Or.inr (hw _ (List.mem_of_getElem? (i := 68) rfl))) (Or.inr (hw _ (List.mem_of_getElem? (i := 64) rfl))) (by decide) (t := .boolean) (t' := (.object "java/lang/String")) (by decide) (by decide)))
  have Z129 : n0 ≤ h122.size := Nat.le_trans Z119 (Keep.of_wr W122).1
  have K130 : Keep h0 h122 [r0] := K120.wr W122 (Or.inl (List.mem_of_getElem? (i := 0) rfl))
  have N131 := Fr.snoc X122 N121 g_r0
  obtain ⟨T132, h132, X132, e132, W132, st132⟩ := putF X122 hx hZ hown (host := "") (Or.inl (hw _ (List.mem_of_getElem? (i := 65) rfl))) Via.refl e122 F127 F123 (Or.inr ⟨(hw _ (List.mem_of_getElem? (i := 66) rfl)), rfl, hnm⟩) (hw _ (List.mem_of_getElem? (i := 36) rfl)) (ty := (.object "java/lang/String")) (by decide) (own_rn hwv4) (own_rf hwv4) (g := (mkF m 22 #[.val (.ref r0), .val wv1, .val (.ref r2), .val wv3, .val wv4, .val (.int p5)] [wv4, (.ref r0)])) rfl rfl (hb hby d10_22)
  have F133 := F123.wr W132
  have F134 := F124.other W132 (Or.inr (slot_ne (Or.inr (hw _ (List.mem_of_getElem? (i := 60) rfl))) (Or.inr (hw _ (List.mem_of_getElem? (i := 66) rfl))) (by decide) (t := (.object "inducere/Activation$Status")) (t' := (.object "java/lang/String")) (by decide) (by decide)))
  have F135 := F125.other W132 (Or.inr (slot_ne (Or.inr (hw _ (List.mem_of_getElem? (i := 62) rfl))) (Or.inr (hw _ (List.mem_of_getElem? (i := 66) rfl))) (by decide) (t := (.object "inducere/Activation$Lifecycle")) (t' := (.object "java/lang/String")) (by decide) (by decide)))
  have F136 := F126.other W132 (Or.inr (slot_ne (Or.inr (hw _ (List.mem_of_getElem? (i := 64) rfl))) (Or.inr (hw _ (List.mem_of_getElem? (i := 66) rfl))) (by decide) (t := (.object "java/lang/String")) (t' := (.object "java/lang/String")) (by decide) (by decide)))
  have F137 := F127.same W132
  have F138 := F128.other W132 (Or.inr (slot_ne (Or.inr (hw _ (List.mem_of_getElem? (i := 68) rfl))) (Or.inr (hw _ (List.mem_of_getElem? (i := 66) rfl))) (by decide) (t := .boolean) (t' := (.object "java/lang/String")) (by decide) (by decide)))
  have Z139 : n0 ≤ h132.size := Nat.le_trans Z129 (Keep.of_wr W132).1
  have K140 : Keep h0 h132 [r0] := K130.wr W132 (Or.inl (List.mem_of_getElem? (i := 0) rfl))
  have N141 := Fr.snoc X132 N131 g_r0
  obtain ⟨T142, h142, X142, e142, W142, st142⟩ := putFN X132 hx hZ hown (hw _ (List.mem_of_getElem? (i := 67) rfl)) Via.refl e132 F138 F133 (Or.inr ⟨(hw _ (List.mem_of_getElem? (i := 68) rfl)), rfl, hnm⟩) (hw _ (List.mem_of_getElem? (i := 36) rfl)) (ty := .boolean) (v' := (.int (nar .boolean p5))) (by decide) rfl (fits_nar_bool _) (g := (mkF m 28 #[.val (.ref r0), .val wv1, .val (.ref r2), .val wv3, .val wv4, .val (.int p5)] [(.int p5), (.ref r0)])) rfl rfl (hb hby d10_28)
  have F143 := F133.wr W142
  have F144 := F134.other W142 (Or.inr (slot_ne (Or.inr (hw _ (List.mem_of_getElem? (i := 60) rfl))) (Or.inr (hw _ (List.mem_of_getElem? (i := 68) rfl))) (by decide) (t := (.object "inducere/Activation$Status")) (t' := .boolean) (by decide) (by decide)))
  have F145 := F135.other W142 (Or.inr (slot_ne (Or.inr (hw _ (List.mem_of_getElem? (i := 62) rfl))) (Or.inr (hw _ (List.mem_of_getElem? (i := 68) rfl))) (by decide) (t := (.object "inducere/Activation$Lifecycle")) (t' := .boolean) (by decide) (by decide)))
  have F146 := F136.other W142 (Or.inr (slot_ne (Or.inr (hw _ (List.mem_of_getElem? (i := 64) rfl))) (Or.inr (hw _ (List.mem_of_getElem? (i := 68) rfl))) (by decide) (t := (.object "java/lang/String")) (t' := .boolean) (by decide) (by decide)))
  have F147 := F137.other W142 (Or.inr (slot_ne (Or.inr (hw _ (List.mem_of_getElem? (i := 66) rfl))) (Or.inr (hw _ (List.mem_of_getElem? (i := 68) rfl))) (by decide) (t := (.object "java/lang/String")) (t' := .boolean) (by decide) (by decide)))
  have F148 := F138.same W142
  have Z149 : n0 ≤ h142.size := Nat.le_trans Z139 (Keep.of_wr W142).1
  have K150 : Keep h0 h142 [r0] := K140.wr W142 (Or.inl (List.mem_of_getElem? (i := 0) rfl))
  have N151 := Fr.snoc X142 N141 g_r0
  have hgo152 : ∀ t, Steps p.tables e below (T142.setTop (mkF m 31 #[.val (.ref r0), .val wv1, .val (.ref r2), .val wv3, .val wv4, .val (.int p5)] [])) t → Steps p.tables e below (s₁.setTop (mkF m 0 #[.val (.ref r0), .val wv1, .val (.ref r2), .val wv3, .val wv4, .val (.int p5)] [])) t := by
    intro t kt
    show Steps p.tables e below (s₁.setTop (mkF m 0 #[.val (.ref r0), .val wv1, .val (.ref r2), .val wv3, .val wv4, .val (.int p5)] [])) _
    refine XS.aloadN X0.here hx rfl (hb hby d10_0) rfl rfl ?_
    show Steps p.tables e below (s₁.setTop (mkF m 1 #[.val (.ref r0), .val wv1, .val (.ref r2), .val wv3, .val wv4, .val (.int p5)] [(.ref r0)])) _
    refine st101.trans ?_
    show Steps p.tables e below (T101.setTop (mkF m 4 #[.val (.ref r0), .val wv1, .val (.ref r2), .val wv3, .val wv4, .val (.int p5)] [])) _
    refine XS.aloadN X101.here hx rfl (hb hby d10_4) rfl rfl ?_
    show Steps p.tables e below (T101.setTop (mkF m 5 #[.val (.ref r0), .val wv1, .val (.ref r2), .val wv3, .val wv4, .val (.int p5)] [(.ref r0)])) _
    refine XS.aloadN X101.here hx rfl (hb hby d10_5) rfl (hwv1) ?_
    show Steps p.tables e below (T101.setTop (mkF m 6 #[.val (.ref r0), .val wv1, .val (.ref r2), .val wv3, .val wv4, .val (.int p5)] [wv1, (.ref r0)])) _
    refine st102 _ ?_
    show Steps p.tables e below (T102.setTop (mkF m 9 #[.val (.ref r0), .val wv1, .val (.ref r2), .val wv3, .val wv4, .val (.int p5)] [])) _
    refine XS.aloadN X102.here hx rfl (hb hby d10_9) rfl rfl ?_
    show Steps p.tables e below (T102.setTop (mkF m 10 #[.val (.ref r0), .val wv1, .val (.ref r2), .val wv3, .val wv4, .val (.int p5)] [(.ref r0)])) _
    refine XS.aloadN X102.here hx rfl (hb hby d10_10) rfl rfl ?_
    show Steps p.tables e below (T102.setTop (mkF m 11 #[.val (.ref r0), .val wv1, .val (.ref r2), .val wv3, .val wv4, .val (.int p5)] [(.ref r2), (.ref r0)])) _
    refine st112 _ ?_
    show Steps p.tables e below (T112.setTop (mkF m 14 #[.val (.ref r0), .val wv1, .val (.ref r2), .val wv3, .val wv4, .val (.int p5)] [])) _
    refine XS.aloadN X112.here hx rfl (hb hby d10_14) rfl rfl ?_
    show Steps p.tables e below (T112.setTop (mkF m 15 #[.val (.ref r0), .val wv1, .val (.ref r2), .val wv3, .val wv4, .val (.int p5)] [(.ref r0)])) _
    refine XS.aloadN X112.here hx rfl (hb hby d10_15) rfl (hwv3) ?_
    show Steps p.tables e below (T112.setTop (mkF m 16 #[.val (.ref r0), .val wv1, .val (.ref r2), .val wv3, .val wv4, .val (.int p5)] [wv3, (.ref r0)])) _
    refine st122 _ ?_
    show Steps p.tables e below (T122.setTop (mkF m 19 #[.val (.ref r0), .val wv1, .val (.ref r2), .val wv3, .val wv4, .val (.int p5)] [])) _
    refine XS.aloadN X122.here hx rfl (hb hby d10_19) rfl rfl ?_
    show Steps p.tables e below (T122.setTop (mkF m 20 #[.val (.ref r0), .val wv1, .val (.ref r2), .val wv3, .val wv4, .val (.int p5)] [(.ref r0)])) _
    refine XS.aload X122.here hx rfl (hb hby d10_20) rfl (hwv4) ?_
    show Steps p.tables e below (T122.setTop (mkF m 22 #[.val (.ref r0), .val wv1, .val (.ref r2), .val wv3, .val wv4, .val (.int p5)] [wv4, (.ref r0)])) _
    refine st132 _ ?_
    show Steps p.tables e below (T132.setTop (mkF m 25 #[.val (.ref r0), .val wv1, .val (.ref r2), .val wv3, .val wv4, .val (.int p5)] [])) _
    refine XS.aloadN X132.here hx rfl (hb hby d10_25) rfl rfl ?_
    show Steps p.tables e below (T132.setTop (mkF m 26 #[.val (.ref r0), .val wv1, .val (.ref r2), .val wv3, .val wv4, .val (.int p5)] [(.ref r0)])) _
    refine XS.iload X132.here hx rfl (hb hby d10_26) rfl ?_
    show Steps p.tables e below (T132.setTop (mkF m 28 #[.val (.ref r0), .val wv1, .val (.ref r2), .val wv3, .val wv4, .val (.int p5)] [(.int p5), (.ref r0)])) _
    refine st142 _ ?_
    exact kt
  refine own_go hgo152 ?_
  exact own_retV X142 hx Bd.returns Bd.notSynchronized (hb hby d10_31) (by decide) (by decide) (by rw [e142]; exact ⟨(by rfl), N151, K150, F143, (by exact F144), (by exact F145), (by exact F146), (by exact F147), (by exact F148)⟩)
theorem d12_0 : decode prog_1_method_2_code 0 = .ok (.aload_n 0, 1) := by decide +kernel
theorem d12_1 : decode prog_1_method_2_code 1 = .ok (.getfield 13, 3) := by decide +kernel
theorem d12_4 : decode prog_1_method_2_code 4 = .ok (.getfield 28, 3) := by decide +kernel
theorem d12_7 : decode prog_1_method_2_code 7 = .ok (.ifCond .eq 20, 3) := by decide +kernel
theorem d12_10 : decode prog_1_method_2_code 10 = .ok (.aload_n 0, 1) := by decide +kernel
theorem d12_11 : decode prog_1_method_2_code 11 = .ok (.getfield 7, 3) := by decide +kernel
theorem d12_14 : decode prog_1_method_2_code 14 = .ok (.ifnull 17, 3) := by decide +kernel
theorem d12_27 : decode prog_1_method_2_code 27 = .ok (.iconst 1, 1) := by decide +kernel
theorem d12_28 : decode prog_1_method_2_code 28 = .ok (.goto 4, 3) := by decide +kernel
theorem d12_31 : decode prog_1_method_2_code 31 = .ok (.iconst 0, 1) := by decide +kernel
theorem d12_32 : decode prog_1_method_2_code 32 = .ok (.ireturn, 1) := by decide +kernel
theorem ef_12n (m : MethodId) (r0 : Addr) : entryFrame m #[(.ref r0)] 1 = mkF m 0 #[.val (.ref r0)] [] := by (first | (simp [entryFrame, mkF, argsToLocals, Value.category]; done) | rfl)
def own_r12n (w2 : Int32) : Int32 := (if w2 = (0 : Int32) then (1 : Int32) else (0 : Int32))
theorem own_r12n_b (w2 : Int32) : own_r12n w2 = 0 ∨ own_r12n w2 = 1 := by unfold own_r12n; exact (own_ite01 (Or.inr rfl) (Or.inl rfl))
def Q12n (Z : State) (r0 : Addr) (w1 : Addr) (w2 : Int32) (h0 : Heap) (n0 : Nat) (v : Option Value) (h : Heap) (L : List Loc) : Prop := v = some (.int (own_r12n w2)) ∧ Fr n0 L ∧ h = h0
set_option maxRecDepth 65536 in
set_option maxHeartbeats 40000000 in
theorem rm12n (l : Launch) (Z : State) (a0 : Array Value) (hw : ∀ d ∈ tables_1, d.before a0 Z = true) (ws : List Jvm.Cond) (r0 : Addr) (w1 : Addr) (w2 : Int32) (h0 : Heap) (n0 : Nat) (Z0 : n0 ≤ h0.size) (F_lifecycle_r0 : Fld Z h0 r0 "inducere/Activation" "lifecycle" "Linducere/Activation$Lifecycle;" (.ref w1)) (F_on_w1 : Fld Z h0 w1 "inducere/Activation$Lifecycle" "on" "Z" (.int w2)) (F_status_r0 : Fld Z h0 r0 "inducere/Activation" "status" "Linducere/Activation$Status;" .null) :
    MetFree l (⟨"inducere/Activation", "switchedOff", "()Z"⟩ : MethodName) (head1 (Jvm.Cond.code (⟨"inducere/Activation", "switchedOff", "()Z"⟩ : MethodName) prog_1_method_2_code 1 (some .boolean) :: ws) ({ frames := 0, cells := 0, slots := 0, locals := 0 } : Room)) (fun a U => a = #[(.ref r0)] ∧ Z.Warmed39 U.vm ∧ U.heap = h0) (fun _ _ _ _ _ => True) (fun _ U o U' => ∃ v L, o = .returned v ∧ Q12n Z r0 w1 w2 h0 n0 v U'.heap L ∧ FrameEnd U o U' L ({ frames := 0, cells := 0, slots := 0, locals := 0 } : Room).cells ({ frames := 0, cells := 0, slots := 0, locals := 0 } : Room).slots) := by
  refine MetFree.of_bodySF (plainFor_of_name pn4) hisR ?_
  intro p e s m args below meth c s₁ Bd hml0 hP hK
  obtain ⟨rfl, hZ, hh⟩ := hP
  have hx := Bd.exec
  have hby := Bd.bytes
  have hml : c.maxLocals = 1 := hml0
  have hown : s.vm.findClass "inducere/Activation" = some m.cls := findClass_of_methodNamed Bd.named
  have hnm := (name_of_methodNamed Bd.named Bd.method).1
  have X0 : Stand p l e ({ frames := 0, cells := 0, slots := 0, locals := 0 } : Room) s m #[(.ref r0)] below meth c s₁ [] 0 0 := Stand.of_body Bd
  have e0 : s₁.heap = h0 := by rw [← hh, Bd.state]; rfl
  have N0 := Fr.nil n0
  have K0 : Keep h0 h0 [] := Keep.refl h0 _
  show own_Go p e below s (Q12n Z r0 w1 w2 h0 n0) ({ frames := 0, cells := 0, slots := 0, locals := 0 } : Room).cells ({ frames := 0, cells := 0, slots := 0, locals := 0 } : Room).slots (s₁.setTop (entryFrame m #[(.ref r0)] 1))
  refine own_go (fun t k => castTop (ef_12n m r0) k) ?_
  obtain ⟨T101, X101, e101, st101⟩ := getF X0 hx hZ hown (host := "") (Or.inl (hw _ (List.mem_of_getElem? (i := 61) rfl))) Via.refl e0 F_lifecycle_r0 (g := (mkF m 1 #[.val (.ref r0)] [(.ref r0)])) rfl rfl (hb hby d12_1)
  obtain ⟨v2, hv2⟩ : ∃ z : Int32, z = (if w2 = (0 : Int32) then (1 : Int32) else (0 : Int32)) := ⟨_, rfl⟩
  obtain ⟨T105, lc105, X105, N105, e105, st105⟩ := own_mrg (n0 := n0) (h := h0) (g := (mkF m 7 #[.val (.ref r0)] [(.int w2)])) (g' := (mkF m 32 #[.val (.ref r0)] [(.int v2)])) X101 (by
    by_cases hc7_1 : w2 = (0 : Int32)
    · have hgo102 : ∀ t, Steps p.tables e below (T101.setTop (mkF m 32 #[.val (.ref r0)] [(.int (1 : Int32))])) t → Steps p.tables e below (T101.setTop (mkF m 7 #[.val (.ref r0)] [(.int w2)])) t := by
        intro t kt
        show Steps p.tables e below (T101.setTop (mkF m 7 #[.val (.ref r0)] [(.int w2)])) _
        refine XS.ifYes X101.here hx rfl (pc0 := 7) (pc' := 27) rfl (hb hby d12_7) rfl ((if0 _ _).trans (teq hc7_1).1) (by decide) (by decide) ?_
        show Steps p.tables e below (T101.setTop (mkF m 27 #[.val (.ref r0)] [])) _
        refine XS.iconst X101.here hx rfl (hb hby d12_27) ?_
        show Steps p.tables e below (T101.setTop (mkF m 28 #[.val (.ref r0)] [(.int (1 : Int32))])) _
        refine XS.goto X101.here hx rfl (pc0 := 28) (pc' := 32) rfl (hb hby d12_28) (by decide) (by decide) ?_
        exact kt
      refine own_arm hgo102 ?_
      exact own_armEnd X101 N0 e101 (by rw [hv2.trans (if_pos hc7_1)])
    · obtain ⟨T103, X103, e103, st103⟩ := getF X101 hx hZ hown (host := "") (Or.inl (hw _ (List.mem_of_getElem? (i := 59) rfl))) Via.refl e101 F_status_r0 (g := (mkF m 11 #[.val (.ref r0)] [(.ref r0)])) rfl rfl (hb hby d12_11)
      have hgo104 : ∀ t, Steps p.tables e below (T103.setTop (mkF m 32 #[.val (.ref r0)] [(.int (0 : Int32))])) t → Steps p.tables e below (T101.setTop (mkF m 7 #[.val (.ref r0)] [(.int w2)])) t := by
        intro t kt
        show Steps p.tables e below (T101.setTop (mkF m 7 #[.val (.ref r0)] [(.int w2)])) _
        refine XS.ifNo X101.here hx rfl (hb hby d12_7) rfl ((if0 _ _).trans (feq hc7_1).1) ?_
        show Steps p.tables e below (T101.setTop (mkF m 10 #[.val (.ref r0)] [])) _
        refine XS.aloadN X101.here hx rfl (hb hby d12_10) rfl rfl ?_
        show Steps p.tables e below (T101.setTop (mkF m 11 #[.val (.ref r0)] [(.ref r0)])) _
        refine st103 _ ?_
        show Steps p.tables e below (T103.setTop (mkF m 14 #[.val (.ref r0)] [.null])) _
        refine XS.ifnullYes X103.here hx rfl (pc0 := 14) (pc' := 31) rfl (hb hby d12_14) rfl (by decide) (by decide) ?_
        show Steps p.tables e below (T103.setTop (mkF m 31 #[.val (.ref r0)] [])) _
        refine XS.iconst X103.here hx rfl (hb hby d12_31) ?_
        exact kt
      refine own_arm hgo104 ?_
      exact own_armEnd X103 N0 e103 (by rw [hv2.trans (if_neg hc7_1)]))
  have hgo106 : ∀ t, Steps p.tables e below (T105.setTop (mkF m 32 #[.val (.ref r0)] [(.int v2)])) t → Steps p.tables e below (s₁.setTop (mkF m 0 #[.val (.ref r0)] [])) t := by
    intro t kt
    show Steps p.tables e below (s₁.setTop (mkF m 0 #[.val (.ref r0)] [])) _
    refine XS.aloadN X0.here hx rfl (hb hby d12_0) rfl rfl ?_
    show Steps p.tables e below (s₁.setTop (mkF m 1 #[.val (.ref r0)] [(.ref r0)])) _
    refine st101 _ ?_
    show Steps p.tables e below (T101.setTop (mkF m 4 #[.val (.ref r0)] [(.ref w1)])) _
    refine own_getFR X101 hx hZ hown (hw _ (List.mem_of_getElem? (i := 74) rfl)) e101 F_on_w1 (g := (mkF m 4 #[.val (.ref r0)] [(.ref w1)])) rfl rfl (hb hby d12_4) _ ?_
    show Steps p.tables e below (T101.setTop (mkF m 7 #[.val (.ref r0)] [(.int w2)])) _
    refine st105 _ ?_
    exact kt
  refine own_go hgo106 ?_
  exact own_retZ X105 hx Bd.returns Bd.notSynchronized (hb hby d12_32) (by decide) (by decide) (by rw [hv2]; exact (own_ite01 (Or.inr rfl) (Or.inl rfl))) (by rw [e105]; exact ⟨(by subst hv2; rw [own_r12n]), N105, rfl⟩)
theorem d12_17 : decode prog_1_method_2_code 17 = .ok (.aload_n 0, 1) := by decide +kernel
theorem d12_18 : decode prog_1_method_2_code 18 = .ok (.getfield 7, 3) := by decide +kernel
theorem d12_21 : decode prog_1_method_2_code 21 = .ok (.getfield 33, 3) := by decide +kernel
theorem d12_24 : decode prog_1_method_2_code 24 = .ok (.ifCond .ne 7, 3) := by decide +kernel
theorem ef_12r (m : MethodId) (r0 : Addr) : entryFrame m #[(.ref r0)] 1 = mkF m 0 #[.val (.ref r0)] [] := by (first | (simp [entryFrame, mkF, argsToLocals, Value.category]; done) | rfl)
def own_r12r (w2 : Int32) (w4 : Int32) : Int32 := (if w2 = (0 : Int32) then (1 : Int32) else (if w4 = (0 : Int32) then (1 : Int32) else (0 : Int32)))
theorem own_r12r_b (w2 : Int32) (w4 : Int32) : own_r12r w2 w4 = 0 ∨ own_r12r w2 w4 = 1 := by unfold own_r12r; exact (own_ite01 (Or.inr rfl) (own_ite01 (Or.inr rfl) (Or.inl rfl)))
def Q12r (Z : State) (r0 : Addr) (w1 : Addr) (w2 : Int32) (w3 : Addr) (w4 : Int32) (h0 : Heap) (n0 : Nat) (v : Option Value) (h : Heap) (L : List Loc) : Prop := v = some (.int (own_r12r w2 w4)) ∧ Fr n0 L ∧ h = h0
set_option maxRecDepth 65536 in
set_option maxHeartbeats 40000000 in
theorem rm12r (l : Launch) (Z : State) (a0 : Array Value) (hw : ∀ d ∈ tables_1, d.before a0 Z = true) (ws : List Jvm.Cond) (r0 : Addr) (w1 : Addr) (w2 : Int32) (w3 : Addr) (w4 : Int32) (h0 : Heap) (n0 : Nat) (Z0 : n0 ≤ h0.size) (F_lifecycle_r0 : Fld Z h0 r0 "inducere/Activation" "lifecycle" "Linducere/Activation$Lifecycle;" (.ref w1)) (F_on_w1 : Fld Z h0 w1 "inducere/Activation$Lifecycle" "on" "Z" (.int w2)) (F_status_r0 : Fld Z h0 r0 "inducere/Activation" "status" "Linducere/Activation$Status;" (.ref w3)) (F_on_w3 : Fld Z h0 w3 "inducere/Activation$Status" "on" "Z" (.int w4)) :
    MetFree l (⟨"inducere/Activation", "switchedOff", "()Z"⟩ : MethodName) (head1 (Jvm.Cond.code (⟨"inducere/Activation", "switchedOff", "()Z"⟩ : MethodName) prog_1_method_2_code 1 (some .boolean) :: ws) ({ frames := 0, cells := 0, slots := 0, locals := 0 } : Room)) (fun a U => a = #[(.ref r0)] ∧ Z.Warmed39 U.vm ∧ U.heap = h0) (fun _ _ _ _ _ => True) (fun _ U o U' => ∃ v L, o = .returned v ∧ Q12r Z r0 w1 w2 w3 w4 h0 n0 v U'.heap L ∧ FrameEnd U o U' L ({ frames := 0, cells := 0, slots := 0, locals := 0 } : Room).cells ({ frames := 0, cells := 0, slots := 0, locals := 0 } : Room).slots) := by
  refine MetFree.of_bodySF (plainFor_of_name pn4) hisR ?_
  intro p e s m args below meth c s₁ Bd hml0 hP hK
  obtain ⟨rfl, hZ, hh⟩ := hP
  have hx := Bd.exec
  have hby := Bd.bytes
  have hml : c.maxLocals = 1 := hml0
  have hown : s.vm.findClass "inducere/Activation" = some m.cls := findClass_of_methodNamed Bd.named
  have hnm := (name_of_methodNamed Bd.named Bd.method).1
  have X0 : Stand p l e ({ frames := 0, cells := 0, slots := 0, locals := 0 } : Room) s m #[(.ref r0)] below meth c s₁ [] 0 0 := Stand.of_body Bd
  have e0 : s₁.heap = h0 := by rw [← hh, Bd.state]; rfl
  have N0 := Fr.nil n0
  have K0 : Keep h0 h0 [] := Keep.refl h0 _
  show own_Go p e below s (Q12r Z r0 w1 w2 w3 w4 h0 n0) ({ frames := 0, cells := 0, slots := 0, locals := 0 } : Room).cells ({ frames := 0, cells := 0, slots := 0, locals := 0 } : Room).slots (s₁.setTop (entryFrame m #[(.ref r0)] 1))
  refine own_go (fun t k => castTop (ef_12r m r0) k) ?_
  obtain ⟨T101, X101, e101, st101⟩ := getF X0 hx hZ hown (host := "") (Or.inl (hw _ (List.mem_of_getElem? (i := 61) rfl))) Via.refl e0 F_lifecycle_r0 (g := (mkF m 1 #[.val (.ref r0)] [(.ref r0)])) rfl rfl (hb hby d12_1)
  obtain ⟨v3, hv3⟩ : ∃ z : Int32, z = (if w4 = (0 : Int32) then (1 : Int32) else (0 : Int32)) := ⟨_, rfl⟩
  obtain ⟨v4, hv4⟩ : ∃ z : Int32, z = (if w2 = (0 : Int32) then (1 : Int32) else v3) := ⟨_, rfl⟩
  obtain ⟨T109, lc109, X109, N109, e109, st109⟩ := own_mrg (n0 := n0) (h := h0) (g := (mkF m 7 #[.val (.ref r0)] [(.int w2)])) (g' := (mkF m 32 #[.val (.ref r0)] [(.int v4)])) X101 (by
    by_cases hc7_1 : w2 = (0 : Int32)
    · have hgo102 : ∀ t, Steps p.tables e below (T101.setTop (mkF m 32 #[.val (.ref r0)] [(.int (1 : Int32))])) t → Steps p.tables e below (T101.setTop (mkF m 7 #[.val (.ref r0)] [(.int w2)])) t := by
        intro t kt
        show Steps p.tables e below (T101.setTop (mkF m 7 #[.val (.ref r0)] [(.int w2)])) _
        refine XS.ifYes X101.here hx rfl (pc0 := 7) (pc' := 27) rfl (hb hby d12_7) rfl ((if0 _ _).trans (teq hc7_1).1) (by decide) (by decide) ?_
        show Steps p.tables e below (T101.setTop (mkF m 27 #[.val (.ref r0)] [])) _
        refine XS.iconst X101.here hx rfl (hb hby d12_27) ?_
        show Steps p.tables e below (T101.setTop (mkF m 28 #[.val (.ref r0)] [(.int (1 : Int32))])) _
        refine XS.goto X101.here hx rfl (pc0 := 28) (pc' := 32) rfl (hb hby d12_28) (by decide) (by decide) ?_
        exact kt
      refine own_arm hgo102 ?_
      exact own_armEnd X101 N0 e101 (by rw [hv4.trans (if_pos hc7_1)])
    · obtain ⟨T103, X103, e103, st103⟩ := getF X101 hx hZ hown (host := "") (Or.inl (hw _ (List.mem_of_getElem? (i := 59) rfl))) Via.refl e101 F_status_r0 (g := (mkF m 11 #[.val (.ref r0)] [(.ref r0)])) rfl rfl (hb hby d12_11)
      obtain ⟨T104, X104, e104, st104⟩ := getF X103 hx hZ hown (host := "") (Or.inl (hw _ (List.mem_of_getElem? (i := 59) rfl))) Via.refl e103 F_status_r0 (g := (mkF m 18 #[.val (.ref r0)] [(.ref r0)])) rfl rfl (hb hby d12_18)
      obtain ⟨T107, lc107, X107, N107, e107, st107⟩ := own_mrg (n0 := n0) (h := h0) (g := (mkF m 24 #[.val (.ref r0)] [(.int w4)])) (g' := (mkF m 32 #[.val (.ref r0)] [(.int v3)])) X104 (by
        by_cases hc24_2 : w4 = (0 : Int32)
        · have hgo105 : ∀ t, Steps p.tables e below (T104.setTop (mkF m 32 #[.val (.ref r0)] [(.int (1 : Int32))])) t → Steps p.tables e below (T104.setTop (mkF m 24 #[.val (.ref r0)] [(.int w4)])) t := by
            intro t kt
            show Steps p.tables e below (T104.setTop (mkF m 24 #[.val (.ref r0)] [(.int w4)])) _
            refine XS.ifNo X104.here hx rfl (hb hby d12_24) rfl ((if0 _ _).trans (teq hc24_2).2) ?_
            show Steps p.tables e below (T104.setTop (mkF m 27 #[.val (.ref r0)] [])) _
            refine XS.iconst X104.here hx rfl (hb hby d12_27) ?_
            show Steps p.tables e below (T104.setTop (mkF m 28 #[.val (.ref r0)] [(.int (1 : Int32))])) _
            refine XS.goto X104.here hx rfl (pc0 := 28) (pc' := 32) rfl (hb hby d12_28) (by decide) (by decide) ?_
            exact kt
          refine own_arm hgo105 ?_
          exact own_armEnd X104 N0 e104 (by rw [hv3.trans (if_pos hc24_2)])
        · have hgo106 : ∀ t, Steps p.tables e below (T104.setTop (mkF m 32 #[.val (.ref r0)] [(.int (0 : Int32))])) t → Steps p.tables e below (T104.setTop (mkF m 24 #[.val (.ref r0)] [(.int w4)])) t := by
            intro t kt
            show Steps p.tables e below (T104.setTop (mkF m 24 #[.val (.ref r0)] [(.int w4)])) _
            refine XS.ifYes X104.here hx rfl (pc0 := 24) (pc' := 31) rfl (hb hby d12_24) rfl ((if0 _ _).trans (feq hc24_2).2) (by decide) (by decide) ?_
            show Steps p.tables e below (T104.setTop (mkF m 31 #[.val (.ref r0)] [])) _
            refine XS.iconst X104.here hx rfl (hb hby d12_31) ?_
            exact kt
          refine own_arm hgo106 ?_
          exact own_armEnd X104 N0 e104 (by rw [hv3.trans (if_neg hc24_2)]))
      have hgo108 : ∀ t, Steps p.tables e below (T107.setTop (mkF m 32 #[.val (.ref r0)] [(.int v3)])) t → Steps p.tables e below (T101.setTop (mkF m 7 #[.val (.ref r0)] [(.int w2)])) t := by
        intro t kt
        show Steps p.tables e below (T101.setTop (mkF m 7 #[.val (.ref r0)] [(.int w2)])) _
        refine XS.ifNo X101.here hx rfl (hb hby d12_7) rfl ((if0 _ _).trans (feq hc7_1).1) ?_
        show Steps p.tables e below (T101.setTop (mkF m 10 #[.val (.ref r0)] [])) _
        refine XS.aloadN X101.here hx rfl (hb hby d12_10) rfl rfl ?_
        show Steps p.tables e below (T101.setTop (mkF m 11 #[.val (.ref r0)] [(.ref r0)])) _
        refine st103 _ ?_
        show Steps p.tables e below (T103.setTop (mkF m 14 #[.val (.ref r0)] [(.ref w3)])) _
        refine XS.ifnullNo X103.here hx rfl (hb hby d12_14) rfl ?_
        show Steps p.tables e below (T103.setTop (mkF m 17 #[.val (.ref r0)] [])) _
        refine XS.aloadN X103.here hx rfl (hb hby d12_17) rfl rfl ?_
        show Steps p.tables e below (T103.setTop (mkF m 18 #[.val (.ref r0)] [(.ref r0)])) _
        refine st104 _ ?_
        show Steps p.tables e below (T104.setTop (mkF m 21 #[.val (.ref r0)] [(.ref w3)])) _
        refine own_getFR X104 hx hZ hown (hw _ (List.mem_of_getElem? (i := 82) rfl)) e104 F_on_w3 (g := (mkF m 21 #[.val (.ref r0)] [(.ref w3)])) rfl rfl (hb hby d12_21) _ ?_
        show Steps p.tables e below (T104.setTop (mkF m 24 #[.val (.ref r0)] [(.int w4)])) _
        refine st107 _ ?_
        exact kt
      refine own_arm hgo108 ?_
      exact own_armEnd X107 N107 e107 (by rw [hv4.trans (if_neg hc7_1)]))
  have hgo110 : ∀ t, Steps p.tables e below (T109.setTop (mkF m 32 #[.val (.ref r0)] [(.int v4)])) t → Steps p.tables e below (s₁.setTop (mkF m 0 #[.val (.ref r0)] [])) t := by
    intro t kt
    show Steps p.tables e below (s₁.setTop (mkF m 0 #[.val (.ref r0)] [])) _
    refine XS.aloadN X0.here hx rfl (hb hby d12_0) rfl rfl ?_
    show Steps p.tables e below (s₁.setTop (mkF m 1 #[.val (.ref r0)] [(.ref r0)])) _
    refine st101 _ ?_
    show Steps p.tables e below (T101.setTop (mkF m 4 #[.val (.ref r0)] [(.ref w1)])) _
    refine own_getFR X101 hx hZ hown (hw _ (List.mem_of_getElem? (i := 74) rfl)) e101 F_on_w1 (g := (mkF m 4 #[.val (.ref r0)] [(.ref w1)])) rfl rfl (hb hby d12_4) _ ?_
    show Steps p.tables e below (T101.setTop (mkF m 7 #[.val (.ref r0)] [(.int w2)])) _
    refine st109 _ ?_
    exact kt
  refine own_go hgo110 ?_
  exact own_retZ X109 hx Bd.returns Bd.notSynchronized (hb hby d12_32) (by decide) (by decide) (by rw [hv4]; exact (own_ite01 (Or.inr rfl) (by rw [hv3]; exact (own_ite01 (Or.inr rfl) (Or.inl rfl))))) (by rw [e109]; exact ⟨(by subst hv4 hv3; rw [own_r12r]), N109, rfl⟩)
theorem own_and31 (x : Int32) : 0 ≤ (x &&& (2147483647 : Int32)).toInt := by
  have e := own_mask (x := x) (m := 2147483647) (k := 31) rfl
  rw [own_ti (by rw [e]; omega)]; omega
theorem own_rem {x m : Int32} (hx : 0 ≤ x.toInt) (hm : 0 < m.toInt) : (x % m).toInt = x.toInt % m.toInt ∧ 0 ≤ (x % m).toInt ∧ (x % m).toInt < m.toInt := by
  have e : (x % m).toInt = x.toInt.tmod m.toInt := Int32.toInt_mod x m
  rw [Int.tmod_eq_emod_of_nonneg hx] at e
  exact ⟨e, e ▸ Int.emod_nonneg _ (by omega), e ▸ Int.emod_lt_of_pos _ hm⟩

theorem own_s3 {p v : Int32} (h : v = ((p &&& (2147483647 : Int32)) % (4 : Int32))) (h0 : ¬ (v = 0)) (h1 : ¬ (v = 1)) (h2 : ¬ (v = 2)) : v = 3 := by
  have r := (own_rem (own_and31 p) (m := 4) (by decide)).2
  rw [← h, show (4 : Int32).toInt = 4 from rfl] at r
  simp only [← Int32.toInt_inj, Int32.reduceToInt] at *
  omega
theorem pd5 : parseMethodDescriptor "(ZI)Ljava/lang/String;" = some ⟨[.boolean, .int], some (.object "java/lang/String")⟩ := by decide +kernel
theorem pd6 : parseMethodDescriptor "(I)Linducere/Activation$Status;" = some ⟨[.int], some (.object "inducere/Activation$Status")⟩ := by decide +kernel
theorem pd7 : parseMethodDescriptor "(I)Linducere/Activation$Lifecycle;" = some ⟨[.int], some (.object "inducere/Activation$Lifecycle")⟩ := by decide +kernel
theorem pd8 : parseMethodDescriptor "(Linducere/Activation$Status;Linducere/Activation$Lifecycle;Ljava/lang/String;Ljava/lang/String;Z)V" = some ⟨[(.object "inducere/Activation$Status"), (.object "inducere/Activation$Lifecycle"), (.object "java/lang/String"), (.object "java/lang/String"), .boolean], none⟩ := by decide +kernel
theorem pd9 : parseMethodDescriptor "()Z" = some ⟨[], some .boolean⟩ := by decide +kernel
theorem ef_0 (m : MethodId) (p0 : Int32) (p1 : Int32) (p2 : Int32) (p3 : Int32) (p4 : Int32) : entryFrame m #[(.int p0), (.int p1), (.int p2), (.int p3), (.int p4)] maxLocals = mkF m 0 #[.val (.int p0), .val (.int p1), .val (.int p2), .val (.int p3), .val (.int p4), .unset, .unset, .unset, .unset, .unset, .unset, .unset, .unset, .unset, .unset, .unset] [] := by (first | (simp [entryFrame, mkF, argsToLocals, Value.category, maxLocals]; done) | rfl)
set_option maxRecDepth 65536 in
theorem own_leaf0 {p0 p1 p2 p3 p4 ucs v1 v2 v4 v6 v8 v12 v13 v15 v17 : Int32} {us0 us1 us2 us3 us4 us5 us6 us7 us8 us9 : Addr} (hv1 : v1 = ((p0 &&& (2147483647 : Int32)) % (7 : Int32))) (hv2 : v2 = ((p1 &&& (2147483647 : Int32)) % (4 : Int32))) (hv4 : v4 = (if (p2 &&& (1 : Int32)) = (0 : Int32) then (0 : Int32) else (1 : Int32))) (hv6 : v6 = (if (p2 &&& (2 : Int32)) = (0 : Int32) then (0 : Int32) else (1 : Int32))) (hv8 : v8 = (if (p2 &&& (4 : Int32)) = (0 : Int32) then (0 : Int32) else (1 : Int32))) (hv12 : v12 = (if v1 = (3 : Int32) then (1 : Int32) else (0 : Int32))) (hv13 : v13 = (if v1 = (2 : Int32) then (1 : Int32) else v12)) (hv15 : v15 = (if v13 = (0 : Int32) then (1 : Int32) else (0 : Int32))) (hv17 : v17 = (if (own_r12n (own_on v1)) = v15 then (1 : Int32) else (0 : Int32))) (hs79_9 : v2 = (0 : Int32)) : v17 = 1 := by
  have e2 := hs79_9
  clear hv1 hv4 hv6 hv8
  simp only [hv17, hv15, hv13, hv12, own_r12n, own_r12r, own_on, e2]
  by_cases q2 : v1 = (2 : Int32) <;> by_cases q3 : v1 = (3 : Int32) <;> simp [q2, q3]
set_option maxRecDepth 65536 in
theorem own_leaf1 {p0 p1 p2 p3 p4 ucs v1 v2 v4 v6 v8 v21 v22 v24 v26 : Int32} {us0 us1 us2 us3 us4 us5 us6 us7 us8 us9 : Addr} (hv1 : v1 = ((p0 &&& (2147483647 : Int32)) % (7 : Int32))) (hv2 : v2 = ((p1 &&& (2147483647 : Int32)) % (4 : Int32))) (hv4 : v4 = (if (p2 &&& (1 : Int32)) = (0 : Int32) then (0 : Int32) else (1 : Int32))) (hv6 : v6 = (if (p2 &&& (2 : Int32)) = (0 : Int32) then (0 : Int32) else (1 : Int32))) (hv8 : v8 = (if (p2 &&& (4 : Int32)) = (0 : Int32) then (0 : Int32) else (1 : Int32))) (hv21 : v21 = (if v1 = (3 : Int32) then (1 : Int32) else (0 : Int32))) (hv22 : v22 = (if v1 = (2 : Int32) then (1 : Int32) else v21)) (hv24 : v24 = (if v22 = (0 : Int32) then (1 : Int32) else (0 : Int32))) (hv26 : v26 = (if (own_r12r (own_on v1) (1 : Int32)) = v24 then (1 : Int32) else (0 : Int32))) (hs79_9 : ¬ (v2 = (0 : Int32))) (hs79_18 : v2 = (1 : Int32)) : v26 = 1 := by
  have e2 := hs79_18
  clear hv1 hv4 hv6 hv8
  simp only [hv26, hv24, hv22, hv21, own_r12n, own_r12r, own_on, e2]
  by_cases q2 : v1 = (2 : Int32) <;> by_cases q3 : v1 = (3 : Int32) <;> simp [q2, q3]
set_option maxRecDepth 65536 in
theorem own_leaf2 {p0 p1 p2 p3 p4 ucs v1 v2 v4 v6 v8 v30 v31 v34 : Int32} {us0 us1 us2 us3 us4 us5 us6 us7 us8 us9 : Addr} (hv1 : v1 = ((p0 &&& (2147483647 : Int32)) % (7 : Int32))) (hv2 : v2 = ((p1 &&& (2147483647 : Int32)) % (4 : Int32))) (hv4 : v4 = (if (p2 &&& (1 : Int32)) = (0 : Int32) then (0 : Int32) else (1 : Int32))) (hv6 : v6 = (if (p2 &&& (2 : Int32)) = (0 : Int32) then (0 : Int32) else (1 : Int32))) (hv8 : v8 = (if (p2 &&& (4 : Int32)) = (0 : Int32) then (0 : Int32) else (1 : Int32))) (hv30 : v30 = (if v1 = (3 : Int32) then (1 : Int32) else (0 : Int32))) (hv31 : v31 = (if v1 = (2 : Int32) then (1 : Int32) else v30)) (hv34 : v34 = (if (own_r12r (own_on v1) (0 : Int32)) = (1 : Int32) then (1 : Int32) else (0 : Int32))) (hs79_9 : ¬ (v2 = (0 : Int32))) (hs79_18 : ¬ (v2 = (1 : Int32))) (hs79_27 : v2 = (2 : Int32)) : v34 = 1 := by
  have e2 := hs79_27
  clear hv1 hv4 hv6 hv8
  simp only [hv34, own_r12n, own_r12r, own_on, e2]
  by_cases q2 : v1 = (2 : Int32) <;> by_cases q3 : v1 = (3 : Int32) <;> simp [q2, q3]
set_option maxRecDepth 65536 in
theorem own_leaf3 {p0 p1 p2 p3 p4 ucs v1 v2 v4 v6 v8 v37 v38 v40 v43 v44 v46 : Int32} {us0 us1 us2 us3 us4 us5 us6 us7 us8 us9 : Addr} (hv1 : v1 = ((p0 &&& (2147483647 : Int32)) % (7 : Int32))) (hv2 : v2 = ((p1 &&& (2147483647 : Int32)) % (4 : Int32))) (hv4 : v4 = (if (p2 &&& (1 : Int32)) = (0 : Int32) then (0 : Int32) else (1 : Int32))) (hv6 : v6 = (if (p2 &&& (2 : Int32)) = (0 : Int32) then (0 : Int32) else (1 : Int32))) (hv8 : v8 = (if (p2 &&& (4 : Int32)) = (0 : Int32) then (0 : Int32) else (1 : Int32))) (hv37 : v37 = (if v1 = (3 : Int32) then (1 : Int32) else (0 : Int32))) (hv38 : v38 = (if v1 = (2 : Int32) then (1 : Int32) else v37)) (hv40 : v40 = (if v2 = (3 : Int32) then (1 : Int32) else (0 : Int32))) (hv43 : v43 = (if v40 = (0 : Int32) then (0 : Int32) else (1 : Int32))) (hv44 : v44 = (if v38 = (0 : Int32) then (1 : Int32) else v43)) (hv46 : v46 = (if (own_r12r (own_on v1) (0 : Int32)) = v44 then (1 : Int32) else (0 : Int32))) (hs79_9 : ¬ (v2 = (0 : Int32))) (hs79_18 : ¬ (v2 = (1 : Int32))) (hs79_27 : ¬ (v2 = (2 : Int32))) : v46 = 1 := by
  have e2 := (own_s3 hv2 hs79_9 hs79_18 hs79_27)
  clear hv1 hv4 hv6 hv8
  simp only [hv46, hv44, hv38, hv37, hv43, hv40, own_r12n, own_r12r, own_on, e2]
  by_cases q2 : v1 = (2 : Int32) <;> by_cases q3 : v1 = (3 : Int32) <;> simp [q2, q3]
def Q0 (Z : State) (p0 : Int32) (p1 : Int32) (p2 : Int32) (p3 : Int32) (p4 : Int32) (us0 : Addr) (us1 : Addr) (us2 : Addr) (us3 : Addr) (us4 : Addr) (us5 : Addr) (us6 : Addr) (us7 : Addr) (us8 : Addr) (us9 : Addr) (ucs : Int32) (h0 : Heap) (n0 : Nat) (v : Option Value) (h : Heap) (L : List Loc) : Prop := v = some (.int 1) ∧ Fr n0 L
set_option maxRecDepth 65536 in
set_option maxHeartbeats 40000000 in
theorem rm0 (l : Launch) (Z : State) (a0 : Array Value) (hw : ∀ d ∈ tables_1, d.before a0 Z = true) (ws : List Jvm.Cond) (p0 : Int32) (p1 : Int32) (p2 : Int32) (p3 : Int32) (p4 : Int32) (us0 : Addr) (us1 : Addr) (us2 : Addr) (us3 : Addr) (us4 : Addr) (us5 : Addr) (us6 : Addr) (us7 : Addr) (us8 : Addr) (us9 : Addr) (ucs : Int32) (h0 : Heap) (n0 : Nat) (Z0 : n0 ≤ h0.size) (S_us0 : Sta Z h0 "inducere/Activation$Status" "ARCHIVED" "Linducere/Activation$Status;" (.ref us0)) (E_us0 : Exa Z h0 us0 "inducere/Activation$Status") (S_us1 : Sta Z h0 "inducere/Activation$Lifecycle" "DRAFT" "Linducere/Activation$Lifecycle;" (.ref us1)) (E_us1 : Exa Z h0 us1 "inducere/Activation$Lifecycle") (S_us2 : Sta Z h0 "inducere/Activation$Lifecycle" "DEPRECATED" "Linducere/Activation$Lifecycle;" (.ref us2)) (E_us2 : Exa Z h0 us2 "inducere/Activation$Lifecycle") (S_us3 : Sta Z h0 "inducere/Activation$Status" "DISABLED" "Linducere/Activation$Status;" (.ref us3)) (E_us3 : Exa Z h0 us3 "inducere/Activation$Status") (S_us4 : Sta Z h0 "inducere/Activation$Lifecycle" "ARCHIVED" "Linducere/Activation$Lifecycle;" (.ref us4)) (E_us4 : Exa Z h0 us4 "inducere/Activation$Lifecycle") (S_us5 : Sta Z h0 "inducere/Activation$Lifecycle" "PROPOSED" "Linducere/Activation$Lifecycle;" (.ref us5)) (E_us5 : Exa Z h0 us5 "inducere/Activation$Lifecycle") (S_us6 : Sta Z h0 "inducere/Activation$Status" "ENABLED" "Linducere/Activation$Status;" (.ref us6)) (E_us6 : Exa Z h0 us6 "inducere/Activation$Status") (S_us7 : Sta Z h0 "inducere/Activation$Lifecycle" "FAILED" "Linducere/Activation$Lifecycle;" (.ref us7)) (E_us7 : Exa Z h0 us7 "inducere/Activation$Lifecycle") (S_us8 : Sta Z h0 "inducere/Activation$Lifecycle" "ACTIVE" "Linducere/Activation$Lifecycle;" (.ref us8)) (E_us8 : Exa Z h0 us8 "inducere/Activation$Lifecycle") (S_us9 : Sta Z h0 "inducere/Activation$Lifecycle" "SUSPENDED" "Linducere/Activation$Lifecycle;" (.ref us9)) (E_us9 : Exa Z h0 us9 "inducere/Activation$Lifecycle") (F_on_us1 : Fld Z h0 us1 "inducere/Activation$Lifecycle" "on" "Z" (.int (0 : Int32))) (F_on_us2 : Fld Z h0 us2 "inducere/Activation$Lifecycle" "on" "Z" (.int (1 : Int32))) (F_on_us4 : Fld Z h0 us4 "inducere/Activation$Lifecycle" "on" "Z" (.int (0 : Int32))) (F_on_us0 : Fld Z h0 us0 "inducere/Activation$Status" "on" "Z" (.int (0 : Int32))) (F_on_us5 : Fld Z h0 us5 "inducere/Activation$Lifecycle" "on" "Z" (.int (0 : Int32))) (F_on_us3 : Fld Z h0 us3 "inducere/Activation$Status" "on" "Z" (.int (0 : Int32))) (F_on_us7 : Fld Z h0 us7 "inducere/Activation$Lifecycle" "on" "Z" (.int (0 : Int32))) (F_on_us8 : Fld Z h0 us8 "inducere/Activation$Lifecycle" "on" "Z" (.int (1 : Int32))) (F_on_us6 : Fld Z h0 us6 "inducere/Activation$Status" "on" "Z" (.int (1 : Int32))) (F_on_us9 : Fld Z h0 us9 "inducere/Activation$Lifecycle" "on" "Z" (.int (0 : Int32))) (S_cs : Sta Z h0 "java/lang/String" "COMPACT_STRINGS" "Z" (.int ucs)) (hcs : ¬ (ucs = (0 : Int32))) :
    MetFree l x (head1 (Jvm.Cond.code x code maxLocals ret :: ws) room_1) (fun a U => a = #[(.int p0), (.int p1), (.int p2), (.int p3), (.int p4)] ∧ Z.Warmed39 U.vm ∧ U.heap = h0) (fun _ _ _ _ _ => True) (fun _ U o U' => ∃ v L, o = .returned v ∧ Q0 Z p0 p1 p2 p3 p4 us0 us1 us2 us3 us4 us5 us6 us7 us8 us9 ucs h0 n0 v U'.heap L ∧ FrameEnd U o U' L room_1.cells room_1.slots) := by
  refine MetFree.of_bodySF (plainFor_of_name pn1) hisR ?_
  intro p e s m args below meth c s₁ Bd hml0 hP hK
  obtain ⟨rfl, hZ, hh⟩ := hP
  have hx := Bd.exec
  have hby := Bd.bytes
  have hml : c.maxLocals = 16 := hml0
  have hown : s.vm.findClass "inducere/ActivationSwitchedOffPinLaw" = some m.cls := findClass_of_methodNamed Bd.named
  have hnm := (name_of_methodNamed Bd.named Bd.method).1
  have X0 : Stand p l e room_1 s m #[(.int p0), (.int p1), (.int p2), (.int p3), (.int p4)] below meth c s₁ [] 0 0 := Stand.of_body Bd
  have e0 : s₁.heap = h0 := by rw [← hh, Bd.state]; rfl
  have N0 := Fr.nil n0
  have K0 : Keep h0 h0 [] := Keep.refl h0 _
  show own_Go p e below s (Q0 Z p0 p1 p2 p3 p4 us0 us1 us2 us3 us4 us5 us6 us7 us8 us9 ucs h0 n0) room_1.cells room_1.slots (s₁.setTop (entryFrame m #[(.int p0), (.int p1), (.int p2), (.int p3), (.int p4)] maxLocals))
  refine own_go (fun t k => castTop (ef_0 m p0 p1 p2 p3 p4) k) ?_
  have hnz6_101 : ¬ ((7 : Int32) = (0 : Int32)) := by decide
  obtain ⟨v1, hv1⟩ : ∃ z : Int32, z = ((p0 &&& (2147483647 : Int32)) % (7 : Int32)) := ⟨_, rfl⟩
  have hnz14_102 : ¬ ((4 : Int32) = (0 : Int32)) := by decide
  obtain ⟨v2, hv2⟩ : ∃ z : Int32, z = ((p1 &&& (2147483647 : Int32)) % (4 : Int32)) := ⟨_, rfl⟩
  obtain ⟨v4, hv4⟩ : ∃ z : Int32, z = (if (p2 &&& (1 : Int32)) = (0 : Int32) then (0 : Int32) else (1 : Int32)) := ⟨_, rfl⟩
  obtain ⟨T105, lc105, X105, N105, e105, st105⟩ := own_mrg (n0 := n0) (h := h0) (g := (mkF m 20 #[.val (.int p0), .val (.int p1), .val (.int p2), .val (.int p3), .val (.int p4), .val (.int v1), .val (.int v2), .unset, .unset, .unset, .unset, .unset, .unset, .unset, .unset, .unset] [(.int (p2 &&& (1 : Int32)))])) (g' := (mkF m 28 #[.val (.int p0), .val (.int p1), .val (.int p2), .val (.int p3), .val (.int p4), .val (.int v1), .val (.int v2), .unset, .unset, .unset, .unset, .unset, .unset, .unset, .unset, .unset] [(.int v4)])) X0 (by
    by_cases hc20_3 : (p2 &&& (1 : Int32)) = (0 : Int32)
    · have hgo103 : ∀ t, Steps p.tables e below (s₁.setTop (mkF m 28 #[.val (.int p0), .val (.int p1), .val (.int p2), .val (.int p3), .val (.int p4), .val (.int v1), .val (.int v2), .unset, .unset, .unset, .unset, .unset, .unset, .unset, .unset, .unset] [(.int (0 : Int32))])) t → Steps p.tables e below (s₁.setTop (mkF m 20 #[.val (.int p0), .val (.int p1), .val (.int p2), .val (.int p3), .val (.int p4), .val (.int v1), .val (.int v2), .unset, .unset, .unset, .unset, .unset, .unset, .unset, .unset, .unset] [(.int (p2 &&& (1 : Int32)))])) t := by
        intro t kt
        show Steps p.tables e below (s₁.setTop (mkF m 20 #[.val (.int p0), .val (.int p1), .val (.int p2), .val (.int p3), .val (.int p4), .val (.int v1), .val (.int v2), .unset, .unset, .unset, .unset, .unset, .unset, .unset, .unset, .unset] [(.int (p2 &&& (1 : Int32)))])) _
        refine XS.ifYes X0.here hx rfl (pc0 := 20) (pc' := 27) rfl (hb hby at_20) rfl ((if0 _ _).trans (teq hc20_3).1) (by decide) (by decide) ?_
        show Steps p.tables e below (s₁.setTop (mkF m 27 #[.val (.int p0), .val (.int p1), .val (.int p2), .val (.int p3), .val (.int p4), .val (.int v1), .val (.int v2), .unset, .unset, .unset, .unset, .unset, .unset, .unset, .unset, .unset] [])) _
        refine XS.iconst X0.here hx rfl (hb hby at_27) ?_
        exact kt
      refine own_arm hgo103 ?_
      exact own_armEnd X0 N0 e0 (by rw [hv4.trans (if_pos hc20_3)])
    · have hgo104 : ∀ t, Steps p.tables e below (s₁.setTop (mkF m 28 #[.val (.int p0), .val (.int p1), .val (.int p2), .val (.int p3), .val (.int p4), .val (.int v1), .val (.int v2), .unset, .unset, .unset, .unset, .unset, .unset, .unset, .unset, .unset] [(.int (1 : Int32))])) t → Steps p.tables e below (s₁.setTop (mkF m 20 #[.val (.int p0), .val (.int p1), .val (.int p2), .val (.int p3), .val (.int p4), .val (.int v1), .val (.int v2), .unset, .unset, .unset, .unset, .unset, .unset, .unset, .unset, .unset] [(.int (p2 &&& (1 : Int32)))])) t := by
        intro t kt
        show Steps p.tables e below (s₁.setTop (mkF m 20 #[.val (.int p0), .val (.int p1), .val (.int p2), .val (.int p3), .val (.int p4), .val (.int v1), .val (.int v2), .unset, .unset, .unset, .unset, .unset, .unset, .unset, .unset, .unset] [(.int (p2 &&& (1 : Int32)))])) _
        refine XS.ifNo X0.here hx rfl (hb hby at_20) rfl ((if0 _ _).trans (feq hc20_3).1) ?_
        show Steps p.tables e below (s₁.setTop (mkF m 23 #[.val (.int p0), .val (.int p1), .val (.int p2), .val (.int p3), .val (.int p4), .val (.int v1), .val (.int v2), .unset, .unset, .unset, .unset, .unset, .unset, .unset, .unset, .unset] [])) _
        refine XS.iconst X0.here hx rfl (hb hby at_23) ?_
        show Steps p.tables e below (s₁.setTop (mkF m 24 #[.val (.int p0), .val (.int p1), .val (.int p2), .val (.int p3), .val (.int p4), .val (.int v1), .val (.int v2), .unset, .unset, .unset, .unset, .unset, .unset, .unset, .unset, .unset] [(.int (1 : Int32))])) _
        refine XS.goto X0.here hx rfl (pc0 := 24) (pc' := 28) rfl (hb hby at_24) (by decide) (by decide) ?_
        exact kt
      refine own_arm hgo104 ?_
      exact own_armEnd X0 N0 e0 (by rw [hv4.trans (if_neg hc20_3)]))
  obtain ⟨v6, hv6⟩ : ∃ z : Int32, z = (if (p2 &&& (2 : Int32)) = (0 : Int32) then (0 : Int32) else (1 : Int32)) := ⟨_, rfl⟩
  obtain ⟨T108, lc108, X108, N108, e108, st108⟩ := own_mrg (n0 := n0) (h := h0) (g := (mkF m 33 #[.val (.int p0), .val (.int p1), .val (.int p2), .val (.int p3), .val (.int p4), .val (.int v1), .val (.int v2), .val (.int v4), .unset, .unset, .unset, .unset, .unset, .unset, .unset, .unset] [(.int (p2 &&& (2 : Int32)))])) (g' := (mkF m 41 #[.val (.int p0), .val (.int p1), .val (.int p2), .val (.int p3), .val (.int p4), .val (.int v1), .val (.int v2), .val (.int v4), .unset, .unset, .unset, .unset, .unset, .unset, .unset, .unset] [(.int v6)])) X105 (by
    by_cases hc33_5 : (p2 &&& (2 : Int32)) = (0 : Int32)
    · have hgo106 : ∀ t, Steps p.tables e below (T105.setTop (mkF m 41 #[.val (.int p0), .val (.int p1), .val (.int p2), .val (.int p3), .val (.int p4), .val (.int v1), .val (.int v2), .val (.int v4), .unset, .unset, .unset, .unset, .unset, .unset, .unset, .unset] [(.int (0 : Int32))])) t → Steps p.tables e below (T105.setTop (mkF m 33 #[.val (.int p0), .val (.int p1), .val (.int p2), .val (.int p3), .val (.int p4), .val (.int v1), .val (.int v2), .val (.int v4), .unset, .unset, .unset, .unset, .unset, .unset, .unset, .unset] [(.int (p2 &&& (2 : Int32)))])) t := by
        intro t kt
        show Steps p.tables e below (T105.setTop (mkF m 33 #[.val (.int p0), .val (.int p1), .val (.int p2), .val (.int p3), .val (.int p4), .val (.int v1), .val (.int v2), .val (.int v4), .unset, .unset, .unset, .unset, .unset, .unset, .unset, .unset] [(.int (p2 &&& (2 : Int32)))])) _
        refine XS.ifYes X105.here hx rfl (pc0 := 33) (pc' := 40) rfl (hb hby at_33) rfl ((if0 _ _).trans (teq hc33_5).1) (by decide) (by decide) ?_
        show Steps p.tables e below (T105.setTop (mkF m 40 #[.val (.int p0), .val (.int p1), .val (.int p2), .val (.int p3), .val (.int p4), .val (.int v1), .val (.int v2), .val (.int v4), .unset, .unset, .unset, .unset, .unset, .unset, .unset, .unset] [])) _
        refine XS.iconst X105.here hx rfl (hb hby at_40) ?_
        exact kt
      refine own_arm hgo106 ?_
      exact own_armEnd X105 N105 e105 (by rw [hv6.trans (if_pos hc33_5)])
    · have hgo107 : ∀ t, Steps p.tables e below (T105.setTop (mkF m 41 #[.val (.int p0), .val (.int p1), .val (.int p2), .val (.int p3), .val (.int p4), .val (.int v1), .val (.int v2), .val (.int v4), .unset, .unset, .unset, .unset, .unset, .unset, .unset, .unset] [(.int (1 : Int32))])) t → Steps p.tables e below (T105.setTop (mkF m 33 #[.val (.int p0), .val (.int p1), .val (.int p2), .val (.int p3), .val (.int p4), .val (.int v1), .val (.int v2), .val (.int v4), .unset, .unset, .unset, .unset, .unset, .unset, .unset, .unset] [(.int (p2 &&& (2 : Int32)))])) t := by
        intro t kt
        show Steps p.tables e below (T105.setTop (mkF m 33 #[.val (.int p0), .val (.int p1), .val (.int p2), .val (.int p3), .val (.int p4), .val (.int v1), .val (.int v2), .val (.int v4), .unset, .unset, .unset, .unset, .unset, .unset, .unset, .unset] [(.int (p2 &&& (2 : Int32)))])) _
        refine XS.ifNo X105.here hx rfl (hb hby at_33) rfl ((if0 _ _).trans (feq hc33_5).1) ?_
        show Steps p.tables e below (T105.setTop (mkF m 36 #[.val (.int p0), .val (.int p1), .val (.int p2), .val (.int p3), .val (.int p4), .val (.int v1), .val (.int v2), .val (.int v4), .unset, .unset, .unset, .unset, .unset, .unset, .unset, .unset] [])) _
        refine XS.iconst X105.here hx rfl (hb hby at_36) ?_
        show Steps p.tables e below (T105.setTop (mkF m 37 #[.val (.int p0), .val (.int p1), .val (.int p2), .val (.int p3), .val (.int p4), .val (.int v1), .val (.int v2), .val (.int v4), .unset, .unset, .unset, .unset, .unset, .unset, .unset, .unset] [(.int (1 : Int32))])) _
        refine XS.goto X105.here hx rfl (pc0 := 37) (pc' := 41) rfl (hb hby at_37) (by decide) (by decide) ?_
        exact kt
      refine own_arm hgo107 ?_
      exact own_armEnd X105 N105 e105 (by rw [hv6.trans (if_neg hc33_5)]))
  obtain ⟨v8, hv8⟩ : ∃ z : Int32, z = (if (p2 &&& (4 : Int32)) = (0 : Int32) then (0 : Int32) else (1 : Int32)) := ⟨_, rfl⟩
  obtain ⟨T111, lc111, X111, N111, e111, st111⟩ := own_mrg (n0 := n0) (h := h0) (g := (mkF m 46 #[.val (.int p0), .val (.int p1), .val (.int p2), .val (.int p3), .val (.int p4), .val (.int v1), .val (.int v2), .val (.int v4), .val (.int v6), .unset, .unset, .unset, .unset, .unset, .unset, .unset] [(.int (p2 &&& (4 : Int32)))])) (g' := (mkF m 54 #[.val (.int p0), .val (.int p1), .val (.int p2), .val (.int p3), .val (.int p4), .val (.int v1), .val (.int v2), .val (.int v4), .val (.int v6), .unset, .unset, .unset, .unset, .unset, .unset, .unset] [(.int v8)])) X108 (by
    by_cases hc46_7 : (p2 &&& (4 : Int32)) = (0 : Int32)
    · have hgo109 : ∀ t, Steps p.tables e below (T108.setTop (mkF m 54 #[.val (.int p0), .val (.int p1), .val (.int p2), .val (.int p3), .val (.int p4), .val (.int v1), .val (.int v2), .val (.int v4), .val (.int v6), .unset, .unset, .unset, .unset, .unset, .unset, .unset] [(.int (0 : Int32))])) t → Steps p.tables e below (T108.setTop (mkF m 46 #[.val (.int p0), .val (.int p1), .val (.int p2), .val (.int p3), .val (.int p4), .val (.int v1), .val (.int v2), .val (.int v4), .val (.int v6), .unset, .unset, .unset, .unset, .unset, .unset, .unset] [(.int (p2 &&& (4 : Int32)))])) t := by
        intro t kt
        show Steps p.tables e below (T108.setTop (mkF m 46 #[.val (.int p0), .val (.int p1), .val (.int p2), .val (.int p3), .val (.int p4), .val (.int v1), .val (.int v2), .val (.int v4), .val (.int v6), .unset, .unset, .unset, .unset, .unset, .unset, .unset] [(.int (p2 &&& (4 : Int32)))])) _
        refine XS.ifYes X108.here hx rfl (pc0 := 46) (pc' := 53) rfl (hb hby at_46) rfl ((if0 _ _).trans (teq hc46_7).1) (by decide) (by decide) ?_
        show Steps p.tables e below (T108.setTop (mkF m 53 #[.val (.int p0), .val (.int p1), .val (.int p2), .val (.int p3), .val (.int p4), .val (.int v1), .val (.int v2), .val (.int v4), .val (.int v6), .unset, .unset, .unset, .unset, .unset, .unset, .unset] [])) _
        refine XS.iconst X108.here hx rfl (hb hby at_53) ?_
        exact kt
      refine own_arm hgo109 ?_
      exact own_armEnd X108 N108 e108 (by rw [hv8.trans (if_pos hc46_7)])
    · have hgo110 : ∀ t, Steps p.tables e below (T108.setTop (mkF m 54 #[.val (.int p0), .val (.int p1), .val (.int p2), .val (.int p3), .val (.int p4), .val (.int v1), .val (.int v2), .val (.int v4), .val (.int v6), .unset, .unset, .unset, .unset, .unset, .unset, .unset] [(.int (1 : Int32))])) t → Steps p.tables e below (T108.setTop (mkF m 46 #[.val (.int p0), .val (.int p1), .val (.int p2), .val (.int p3), .val (.int p4), .val (.int v1), .val (.int v2), .val (.int v4), .val (.int v6), .unset, .unset, .unset, .unset, .unset, .unset, .unset] [(.int (p2 &&& (4 : Int32)))])) t := by
        intro t kt
        show Steps p.tables e below (T108.setTop (mkF m 46 #[.val (.int p0), .val (.int p1), .val (.int p2), .val (.int p3), .val (.int p4), .val (.int v1), .val (.int v2), .val (.int v4), .val (.int v6), .unset, .unset, .unset, .unset, .unset, .unset, .unset] [(.int (p2 &&& (4 : Int32)))])) _
        refine XS.ifNo X108.here hx rfl (hb hby at_46) rfl ((if0 _ _).trans (feq hc46_7).1) ?_
        show Steps p.tables e below (T108.setTop (mkF m 49 #[.val (.int p0), .val (.int p1), .val (.int p2), .val (.int p3), .val (.int p4), .val (.int v1), .val (.int v2), .val (.int v4), .val (.int v6), .unset, .unset, .unset, .unset, .unset, .unset, .unset] [])) _
        refine XS.iconst X108.here hx rfl (hb hby at_49) ?_
        show Steps p.tables e below (T108.setTop (mkF m 50 #[.val (.int p0), .val (.int p1), .val (.int p2), .val (.int p3), .val (.int p4), .val (.int v1), .val (.int v2), .val (.int v4), .val (.int v6), .unset, .unset, .unset, .unset, .unset, .unset, .unset] [(.int (1 : Int32))])) _
        refine XS.goto X108.here hx rfl (pc0 := 50) (pc' := 54) rfl (hb hby at_50) (by decide) (by decide) ?_
        exact kt
      refine own_arm hgo110 ?_
      exact own_armEnd X108 N108 e108 (by rw [hv8.trans (if_neg hc46_7)]))
  obtain ⟨_, _, ⟨T112, L112, k112, n112⟩, -, X112, ⟨Lc112, hQ112, l112, y112, z112⟩, st112⟩ := Jvm.LawKit.callS X111 hx (y := (⟨"inducere/ActivationSwitchedOffPinLaw", "drawn", "(ZI)Ljava/lang/String;"⟩ : MethodName)) hown (mvT hZ (hw _ (List.mem_of_getElem? (i := 1) rfl))) (mvT hZ (hw _ (List.mem_of_getElem? (i := 2) rfl))) (mvT hZ (hw _ (List.mem_of_getElem? (i := 3) rfl))) (mvT hZ (hw _ (List.mem_of_getElem? (i := 4) rfl))) (by decide) (backOf (W := 0) (rm1 l Z a0 hw [] v4 p3 ucs h0 n0 Z0 S_cs (hcs : ¬ (ucs = (0 : Int32)))) hZ (hw _ (List.mem_of_getElem? (i := 4) rfl)) (hw _ (List.mem_of_getElem? (i := 3) rfl)) (by decide) (by decide)) (g := (mkF m 59 #[.val (.int p0), .val (.int p1), .val (.int p2), .val (.int p3), .val (.int p4), .val (.int v1), .val (.int v2), .val (.int v4), .val (.int v6), .val (.int v8), .unset, .unset, .unset, .unset, .unset, .unset] [(.int p3), (.int v4)])) rfl (by rw [hml]; rfl) (argsL := [(.int v4), (.int p3)]) (rest := []) (lenOf pd5 rfl) rfl (by show 2 * 0 + _ ≤ _; exact Nat.le_of_eq rfl) (hb hby at_59) (fun _ _ => ⟨rfl, e111, (by decide : 0 + 3 ≤ _), (by decide : 0 + 8 ≤ _)⟩)
  dsimp only [Pt.U, Pt.locs, Pt.cells, Pt.slots] at X112 l112 y112 z112 st112 hQ112
  subst l112 y112 z112
  obtain ⟨b112_0, rfl, N112q, K112q, F112_0⟩ := hQ112
  have F113 := own_staKeep S_us0 K112q all0
  have F114 := E_us0.keep K112q
  have F115 := own_staKeep S_us1 K112q all0
  have F116 := E_us1.keep K112q
  have F117 := own_staKeep S_us2 K112q all0
  have F118 := E_us2.keep K112q
  have F119 := own_staKeep S_us3 K112q all0
  have F120 := E_us3.keep K112q
  have F121 := own_staKeep S_us4 K112q all0
  have F122 := E_us4.keep K112q
  have F123 := own_staKeep S_us5 K112q all0
  have F124 := E_us5.keep K112q
  have F125 := own_staKeep S_us6 K112q all0
  have F126 := E_us6.keep K112q
  have F127 := own_staKeep S_us7 K112q all0
  have F128 := E_us7.keep K112q
  have F129 := own_staKeep S_us8 K112q all0
  have F130 := E_us8.keep K112q
  have F131 := own_staKeep S_us9 K112q all0
  have F132 := E_us9.keep K112q
  have F133 := F_on_us1.keep K112q nin0
  have F134 := F_on_us2.keep K112q nin0
  have F135 := F_on_us4.keep K112q nin0
  have F136 := F_on_us0.keep K112q nin0
  have F137 := F_on_us5.keep K112q nin0
  have F138 := F_on_us3.keep K112q nin0
  have F139 := F_on_us7.keep K112q nin0
  have F140 := F_on_us8.keep K112q nin0
  have F141 := F_on_us6.keep K112q nin0
  have F142 := F_on_us9.keep K112q nin0
  have F143 := own_staKeep S_cs K112q all0
  have Z144 : n0 ≤ T112.heap.size := Nat.le_trans Z0 K112q.1
  have K145 : Keep h0 T112.heap [] := K0.trans K112q all0
  have N112 := Fr.app N111 N112q
  obtain ⟨_, _, ⟨T146, L146, k146, n146⟩, -, X146, ⟨Lc146, hQ146, l146, y146, z146⟩, st146⟩ := Jvm.LawKit.callS X112 hx (y := (⟨"inducere/ActivationSwitchedOffPinLaw", "drawn", "(ZI)Ljava/lang/String;"⟩ : MethodName)) hown (mvT hZ (hw _ (List.mem_of_getElem? (i := 1) rfl))) (mvT hZ (hw _ (List.mem_of_getElem? (i := 2) rfl))) (mvT hZ (hw _ (List.mem_of_getElem? (i := 3) rfl))) (mvT hZ (hw _ (List.mem_of_getElem? (i := 4) rfl))) (by decide) (backOf (W := 0) (rm1 l Z a0 hw [] v6 p4 ucs (T112.heap) n0 Z144 F143 (hcs : ¬ (ucs = (0 : Int32)))) hZ (hw _ (List.mem_of_getElem? (i := 4) rfl)) (hw _ (List.mem_of_getElem? (i := 3) rfl)) (by decide) (by decide)) (g := (mkF m 68 #[.val (.int p0), .val (.int p1), .val (.int p2), .val (.int p3), .val (.int p4), .val (.int v1), .val (.int v2), .val (.int v4), .val (.int v6), .val (.int v8), .val b112_0, .unset, .unset, .unset, .unset, .unset] [(.int p4), (.int v6)])) rfl (by rw [hml]; rfl) (argsL := [(.int v6), (.int p4)]) (rest := []) (lenOf pd5 rfl) rfl (by show 2 * 0 + _ ≤ _; exact Nat.le_of_eq rfl) (hb hby at_68) (fun _ _ => ⟨rfl, (rfl : T112.heap = T112.heap), (by decide : 3 + 3 ≤ _), (by decide : 8 + 8 ≤ _)⟩)
  dsimp only [Pt.U, Pt.locs, Pt.cells, Pt.slots] at X146 l146 y146 z146 st146 hQ146
  subst l146 y146 z146
  obtain ⟨b146_0, rfl, N146q, K146q, F146_0⟩ := hQ146
  have F147 := own_staKeep F113 K146q all0
  have F148 := F114.keep K146q
  have F149 := own_staKeep F115 K146q all0
  have F150 := F116.keep K146q
  have F151 := own_staKeep F117 K146q all0
  have F152 := F118.keep K146q
  have F153 := own_staKeep F119 K146q all0
  have F154 := F120.keep K146q
  have F155 := own_staKeep F121 K146q all0
  have F156 := F122.keep K146q
  have F157 := own_staKeep F123 K146q all0
  have F158 := F124.keep K146q
  have F159 := own_staKeep F125 K146q all0
  have F160 := F126.keep K146q
  have F161 := own_staKeep F127 K146q all0
  have F162 := F128.keep K146q
  have F163 := own_staKeep F129 K146q all0
  have F164 := F130.keep K146q
  have F165 := own_staKeep F131 K146q all0
  have F166 := F132.keep K146q
  have F167 := F133.keep K146q nin0
  have F168 := F134.keep K146q nin0
  have F169 := F135.keep K146q nin0
  have F170 := F136.keep K146q nin0
  have F171 := F137.keep K146q nin0
  have F172 := F138.keep K146q nin0
  have F173 := F139.keep K146q nin0
  have F174 := F140.keep K146q nin0
  have F175 := F141.keep K146q nin0
  have F176 := F142.keep K146q nin0
  have F177 := own_staKeep F143 K146q all0
  have Z178 : n0 ≤ T146.heap.size := Nat.le_trans Z144 K146q.1
  have K179 : Keep h0 T146.heap [] := K145.trans K146q all0
  have N146 := Fr.app N112 N146q
  obtain ⟨T180, h180, X180, e180, E180, A180, D180, -, st180⟩ := newO X146 hx hZ hown (hw _ (List.mem_of_getElem? (i := 35) rfl)) (hw _ (List.mem_of_getElem? (i := 36) rfl)) (hw _ (List.mem_of_getElem? (i := 37) rfl)) (rfl : T146.heap = T146.heap) (g := (mkF m 73 #[.val (.int p0), .val (.int p1), .val (.int p2), .val (.int p3), .val (.int p4), .val (.int v1), .val (.int v2), .val (.int v4), .val (.int v6), .val (.int v8), .val b112_0, .val b146_0, .unset, .unset, .unset, .unset] [])) rfl (hb hby at_73) (by decide) (by decide)
  obtain ⟨b180, g180⟩ : ∃ z, z = T146.heap.size := ⟨_, rfl⟩
  rw [← g180] at A180 D180 st180
  have ne_us0_b180 : us0 ≠ b180 := Nat.ne_of_lt (Nat.lt_of_lt_of_le F148.lt (Nat.le_of_eq g180.symm))
  have ne_us1_b180 : us1 ≠ b180 := Nat.ne_of_lt (Nat.lt_of_lt_of_le F150.lt (Nat.le_of_eq g180.symm))
  have ne_us2_b180 : us2 ≠ b180 := Nat.ne_of_lt (Nat.lt_of_lt_of_le F152.lt (Nat.le_of_eq g180.symm))
  have ne_us3_b180 : us3 ≠ b180 := Nat.ne_of_lt (Nat.lt_of_lt_of_le F154.lt (Nat.le_of_eq g180.symm))
  have ne_us4_b180 : us4 ≠ b180 := Nat.ne_of_lt (Nat.lt_of_lt_of_le F156.lt (Nat.le_of_eq g180.symm))
  have ne_us5_b180 : us5 ≠ b180 := Nat.ne_of_lt (Nat.lt_of_lt_of_le F158.lt (Nat.le_of_eq g180.symm))
  have ne_us6_b180 : us6 ≠ b180 := Nat.ne_of_lt (Nat.lt_of_lt_of_le F160.lt (Nat.le_of_eq g180.symm))
  have ne_us7_b180 : us7 ≠ b180 := Nat.ne_of_lt (Nat.lt_of_lt_of_le F162.lt (Nat.le_of_eq g180.symm))
  have ne_us8_b180 : us8 ≠ b180 := Nat.ne_of_lt (Nat.lt_of_lt_of_le F164.lt (Nat.le_of_eq g180.symm))
  have ne_us9_b180 : us9 ≠ b180 := Nat.ne_of_lt (Nat.lt_of_lt_of_le F166.lt (Nat.le_of_eq g180.symm))
  have g_b180 : n0 ≤ b180 := Nat.le_trans Z178 (Nat.le_of_eq g180.symm)
  have sz_b180 : h0.size ≤ b180 := Nat.le_trans K179.1 (Nat.le_of_eq g180.symm)
  have F181 := F147.ext E180
  have F182 := F148.ext E180
  have F183 := F149.ext E180
  have F184 := F150.ext E180
  have F185 := F151.ext E180
  have F186 := F152.ext E180
  have F187 := F153.ext E180
  have F188 := F154.ext E180
  have F189 := F155.ext E180
  have F190 := F156.ext E180
  have F191 := F157.ext E180
  have F192 := F158.ext E180
  have F193 := F159.ext E180
  have F194 := F160.ext E180
  have F195 := F161.ext E180
  have F196 := F162.ext E180
  have F197 := F163.ext E180
  have F198 := F164.ext E180
  have F199 := F165.ext E180
  have F200 := F166.ext E180
  have F201 := F167.ext E180
  have F202 := F168.ext E180
  have F203 := F169.ext E180
  have F204 := F170.ext E180
  have F205 := F171.ext E180
  have F206 := F172.ext E180
  have F207 := F173.ext E180
  have F208 := F174.ext E180
  have F209 := F175.ext E180
  have F210 := F176.ext E180
  have F211 := F177.ext E180
  have Z212 : n0 ≤ h180.size := Nat.le_trans Z178 E180.1
  have K213 : Keep h0 h180 [] := K179.ext E180
  have F214 : Fld Z h180 b180 "inducere/Activation" "status" "Linducere/Activation$Status;" .null := D180 (Or.inr (hw _ (List.mem_of_getElem? (i := 60) rfl))) (ty := (.object "inducere/Activation$Status")) (by decide)
  have F215 : Fld Z h180 b180 "inducere/Activation" "lifecycle" "Linducere/Activation$Lifecycle;" .null := D180 (Or.inr (hw _ (List.mem_of_getElem? (i := 62) rfl))) (ty := (.object "inducere/Activation$Lifecycle")) (by decide)
  have F216 : Fld Z h180 b180 "inducere/Activation" "validFrom" "Ljava/lang/String;" .null := D180 (Or.inr (hw _ (List.mem_of_getElem? (i := 64) rfl))) (ty := (.object "java/lang/String")) (by decide)
  have F217 : Fld Z h180 b180 "inducere/Activation" "validTo" "Ljava/lang/String;" .null := D180 (Or.inr (hw _ (List.mem_of_getElem? (i := 66) rfl))) (ty := (.object "java/lang/String")) (by decide)
  have F218 : Fld Z h180 b180 "inducere/Activation" "conditional" "Z" (.int (0 : Int32)) := D180 (Or.inr (hw _ (List.mem_of_getElem? (i := 68) rfl))) (ty := .boolean) (by decide)
  have hgo219 : ∀ t, Steps p.tables e below (T180.setTop (mkF m 79 #[.val (.int p0), .val (.int p1), .val (.int p2), .val (.int p3), .val (.int p4), .val (.int v1), .val (.int v2), .val (.int v4), .val (.int v6), .val (.int v8), .val b112_0, .val b146_0, .unset, .unset, .unset, .unset] [(.int v2), (.ref b180), (.ref b180)])) t → Steps p.tables e below (s₁.setTop (mkF m 0 #[.val (.int p0), .val (.int p1), .val (.int p2), .val (.int p3), .val (.int p4), .unset, .unset, .unset, .unset, .unset, .unset, .unset, .unset, .unset, .unset, .unset] [])) t := by
    intro t kt
    show Steps p.tables e below (s₁.setTop (mkF m 0 #[.val (.int p0), .val (.int p1), .val (.int p2), .val (.int p3), .val (.int p4), .unset, .unset, .unset, .unset, .unset, .unset, .unset, .unset, .unset, .unset, .unset] [])) _
    refine XS.iloadN X0.here hx rfl (hb hby at_0) rfl ?_
    show Steps p.tables e below (s₁.setTop (mkF m 1 #[.val (.int p0), .val (.int p1), .val (.int p2), .val (.int p3), .val (.int p4), .unset, .unset, .unset, .unset, .unset, .unset, .unset, .unset, .unset, .unset, .unset] [(.int p0)])) _
    refine X0.ldcInt hx hown (mvT hZ (hw _ (List.mem_of_getElem? (i := 0) rfl))) (g := (mkF m 1 #[.val (.int p0), .val (.int p1), .val (.int p2), .val (.int p3), .val (.int p4), .unset, .unset, .unset, .unset, .unset, .unset, .unset, .unset, .unset, .unset, .unset] [(.int p0)])) rfl (hb hby at_1) _ ?_
    show Steps p.tables e below (s₁.setTop (mkF m 3 #[.val (.int p0), .val (.int p1), .val (.int p2), .val (.int p3), .val (.int p4), .unset, .unset, .unset, .unset, .unset, .unset, .unset, .unset, .unset, .unset, .unset] [(.int (2147483647 : Int32)), (.int p0)])) _
    refine XS.iand X0.here hx rfl (hb hby at_3) rfl ?_
    show Steps p.tables e below (s₁.setTop (mkF m 4 #[.val (.int p0), .val (.int p1), .val (.int p2), .val (.int p3), .val (.int p4), .unset, .unset, .unset, .unset, .unset, .unset, .unset, .unset, .unset, .unset, .unset] [(.int (p0 &&& (2147483647 : Int32)))])) _
    refine XS.bipush X0.here hx rfl (hb hby at_4) ?_
    show Steps p.tables e below (s₁.setTop (mkF m 6 #[.val (.int p0), .val (.int p1), .val (.int p2), .val (.int p3), .val (.int p4), .unset, .unset, .unset, .unset, .unset, .unset, .unset, .unset, .unset, .unset, .unset] [(.int (7 : Int32)), (.int (p0 &&& (2147483647 : Int32)))])) _
    refine XS.irem X0.here hx rfl (hb hby at_6) rfl hnz6_101 ?_
    rw [own_remI (p0 &&& (2147483647 : Int32)) (7 : Int32)]
    show Steps p.tables e below (s₁.setTop (mkF m 7 #[.val (.int p0), .val (.int p1), .val (.int p2), .val (.int p3), .val (.int p4), .unset, .unset, .unset, .unset, .unset, .unset, .unset, .unset, .unset, .unset, .unset] [(.int ((p0 &&& (2147483647 : Int32)) % (7 : Int32)))])) _
    rw [← hv1]
    show Steps p.tables e below (s₁.setTop (mkF m 7 #[.val (.int p0), .val (.int p1), .val (.int p2), .val (.int p3), .val (.int p4), .unset, .unset, .unset, .unset, .unset, .unset, .unset, .unset, .unset, .unset, .unset] [(.int v1)])) _
    refine XS.istore X0.here hx rfl (hb hby at_7) rfl (l' := #[.val (.int p0), .val (.int p1), .val (.int p2), .val (.int p3), .val (.int p4), .val (.int v1), .unset, .unset, .unset, .unset, .unset, .unset, .unset, .unset, .unset, .unset]) rfl ?_
    show Steps p.tables e below (s₁.setTop (mkF m 9 #[.val (.int p0), .val (.int p1), .val (.int p2), .val (.int p3), .val (.int p4), .val (.int v1), .unset, .unset, .unset, .unset, .unset, .unset, .unset, .unset, .unset, .unset] [])) _
    refine XS.iloadN X0.here hx rfl (hb hby at_9) rfl ?_
    show Steps p.tables e below (s₁.setTop (mkF m 10 #[.val (.int p0), .val (.int p1), .val (.int p2), .val (.int p3), .val (.int p4), .val (.int v1), .unset, .unset, .unset, .unset, .unset, .unset, .unset, .unset, .unset, .unset] [(.int p1)])) _
    refine X0.ldcInt hx hown (mvT hZ (hw _ (List.mem_of_getElem? (i := 0) rfl))) (g := (mkF m 10 #[.val (.int p0), .val (.int p1), .val (.int p2), .val (.int p3), .val (.int p4), .val (.int v1), .unset, .unset, .unset, .unset, .unset, .unset, .unset, .unset, .unset, .unset] [(.int p1)])) rfl (hb hby at_10) _ ?_
    show Steps p.tables e below (s₁.setTop (mkF m 12 #[.val (.int p0), .val (.int p1), .val (.int p2), .val (.int p3), .val (.int p4), .val (.int v1), .unset, .unset, .unset, .unset, .unset, .unset, .unset, .unset, .unset, .unset] [(.int (2147483647 : Int32)), (.int p1)])) _
    refine XS.iand X0.here hx rfl (hb hby at_12) rfl ?_
    show Steps p.tables e below (s₁.setTop (mkF m 13 #[.val (.int p0), .val (.int p1), .val (.int p2), .val (.int p3), .val (.int p4), .val (.int v1), .unset, .unset, .unset, .unset, .unset, .unset, .unset, .unset, .unset, .unset] [(.int (p1 &&& (2147483647 : Int32)))])) _
    refine XS.iconst X0.here hx rfl (hb hby at_13) ?_
    show Steps p.tables e below (s₁.setTop (mkF m 14 #[.val (.int p0), .val (.int p1), .val (.int p2), .val (.int p3), .val (.int p4), .val (.int v1), .unset, .unset, .unset, .unset, .unset, .unset, .unset, .unset, .unset, .unset] [(.int (4 : Int32)), (.int (p1 &&& (2147483647 : Int32)))])) _
    refine XS.irem X0.here hx rfl (hb hby at_14) rfl hnz14_102 ?_
    rw [own_remI (p1 &&& (2147483647 : Int32)) (4 : Int32)]
    show Steps p.tables e below (s₁.setTop (mkF m 15 #[.val (.int p0), .val (.int p1), .val (.int p2), .val (.int p3), .val (.int p4), .val (.int v1), .unset, .unset, .unset, .unset, .unset, .unset, .unset, .unset, .unset, .unset] [(.int ((p1 &&& (2147483647 : Int32)) % (4 : Int32)))])) _
    rw [← hv2]
    show Steps p.tables e below (s₁.setTop (mkF m 15 #[.val (.int p0), .val (.int p1), .val (.int p2), .val (.int p3), .val (.int p4), .val (.int v1), .unset, .unset, .unset, .unset, .unset, .unset, .unset, .unset, .unset, .unset] [(.int v2)])) _
    refine XS.istore X0.here hx rfl (hb hby at_15) rfl (l' := #[.val (.int p0), .val (.int p1), .val (.int p2), .val (.int p3), .val (.int p4), .val (.int v1), .val (.int v2), .unset, .unset, .unset, .unset, .unset, .unset, .unset, .unset, .unset]) rfl ?_
    show Steps p.tables e below (s₁.setTop (mkF m 17 #[.val (.int p0), .val (.int p1), .val (.int p2), .val (.int p3), .val (.int p4), .val (.int v1), .val (.int v2), .unset, .unset, .unset, .unset, .unset, .unset, .unset, .unset, .unset] [])) _
    refine XS.iloadN X0.here hx rfl (hb hby at_17) rfl ?_
    show Steps p.tables e below (s₁.setTop (mkF m 18 #[.val (.int p0), .val (.int p1), .val (.int p2), .val (.int p3), .val (.int p4), .val (.int v1), .val (.int v2), .unset, .unset, .unset, .unset, .unset, .unset, .unset, .unset, .unset] [(.int p2)])) _
    refine XS.iconst X0.here hx rfl (hb hby at_18) ?_
    show Steps p.tables e below (s₁.setTop (mkF m 19 #[.val (.int p0), .val (.int p1), .val (.int p2), .val (.int p3), .val (.int p4), .val (.int v1), .val (.int v2), .unset, .unset, .unset, .unset, .unset, .unset, .unset, .unset, .unset] [(.int (1 : Int32)), (.int p2)])) _
    refine XS.iand X0.here hx rfl (hb hby at_19) rfl ?_
    show Steps p.tables e below (s₁.setTop (mkF m 20 #[.val (.int p0), .val (.int p1), .val (.int p2), .val (.int p3), .val (.int p4), .val (.int v1), .val (.int v2), .unset, .unset, .unset, .unset, .unset, .unset, .unset, .unset, .unset] [(.int (p2 &&& (1 : Int32)))])) _
    refine st105 _ ?_
    show Steps p.tables e below (T105.setTop (mkF m 28 #[.val (.int p0), .val (.int p1), .val (.int p2), .val (.int p3), .val (.int p4), .val (.int v1), .val (.int v2), .unset, .unset, .unset, .unset, .unset, .unset, .unset, .unset, .unset] [(.int v4)])) _
    refine XS.istore X105.here hx rfl (hb hby at_28) rfl (l' := #[.val (.int p0), .val (.int p1), .val (.int p2), .val (.int p3), .val (.int p4), .val (.int v1), .val (.int v2), .val (.int v4), .unset, .unset, .unset, .unset, .unset, .unset, .unset, .unset]) rfl ?_
    show Steps p.tables e below (T105.setTop (mkF m 30 #[.val (.int p0), .val (.int p1), .val (.int p2), .val (.int p3), .val (.int p4), .val (.int v1), .val (.int v2), .val (.int v4), .unset, .unset, .unset, .unset, .unset, .unset, .unset, .unset] [])) _
    refine XS.iloadN X105.here hx rfl (hb hby at_30) rfl ?_
    show Steps p.tables e below (T105.setTop (mkF m 31 #[.val (.int p0), .val (.int p1), .val (.int p2), .val (.int p3), .val (.int p4), .val (.int v1), .val (.int v2), .val (.int v4), .unset, .unset, .unset, .unset, .unset, .unset, .unset, .unset] [(.int p2)])) _
    refine XS.iconst X105.here hx rfl (hb hby at_31) ?_
    show Steps p.tables e below (T105.setTop (mkF m 32 #[.val (.int p0), .val (.int p1), .val (.int p2), .val (.int p3), .val (.int p4), .val (.int v1), .val (.int v2), .val (.int v4), .unset, .unset, .unset, .unset, .unset, .unset, .unset, .unset] [(.int (2 : Int32)), (.int p2)])) _
    refine XS.iand X105.here hx rfl (hb hby at_32) rfl ?_
    show Steps p.tables e below (T105.setTop (mkF m 33 #[.val (.int p0), .val (.int p1), .val (.int p2), .val (.int p3), .val (.int p4), .val (.int v1), .val (.int v2), .val (.int v4), .unset, .unset, .unset, .unset, .unset, .unset, .unset, .unset] [(.int (p2 &&& (2 : Int32)))])) _
    refine st108 _ ?_
    show Steps p.tables e below (T108.setTop (mkF m 41 #[.val (.int p0), .val (.int p1), .val (.int p2), .val (.int p3), .val (.int p4), .val (.int v1), .val (.int v2), .val (.int v4), .unset, .unset, .unset, .unset, .unset, .unset, .unset, .unset] [(.int v6)])) _
    refine XS.istore X108.here hx rfl (hb hby at_41) rfl (l' := #[.val (.int p0), .val (.int p1), .val (.int p2), .val (.int p3), .val (.int p4), .val (.int v1), .val (.int v2), .val (.int v4), .val (.int v6), .unset, .unset, .unset, .unset, .unset, .unset, .unset]) rfl ?_
    show Steps p.tables e below (T108.setTop (mkF m 43 #[.val (.int p0), .val (.int p1), .val (.int p2), .val (.int p3), .val (.int p4), .val (.int v1), .val (.int v2), .val (.int v4), .val (.int v6), .unset, .unset, .unset, .unset, .unset, .unset, .unset] [])) _
    refine XS.iloadN X108.here hx rfl (hb hby at_43) rfl ?_
    show Steps p.tables e below (T108.setTop (mkF m 44 #[.val (.int p0), .val (.int p1), .val (.int p2), .val (.int p3), .val (.int p4), .val (.int v1), .val (.int v2), .val (.int v4), .val (.int v6), .unset, .unset, .unset, .unset, .unset, .unset, .unset] [(.int p2)])) _
    refine XS.iconst X108.here hx rfl (hb hby at_44) ?_
    show Steps p.tables e below (T108.setTop (mkF m 45 #[.val (.int p0), .val (.int p1), .val (.int p2), .val (.int p3), .val (.int p4), .val (.int v1), .val (.int v2), .val (.int v4), .val (.int v6), .unset, .unset, .unset, .unset, .unset, .unset, .unset] [(.int (4 : Int32)), (.int p2)])) _
    refine XS.iand X108.here hx rfl (hb hby at_45) rfl ?_
    show Steps p.tables e below (T108.setTop (mkF m 46 #[.val (.int p0), .val (.int p1), .val (.int p2), .val (.int p3), .val (.int p4), .val (.int v1), .val (.int v2), .val (.int v4), .val (.int v6), .unset, .unset, .unset, .unset, .unset, .unset, .unset] [(.int (p2 &&& (4 : Int32)))])) _
    refine st111 _ ?_
    show Steps p.tables e below (T111.setTop (mkF m 54 #[.val (.int p0), .val (.int p1), .val (.int p2), .val (.int p3), .val (.int p4), .val (.int v1), .val (.int v2), .val (.int v4), .val (.int v6), .unset, .unset, .unset, .unset, .unset, .unset, .unset] [(.int v8)])) _
    refine XS.istore X111.here hx rfl (hb hby at_54) rfl (l' := #[.val (.int p0), .val (.int p1), .val (.int p2), .val (.int p3), .val (.int p4), .val (.int v1), .val (.int v2), .val (.int v4), .val (.int v6), .val (.int v8), .unset, .unset, .unset, .unset, .unset, .unset]) rfl ?_
    show Steps p.tables e below (T111.setTop (mkF m 56 #[.val (.int p0), .val (.int p1), .val (.int p2), .val (.int p3), .val (.int p4), .val (.int v1), .val (.int v2), .val (.int v4), .val (.int v6), .val (.int v8), .unset, .unset, .unset, .unset, .unset, .unset] [])) _
    refine XS.iload X111.here hx rfl (hb hby at_56) rfl ?_
    show Steps p.tables e below (T111.setTop (mkF m 58 #[.val (.int p0), .val (.int p1), .val (.int p2), .val (.int p3), .val (.int p4), .val (.int v1), .val (.int v2), .val (.int v4), .val (.int v6), .val (.int v8), .unset, .unset, .unset, .unset, .unset, .unset] [(.int v4)])) _
    refine XS.iloadN X111.here hx rfl (hb hby at_58) rfl ?_
    show Steps p.tables e below (T111.setTop (mkF m 59 #[.val (.int p0), .val (.int p1), .val (.int p2), .val (.int p3), .val (.int p4), .val (.int v1), .val (.int v2), .val (.int v4), .val (.int v6), .val (.int v8), .unset, .unset, .unset, .unset, .unset, .unset] [(.int p3), (.int v4)])) _
    refine st112 _ ?_
    show Steps p.tables e below (T112.setTop (mkF m 62 #[.val (.int p0), .val (.int p1), .val (.int p2), .val (.int p3), .val (.int p4), .val (.int v1), .val (.int v2), .val (.int v4), .val (.int v6), .val (.int v8), .unset, .unset, .unset, .unset, .unset, .unset] [b112_0])) _
    refine XS.astore X112.here hx rfl (hb hby at_62) rfl (F112_0) (l' := #[.val (.int p0), .val (.int p1), .val (.int p2), .val (.int p3), .val (.int p4), .val (.int v1), .val (.int v2), .val (.int v4), .val (.int v6), .val (.int v8), .val b112_0, .unset, .unset, .unset, .unset, .unset]) (by rcases ref_cases (F112_0) with rfl | ⟨_, rfl⟩ <;> rfl) ?_
    show Steps p.tables e below (T112.setTop (mkF m 64 #[.val (.int p0), .val (.int p1), .val (.int p2), .val (.int p3), .val (.int p4), .val (.int v1), .val (.int v2), .val (.int v4), .val (.int v6), .val (.int v8), .val b112_0, .unset, .unset, .unset, .unset, .unset] [])) _
    refine XS.iload X112.here hx rfl (hb hby at_64) rfl ?_
    show Steps p.tables e below (T112.setTop (mkF m 66 #[.val (.int p0), .val (.int p1), .val (.int p2), .val (.int p3), .val (.int p4), .val (.int v1), .val (.int v2), .val (.int v4), .val (.int v6), .val (.int v8), .val b112_0, .unset, .unset, .unset, .unset, .unset] [(.int v6)])) _
    refine XS.iload X112.here hx rfl (hb hby at_66) rfl ?_
    show Steps p.tables e below (T112.setTop (mkF m 68 #[.val (.int p0), .val (.int p1), .val (.int p2), .val (.int p3), .val (.int p4), .val (.int v1), .val (.int v2), .val (.int v4), .val (.int v6), .val (.int v8), .val b112_0, .unset, .unset, .unset, .unset, .unset] [(.int p4), (.int v6)])) _
    refine st146 _ ?_
    show Steps p.tables e below (T146.setTop (mkF m 71 #[.val (.int p0), .val (.int p1), .val (.int p2), .val (.int p3), .val (.int p4), .val (.int v1), .val (.int v2), .val (.int v4), .val (.int v6), .val (.int v8), .val b112_0, .unset, .unset, .unset, .unset, .unset] [b146_0])) _
    refine XS.astore X146.here hx rfl (hb hby at_71) rfl (F146_0) (l' := #[.val (.int p0), .val (.int p1), .val (.int p2), .val (.int p3), .val (.int p4), .val (.int v1), .val (.int v2), .val (.int v4), .val (.int v6), .val (.int v8), .val b112_0, .val b146_0, .unset, .unset, .unset, .unset]) (by rcases ref_cases (F146_0) with rfl | ⟨_, rfl⟩ <;> rfl) ?_
    show Steps p.tables e below (T146.setTop (mkF m 73 #[.val (.int p0), .val (.int p1), .val (.int p2), .val (.int p3), .val (.int p4), .val (.int v1), .val (.int v2), .val (.int v4), .val (.int v6), .val (.int v8), .val b112_0, .val b146_0, .unset, .unset, .unset, .unset] [])) _
    refine st180 _ ?_
    show Steps p.tables e below (T180.setTop (mkF m 76 #[.val (.int p0), .val (.int p1), .val (.int p2), .val (.int p3), .val (.int p4), .val (.int v1), .val (.int v2), .val (.int v4), .val (.int v6), .val (.int v8), .val b112_0, .val b146_0, .unset, .unset, .unset, .unset] [(.ref b180)])) _
    refine XS.dup X180.here hx rfl (hb hby at_76) rfl rfl ?_
    show Steps p.tables e below (T180.setTop (mkF m 77 #[.val (.int p0), .val (.int p1), .val (.int p2), .val (.int p3), .val (.int p4), .val (.int v1), .val (.int v2), .val (.int v4), .val (.int v6), .val (.int v8), .val b112_0, .val b146_0, .unset, .unset, .unset, .unset] [(.ref b180), (.ref b180)])) _
    refine XS.iload X180.here hx rfl (hb hby at_77) rfl ?_
    exact kt
  refine own_go hgo219 ?_
  by_cases hs79_9 : v2 = (0 : Int32)
  · obtain ⟨_, _, ⟨T220, L220, k220, n220⟩, -, X220, ⟨Lc220, hQ220, l220, y220, z220⟩, st220⟩ := Jvm.LawKit.callS X180 hx (y := (⟨"inducere/ActivationSwitchedOffPinLaw", "status", "(I)Linducere/Activation$Status;"⟩ : MethodName)) hown (mvT hZ (hw _ (List.mem_of_getElem? (i := 38) rfl))) (mvT hZ (hw _ (List.mem_of_getElem? (i := 39) rfl))) (mvT hZ (hw _ (List.mem_of_getElem? (i := 3) rfl))) (mvT hZ (hw _ (List.mem_of_getElem? (i := 40) rfl))) (by decide) (backOf (W := 2) (rm8_0 l Z a0 hw [] v2 h180 n0 Z212 (by first | assumption | decide : v2 = (0 : Int32))) hZ (hw _ (List.mem_of_getElem? (i := 40) rfl)) (hw _ (List.mem_of_getElem? (i := 3) rfl)) (by decide) (by decide)) (g := (mkF m 79 #[.val (.int p0), .val (.int p1), .val (.int p2), .val (.int p3), .val (.int p4), .val (.int v1), .val (.int v2), .val (.int v4), .val (.int v6), .val (.int v8), .val b112_0, .val b146_0, .unset, .unset, .unset, .unset] [(.int v2), (.ref b180), (.ref b180)])) rfl (by rw [hml]; rfl) (argsL := [(.int v2)]) (rest := [(.ref b180), (.ref b180)]) (lenOf pd6 rfl) rfl (by show 2 * 0 + _ ≤ _; exact Nat.le_of_eq rfl) (hb hby at_79) (fun _ _ => ⟨rfl, e180, (by decide : 7 + 0 ≤ _), (by decide : 21 + 0 ≤ _)⟩)
    dsimp only [Pt.U, Pt.locs, Pt.cells, Pt.slots] at X220 l220 y220 z220 st220 hQ220
    subst l220 y220 z220
    obtain ⟨rfl, N220q, e220⟩ := hQ220
    have N220 := Fr.app N146 N220q
    obtain ⟨_, _, ⟨T221, L221, k221, n221⟩, -, X221, ⟨Lc221, hQ221, l221, y221, z221⟩, st221⟩ := Jvm.LawKit.callS X220 hx (y := (⟨"inducere/ActivationSwitchedOffPinLaw", "life", "(I)Linducere/Activation$Lifecycle;"⟩ : MethodName)) hown (mvT hZ (hw _ (List.mem_of_getElem? (i := 44) rfl))) (mvT hZ (hw _ (List.mem_of_getElem? (i := 45) rfl))) (mvT hZ (hw _ (List.mem_of_getElem? (i := 3) rfl))) (mvT hZ (hw _ (List.mem_of_getElem? (i := 46) rfl))) (by decide) (backOf (W := 3) (rm9 l Z a0 hw [] v1 us1 us2 us4 us5 us7 us8 us9 h180 n0 Z212 F183 F184 F185 F186 F189 F190 F191 F192 F195 F196 F197 F198 F199 F200 F201 F202 F203 F205 F207 F208 F210) hZ (hw _ (List.mem_of_getElem? (i := 46) rfl)) (hw _ (List.mem_of_getElem? (i := 3) rfl)) (by decide) (by decide)) (g := (mkF m 84 #[.val (.int p0), .val (.int p1), .val (.int p2), .val (.int p3), .val (.int p4), .val (.int v1), .val (.int v2), .val (.int v4), .val (.int v6), .val (.int v8), .val b112_0, .val b146_0, .unset, .unset, .unset, .unset] [(.int v1), .null, (.ref b180), (.ref b180)])) rfl (by rw [hml]; rfl) (argsL := [(.int v1)]) (rest := [.null, (.ref b180), (.ref b180)]) (lenOf pd7 rfl) rfl (by show 2 * 0 + _ ≤ _; exact Nat.le_of_eq rfl) (hb hby at_84) (fun _ _ => ⟨rfl, e220, (by decide : 7 + 0 ≤ _), (by decide : 21 + 0 ≤ _)⟩)
    dsimp only [Pt.U, Pt.locs, Pt.cells, Pt.slots] at X221 l221 y221 z221 st221 hQ221
    subst l221 y221 z221
    obtain ⟨b221_0, rfl, N221q, K221q, F221_0, F221_1⟩ := hQ221
    have F222 := own_staKeep F181 K221q all0
    have F223 := F182.keep K221q
    have F224 := own_staKeep F183 K221q all0
    have F225 := F184.keep K221q
    have F226 := own_staKeep F185 K221q all0
    have F227 := F186.keep K221q
    have F228 := own_staKeep F187 K221q all0
    have F229 := F188.keep K221q
    have F230 := own_staKeep F189 K221q all0
    have F231 := F190.keep K221q
    have F232 := own_staKeep F191 K221q all0
    have F233 := F192.keep K221q
    have F234 := own_staKeep F193 K221q all0
    have F235 := F194.keep K221q
    have F236 := own_staKeep F195 K221q all0
    have F237 := F196.keep K221q
    have F238 := own_staKeep F197 K221q all0
    have F239 := F198.keep K221q
    have F240 := own_staKeep F199 K221q all0
    have F241 := F200.keep K221q
    have F242 := F201.keep K221q nin0
    have F243 := F202.keep K221q nin0
    have F244 := F203.keep K221q nin0
    have F245 := F204.keep K221q nin0
    have F246 := F205.keep K221q nin0
    have F247 := F206.keep K221q nin0
    have F248 := F207.keep K221q nin0
    have F249 := F208.keep K221q nin0
    have F250 := F209.keep K221q nin0
    have F251 := F210.keep K221q nin0
    have F252 := own_staKeep F211 K221q all0
    have F253 := A180.keep K221q
    have F254 := F214.keep K221q nin0
    have F255 := F215.keep K221q nin0
    have F256 := F216.keep K221q nin0
    have F257 := F217.keep K221q nin0
    have F258 := F218.keep K221q nin0
    have Z259 : n0 ≤ T221.heap.size := Nat.le_trans Z212 K221q.1
    have K260 : Keep h0 T221.heap [] := K213.trans K221q all0
    have N221 := Fr.app N220 N221q
    obtain ⟨_, _, ⟨T261, L261, k261, n261⟩, -, X261, ⟨Lc261, hQ261, l261, y261, z261⟩, st261⟩ := X221.specialBack hx (y := (⟨"inducere/Activation", "<init>", "(Linducere/Activation$Status;Linducere/Activation$Lifecycle;Ljava/lang/String;Ljava/lang/String;Z)V"⟩ : MethodName)) rfl hown (mvT hZ (hw _ (List.mem_of_getElem? (i := 50) rfl))) (mvT hZ (hw _ (List.mem_of_getElem? (i := 51) rfl))) (mvT hZ (hw _ (List.mem_of_getElem? (i := 52) rfl))) (by decide) (backOf (W := 1) (rm10 l Z a0 hw [] b180 .null b221_0 b112_0 b146_0 v8 .null .null .null .null (0 : Int32) (T221.heap) n0 Z259 rfl F112_0 F146_0 F253 F254 F255 F256 F257 F258 g_b180) hZ (hw _ (List.mem_of_getElem? (i := 52) rfl)) (hw _ (List.mem_of_getElem? (i := 37) rfl)) (by decide) (by decide)) (g := (mkF m 93 #[.val (.int p0), .val (.int p1), .val (.int p2), .val (.int p3), .val (.int p4), .val (.int v1), .val (.int v2), .val (.int v4), .val (.int v6), .val (.int v8), .val b112_0, .val b146_0, .unset, .unset, .unset, .unset] [(.int v8), b146_0, b112_0, (.ref b221_0), .null, (.ref b180), (.ref b180)])) rfl (by rw [hml]; rfl) (Steps.refl _) (a := b180) (argsL := [.null, (.ref b221_0), b112_0, b146_0, (.int v8)]) (rest := [(.ref b180)]) (lenOf pd8 rfl) rfl (by show 2 * 0 + _ ≤ _; exact Nat.le_of_eq rfl) (hb hby at_93) (fun _ _ => ⟨rfl, (rfl : T221.heap = T221.heap), (by decide : 7 + 0 ≤ _), (by decide : 21 + 0 ≤ _)⟩)
    dsimp only [Pt.U, Pt.locs, Pt.cells, Pt.slots] at X261 l261 y261 z261 st261 hQ261
    subst l261 y261 z261
    obtain ⟨rfl, N261q, K261q, F261_0, F261_1, F261_2, F261_3, F261_4, F261_5⟩ := hQ261
    have F262 := F253.keep K261q
    have F263 := F221_0.keep K261q
    have F264 := F221_1.keep K261q (ninS (Exa.ne F221_0 F253 (by decide)) nin0)
    have Z265 : n0 ≤ T261.heap.size := Nat.le_trans Z259 K261q.1
    have K266 : Keep h0 T261.heap [] := K260.trans K261q (allS (Or.inr sz_b180) all0)
    have N261 := Fr.app N221 N261q
    obtain ⟨v12, hv12⟩ : ∃ z : Int32, z = (if v1 = (3 : Int32) then (1 : Int32) else (0 : Int32)) := ⟨_, rfl⟩
    obtain ⟨v13, hv13⟩ : ∃ z : Int32, z = (if v1 = (2 : Int32) then (1 : Int32) else v12) := ⟨_, rfl⟩
    obtain ⟨T272, lc272, X272, N272, e272, st272⟩ := own_mrg (n0 := n0) (h := T261.heap) (g := (mkF m 101 #[.val (.int p0), .val (.int p1), .val (.int p2), .val (.int p3), .val (.int p4), .val (.int v1), .val (.int v2), .val (.int v4), .val (.int v6), .val (.int v8), .val b112_0, .val b146_0, .val (.ref b180), .unset, .unset, .unset] [(.int (2 : Int32)), (.int v1)])) (g' := (mkF m 115 #[.val (.int p0), .val (.int p1), .val (.int p2), .val (.int p3), .val (.int p4), .val (.int v1), .val (.int v2), .val (.int v4), .val (.int v6), .val (.int v8), .val b112_0, .val b146_0, .val (.ref b180), .unset, .unset, .unset] [(.int v13)])) X261 (by
      by_cases hc101_10 : v1 = (2 : Int32)
      · have hgo267 : ∀ t, Steps p.tables e below (T261.setTop (mkF m 115 #[.val (.int p0), .val (.int p1), .val (.int p2), .val (.int p3), .val (.int p4), .val (.int v1), .val (.int v2), .val (.int v4), .val (.int v6), .val (.int v8), .val b112_0, .val b146_0, .val (.ref b180), .unset, .unset, .unset] [(.int (1 : Int32))])) t → Steps p.tables e below (T261.setTop (mkF m 101 #[.val (.int p0), .val (.int p1), .val (.int p2), .val (.int p3), .val (.int p4), .val (.int v1), .val (.int v2), .val (.int v4), .val (.int v6), .val (.int v8), .val b112_0, .val b146_0, .val (.ref b180), .unset, .unset, .unset] [(.int (2 : Int32)), (.int v1)])) t := by
          intro t kt
          show Steps p.tables e below (T261.setTop (mkF m 101 #[.val (.int p0), .val (.int p1), .val (.int p2), .val (.int p3), .val (.int p4), .val (.int v1), .val (.int v2), .val (.int v4), .val (.int v6), .val (.int v8), .val b112_0, .val b146_0, .val (.ref b180), .unset, .unset, .unset] [(.int (2 : Int32)), (.int v1)])) _
          refine XS.icmpYes X261.here hx rfl (pc0 := 101) (pc' := 110) rfl (hb hby at_101) rfl (teq hc101_10).1 (by decide) (by decide) ?_
          show Steps p.tables e below (T261.setTop (mkF m 110 #[.val (.int p0), .val (.int p1), .val (.int p2), .val (.int p3), .val (.int p4), .val (.int v1), .val (.int v2), .val (.int v4), .val (.int v6), .val (.int v8), .val b112_0, .val b146_0, .val (.ref b180), .unset, .unset, .unset] [])) _
          refine XS.iconst X261.here hx rfl (hb hby at_110) ?_
          show Steps p.tables e below (T261.setTop (mkF m 111 #[.val (.int p0), .val (.int p1), .val (.int p2), .val (.int p3), .val (.int p4), .val (.int v1), .val (.int v2), .val (.int v4), .val (.int v6), .val (.int v8), .val b112_0, .val b146_0, .val (.ref b180), .unset, .unset, .unset] [(.int (1 : Int32))])) _
          refine XS.goto X261.here hx rfl (pc0 := 111) (pc' := 115) rfl (hb hby at_111) (by decide) (by decide) ?_
          exact kt
        refine own_arm hgo267 ?_
        exact own_armEnd X261 N261 (rfl : T261.heap = T261.heap) (by rw [hv13.trans (if_pos hc101_10)])
      · obtain ⟨T270, lc270, X270, N270, e270, st270⟩ := own_mrg (n0 := n0) (h := T261.heap) (g := (mkF m 107 #[.val (.int p0), .val (.int p1), .val (.int p2), .val (.int p3), .val (.int p4), .val (.int v1), .val (.int v2), .val (.int v4), .val (.int v6), .val (.int v8), .val b112_0, .val b146_0, .val (.ref b180), .unset, .unset, .unset] [(.int (3 : Int32)), (.int v1)])) (g' := (mkF m 115 #[.val (.int p0), .val (.int p1), .val (.int p2), .val (.int p3), .val (.int p4), .val (.int v1), .val (.int v2), .val (.int v4), .val (.int v6), .val (.int v8), .val b112_0, .val b146_0, .val (.ref b180), .unset, .unset, .unset] [(.int v12)])) X261 (by
          by_cases hc107_11 : v1 = (3 : Int32)
          · have hgo268 : ∀ t, Steps p.tables e below (T261.setTop (mkF m 115 #[.val (.int p0), .val (.int p1), .val (.int p2), .val (.int p3), .val (.int p4), .val (.int v1), .val (.int v2), .val (.int v4), .val (.int v6), .val (.int v8), .val b112_0, .val b146_0, .val (.ref b180), .unset, .unset, .unset] [(.int (1 : Int32))])) t → Steps p.tables e below (T261.setTop (mkF m 107 #[.val (.int p0), .val (.int p1), .val (.int p2), .val (.int p3), .val (.int p4), .val (.int v1), .val (.int v2), .val (.int v4), .val (.int v6), .val (.int v8), .val b112_0, .val b146_0, .val (.ref b180), .unset, .unset, .unset] [(.int (3 : Int32)), (.int v1)])) t := by
              intro t kt
              show Steps p.tables e below (T261.setTop (mkF m 107 #[.val (.int p0), .val (.int p1), .val (.int p2), .val (.int p3), .val (.int p4), .val (.int v1), .val (.int v2), .val (.int v4), .val (.int v6), .val (.int v8), .val b112_0, .val b146_0, .val (.ref b180), .unset, .unset, .unset] [(.int (3 : Int32)), (.int v1)])) _
              refine XS.icmpNo X261.here hx rfl (hb hby at_107) rfl (teq hc107_11).2 ?_
              show Steps p.tables e below (T261.setTop (mkF m 110 #[.val (.int p0), .val (.int p1), .val (.int p2), .val (.int p3), .val (.int p4), .val (.int v1), .val (.int v2), .val (.int v4), .val (.int v6), .val (.int v8), .val b112_0, .val b146_0, .val (.ref b180), .unset, .unset, .unset] [])) _
              refine XS.iconst X261.here hx rfl (hb hby at_110) ?_
              show Steps p.tables e below (T261.setTop (mkF m 111 #[.val (.int p0), .val (.int p1), .val (.int p2), .val (.int p3), .val (.int p4), .val (.int v1), .val (.int v2), .val (.int v4), .val (.int v6), .val (.int v8), .val b112_0, .val b146_0, .val (.ref b180), .unset, .unset, .unset] [(.int (1 : Int32))])) _
              refine XS.goto X261.here hx rfl (pc0 := 111) (pc' := 115) rfl (hb hby at_111) (by decide) (by decide) ?_
              exact kt
            refine own_arm hgo268 ?_
            exact own_armEnd X261 N261 (rfl : T261.heap = T261.heap) (by rw [hv12.trans (if_pos hc107_11)])
          · have hgo269 : ∀ t, Steps p.tables e below (T261.setTop (mkF m 115 #[.val (.int p0), .val (.int p1), .val (.int p2), .val (.int p3), .val (.int p4), .val (.int v1), .val (.int v2), .val (.int v4), .val (.int v6), .val (.int v8), .val b112_0, .val b146_0, .val (.ref b180), .unset, .unset, .unset] [(.int (0 : Int32))])) t → Steps p.tables e below (T261.setTop (mkF m 107 #[.val (.int p0), .val (.int p1), .val (.int p2), .val (.int p3), .val (.int p4), .val (.int v1), .val (.int v2), .val (.int v4), .val (.int v6), .val (.int v8), .val b112_0, .val b146_0, .val (.ref b180), .unset, .unset, .unset] [(.int (3 : Int32)), (.int v1)])) t := by
              intro t kt
              show Steps p.tables e below (T261.setTop (mkF m 107 #[.val (.int p0), .val (.int p1), .val (.int p2), .val (.int p3), .val (.int p4), .val (.int v1), .val (.int v2), .val (.int v4), .val (.int v6), .val (.int v8), .val b112_0, .val b146_0, .val (.ref b180), .unset, .unset, .unset] [(.int (3 : Int32)), (.int v1)])) _
              refine XS.icmpYes X261.here hx rfl (pc0 := 107) (pc' := 114) rfl (hb hby at_107) rfl (feq hc107_11).2 (by decide) (by decide) ?_
              show Steps p.tables e below (T261.setTop (mkF m 114 #[.val (.int p0), .val (.int p1), .val (.int p2), .val (.int p3), .val (.int p4), .val (.int v1), .val (.int v2), .val (.int v4), .val (.int v6), .val (.int v8), .val b112_0, .val b146_0, .val (.ref b180), .unset, .unset, .unset] [])) _
              refine XS.iconst X261.here hx rfl (hb hby at_114) ?_
              exact kt
            refine own_arm hgo269 ?_
            exact own_armEnd X261 N261 (rfl : T261.heap = T261.heap) (by rw [hv12.trans (if_neg hc107_11)]))
        have hgo271 : ∀ t, Steps p.tables e below (T270.setTop (mkF m 115 #[.val (.int p0), .val (.int p1), .val (.int p2), .val (.int p3), .val (.int p4), .val (.int v1), .val (.int v2), .val (.int v4), .val (.int v6), .val (.int v8), .val b112_0, .val b146_0, .val (.ref b180), .unset, .unset, .unset] [(.int v12)])) t → Steps p.tables e below (T261.setTop (mkF m 101 #[.val (.int p0), .val (.int p1), .val (.int p2), .val (.int p3), .val (.int p4), .val (.int v1), .val (.int v2), .val (.int v4), .val (.int v6), .val (.int v8), .val b112_0, .val b146_0, .val (.ref b180), .unset, .unset, .unset] [(.int (2 : Int32)), (.int v1)])) t := by
          intro t kt
          show Steps p.tables e below (T261.setTop (mkF m 101 #[.val (.int p0), .val (.int p1), .val (.int p2), .val (.int p3), .val (.int p4), .val (.int v1), .val (.int v2), .val (.int v4), .val (.int v6), .val (.int v8), .val b112_0, .val b146_0, .val (.ref b180), .unset, .unset, .unset] [(.int (2 : Int32)), (.int v1)])) _
          refine XS.icmpNo X261.here hx rfl (hb hby at_101) rfl (feq hc101_10).1 ?_
          show Steps p.tables e below (T261.setTop (mkF m 104 #[.val (.int p0), .val (.int p1), .val (.int p2), .val (.int p3), .val (.int p4), .val (.int v1), .val (.int v2), .val (.int v4), .val (.int v6), .val (.int v8), .val b112_0, .val b146_0, .val (.ref b180), .unset, .unset, .unset] [])) _
          refine XS.iload X261.here hx rfl (hb hby at_104) rfl ?_
          show Steps p.tables e below (T261.setTop (mkF m 106 #[.val (.int p0), .val (.int p1), .val (.int p2), .val (.int p3), .val (.int p4), .val (.int v1), .val (.int v2), .val (.int v4), .val (.int v6), .val (.int v8), .val b112_0, .val b146_0, .val (.ref b180), .unset, .unset, .unset] [(.int v1)])) _
          refine XS.iconst X261.here hx rfl (hb hby at_106) ?_
          show Steps p.tables e below (T261.setTop (mkF m 107 #[.val (.int p0), .val (.int p1), .val (.int p2), .val (.int p3), .val (.int p4), .val (.int v1), .val (.int v2), .val (.int v4), .val (.int v6), .val (.int v8), .val b112_0, .val b146_0, .val (.ref b180), .unset, .unset, .unset] [(.int (3 : Int32)), (.int v1)])) _
          refine st270 _ ?_
          exact kt
        refine own_arm hgo271 ?_
        exact own_armEnd X270 N270 e270 (by rw [hv13.trans (if_neg hc101_10)]))
    obtain ⟨v15, hv15⟩ : ∃ z : Int32, z = (if v13 = (0 : Int32) then (1 : Int32) else (0 : Int32)) := ⟨_, rfl⟩
    obtain ⟨T275, lc275, X275, N275, e275, st275⟩ := own_mrg (n0 := n0) (h := T261.heap) (g := (mkF m 138 #[.val (.int p0), .val (.int p1), .val (.int p2), .val (.int p3), .val (.int p4), .val (.int v1), .val (.int v2), .val (.int v4), .val (.int v6), .val (.int v8), .val b112_0, .val b146_0, .val (.ref b180), .val (.int v13), .val (.int (0 : Int32)), .unset] [(.int v13)])) (g' := (mkF m 151 #[.val (.int p0), .val (.int p1), .val (.int p2), .val (.int p3), .val (.int p4), .val (.int v1), .val (.int v2), .val (.int v4), .val (.int v6), .val (.int v8), .val b112_0, .val b146_0, .val (.ref b180), .val (.int v13), .val (.int (0 : Int32)), .unset] [(.int v15)])) X272 (by
      by_cases hc138_14 : v13 = (0 : Int32)
      · have hgo273 : ∀ t, Steps p.tables e below (T272.setTop (mkF m 151 #[.val (.int p0), .val (.int p1), .val (.int p2), .val (.int p3), .val (.int p4), .val (.int v1), .val (.int v2), .val (.int v4), .val (.int v6), .val (.int v8), .val b112_0, .val b146_0, .val (.ref b180), .val (.int v13), .val (.int (0 : Int32)), .unset] [(.int (1 : Int32))])) t → Steps p.tables e below (T272.setTop (mkF m 138 #[.val (.int p0), .val (.int p1), .val (.int p2), .val (.int p3), .val (.int p4), .val (.int v1), .val (.int v2), .val (.int v4), .val (.int v6), .val (.int v8), .val b112_0, .val b146_0, .val (.ref b180), .val (.int v13), .val (.int (0 : Int32)), .unset] [(.int v13)])) t := by
          intro t kt
          show Steps p.tables e below (T272.setTop (mkF m 138 #[.val (.int p0), .val (.int p1), .val (.int p2), .val (.int p3), .val (.int p4), .val (.int v1), .val (.int v2), .val (.int v4), .val (.int v6), .val (.int v8), .val b112_0, .val b146_0, .val (.ref b180), .val (.int v13), .val (.int (0 : Int32)), .unset] [(.int v13)])) _
          refine XS.ifYes X272.here hx rfl (pc0 := 138) (pc' := 146) rfl (hb hby at_138) rfl ((if0 _ _).trans (teq hc138_14).1) (by decide) (by decide) ?_
          show Steps p.tables e below (T272.setTop (mkF m 146 #[.val (.int p0), .val (.int p1), .val (.int p2), .val (.int p3), .val (.int p4), .val (.int v1), .val (.int v2), .val (.int v4), .val (.int v6), .val (.int v8), .val b112_0, .val b146_0, .val (.ref b180), .val (.int v13), .val (.int (0 : Int32)), .unset] [])) _
          refine XS.iconst X272.here hx rfl (hb hby at_146) ?_
          show Steps p.tables e below (T272.setTop (mkF m 147 #[.val (.int p0), .val (.int p1), .val (.int p2), .val (.int p3), .val (.int p4), .val (.int v1), .val (.int v2), .val (.int v4), .val (.int v6), .val (.int v8), .val b112_0, .val b146_0, .val (.ref b180), .val (.int v13), .val (.int (0 : Int32)), .unset] [(.int (1 : Int32))])) _
          refine XS.goto X272.here hx rfl (pc0 := 147) (pc' := 151) rfl (hb hby at_147) (by decide) (by decide) ?_
          exact kt
        refine own_arm hgo273 ?_
        exact own_armEnd X272 N272 e272 (by rw [hv15.trans (if_pos hc138_14)])
      · have hgo274 : ∀ t, Steps p.tables e below (T272.setTop (mkF m 151 #[.val (.int p0), .val (.int p1), .val (.int p2), .val (.int p3), .val (.int p4), .val (.int v1), .val (.int v2), .val (.int v4), .val (.int v6), .val (.int v8), .val b112_0, .val b146_0, .val (.ref b180), .val (.int v13), .val (.int (0 : Int32)), .unset] [(.int (0 : Int32))])) t → Steps p.tables e below (T272.setTop (mkF m 138 #[.val (.int p0), .val (.int p1), .val (.int p2), .val (.int p3), .val (.int p4), .val (.int v1), .val (.int v2), .val (.int v4), .val (.int v6), .val (.int v8), .val b112_0, .val b146_0, .val (.ref b180), .val (.int v13), .val (.int (0 : Int32)), .unset] [(.int v13)])) t := by
          intro t kt
          show Steps p.tables e below (T272.setTop (mkF m 138 #[.val (.int p0), .val (.int p1), .val (.int p2), .val (.int p3), .val (.int p4), .val (.int v1), .val (.int v2), .val (.int v4), .val (.int v6), .val (.int v8), .val b112_0, .val b146_0, .val (.ref b180), .val (.int v13), .val (.int (0 : Int32)), .unset] [(.int v13)])) _
          refine XS.ifNo X272.here hx rfl (hb hby at_138) rfl ((if0 _ _).trans (feq hc138_14).1) ?_
          show Steps p.tables e below (T272.setTop (mkF m 141 #[.val (.int p0), .val (.int p1), .val (.int p2), .val (.int p3), .val (.int p4), .val (.int v1), .val (.int v2), .val (.int v4), .val (.int v6), .val (.int v8), .val b112_0, .val b146_0, .val (.ref b180), .val (.int v13), .val (.int (0 : Int32)), .unset] [])) _
          refine XS.iload X272.here hx rfl (hb hby at_141) rfl ?_
          show Steps p.tables e below (T272.setTop (mkF m 143 #[.val (.int p0), .val (.int p1), .val (.int p2), .val (.int p3), .val (.int p4), .val (.int v1), .val (.int v2), .val (.int v4), .val (.int v6), .val (.int v8), .val b112_0, .val b146_0, .val (.ref b180), .val (.int v13), .val (.int (0 : Int32)), .unset] [(.int (0 : Int32))])) _
          refine XS.ifYes X272.here hx rfl (pc0 := 143) (pc' := 150) rfl (hb hby at_143) rfl ((if0 _ _).trans (teq (by decide : (0 : Int32) = (0 : Int32))).1) (by decide) (by decide) ?_
          show Steps p.tables e below (T272.setTop (mkF m 150 #[.val (.int p0), .val (.int p1), .val (.int p2), .val (.int p3), .val (.int p4), .val (.int v1), .val (.int v2), .val (.int v4), .val (.int v6), .val (.int v8), .val b112_0, .val b146_0, .val (.ref b180), .val (.int v13), .val (.int (0 : Int32)), .unset] [])) _
          refine XS.iconst X272.here hx rfl (hb hby at_150) ?_
          exact kt
        refine own_arm hgo274 ?_
        exact own_armEnd X272 N272 e272 (by rw [hv15.trans (if_neg hc138_14)]))
    obtain ⟨cq276, kq276, q276a, q276b, q276c⟩ := isOf hZ e275 F261_0
    obtain ⟨_, _, ⟨T276, L276, k276, n276⟩, -, X276, ⟨Lc276, hQ276, l276, y276, z276⟩, st276⟩ := X275.virtualBack hx (y := (⟨"inducere/Activation", "switchedOff", "()Z"⟩ : MethodName)) (z := (⟨"inducere/Activation", "switchedOff", "()Z"⟩ : MethodName)) hown (mvT hZ (hw _ (List.mem_of_getElem? (i := 69) rfl))) (mvT hZ (hw _ (List.mem_of_getElem? (i := 70) rfl))) (notFace_of_selects (args := #[]) (mvT hZ (hw _ (List.mem_of_getElem? (i := 72) rfl)))) (mvT hZ (hw _ (List.mem_of_getElem? (i := 72) rfl))) (mvT hZ (hw _ (List.mem_of_getElem? (i := 71) rfl))) (by decide) (backOf (W := 0) (rm12n l Z a0 hw [] b180 b221_0 (own_on v1) (T261.heap) n0 Z265 F261_2 F264 F261_1) hZ (hw _ (List.mem_of_getElem? (i := 73) rfl)) (hw _ (List.mem_of_getElem? (i := 37) rfl)) (by decide) (by decide)) q276a q276c (g := (mkF m 155 #[.val (.int p0), .val (.int p1), .val (.int p2), .val (.int p3), .val (.int p4), .val (.int v1), .val (.int v2), .val (.int v4), .val (.int v6), .val (.int v8), .val b112_0, .val b146_0, .val (.ref b180), .val (.int v13), .val (.int (0 : Int32)), .val (.int v15)] [(.ref b180)])) rfl (by rw [hml]; rfl) (Steps.refl _) (argsL := []) (rest := []) (lenOf pd9 rfl) rfl (by show 2 * 0 + _ ≤ _; exact Nat.le_of_eq rfl) (hb hby at_155) (fun _ _ => ⟨rfl, e275, (by decide : 7 + 0 ≤ _), (by decide : 21 + 0 ≤ _)⟩)
    dsimp only [Pt.U, Pt.locs, Pt.cells, Pt.slots] at X276 l276 y276 z276 st276 hQ276
    subst l276 y276 z276
    obtain ⟨rfl, N276q, e276⟩ := hQ276
    have N276 := Fr.app N275 N276q
    obtain ⟨v17, hv17⟩ : ∃ z : Int32, z = (if (own_r12n (own_on v1)) = v15 then (1 : Int32) else (0 : Int32)) := ⟨_, rfl⟩
    obtain ⟨T279, lc279, X279, N279, e279, st279⟩ := own_mrg (n0 := n0) (h := T261.heap) (g := (mkF m 160 #[.val (.int p0), .val (.int p1), .val (.int p2), .val (.int p3), .val (.int p4), .val (.int v1), .val (.int v2), .val (.int v4), .val (.int v6), .val (.int v8), .val b112_0, .val b146_0, .val (.ref b180), .val (.int v13), .val (.int (0 : Int32)), .val (.int v15)] [(.int v15), (.int (own_r12n (own_on v1)))])) (g' := (mkF m 168 #[.val (.int p0), .val (.int p1), .val (.int p2), .val (.int p3), .val (.int p4), .val (.int v1), .val (.int v2), .val (.int v4), .val (.int v6), .val (.int v8), .val b112_0, .val b146_0, .val (.ref b180), .val (.int v13), .val (.int (0 : Int32)), .val (.int v15)] [(.int v17)])) X276 (by
      by_cases hc160_16 : (own_r12n (own_on v1)) = v15
      · have hgo277 : ∀ t, Steps p.tables e below (T276.setTop (mkF m 168 #[.val (.int p0), .val (.int p1), .val (.int p2), .val (.int p3), .val (.int p4), .val (.int v1), .val (.int v2), .val (.int v4), .val (.int v6), .val (.int v8), .val b112_0, .val b146_0, .val (.ref b180), .val (.int v13), .val (.int (0 : Int32)), .val (.int v15)] [(.int (1 : Int32))])) t → Steps p.tables e below (T276.setTop (mkF m 160 #[.val (.int p0), .val (.int p1), .val (.int p2), .val (.int p3), .val (.int p4), .val (.int v1), .val (.int v2), .val (.int v4), .val (.int v6), .val (.int v8), .val b112_0, .val b146_0, .val (.ref b180), .val (.int v13), .val (.int (0 : Int32)), .val (.int v15)] [(.int v15), (.int (own_r12n (own_on v1)))])) t := by
          intro t kt
          show Steps p.tables e below (T276.setTop (mkF m 160 #[.val (.int p0), .val (.int p1), .val (.int p2), .val (.int p3), .val (.int p4), .val (.int v1), .val (.int v2), .val (.int v4), .val (.int v6), .val (.int v8), .val b112_0, .val b146_0, .val (.ref b180), .val (.int v13), .val (.int (0 : Int32)), .val (.int v15)] [(.int v15), (.int (own_r12n (own_on v1)))])) _
          refine XS.icmpNo X276.here hx rfl (hb hby at_160) rfl (teq hc160_16).2 ?_
          show Steps p.tables e below (T276.setTop (mkF m 163 #[.val (.int p0), .val (.int p1), .val (.int p2), .val (.int p3), .val (.int p4), .val (.int v1), .val (.int v2), .val (.int v4), .val (.int v6), .val (.int v8), .val b112_0, .val b146_0, .val (.ref b180), .val (.int v13), .val (.int (0 : Int32)), .val (.int v15)] [])) _
          refine XS.iconst X276.here hx rfl (hb hby at_163) ?_
          show Steps p.tables e below (T276.setTop (mkF m 164 #[.val (.int p0), .val (.int p1), .val (.int p2), .val (.int p3), .val (.int p4), .val (.int v1), .val (.int v2), .val (.int v4), .val (.int v6), .val (.int v8), .val b112_0, .val b146_0, .val (.ref b180), .val (.int v13), .val (.int (0 : Int32)), .val (.int v15)] [(.int (1 : Int32))])) _
          refine XS.goto X276.here hx rfl (pc0 := 164) (pc' := 168) rfl (hb hby at_164) (by decide) (by decide) ?_
          exact kt
        refine own_arm hgo277 ?_
        exact own_armEnd X276 N276 e276 (by rw [hv17.trans (if_pos hc160_16)])
      · have hgo278 : ∀ t, Steps p.tables e below (T276.setTop (mkF m 168 #[.val (.int p0), .val (.int p1), .val (.int p2), .val (.int p3), .val (.int p4), .val (.int v1), .val (.int v2), .val (.int v4), .val (.int v6), .val (.int v8), .val b112_0, .val b146_0, .val (.ref b180), .val (.int v13), .val (.int (0 : Int32)), .val (.int v15)] [(.int (0 : Int32))])) t → Steps p.tables e below (T276.setTop (mkF m 160 #[.val (.int p0), .val (.int p1), .val (.int p2), .val (.int p3), .val (.int p4), .val (.int v1), .val (.int v2), .val (.int v4), .val (.int v6), .val (.int v8), .val b112_0, .val b146_0, .val (.ref b180), .val (.int v13), .val (.int (0 : Int32)), .val (.int v15)] [(.int v15), (.int (own_r12n (own_on v1)))])) t := by
          intro t kt
          show Steps p.tables e below (T276.setTop (mkF m 160 #[.val (.int p0), .val (.int p1), .val (.int p2), .val (.int p3), .val (.int p4), .val (.int v1), .val (.int v2), .val (.int v4), .val (.int v6), .val (.int v8), .val b112_0, .val b146_0, .val (.ref b180), .val (.int v13), .val (.int (0 : Int32)), .val (.int v15)] [(.int v15), (.int (own_r12n (own_on v1)))])) _
          refine XS.icmpYes X276.here hx rfl (pc0 := 160) (pc' := 167) rfl (hb hby at_160) rfl (feq hc160_16).2 (by decide) (by decide) ?_
          show Steps p.tables e below (T276.setTop (mkF m 167 #[.val (.int p0), .val (.int p1), .val (.int p2), .val (.int p3), .val (.int p4), .val (.int v1), .val (.int v2), .val (.int v4), .val (.int v6), .val (.int v8), .val b112_0, .val b146_0, .val (.ref b180), .val (.int v13), .val (.int (0 : Int32)), .val (.int v15)] [])) _
          refine XS.iconst X276.here hx rfl (hb hby at_167) ?_
          exact kt
        refine own_arm hgo278 ?_
        exact own_armEnd X276 N276 e276 (by rw [hv17.trans (if_neg hc160_16)]))
    have hgo280 : ∀ t, Steps p.tables e below (T279.setTop (mkF m 168 #[.val (.int p0), .val (.int p1), .val (.int p2), .val (.int p3), .val (.int p4), .val (.int v1), .val (.int v2), .val (.int v4), .val (.int v6), .val (.int v8), .val b112_0, .val b146_0, .val (.ref b180), .val (.int v13), .val (.int (0 : Int32)), .val (.int v15)] [(.int v17)])) t → Steps p.tables e below (T180.setTop (mkF m 79 #[.val (.int p0), .val (.int p1), .val (.int p2), .val (.int p3), .val (.int p4), .val (.int v1), .val (.int v2), .val (.int v4), .val (.int v6), .val (.int v8), .val b112_0, .val b146_0, .unset, .unset, .unset, .unset] [(.int v2), (.ref b180), (.ref b180)])) t := by
      intro t kt
      show Steps p.tables e below (T180.setTop (mkF m 79 #[.val (.int p0), .val (.int p1), .val (.int p2), .val (.int p3), .val (.int p4), .val (.int v1), .val (.int v2), .val (.int v4), .val (.int v6), .val (.int v8), .val b112_0, .val b146_0, .unset, .unset, .unset, .unset] [(.int v2), (.ref b180), (.ref b180)])) _
      refine st220 _ ?_
      show Steps p.tables e below (T220.setTop (mkF m 82 #[.val (.int p0), .val (.int p1), .val (.int p2), .val (.int p3), .val (.int p4), .val (.int v1), .val (.int v2), .val (.int v4), .val (.int v6), .val (.int v8), .val b112_0, .val b146_0, .unset, .unset, .unset, .unset] [.null, (.ref b180), (.ref b180)])) _
      refine XS.iload X220.here hx rfl (hb hby at_82) rfl ?_
      show Steps p.tables e below (T220.setTop (mkF m 84 #[.val (.int p0), .val (.int p1), .val (.int p2), .val (.int p3), .val (.int p4), .val (.int v1), .val (.int v2), .val (.int v4), .val (.int v6), .val (.int v8), .val b112_0, .val b146_0, .unset, .unset, .unset, .unset] [(.int v1), .null, (.ref b180), (.ref b180)])) _
      refine st221 _ ?_
      show Steps p.tables e below (T221.setTop (mkF m 87 #[.val (.int p0), .val (.int p1), .val (.int p2), .val (.int p3), .val (.int p4), .val (.int v1), .val (.int v2), .val (.int v4), .val (.int v6), .val (.int v8), .val b112_0, .val b146_0, .unset, .unset, .unset, .unset] [(.ref b221_0), .null, (.ref b180), (.ref b180)])) _
      refine XS.aload X221.here hx rfl (hb hby at_87) rfl (F112_0) ?_
      show Steps p.tables e below (T221.setTop (mkF m 89 #[.val (.int p0), .val (.int p1), .val (.int p2), .val (.int p3), .val (.int p4), .val (.int v1), .val (.int v2), .val (.int v4), .val (.int v6), .val (.int v8), .val b112_0, .val b146_0, .unset, .unset, .unset, .unset] [b112_0, (.ref b221_0), .null, (.ref b180), (.ref b180)])) _
      refine XS.aload X221.here hx rfl (hb hby at_89) rfl (F146_0) ?_
      show Steps p.tables e below (T221.setTop (mkF m 91 #[.val (.int p0), .val (.int p1), .val (.int p2), .val (.int p3), .val (.int p4), .val (.int v1), .val (.int v2), .val (.int v4), .val (.int v6), .val (.int v8), .val b112_0, .val b146_0, .unset, .unset, .unset, .unset] [b146_0, b112_0, (.ref b221_0), .null, (.ref b180), (.ref b180)])) _
      refine XS.iload X221.here hx rfl (hb hby at_91) rfl ?_
      show Steps p.tables e below (T221.setTop (mkF m 93 #[.val (.int p0), .val (.int p1), .val (.int p2), .val (.int p3), .val (.int p4), .val (.int v1), .val (.int v2), .val (.int v4), .val (.int v6), .val (.int v8), .val b112_0, .val b146_0, .unset, .unset, .unset, .unset] [(.int v8), b146_0, b112_0, (.ref b221_0), .null, (.ref b180), (.ref b180)])) _
      refine st261.trans ?_
      show Steps p.tables e below (T261.setTop (mkF m 96 #[.val (.int p0), .val (.int p1), .val (.int p2), .val (.int p3), .val (.int p4), .val (.int v1), .val (.int v2), .val (.int v4), .val (.int v6), .val (.int v8), .val b112_0, .val b146_0, .unset, .unset, .unset, .unset] [(.ref b180)])) _
      refine XS.astore X261.here hx rfl (hb hby at_96) rfl rfl (l' := #[.val (.int p0), .val (.int p1), .val (.int p2), .val (.int p3), .val (.int p4), .val (.int v1), .val (.int v2), .val (.int v4), .val (.int v6), .val (.int v8), .val b112_0, .val b146_0, .val (.ref b180), .unset, .unset, .unset]) rfl ?_
      show Steps p.tables e below (T261.setTop (mkF m 98 #[.val (.int p0), .val (.int p1), .val (.int p2), .val (.int p3), .val (.int p4), .val (.int v1), .val (.int v2), .val (.int v4), .val (.int v6), .val (.int v8), .val b112_0, .val b146_0, .val (.ref b180), .unset, .unset, .unset] [])) _
      refine XS.iload X261.here hx rfl (hb hby at_98) rfl ?_
      show Steps p.tables e below (T261.setTop (mkF m 100 #[.val (.int p0), .val (.int p1), .val (.int p2), .val (.int p3), .val (.int p4), .val (.int v1), .val (.int v2), .val (.int v4), .val (.int v6), .val (.int v8), .val b112_0, .val b146_0, .val (.ref b180), .unset, .unset, .unset] [(.int v1)])) _
      refine XS.iconst X261.here hx rfl (hb hby at_100) ?_
      show Steps p.tables e below (T261.setTop (mkF m 101 #[.val (.int p0), .val (.int p1), .val (.int p2), .val (.int p3), .val (.int p4), .val (.int v1), .val (.int v2), .val (.int v4), .val (.int v6), .val (.int v8), .val b112_0, .val b146_0, .val (.ref b180), .unset, .unset, .unset] [(.int (2 : Int32)), (.int v1)])) _
      refine st272 _ ?_
      show Steps p.tables e below (T272.setTop (mkF m 115 #[.val (.int p0), .val (.int p1), .val (.int p2), .val (.int p3), .val (.int p4), .val (.int v1), .val (.int v2), .val (.int v4), .val (.int v6), .val (.int v8), .val b112_0, .val b146_0, .val (.ref b180), .unset, .unset, .unset] [(.int v13)])) _
      refine XS.istore X272.here hx rfl (hb hby at_115) rfl (l' := #[.val (.int p0), .val (.int p1), .val (.int p2), .val (.int p3), .val (.int p4), .val (.int v1), .val (.int v2), .val (.int v4), .val (.int v6), .val (.int v8), .val b112_0, .val b146_0, .val (.ref b180), .val (.int v13), .unset, .unset]) rfl ?_
      show Steps p.tables e below (T272.setTop (mkF m 117 #[.val (.int p0), .val (.int p1), .val (.int p2), .val (.int p3), .val (.int p4), .val (.int v1), .val (.int v2), .val (.int v4), .val (.int v6), .val (.int v8), .val b112_0, .val b146_0, .val (.ref b180), .val (.int v13), .unset, .unset] [])) _
      refine XS.iload X272.here hx rfl (hb hby at_117) rfl ?_
      show Steps p.tables e below (T272.setTop (mkF m 119 #[.val (.int p0), .val (.int p1), .val (.int p2), .val (.int p3), .val (.int p4), .val (.int v1), .val (.int v2), .val (.int v4), .val (.int v6), .val (.int v8), .val b112_0, .val b146_0, .val (.ref b180), .val (.int v13), .unset, .unset] [(.int v2)])) _
      refine XS.iconst X272.here hx rfl (hb hby at_119) ?_
      show Steps p.tables e below (T272.setTop (mkF m 120 #[.val (.int p0), .val (.int p1), .val (.int p2), .val (.int p3), .val (.int p4), .val (.int v1), .val (.int v2), .val (.int v4), .val (.int v6), .val (.int v8), .val b112_0, .val b146_0, .val (.ref b180), .val (.int v13), .unset, .unset] [(.int (2 : Int32)), (.int v2)])) _
      refine XS.icmpNo X272.here hx rfl (hb hby at_120) rfl (feq (by have y0 := hs79_9; simp only [Int32.lt_iff_toInt_lt, ← Int32.toInt_inj, Int32.reduceToInt] at y0 ⊢; omega : ¬ (v2 = (2 : Int32)))).1 ?_
      show Steps p.tables e below (T272.setTop (mkF m 123 #[.val (.int p0), .val (.int p1), .val (.int p2), .val (.int p3), .val (.int p4), .val (.int v1), .val (.int v2), .val (.int v4), .val (.int v6), .val (.int v8), .val b112_0, .val b146_0, .val (.ref b180), .val (.int v13), .unset, .unset] [])) _
      refine XS.iload X272.here hx rfl (hb hby at_123) rfl ?_
      show Steps p.tables e below (T272.setTop (mkF m 125 #[.val (.int p0), .val (.int p1), .val (.int p2), .val (.int p3), .val (.int p4), .val (.int v1), .val (.int v2), .val (.int v4), .val (.int v6), .val (.int v8), .val b112_0, .val b146_0, .val (.ref b180), .val (.int v13), .unset, .unset] [(.int v2)])) _
      refine XS.iconst X272.here hx rfl (hb hby at_125) ?_
      show Steps p.tables e below (T272.setTop (mkF m 126 #[.val (.int p0), .val (.int p1), .val (.int p2), .val (.int p3), .val (.int p4), .val (.int v1), .val (.int v2), .val (.int v4), .val (.int v6), .val (.int v8), .val b112_0, .val b146_0, .val (.ref b180), .val (.int v13), .unset, .unset] [(.int (3 : Int32)), (.int v2)])) _
      refine XS.icmpYes X272.here hx rfl (pc0 := 126) (pc' := 133) rfl (hb hby at_126) rfl (feq (by have y0 := hs79_9; simp only [Int32.lt_iff_toInt_lt, ← Int32.toInt_inj, Int32.reduceToInt] at y0 ⊢; omega : ¬ (v2 = (3 : Int32)))).2 (by decide) (by decide) ?_
      show Steps p.tables e below (T272.setTop (mkF m 133 #[.val (.int p0), .val (.int p1), .val (.int p2), .val (.int p3), .val (.int p4), .val (.int v1), .val (.int v2), .val (.int v4), .val (.int v6), .val (.int v8), .val b112_0, .val b146_0, .val (.ref b180), .val (.int v13), .unset, .unset] [])) _
      refine XS.iconst X272.here hx rfl (hb hby at_133) ?_
      show Steps p.tables e below (T272.setTop (mkF m 134 #[.val (.int p0), .val (.int p1), .val (.int p2), .val (.int p3), .val (.int p4), .val (.int v1), .val (.int v2), .val (.int v4), .val (.int v6), .val (.int v8), .val b112_0, .val b146_0, .val (.ref b180), .val (.int v13), .unset, .unset] [(.int (0 : Int32))])) _
      refine XS.istore X272.here hx rfl (hb hby at_134) rfl (l' := #[.val (.int p0), .val (.int p1), .val (.int p2), .val (.int p3), .val (.int p4), .val (.int v1), .val (.int v2), .val (.int v4), .val (.int v6), .val (.int v8), .val b112_0, .val b146_0, .val (.ref b180), .val (.int v13), .val (.int (0 : Int32)), .unset]) rfl ?_
      show Steps p.tables e below (T272.setTop (mkF m 136 #[.val (.int p0), .val (.int p1), .val (.int p2), .val (.int p3), .val (.int p4), .val (.int v1), .val (.int v2), .val (.int v4), .val (.int v6), .val (.int v8), .val b112_0, .val b146_0, .val (.ref b180), .val (.int v13), .val (.int (0 : Int32)), .unset] [])) _
      refine XS.iload X272.here hx rfl (hb hby at_136) rfl ?_
      show Steps p.tables e below (T272.setTop (mkF m 138 #[.val (.int p0), .val (.int p1), .val (.int p2), .val (.int p3), .val (.int p4), .val (.int v1), .val (.int v2), .val (.int v4), .val (.int v6), .val (.int v8), .val b112_0, .val b146_0, .val (.ref b180), .val (.int v13), .val (.int (0 : Int32)), .unset] [(.int v13)])) _
      refine st275 _ ?_
      show Steps p.tables e below (T275.setTop (mkF m 151 #[.val (.int p0), .val (.int p1), .val (.int p2), .val (.int p3), .val (.int p4), .val (.int v1), .val (.int v2), .val (.int v4), .val (.int v6), .val (.int v8), .val b112_0, .val b146_0, .val (.ref b180), .val (.int v13), .val (.int (0 : Int32)), .unset] [(.int v15)])) _
      refine XS.istore X275.here hx rfl (hb hby at_151) rfl (l' := #[.val (.int p0), .val (.int p1), .val (.int p2), .val (.int p3), .val (.int p4), .val (.int v1), .val (.int v2), .val (.int v4), .val (.int v6), .val (.int v8), .val b112_0, .val b146_0, .val (.ref b180), .val (.int v13), .val (.int (0 : Int32)), .val (.int v15)]) rfl ?_
      show Steps p.tables e below (T275.setTop (mkF m 153 #[.val (.int p0), .val (.int p1), .val (.int p2), .val (.int p3), .val (.int p4), .val (.int v1), .val (.int v2), .val (.int v4), .val (.int v6), .val (.int v8), .val b112_0, .val b146_0, .val (.ref b180), .val (.int v13), .val (.int (0 : Int32)), .val (.int v15)] [])) _
      refine XS.aload X275.here hx rfl (hb hby at_153) rfl rfl ?_
      show Steps p.tables e below (T275.setTop (mkF m 155 #[.val (.int p0), .val (.int p1), .val (.int p2), .val (.int p3), .val (.int p4), .val (.int v1), .val (.int v2), .val (.int v4), .val (.int v6), .val (.int v8), .val b112_0, .val b146_0, .val (.ref b180), .val (.int v13), .val (.int (0 : Int32)), .val (.int v15)] [(.ref b180)])) _
      refine st276.trans ?_
      show Steps p.tables e below (T276.setTop (mkF m 158 #[.val (.int p0), .val (.int p1), .val (.int p2), .val (.int p3), .val (.int p4), .val (.int v1), .val (.int v2), .val (.int v4), .val (.int v6), .val (.int v8), .val b112_0, .val b146_0, .val (.ref b180), .val (.int v13), .val (.int (0 : Int32)), .val (.int v15)] [(.int (own_r12n (own_on v1)))])) _
      refine XS.iload X276.here hx rfl (hb hby at_158) rfl ?_
      show Steps p.tables e below (T276.setTop (mkF m 160 #[.val (.int p0), .val (.int p1), .val (.int p2), .val (.int p3), .val (.int p4), .val (.int v1), .val (.int v2), .val (.int v4), .val (.int v6), .val (.int v8), .val b112_0, .val b146_0, .val (.ref b180), .val (.int v13), .val (.int (0 : Int32)), .val (.int v15)] [(.int v15), (.int (own_r12n (own_on v1)))])) _
      refine st279 _ ?_
      exact kt
    refine own_go hgo280 ?_
    have hz281 : v17 = 1 := own_leaf0 (p0 := p0) (p1 := p1) (p2 := p2) (p3 := p3) (p4 := p4) (us0 := us0) (us1 := us1) (us2 := us2) (us3 := us3) (us4 := us4) (us5 := us5) (us6 := us6) (us7 := us7) (us8 := us8) (us9 := us9) (ucs := ucs) hv1 hv2 hv4 hv6 hv8 hv12 hv13 hv15 hv17 hs79_9
    exact own_retZ X279 hx Bd.returns Bd.notSynchronized (hb hby at_168) (by decide) (by decide) (Or.inr hz281) ⟨by rw [hz281], N279⟩
  by_cases hs79_18 : v2 = (1 : Int32)
  · obtain ⟨_, _, ⟨T282, L282, k282, n282⟩, -, X282, ⟨Lc282, hQ282, l282, y282, z282⟩, st282⟩ := Jvm.LawKit.callS X180 hx (y := (⟨"inducere/ActivationSwitchedOffPinLaw", "status", "(I)Linducere/Activation$Status;"⟩ : MethodName)) hown (mvT hZ (hw _ (List.mem_of_getElem? (i := 38) rfl))) (mvT hZ (hw _ (List.mem_of_getElem? (i := 39) rfl))) (mvT hZ (hw _ (List.mem_of_getElem? (i := 3) rfl))) (mvT hZ (hw _ (List.mem_of_getElem? (i := 40) rfl))) (by decide) (backOf (W := 2) (rm8_1 l Z a0 hw [] v2 us6 h180 n0 Z212 (by first | assumption | decide : ¬ (v2 = (0 : Int32))) (by first | assumption | decide : v2 = (1 : Int32)) F193) hZ (hw _ (List.mem_of_getElem? (i := 40) rfl)) (hw _ (List.mem_of_getElem? (i := 3) rfl)) (by decide) (by decide)) (g := (mkF m 79 #[.val (.int p0), .val (.int p1), .val (.int p2), .val (.int p3), .val (.int p4), .val (.int v1), .val (.int v2), .val (.int v4), .val (.int v6), .val (.int v8), .val b112_0, .val b146_0, .unset, .unset, .unset, .unset] [(.int v2), (.ref b180), (.ref b180)])) rfl (by rw [hml]; rfl) (argsL := [(.int v2)]) (rest := [(.ref b180), (.ref b180)]) (lenOf pd6 rfl) rfl (by show 2 * 0 + _ ≤ _; exact Nat.le_of_eq rfl) (hb hby at_79) (fun _ _ => ⟨rfl, e180, (by decide : 7 + 0 ≤ _), (by decide : 21 + 0 ≤ _)⟩)
    dsimp only [Pt.U, Pt.locs, Pt.cells, Pt.slots] at X282 l282 y282 z282 st282 hQ282
    subst l282 y282 z282
    obtain ⟨rfl, N282q, e282⟩ := hQ282
    have N282 := Fr.app N146 N282q
    obtain ⟨_, _, ⟨T283, L283, k283, n283⟩, -, X283, ⟨Lc283, hQ283, l283, y283, z283⟩, st283⟩ := Jvm.LawKit.callS X282 hx (y := (⟨"inducere/ActivationSwitchedOffPinLaw", "life", "(I)Linducere/Activation$Lifecycle;"⟩ : MethodName)) hown (mvT hZ (hw _ (List.mem_of_getElem? (i := 44) rfl))) (mvT hZ (hw _ (List.mem_of_getElem? (i := 45) rfl))) (mvT hZ (hw _ (List.mem_of_getElem? (i := 3) rfl))) (mvT hZ (hw _ (List.mem_of_getElem? (i := 46) rfl))) (by decide) (backOf (W := 3) (rm9 l Z a0 hw [] v1 us1 us2 us4 us5 us7 us8 us9 h180 n0 Z212 F183 F184 F185 F186 F189 F190 F191 F192 F195 F196 F197 F198 F199 F200 F201 F202 F203 F205 F207 F208 F210) hZ (hw _ (List.mem_of_getElem? (i := 46) rfl)) (hw _ (List.mem_of_getElem? (i := 3) rfl)) (by decide) (by decide)) (g := (mkF m 84 #[.val (.int p0), .val (.int p1), .val (.int p2), .val (.int p3), .val (.int p4), .val (.int v1), .val (.int v2), .val (.int v4), .val (.int v6), .val (.int v8), .val b112_0, .val b146_0, .unset, .unset, .unset, .unset] [(.int v1), (.ref us6), (.ref b180), (.ref b180)])) rfl (by rw [hml]; rfl) (argsL := [(.int v1)]) (rest := [(.ref us6), (.ref b180), (.ref b180)]) (lenOf pd7 rfl) rfl (by show 2 * 0 + _ ≤ _; exact Nat.le_of_eq rfl) (hb hby at_84) (fun _ _ => ⟨rfl, e282, (by decide : 7 + 0 ≤ _), (by decide : 21 + 0 ≤ _)⟩)
    dsimp only [Pt.U, Pt.locs, Pt.cells, Pt.slots] at X283 l283 y283 z283 st283 hQ283
    subst l283 y283 z283
    obtain ⟨b283_0, rfl, N283q, K283q, F283_0, F283_1⟩ := hQ283
    have F284 := own_staKeep F181 K283q all0
    have F285 := F182.keep K283q
    have F286 := own_staKeep F183 K283q all0
    have F287 := F184.keep K283q
    have F288 := own_staKeep F185 K283q all0
    have F289 := F186.keep K283q
    have F290 := own_staKeep F187 K283q all0
    have F291 := F188.keep K283q
    have F292 := own_staKeep F189 K283q all0
    have F293 := F190.keep K283q
    have F294 := own_staKeep F191 K283q all0
    have F295 := F192.keep K283q
    have F296 := own_staKeep F193 K283q all0
    have F297 := F194.keep K283q
    have F298 := own_staKeep F195 K283q all0
    have F299 := F196.keep K283q
    have F300 := own_staKeep F197 K283q all0
    have F301 := F198.keep K283q
    have F302 := own_staKeep F199 K283q all0
    have F303 := F200.keep K283q
    have F304 := F201.keep K283q nin0
    have F305 := F202.keep K283q nin0
    have F306 := F203.keep K283q nin0
    have F307 := F204.keep K283q nin0
    have F308 := F205.keep K283q nin0
    have F309 := F206.keep K283q nin0
    have F310 := F207.keep K283q nin0
    have F311 := F208.keep K283q nin0
    have F312 := F209.keep K283q nin0
    have F313 := F210.keep K283q nin0
    have F314 := own_staKeep F211 K283q all0
    have F315 := A180.keep K283q
    have F316 := F214.keep K283q nin0
    have F317 := F215.keep K283q nin0
    have F318 := F216.keep K283q nin0
    have F319 := F217.keep K283q nin0
    have F320 := F218.keep K283q nin0
    have Z321 : n0 ≤ T283.heap.size := Nat.le_trans Z212 K283q.1
    have K322 : Keep h0 T283.heap [] := K213.trans K283q all0
    have N283 := Fr.app N282 N283q
    obtain ⟨_, _, ⟨T323, L323, k323, n323⟩, -, X323, ⟨Lc323, hQ323, l323, y323, z323⟩, st323⟩ := X283.specialBack hx (y := (⟨"inducere/Activation", "<init>", "(Linducere/Activation$Status;Linducere/Activation$Lifecycle;Ljava/lang/String;Ljava/lang/String;Z)V"⟩ : MethodName)) rfl hown (mvT hZ (hw _ (List.mem_of_getElem? (i := 50) rfl))) (mvT hZ (hw _ (List.mem_of_getElem? (i := 51) rfl))) (mvT hZ (hw _ (List.mem_of_getElem? (i := 52) rfl))) (by decide) (backOf (W := 1) (rm10 l Z a0 hw [] b180 (.ref us6) b283_0 b112_0 b146_0 v8 .null .null .null .null (0 : Int32) (T283.heap) n0 Z321 rfl F112_0 F146_0 F315 F316 F317 F318 F319 F320 g_b180) hZ (hw _ (List.mem_of_getElem? (i := 52) rfl)) (hw _ (List.mem_of_getElem? (i := 37) rfl)) (by decide) (by decide)) (g := (mkF m 93 #[.val (.int p0), .val (.int p1), .val (.int p2), .val (.int p3), .val (.int p4), .val (.int v1), .val (.int v2), .val (.int v4), .val (.int v6), .val (.int v8), .val b112_0, .val b146_0, .unset, .unset, .unset, .unset] [(.int v8), b146_0, b112_0, (.ref b283_0), (.ref us6), (.ref b180), (.ref b180)])) rfl (by rw [hml]; rfl) (Steps.refl _) (a := b180) (argsL := [(.ref us6), (.ref b283_0), b112_0, b146_0, (.int v8)]) (rest := [(.ref b180)]) (lenOf pd8 rfl) rfl (by show 2 * 0 + _ ≤ _; exact Nat.le_of_eq rfl) (hb hby at_93) (fun _ _ => ⟨rfl, (rfl : T283.heap = T283.heap), (by decide : 7 + 0 ≤ _), (by decide : 21 + 0 ≤ _)⟩)
    dsimp only [Pt.U, Pt.locs, Pt.cells, Pt.slots] at X323 l323 y323 z323 st323 hQ323
    subst l323 y323 z323
    obtain ⟨rfl, N323q, K323q, F323_0, F323_1, F323_2, F323_3, F323_4, F323_5⟩ := hQ323
    have F324 := F297.keep K323q
    have F325 := F312.keep K323q (ninS ne_us6_b180 nin0)
    have F326 := F315.keep K323q
    have F327 := F283_0.keep K323q
    have F328 := F283_1.keep K323q (ninS (Exa.ne F283_0 F315 (by decide)) nin0)
    have Z329 : n0 ≤ T323.heap.size := Nat.le_trans Z321 K323q.1
    have K330 : Keep h0 T323.heap [] := K322.trans K323q (allS (Or.inr sz_b180) all0)
    have N323 := Fr.app N283 N323q
    obtain ⟨v21, hv21⟩ : ∃ z : Int32, z = (if v1 = (3 : Int32) then (1 : Int32) else (0 : Int32)) := ⟨_, rfl⟩
    obtain ⟨v22, hv22⟩ : ∃ z : Int32, z = (if v1 = (2 : Int32) then (1 : Int32) else v21) := ⟨_, rfl⟩
    obtain ⟨T336, lc336, X336, N336, e336, st336⟩ := own_mrg (n0 := n0) (h := T323.heap) (g := (mkF m 101 #[.val (.int p0), .val (.int p1), .val (.int p2), .val (.int p3), .val (.int p4), .val (.int v1), .val (.int v2), .val (.int v4), .val (.int v6), .val (.int v8), .val b112_0, .val b146_0, .val (.ref b180), .unset, .unset, .unset] [(.int (2 : Int32)), (.int v1)])) (g' := (mkF m 115 #[.val (.int p0), .val (.int p1), .val (.int p2), .val (.int p3), .val (.int p4), .val (.int v1), .val (.int v2), .val (.int v4), .val (.int v6), .val (.int v8), .val b112_0, .val b146_0, .val (.ref b180), .unset, .unset, .unset] [(.int v22)])) X323 (by
      by_cases hc101_19 : v1 = (2 : Int32)
      · have hgo331 : ∀ t, Steps p.tables e below (T323.setTop (mkF m 115 #[.val (.int p0), .val (.int p1), .val (.int p2), .val (.int p3), .val (.int p4), .val (.int v1), .val (.int v2), .val (.int v4), .val (.int v6), .val (.int v8), .val b112_0, .val b146_0, .val (.ref b180), .unset, .unset, .unset] [(.int (1 : Int32))])) t → Steps p.tables e below (T323.setTop (mkF m 101 #[.val (.int p0), .val (.int p1), .val (.int p2), .val (.int p3), .val (.int p4), .val (.int v1), .val (.int v2), .val (.int v4), .val (.int v6), .val (.int v8), .val b112_0, .val b146_0, .val (.ref b180), .unset, .unset, .unset] [(.int (2 : Int32)), (.int v1)])) t := by
          intro t kt
          show Steps p.tables e below (T323.setTop (mkF m 101 #[.val (.int p0), .val (.int p1), .val (.int p2), .val (.int p3), .val (.int p4), .val (.int v1), .val (.int v2), .val (.int v4), .val (.int v6), .val (.int v8), .val b112_0, .val b146_0, .val (.ref b180), .unset, .unset, .unset] [(.int (2 : Int32)), (.int v1)])) _
          refine XS.icmpYes X323.here hx rfl (pc0 := 101) (pc' := 110) rfl (hb hby at_101) rfl (teq hc101_19).1 (by decide) (by decide) ?_
          show Steps p.tables e below (T323.setTop (mkF m 110 #[.val (.int p0), .val (.int p1), .val (.int p2), .val (.int p3), .val (.int p4), .val (.int v1), .val (.int v2), .val (.int v4), .val (.int v6), .val (.int v8), .val b112_0, .val b146_0, .val (.ref b180), .unset, .unset, .unset] [])) _
          refine XS.iconst X323.here hx rfl (hb hby at_110) ?_
          show Steps p.tables e below (T323.setTop (mkF m 111 #[.val (.int p0), .val (.int p1), .val (.int p2), .val (.int p3), .val (.int p4), .val (.int v1), .val (.int v2), .val (.int v4), .val (.int v6), .val (.int v8), .val b112_0, .val b146_0, .val (.ref b180), .unset, .unset, .unset] [(.int (1 : Int32))])) _
          refine XS.goto X323.here hx rfl (pc0 := 111) (pc' := 115) rfl (hb hby at_111) (by decide) (by decide) ?_
          exact kt
        refine own_arm hgo331 ?_
        exact own_armEnd X323 N323 (rfl : T323.heap = T323.heap) (by rw [hv22.trans (if_pos hc101_19)])
      · obtain ⟨T334, lc334, X334, N334, e334, st334⟩ := own_mrg (n0 := n0) (h := T323.heap) (g := (mkF m 107 #[.val (.int p0), .val (.int p1), .val (.int p2), .val (.int p3), .val (.int p4), .val (.int v1), .val (.int v2), .val (.int v4), .val (.int v6), .val (.int v8), .val b112_0, .val b146_0, .val (.ref b180), .unset, .unset, .unset] [(.int (3 : Int32)), (.int v1)])) (g' := (mkF m 115 #[.val (.int p0), .val (.int p1), .val (.int p2), .val (.int p3), .val (.int p4), .val (.int v1), .val (.int v2), .val (.int v4), .val (.int v6), .val (.int v8), .val b112_0, .val b146_0, .val (.ref b180), .unset, .unset, .unset] [(.int v21)])) X323 (by
          by_cases hc107_20 : v1 = (3 : Int32)
          · have hgo332 : ∀ t, Steps p.tables e below (T323.setTop (mkF m 115 #[.val (.int p0), .val (.int p1), .val (.int p2), .val (.int p3), .val (.int p4), .val (.int v1), .val (.int v2), .val (.int v4), .val (.int v6), .val (.int v8), .val b112_0, .val b146_0, .val (.ref b180), .unset, .unset, .unset] [(.int (1 : Int32))])) t → Steps p.tables e below (T323.setTop (mkF m 107 #[.val (.int p0), .val (.int p1), .val (.int p2), .val (.int p3), .val (.int p4), .val (.int v1), .val (.int v2), .val (.int v4), .val (.int v6), .val (.int v8), .val b112_0, .val b146_0, .val (.ref b180), .unset, .unset, .unset] [(.int (3 : Int32)), (.int v1)])) t := by
              intro t kt
              show Steps p.tables e below (T323.setTop (mkF m 107 #[.val (.int p0), .val (.int p1), .val (.int p2), .val (.int p3), .val (.int p4), .val (.int v1), .val (.int v2), .val (.int v4), .val (.int v6), .val (.int v8), .val b112_0, .val b146_0, .val (.ref b180), .unset, .unset, .unset] [(.int (3 : Int32)), (.int v1)])) _
              refine XS.icmpNo X323.here hx rfl (hb hby at_107) rfl (teq hc107_20).2 ?_
              show Steps p.tables e below (T323.setTop (mkF m 110 #[.val (.int p0), .val (.int p1), .val (.int p2), .val (.int p3), .val (.int p4), .val (.int v1), .val (.int v2), .val (.int v4), .val (.int v6), .val (.int v8), .val b112_0, .val b146_0, .val (.ref b180), .unset, .unset, .unset] [])) _
              refine XS.iconst X323.here hx rfl (hb hby at_110) ?_
              show Steps p.tables e below (T323.setTop (mkF m 111 #[.val (.int p0), .val (.int p1), .val (.int p2), .val (.int p3), .val (.int p4), .val (.int v1), .val (.int v2), .val (.int v4), .val (.int v6), .val (.int v8), .val b112_0, .val b146_0, .val (.ref b180), .unset, .unset, .unset] [(.int (1 : Int32))])) _
              refine XS.goto X323.here hx rfl (pc0 := 111) (pc' := 115) rfl (hb hby at_111) (by decide) (by decide) ?_
              exact kt
            refine own_arm hgo332 ?_
            exact own_armEnd X323 N323 (rfl : T323.heap = T323.heap) (by rw [hv21.trans (if_pos hc107_20)])
          · have hgo333 : ∀ t, Steps p.tables e below (T323.setTop (mkF m 115 #[.val (.int p0), .val (.int p1), .val (.int p2), .val (.int p3), .val (.int p4), .val (.int v1), .val (.int v2), .val (.int v4), .val (.int v6), .val (.int v8), .val b112_0, .val b146_0, .val (.ref b180), .unset, .unset, .unset] [(.int (0 : Int32))])) t → Steps p.tables e below (T323.setTop (mkF m 107 #[.val (.int p0), .val (.int p1), .val (.int p2), .val (.int p3), .val (.int p4), .val (.int v1), .val (.int v2), .val (.int v4), .val (.int v6), .val (.int v8), .val b112_0, .val b146_0, .val (.ref b180), .unset, .unset, .unset] [(.int (3 : Int32)), (.int v1)])) t := by
              intro t kt
              show Steps p.tables e below (T323.setTop (mkF m 107 #[.val (.int p0), .val (.int p1), .val (.int p2), .val (.int p3), .val (.int p4), .val (.int v1), .val (.int v2), .val (.int v4), .val (.int v6), .val (.int v8), .val b112_0, .val b146_0, .val (.ref b180), .unset, .unset, .unset] [(.int (3 : Int32)), (.int v1)])) _
              refine XS.icmpYes X323.here hx rfl (pc0 := 107) (pc' := 114) rfl (hb hby at_107) rfl (feq hc107_20).2 (by decide) (by decide) ?_
              show Steps p.tables e below (T323.setTop (mkF m 114 #[.val (.int p0), .val (.int p1), .val (.int p2), .val (.int p3), .val (.int p4), .val (.int v1), .val (.int v2), .val (.int v4), .val (.int v6), .val (.int v8), .val b112_0, .val b146_0, .val (.ref b180), .unset, .unset, .unset] [])) _
              refine XS.iconst X323.here hx rfl (hb hby at_114) ?_
              exact kt
            refine own_arm hgo333 ?_
            exact own_armEnd X323 N323 (rfl : T323.heap = T323.heap) (by rw [hv21.trans (if_neg hc107_20)]))
        have hgo335 : ∀ t, Steps p.tables e below (T334.setTop (mkF m 115 #[.val (.int p0), .val (.int p1), .val (.int p2), .val (.int p3), .val (.int p4), .val (.int v1), .val (.int v2), .val (.int v4), .val (.int v6), .val (.int v8), .val b112_0, .val b146_0, .val (.ref b180), .unset, .unset, .unset] [(.int v21)])) t → Steps p.tables e below (T323.setTop (mkF m 101 #[.val (.int p0), .val (.int p1), .val (.int p2), .val (.int p3), .val (.int p4), .val (.int v1), .val (.int v2), .val (.int v4), .val (.int v6), .val (.int v8), .val b112_0, .val b146_0, .val (.ref b180), .unset, .unset, .unset] [(.int (2 : Int32)), (.int v1)])) t := by
          intro t kt
          show Steps p.tables e below (T323.setTop (mkF m 101 #[.val (.int p0), .val (.int p1), .val (.int p2), .val (.int p3), .val (.int p4), .val (.int v1), .val (.int v2), .val (.int v4), .val (.int v6), .val (.int v8), .val b112_0, .val b146_0, .val (.ref b180), .unset, .unset, .unset] [(.int (2 : Int32)), (.int v1)])) _
          refine XS.icmpNo X323.here hx rfl (hb hby at_101) rfl (feq hc101_19).1 ?_
          show Steps p.tables e below (T323.setTop (mkF m 104 #[.val (.int p0), .val (.int p1), .val (.int p2), .val (.int p3), .val (.int p4), .val (.int v1), .val (.int v2), .val (.int v4), .val (.int v6), .val (.int v8), .val b112_0, .val b146_0, .val (.ref b180), .unset, .unset, .unset] [])) _
          refine XS.iload X323.here hx rfl (hb hby at_104) rfl ?_
          show Steps p.tables e below (T323.setTop (mkF m 106 #[.val (.int p0), .val (.int p1), .val (.int p2), .val (.int p3), .val (.int p4), .val (.int v1), .val (.int v2), .val (.int v4), .val (.int v6), .val (.int v8), .val b112_0, .val b146_0, .val (.ref b180), .unset, .unset, .unset] [(.int v1)])) _
          refine XS.iconst X323.here hx rfl (hb hby at_106) ?_
          show Steps p.tables e below (T323.setTop (mkF m 107 #[.val (.int p0), .val (.int p1), .val (.int p2), .val (.int p3), .val (.int p4), .val (.int v1), .val (.int v2), .val (.int v4), .val (.int v6), .val (.int v8), .val b112_0, .val b146_0, .val (.ref b180), .unset, .unset, .unset] [(.int (3 : Int32)), (.int v1)])) _
          refine st334 _ ?_
          exact kt
        refine own_arm hgo335 ?_
        exact own_armEnd X334 N334 e334 (by rw [hv22.trans (if_neg hc101_19)]))
    obtain ⟨v24, hv24⟩ : ∃ z : Int32, z = (if v22 = (0 : Int32) then (1 : Int32) else (0 : Int32)) := ⟨_, rfl⟩
    obtain ⟨T339, lc339, X339, N339, e339, st339⟩ := own_mrg (n0 := n0) (h := T323.heap) (g := (mkF m 138 #[.val (.int p0), .val (.int p1), .val (.int p2), .val (.int p3), .val (.int p4), .val (.int v1), .val (.int v2), .val (.int v4), .val (.int v6), .val (.int v8), .val b112_0, .val b146_0, .val (.ref b180), .val (.int v22), .val (.int (0 : Int32)), .unset] [(.int v22)])) (g' := (mkF m 151 #[.val (.int p0), .val (.int p1), .val (.int p2), .val (.int p3), .val (.int p4), .val (.int v1), .val (.int v2), .val (.int v4), .val (.int v6), .val (.int v8), .val b112_0, .val b146_0, .val (.ref b180), .val (.int v22), .val (.int (0 : Int32)), .unset] [(.int v24)])) X336 (by
      by_cases hc138_23 : v22 = (0 : Int32)
      · have hgo337 : ∀ t, Steps p.tables e below (T336.setTop (mkF m 151 #[.val (.int p0), .val (.int p1), .val (.int p2), .val (.int p3), .val (.int p4), .val (.int v1), .val (.int v2), .val (.int v4), .val (.int v6), .val (.int v8), .val b112_0, .val b146_0, .val (.ref b180), .val (.int v22), .val (.int (0 : Int32)), .unset] [(.int (1 : Int32))])) t → Steps p.tables e below (T336.setTop (mkF m 138 #[.val (.int p0), .val (.int p1), .val (.int p2), .val (.int p3), .val (.int p4), .val (.int v1), .val (.int v2), .val (.int v4), .val (.int v6), .val (.int v8), .val b112_0, .val b146_0, .val (.ref b180), .val (.int v22), .val (.int (0 : Int32)), .unset] [(.int v22)])) t := by
          intro t kt
          show Steps p.tables e below (T336.setTop (mkF m 138 #[.val (.int p0), .val (.int p1), .val (.int p2), .val (.int p3), .val (.int p4), .val (.int v1), .val (.int v2), .val (.int v4), .val (.int v6), .val (.int v8), .val b112_0, .val b146_0, .val (.ref b180), .val (.int v22), .val (.int (0 : Int32)), .unset] [(.int v22)])) _
          refine XS.ifYes X336.here hx rfl (pc0 := 138) (pc' := 146) rfl (hb hby at_138) rfl ((if0 _ _).trans (teq hc138_23).1) (by decide) (by decide) ?_
          show Steps p.tables e below (T336.setTop (mkF m 146 #[.val (.int p0), .val (.int p1), .val (.int p2), .val (.int p3), .val (.int p4), .val (.int v1), .val (.int v2), .val (.int v4), .val (.int v6), .val (.int v8), .val b112_0, .val b146_0, .val (.ref b180), .val (.int v22), .val (.int (0 : Int32)), .unset] [])) _
          refine XS.iconst X336.here hx rfl (hb hby at_146) ?_
          show Steps p.tables e below (T336.setTop (mkF m 147 #[.val (.int p0), .val (.int p1), .val (.int p2), .val (.int p3), .val (.int p4), .val (.int v1), .val (.int v2), .val (.int v4), .val (.int v6), .val (.int v8), .val b112_0, .val b146_0, .val (.ref b180), .val (.int v22), .val (.int (0 : Int32)), .unset] [(.int (1 : Int32))])) _
          refine XS.goto X336.here hx rfl (pc0 := 147) (pc' := 151) rfl (hb hby at_147) (by decide) (by decide) ?_
          exact kt
        refine own_arm hgo337 ?_
        exact own_armEnd X336 N336 e336 (by rw [hv24.trans (if_pos hc138_23)])
      · have hgo338 : ∀ t, Steps p.tables e below (T336.setTop (mkF m 151 #[.val (.int p0), .val (.int p1), .val (.int p2), .val (.int p3), .val (.int p4), .val (.int v1), .val (.int v2), .val (.int v4), .val (.int v6), .val (.int v8), .val b112_0, .val b146_0, .val (.ref b180), .val (.int v22), .val (.int (0 : Int32)), .unset] [(.int (0 : Int32))])) t → Steps p.tables e below (T336.setTop (mkF m 138 #[.val (.int p0), .val (.int p1), .val (.int p2), .val (.int p3), .val (.int p4), .val (.int v1), .val (.int v2), .val (.int v4), .val (.int v6), .val (.int v8), .val b112_0, .val b146_0, .val (.ref b180), .val (.int v22), .val (.int (0 : Int32)), .unset] [(.int v22)])) t := by
          intro t kt
          show Steps p.tables e below (T336.setTop (mkF m 138 #[.val (.int p0), .val (.int p1), .val (.int p2), .val (.int p3), .val (.int p4), .val (.int v1), .val (.int v2), .val (.int v4), .val (.int v6), .val (.int v8), .val b112_0, .val b146_0, .val (.ref b180), .val (.int v22), .val (.int (0 : Int32)), .unset] [(.int v22)])) _
          refine XS.ifNo X336.here hx rfl (hb hby at_138) rfl ((if0 _ _).trans (feq hc138_23).1) ?_
          show Steps p.tables e below (T336.setTop (mkF m 141 #[.val (.int p0), .val (.int p1), .val (.int p2), .val (.int p3), .val (.int p4), .val (.int v1), .val (.int v2), .val (.int v4), .val (.int v6), .val (.int v8), .val b112_0, .val b146_0, .val (.ref b180), .val (.int v22), .val (.int (0 : Int32)), .unset] [])) _
          refine XS.iload X336.here hx rfl (hb hby at_141) rfl ?_
          show Steps p.tables e below (T336.setTop (mkF m 143 #[.val (.int p0), .val (.int p1), .val (.int p2), .val (.int p3), .val (.int p4), .val (.int v1), .val (.int v2), .val (.int v4), .val (.int v6), .val (.int v8), .val b112_0, .val b146_0, .val (.ref b180), .val (.int v22), .val (.int (0 : Int32)), .unset] [(.int (0 : Int32))])) _
          refine XS.ifYes X336.here hx rfl (pc0 := 143) (pc' := 150) rfl (hb hby at_143) rfl ((if0 _ _).trans (teq (by decide : (0 : Int32) = (0 : Int32))).1) (by decide) (by decide) ?_
          show Steps p.tables e below (T336.setTop (mkF m 150 #[.val (.int p0), .val (.int p1), .val (.int p2), .val (.int p3), .val (.int p4), .val (.int v1), .val (.int v2), .val (.int v4), .val (.int v6), .val (.int v8), .val b112_0, .val b146_0, .val (.ref b180), .val (.int v22), .val (.int (0 : Int32)), .unset] [])) _
          refine XS.iconst X336.here hx rfl (hb hby at_150) ?_
          exact kt
        refine own_arm hgo338 ?_
        exact own_armEnd X336 N336 e336 (by rw [hv24.trans (if_neg hc138_23)]))
    obtain ⟨cq340, kq340, q340a, q340b, q340c⟩ := isOf hZ e339 F323_0
    obtain ⟨_, _, ⟨T340, L340, k340, n340⟩, -, X340, ⟨Lc340, hQ340, l340, y340, z340⟩, st340⟩ := X339.virtualBack hx (y := (⟨"inducere/Activation", "switchedOff", "()Z"⟩ : MethodName)) (z := (⟨"inducere/Activation", "switchedOff", "()Z"⟩ : MethodName)) hown (mvT hZ (hw _ (List.mem_of_getElem? (i := 69) rfl))) (mvT hZ (hw _ (List.mem_of_getElem? (i := 70) rfl))) (notFace_of_selects (args := #[]) (mvT hZ (hw _ (List.mem_of_getElem? (i := 72) rfl)))) (mvT hZ (hw _ (List.mem_of_getElem? (i := 72) rfl))) (mvT hZ (hw _ (List.mem_of_getElem? (i := 71) rfl))) (by decide) (backOf (W := 0) (rm12r l Z a0 hw [] b180 b283_0 (own_on v1) us6 (1 : Int32) (T323.heap) n0 Z329 F323_2 F328 F323_1 F325) hZ (hw _ (List.mem_of_getElem? (i := 73) rfl)) (hw _ (List.mem_of_getElem? (i := 37) rfl)) (by decide) (by decide)) q340a q340c (g := (mkF m 155 #[.val (.int p0), .val (.int p1), .val (.int p2), .val (.int p3), .val (.int p4), .val (.int v1), .val (.int v2), .val (.int v4), .val (.int v6), .val (.int v8), .val b112_0, .val b146_0, .val (.ref b180), .val (.int v22), .val (.int (0 : Int32)), .val (.int v24)] [(.ref b180)])) rfl (by rw [hml]; rfl) (Steps.refl _) (argsL := []) (rest := []) (lenOf pd9 rfl) rfl (by show 2 * 0 + _ ≤ _; exact Nat.le_of_eq rfl) (hb hby at_155) (fun _ _ => ⟨rfl, e339, (by decide : 7 + 0 ≤ _), (by decide : 21 + 0 ≤ _)⟩)
    dsimp only [Pt.U, Pt.locs, Pt.cells, Pt.slots] at X340 l340 y340 z340 st340 hQ340
    subst l340 y340 z340
    obtain ⟨rfl, N340q, e340⟩ := hQ340
    have N340 := Fr.app N339 N340q
    obtain ⟨v26, hv26⟩ : ∃ z : Int32, z = (if (own_r12r (own_on v1) (1 : Int32)) = v24 then (1 : Int32) else (0 : Int32)) := ⟨_, rfl⟩
    obtain ⟨T343, lc343, X343, N343, e343, st343⟩ := own_mrg (n0 := n0) (h := T323.heap) (g := (mkF m 160 #[.val (.int p0), .val (.int p1), .val (.int p2), .val (.int p3), .val (.int p4), .val (.int v1), .val (.int v2), .val (.int v4), .val (.int v6), .val (.int v8), .val b112_0, .val b146_0, .val (.ref b180), .val (.int v22), .val (.int (0 : Int32)), .val (.int v24)] [(.int v24), (.int (own_r12r (own_on v1) (1 : Int32)))])) (g' := (mkF m 168 #[.val (.int p0), .val (.int p1), .val (.int p2), .val (.int p3), .val (.int p4), .val (.int v1), .val (.int v2), .val (.int v4), .val (.int v6), .val (.int v8), .val b112_0, .val b146_0, .val (.ref b180), .val (.int v22), .val (.int (0 : Int32)), .val (.int v24)] [(.int v26)])) X340 (by
      by_cases hc160_25 : (own_r12r (own_on v1) (1 : Int32)) = v24
      · have hgo341 : ∀ t, Steps p.tables e below (T340.setTop (mkF m 168 #[.val (.int p0), .val (.int p1), .val (.int p2), .val (.int p3), .val (.int p4), .val (.int v1), .val (.int v2), .val (.int v4), .val (.int v6), .val (.int v8), .val b112_0, .val b146_0, .val (.ref b180), .val (.int v22), .val (.int (0 : Int32)), .val (.int v24)] [(.int (1 : Int32))])) t → Steps p.tables e below (T340.setTop (mkF m 160 #[.val (.int p0), .val (.int p1), .val (.int p2), .val (.int p3), .val (.int p4), .val (.int v1), .val (.int v2), .val (.int v4), .val (.int v6), .val (.int v8), .val b112_0, .val b146_0, .val (.ref b180), .val (.int v22), .val (.int (0 : Int32)), .val (.int v24)] [(.int v24), (.int (own_r12r (own_on v1) (1 : Int32)))])) t := by
          intro t kt
          show Steps p.tables e below (T340.setTop (mkF m 160 #[.val (.int p0), .val (.int p1), .val (.int p2), .val (.int p3), .val (.int p4), .val (.int v1), .val (.int v2), .val (.int v4), .val (.int v6), .val (.int v8), .val b112_0, .val b146_0, .val (.ref b180), .val (.int v22), .val (.int (0 : Int32)), .val (.int v24)] [(.int v24), (.int (own_r12r (own_on v1) (1 : Int32)))])) _
          refine XS.icmpNo X340.here hx rfl (hb hby at_160) rfl (teq hc160_25).2 ?_
          show Steps p.tables e below (T340.setTop (mkF m 163 #[.val (.int p0), .val (.int p1), .val (.int p2), .val (.int p3), .val (.int p4), .val (.int v1), .val (.int v2), .val (.int v4), .val (.int v6), .val (.int v8), .val b112_0, .val b146_0, .val (.ref b180), .val (.int v22), .val (.int (0 : Int32)), .val (.int v24)] [])) _
          refine XS.iconst X340.here hx rfl (hb hby at_163) ?_
          show Steps p.tables e below (T340.setTop (mkF m 164 #[.val (.int p0), .val (.int p1), .val (.int p2), .val (.int p3), .val (.int p4), .val (.int v1), .val (.int v2), .val (.int v4), .val (.int v6), .val (.int v8), .val b112_0, .val b146_0, .val (.ref b180), .val (.int v22), .val (.int (0 : Int32)), .val (.int v24)] [(.int (1 : Int32))])) _
          refine XS.goto X340.here hx rfl (pc0 := 164) (pc' := 168) rfl (hb hby at_164) (by decide) (by decide) ?_
          exact kt
        refine own_arm hgo341 ?_
        exact own_armEnd X340 N340 e340 (by rw [hv26.trans (if_pos hc160_25)])
      · have hgo342 : ∀ t, Steps p.tables e below (T340.setTop (mkF m 168 #[.val (.int p0), .val (.int p1), .val (.int p2), .val (.int p3), .val (.int p4), .val (.int v1), .val (.int v2), .val (.int v4), .val (.int v6), .val (.int v8), .val b112_0, .val b146_0, .val (.ref b180), .val (.int v22), .val (.int (0 : Int32)), .val (.int v24)] [(.int (0 : Int32))])) t → Steps p.tables e below (T340.setTop (mkF m 160 #[.val (.int p0), .val (.int p1), .val (.int p2), .val (.int p3), .val (.int p4), .val (.int v1), .val (.int v2), .val (.int v4), .val (.int v6), .val (.int v8), .val b112_0, .val b146_0, .val (.ref b180), .val (.int v22), .val (.int (0 : Int32)), .val (.int v24)] [(.int v24), (.int (own_r12r (own_on v1) (1 : Int32)))])) t := by
          intro t kt
          show Steps p.tables e below (T340.setTop (mkF m 160 #[.val (.int p0), .val (.int p1), .val (.int p2), .val (.int p3), .val (.int p4), .val (.int v1), .val (.int v2), .val (.int v4), .val (.int v6), .val (.int v8), .val b112_0, .val b146_0, .val (.ref b180), .val (.int v22), .val (.int (0 : Int32)), .val (.int v24)] [(.int v24), (.int (own_r12r (own_on v1) (1 : Int32)))])) _
          refine XS.icmpYes X340.here hx rfl (pc0 := 160) (pc' := 167) rfl (hb hby at_160) rfl (feq hc160_25).2 (by decide) (by decide) ?_
          show Steps p.tables e below (T340.setTop (mkF m 167 #[.val (.int p0), .val (.int p1), .val (.int p2), .val (.int p3), .val (.int p4), .val (.int v1), .val (.int v2), .val (.int v4), .val (.int v6), .val (.int v8), .val b112_0, .val b146_0, .val (.ref b180), .val (.int v22), .val (.int (0 : Int32)), .val (.int v24)] [])) _
          refine XS.iconst X340.here hx rfl (hb hby at_167) ?_
          exact kt
        refine own_arm hgo342 ?_
        exact own_armEnd X340 N340 e340 (by rw [hv26.trans (if_neg hc160_25)]))
    have hgo344 : ∀ t, Steps p.tables e below (T343.setTop (mkF m 168 #[.val (.int p0), .val (.int p1), .val (.int p2), .val (.int p3), .val (.int p4), .val (.int v1), .val (.int v2), .val (.int v4), .val (.int v6), .val (.int v8), .val b112_0, .val b146_0, .val (.ref b180), .val (.int v22), .val (.int (0 : Int32)), .val (.int v24)] [(.int v26)])) t → Steps p.tables e below (T180.setTop (mkF m 79 #[.val (.int p0), .val (.int p1), .val (.int p2), .val (.int p3), .val (.int p4), .val (.int v1), .val (.int v2), .val (.int v4), .val (.int v6), .val (.int v8), .val b112_0, .val b146_0, .unset, .unset, .unset, .unset] [(.int v2), (.ref b180), (.ref b180)])) t := by
      intro t kt
      show Steps p.tables e below (T180.setTop (mkF m 79 #[.val (.int p0), .val (.int p1), .val (.int p2), .val (.int p3), .val (.int p4), .val (.int v1), .val (.int v2), .val (.int v4), .val (.int v6), .val (.int v8), .val b112_0, .val b146_0, .unset, .unset, .unset, .unset] [(.int v2), (.ref b180), (.ref b180)])) _
      refine st282 _ ?_
      show Steps p.tables e below (T282.setTop (mkF m 82 #[.val (.int p0), .val (.int p1), .val (.int p2), .val (.int p3), .val (.int p4), .val (.int v1), .val (.int v2), .val (.int v4), .val (.int v6), .val (.int v8), .val b112_0, .val b146_0, .unset, .unset, .unset, .unset] [(.ref us6), (.ref b180), (.ref b180)])) _
      refine XS.iload X282.here hx rfl (hb hby at_82) rfl ?_
      show Steps p.tables e below (T282.setTop (mkF m 84 #[.val (.int p0), .val (.int p1), .val (.int p2), .val (.int p3), .val (.int p4), .val (.int v1), .val (.int v2), .val (.int v4), .val (.int v6), .val (.int v8), .val b112_0, .val b146_0, .unset, .unset, .unset, .unset] [(.int v1), (.ref us6), (.ref b180), (.ref b180)])) _
      refine st283 _ ?_
      show Steps p.tables e below (T283.setTop (mkF m 87 #[.val (.int p0), .val (.int p1), .val (.int p2), .val (.int p3), .val (.int p4), .val (.int v1), .val (.int v2), .val (.int v4), .val (.int v6), .val (.int v8), .val b112_0, .val b146_0, .unset, .unset, .unset, .unset] [(.ref b283_0), (.ref us6), (.ref b180), (.ref b180)])) _
      refine XS.aload X283.here hx rfl (hb hby at_87) rfl (F112_0) ?_
      show Steps p.tables e below (T283.setTop (mkF m 89 #[.val (.int p0), .val (.int p1), .val (.int p2), .val (.int p3), .val (.int p4), .val (.int v1), .val (.int v2), .val (.int v4), .val (.int v6), .val (.int v8), .val b112_0, .val b146_0, .unset, .unset, .unset, .unset] [b112_0, (.ref b283_0), (.ref us6), (.ref b180), (.ref b180)])) _
      refine XS.aload X283.here hx rfl (hb hby at_89) rfl (F146_0) ?_
      show Steps p.tables e below (T283.setTop (mkF m 91 #[.val (.int p0), .val (.int p1), .val (.int p2), .val (.int p3), .val (.int p4), .val (.int v1), .val (.int v2), .val (.int v4), .val (.int v6), .val (.int v8), .val b112_0, .val b146_0, .unset, .unset, .unset, .unset] [b146_0, b112_0, (.ref b283_0), (.ref us6), (.ref b180), (.ref b180)])) _
      refine XS.iload X283.here hx rfl (hb hby at_91) rfl ?_
      show Steps p.tables e below (T283.setTop (mkF m 93 #[.val (.int p0), .val (.int p1), .val (.int p2), .val (.int p3), .val (.int p4), .val (.int v1), .val (.int v2), .val (.int v4), .val (.int v6), .val (.int v8), .val b112_0, .val b146_0, .unset, .unset, .unset, .unset] [(.int v8), b146_0, b112_0, (.ref b283_0), (.ref us6), (.ref b180), (.ref b180)])) _
      refine st323.trans ?_
      show Steps p.tables e below (T323.setTop (mkF m 96 #[.val (.int p0), .val (.int p1), .val (.int p2), .val (.int p3), .val (.int p4), .val (.int v1), .val (.int v2), .val (.int v4), .val (.int v6), .val (.int v8), .val b112_0, .val b146_0, .unset, .unset, .unset, .unset] [(.ref b180)])) _
      refine XS.astore X323.here hx rfl (hb hby at_96) rfl rfl (l' := #[.val (.int p0), .val (.int p1), .val (.int p2), .val (.int p3), .val (.int p4), .val (.int v1), .val (.int v2), .val (.int v4), .val (.int v6), .val (.int v8), .val b112_0, .val b146_0, .val (.ref b180), .unset, .unset, .unset]) rfl ?_
      show Steps p.tables e below (T323.setTop (mkF m 98 #[.val (.int p0), .val (.int p1), .val (.int p2), .val (.int p3), .val (.int p4), .val (.int v1), .val (.int v2), .val (.int v4), .val (.int v6), .val (.int v8), .val b112_0, .val b146_0, .val (.ref b180), .unset, .unset, .unset] [])) _
      refine XS.iload X323.here hx rfl (hb hby at_98) rfl ?_
      show Steps p.tables e below (T323.setTop (mkF m 100 #[.val (.int p0), .val (.int p1), .val (.int p2), .val (.int p3), .val (.int p4), .val (.int v1), .val (.int v2), .val (.int v4), .val (.int v6), .val (.int v8), .val b112_0, .val b146_0, .val (.ref b180), .unset, .unset, .unset] [(.int v1)])) _
      refine XS.iconst X323.here hx rfl (hb hby at_100) ?_
      show Steps p.tables e below (T323.setTop (mkF m 101 #[.val (.int p0), .val (.int p1), .val (.int p2), .val (.int p3), .val (.int p4), .val (.int v1), .val (.int v2), .val (.int v4), .val (.int v6), .val (.int v8), .val b112_0, .val b146_0, .val (.ref b180), .unset, .unset, .unset] [(.int (2 : Int32)), (.int v1)])) _
      refine st336 _ ?_
      show Steps p.tables e below (T336.setTop (mkF m 115 #[.val (.int p0), .val (.int p1), .val (.int p2), .val (.int p3), .val (.int p4), .val (.int v1), .val (.int v2), .val (.int v4), .val (.int v6), .val (.int v8), .val b112_0, .val b146_0, .val (.ref b180), .unset, .unset, .unset] [(.int v22)])) _
      refine XS.istore X336.here hx rfl (hb hby at_115) rfl (l' := #[.val (.int p0), .val (.int p1), .val (.int p2), .val (.int p3), .val (.int p4), .val (.int v1), .val (.int v2), .val (.int v4), .val (.int v6), .val (.int v8), .val b112_0, .val b146_0, .val (.ref b180), .val (.int v22), .unset, .unset]) rfl ?_
      show Steps p.tables e below (T336.setTop (mkF m 117 #[.val (.int p0), .val (.int p1), .val (.int p2), .val (.int p3), .val (.int p4), .val (.int v1), .val (.int v2), .val (.int v4), .val (.int v6), .val (.int v8), .val b112_0, .val b146_0, .val (.ref b180), .val (.int v22), .unset, .unset] [])) _
      refine XS.iload X336.here hx rfl (hb hby at_117) rfl ?_
      show Steps p.tables e below (T336.setTop (mkF m 119 #[.val (.int p0), .val (.int p1), .val (.int p2), .val (.int p3), .val (.int p4), .val (.int v1), .val (.int v2), .val (.int v4), .val (.int v6), .val (.int v8), .val b112_0, .val b146_0, .val (.ref b180), .val (.int v22), .unset, .unset] [(.int v2)])) _
      refine XS.iconst X336.here hx rfl (hb hby at_119) ?_
      show Steps p.tables e below (T336.setTop (mkF m 120 #[.val (.int p0), .val (.int p1), .val (.int p2), .val (.int p3), .val (.int p4), .val (.int v1), .val (.int v2), .val (.int v4), .val (.int v6), .val (.int v8), .val b112_0, .val b146_0, .val (.ref b180), .val (.int v22), .unset, .unset] [(.int (2 : Int32)), (.int v2)])) _
      refine XS.icmpNo X336.here hx rfl (hb hby at_120) rfl (feq (by have y0 := hs79_18; simp only [Int32.lt_iff_toInt_lt, ← Int32.toInt_inj, Int32.reduceToInt] at y0 ⊢; omega : ¬ (v2 = (2 : Int32)))).1 ?_
      show Steps p.tables e below (T336.setTop (mkF m 123 #[.val (.int p0), .val (.int p1), .val (.int p2), .val (.int p3), .val (.int p4), .val (.int v1), .val (.int v2), .val (.int v4), .val (.int v6), .val (.int v8), .val b112_0, .val b146_0, .val (.ref b180), .val (.int v22), .unset, .unset] [])) _
      refine XS.iload X336.here hx rfl (hb hby at_123) rfl ?_
      show Steps p.tables e below (T336.setTop (mkF m 125 #[.val (.int p0), .val (.int p1), .val (.int p2), .val (.int p3), .val (.int p4), .val (.int v1), .val (.int v2), .val (.int v4), .val (.int v6), .val (.int v8), .val b112_0, .val b146_0, .val (.ref b180), .val (.int v22), .unset, .unset] [(.int v2)])) _
      refine XS.iconst X336.here hx rfl (hb hby at_125) ?_
      show Steps p.tables e below (T336.setTop (mkF m 126 #[.val (.int p0), .val (.int p1), .val (.int p2), .val (.int p3), .val (.int p4), .val (.int v1), .val (.int v2), .val (.int v4), .val (.int v6), .val (.int v8), .val b112_0, .val b146_0, .val (.ref b180), .val (.int v22), .unset, .unset] [(.int (3 : Int32)), (.int v2)])) _
      refine XS.icmpYes X336.here hx rfl (pc0 := 126) (pc' := 133) rfl (hb hby at_126) rfl (feq (by have y0 := hs79_18; simp only [Int32.lt_iff_toInt_lt, ← Int32.toInt_inj, Int32.reduceToInt] at y0 ⊢; omega : ¬ (v2 = (3 : Int32)))).2 (by decide) (by decide) ?_
      show Steps p.tables e below (T336.setTop (mkF m 133 #[.val (.int p0), .val (.int p1), .val (.int p2), .val (.int p3), .val (.int p4), .val (.int v1), .val (.int v2), .val (.int v4), .val (.int v6), .val (.int v8), .val b112_0, .val b146_0, .val (.ref b180), .val (.int v22), .unset, .unset] [])) _
      refine XS.iconst X336.here hx rfl (hb hby at_133) ?_
      show Steps p.tables e below (T336.setTop (mkF m 134 #[.val (.int p0), .val (.int p1), .val (.int p2), .val (.int p3), .val (.int p4), .val (.int v1), .val (.int v2), .val (.int v4), .val (.int v6), .val (.int v8), .val b112_0, .val b146_0, .val (.ref b180), .val (.int v22), .unset, .unset] [(.int (0 : Int32))])) _
      refine XS.istore X336.here hx rfl (hb hby at_134) rfl (l' := #[.val (.int p0), .val (.int p1), .val (.int p2), .val (.int p3), .val (.int p4), .val (.int v1), .val (.int v2), .val (.int v4), .val (.int v6), .val (.int v8), .val b112_0, .val b146_0, .val (.ref b180), .val (.int v22), .val (.int (0 : Int32)), .unset]) rfl ?_
      show Steps p.tables e below (T336.setTop (mkF m 136 #[.val (.int p0), .val (.int p1), .val (.int p2), .val (.int p3), .val (.int p4), .val (.int v1), .val (.int v2), .val (.int v4), .val (.int v6), .val (.int v8), .val b112_0, .val b146_0, .val (.ref b180), .val (.int v22), .val (.int (0 : Int32)), .unset] [])) _
      refine XS.iload X336.here hx rfl (hb hby at_136) rfl ?_
      show Steps p.tables e below (T336.setTop (mkF m 138 #[.val (.int p0), .val (.int p1), .val (.int p2), .val (.int p3), .val (.int p4), .val (.int v1), .val (.int v2), .val (.int v4), .val (.int v6), .val (.int v8), .val b112_0, .val b146_0, .val (.ref b180), .val (.int v22), .val (.int (0 : Int32)), .unset] [(.int v22)])) _
      refine st339 _ ?_
      show Steps p.tables e below (T339.setTop (mkF m 151 #[.val (.int p0), .val (.int p1), .val (.int p2), .val (.int p3), .val (.int p4), .val (.int v1), .val (.int v2), .val (.int v4), .val (.int v6), .val (.int v8), .val b112_0, .val b146_0, .val (.ref b180), .val (.int v22), .val (.int (0 : Int32)), .unset] [(.int v24)])) _
      refine XS.istore X339.here hx rfl (hb hby at_151) rfl (l' := #[.val (.int p0), .val (.int p1), .val (.int p2), .val (.int p3), .val (.int p4), .val (.int v1), .val (.int v2), .val (.int v4), .val (.int v6), .val (.int v8), .val b112_0, .val b146_0, .val (.ref b180), .val (.int v22), .val (.int (0 : Int32)), .val (.int v24)]) rfl ?_
      show Steps p.tables e below (T339.setTop (mkF m 153 #[.val (.int p0), .val (.int p1), .val (.int p2), .val (.int p3), .val (.int p4), .val (.int v1), .val (.int v2), .val (.int v4), .val (.int v6), .val (.int v8), .val b112_0, .val b146_0, .val (.ref b180), .val (.int v22), .val (.int (0 : Int32)), .val (.int v24)] [])) _
      refine XS.aload X339.here hx rfl (hb hby at_153) rfl rfl ?_
      show Steps p.tables e below (T339.setTop (mkF m 155 #[.val (.int p0), .val (.int p1), .val (.int p2), .val (.int p3), .val (.int p4), .val (.int v1), .val (.int v2), .val (.int v4), .val (.int v6), .val (.int v8), .val b112_0, .val b146_0, .val (.ref b180), .val (.int v22), .val (.int (0 : Int32)), .val (.int v24)] [(.ref b180)])) _
      refine st340.trans ?_
      show Steps p.tables e below (T340.setTop (mkF m 158 #[.val (.int p0), .val (.int p1), .val (.int p2), .val (.int p3), .val (.int p4), .val (.int v1), .val (.int v2), .val (.int v4), .val (.int v6), .val (.int v8), .val b112_0, .val b146_0, .val (.ref b180), .val (.int v22), .val (.int (0 : Int32)), .val (.int v24)] [(.int (own_r12r (own_on v1) (1 : Int32)))])) _
      refine XS.iload X340.here hx rfl (hb hby at_158) rfl ?_
      show Steps p.tables e below (T340.setTop (mkF m 160 #[.val (.int p0), .val (.int p1), .val (.int p2), .val (.int p3), .val (.int p4), .val (.int v1), .val (.int v2), .val (.int v4), .val (.int v6), .val (.int v8), .val b112_0, .val b146_0, .val (.ref b180), .val (.int v22), .val (.int (0 : Int32)), .val (.int v24)] [(.int v24), (.int (own_r12r (own_on v1) (1 : Int32)))])) _
      refine st343 _ ?_
      exact kt
    refine own_go hgo344 ?_
    have hz345 : v26 = 1 := own_leaf1 (p0 := p0) (p1 := p1) (p2 := p2) (p3 := p3) (p4 := p4) (us0 := us0) (us1 := us1) (us2 := us2) (us3 := us3) (us4 := us4) (us5 := us5) (us6 := us6) (us7 := us7) (us8 := us8) (us9 := us9) (ucs := ucs) hv1 hv2 hv4 hv6 hv8 hv21 hv22 hv24 hv26 hs79_9 hs79_18
    exact own_retZ X343 hx Bd.returns Bd.notSynchronized (hb hby at_168) (by decide) (by decide) (Or.inr hz345) ⟨by rw [hz345], N343⟩
  by_cases hs79_27 : v2 = (2 : Int32)
  · obtain ⟨_, _, ⟨T346, L346, k346, n346⟩, -, X346, ⟨Lc346, hQ346, l346, y346, z346⟩, st346⟩ := Jvm.LawKit.callS X180 hx (y := (⟨"inducere/ActivationSwitchedOffPinLaw", "status", "(I)Linducere/Activation$Status;"⟩ : MethodName)) hown (mvT hZ (hw _ (List.mem_of_getElem? (i := 38) rfl))) (mvT hZ (hw _ (List.mem_of_getElem? (i := 39) rfl))) (mvT hZ (hw _ (List.mem_of_getElem? (i := 3) rfl))) (mvT hZ (hw _ (List.mem_of_getElem? (i := 40) rfl))) (by decide) (backOf (W := 2) (rm8_2 l Z a0 hw [] v2 us3 h180 n0 Z212 (by first | assumption | decide : ¬ (v2 = (0 : Int32))) (by first | assumption | decide : ¬ (v2 = (1 : Int32))) (by first | assumption | decide : v2 = (2 : Int32)) F187) hZ (hw _ (List.mem_of_getElem? (i := 40) rfl)) (hw _ (List.mem_of_getElem? (i := 3) rfl)) (by decide) (by decide)) (g := (mkF m 79 #[.val (.int p0), .val (.int p1), .val (.int p2), .val (.int p3), .val (.int p4), .val (.int v1), .val (.int v2), .val (.int v4), .val (.int v6), .val (.int v8), .val b112_0, .val b146_0, .unset, .unset, .unset, .unset] [(.int v2), (.ref b180), (.ref b180)])) rfl (by rw [hml]; rfl) (argsL := [(.int v2)]) (rest := [(.ref b180), (.ref b180)]) (lenOf pd6 rfl) rfl (by show 2 * 0 + _ ≤ _; exact Nat.le_of_eq rfl) (hb hby at_79) (fun _ _ => ⟨rfl, e180, (by decide : 7 + 0 ≤ _), (by decide : 21 + 0 ≤ _)⟩)
    dsimp only [Pt.U, Pt.locs, Pt.cells, Pt.slots] at X346 l346 y346 z346 st346 hQ346
    subst l346 y346 z346
    obtain ⟨rfl, N346q, e346⟩ := hQ346
    have N346 := Fr.app N146 N346q
    obtain ⟨_, _, ⟨T347, L347, k347, n347⟩, -, X347, ⟨Lc347, hQ347, l347, y347, z347⟩, st347⟩ := Jvm.LawKit.callS X346 hx (y := (⟨"inducere/ActivationSwitchedOffPinLaw", "life", "(I)Linducere/Activation$Lifecycle;"⟩ : MethodName)) hown (mvT hZ (hw _ (List.mem_of_getElem? (i := 44) rfl))) (mvT hZ (hw _ (List.mem_of_getElem? (i := 45) rfl))) (mvT hZ (hw _ (List.mem_of_getElem? (i := 3) rfl))) (mvT hZ (hw _ (List.mem_of_getElem? (i := 46) rfl))) (by decide) (backOf (W := 3) (rm9 l Z a0 hw [] v1 us1 us2 us4 us5 us7 us8 us9 h180 n0 Z212 F183 F184 F185 F186 F189 F190 F191 F192 F195 F196 F197 F198 F199 F200 F201 F202 F203 F205 F207 F208 F210) hZ (hw _ (List.mem_of_getElem? (i := 46) rfl)) (hw _ (List.mem_of_getElem? (i := 3) rfl)) (by decide) (by decide)) (g := (mkF m 84 #[.val (.int p0), .val (.int p1), .val (.int p2), .val (.int p3), .val (.int p4), .val (.int v1), .val (.int v2), .val (.int v4), .val (.int v6), .val (.int v8), .val b112_0, .val b146_0, .unset, .unset, .unset, .unset] [(.int v1), (.ref us3), (.ref b180), (.ref b180)])) rfl (by rw [hml]; rfl) (argsL := [(.int v1)]) (rest := [(.ref us3), (.ref b180), (.ref b180)]) (lenOf pd7 rfl) rfl (by show 2 * 0 + _ ≤ _; exact Nat.le_of_eq rfl) (hb hby at_84) (fun _ _ => ⟨rfl, e346, (by decide : 7 + 0 ≤ _), (by decide : 21 + 0 ≤ _)⟩)
    dsimp only [Pt.U, Pt.locs, Pt.cells, Pt.slots] at X347 l347 y347 z347 st347 hQ347
    subst l347 y347 z347
    obtain ⟨b347_0, rfl, N347q, K347q, F347_0, F347_1⟩ := hQ347
    have F348 := own_staKeep F181 K347q all0
    have F349 := F182.keep K347q
    have F350 := own_staKeep F183 K347q all0
    have F351 := F184.keep K347q
    have F352 := own_staKeep F185 K347q all0
    have F353 := F186.keep K347q
    have F354 := own_staKeep F187 K347q all0
    have F355 := F188.keep K347q
    have F356 := own_staKeep F189 K347q all0
    have F357 := F190.keep K347q
    have F358 := own_staKeep F191 K347q all0
    have F359 := F192.keep K347q
    have F360 := own_staKeep F193 K347q all0
    have F361 := F194.keep K347q
    have F362 := own_staKeep F195 K347q all0
    have F363 := F196.keep K347q
    have F364 := own_staKeep F197 K347q all0
    have F365 := F198.keep K347q
    have F366 := own_staKeep F199 K347q all0
    have F367 := F200.keep K347q
    have F368 := F201.keep K347q nin0
    have F369 := F202.keep K347q nin0
    have F370 := F203.keep K347q nin0
    have F371 := F204.keep K347q nin0
    have F372 := F205.keep K347q nin0
    have F373 := F206.keep K347q nin0
    have F374 := F207.keep K347q nin0
    have F375 := F208.keep K347q nin0
    have F376 := F209.keep K347q nin0
    have F377 := F210.keep K347q nin0
    have F378 := own_staKeep F211 K347q all0
    have F379 := A180.keep K347q
    have F380 := F214.keep K347q nin0
    have F381 := F215.keep K347q nin0
    have F382 := F216.keep K347q nin0
    have F383 := F217.keep K347q nin0
    have F384 := F218.keep K347q nin0
    have Z385 : n0 ≤ T347.heap.size := Nat.le_trans Z212 K347q.1
    have K386 : Keep h0 T347.heap [] := K213.trans K347q all0
    have N347 := Fr.app N346 N347q
    obtain ⟨_, _, ⟨T387, L387, k387, n387⟩, -, X387, ⟨Lc387, hQ387, l387, y387, z387⟩, st387⟩ := X347.specialBack hx (y := (⟨"inducere/Activation", "<init>", "(Linducere/Activation$Status;Linducere/Activation$Lifecycle;Ljava/lang/String;Ljava/lang/String;Z)V"⟩ : MethodName)) rfl hown (mvT hZ (hw _ (List.mem_of_getElem? (i := 50) rfl))) (mvT hZ (hw _ (List.mem_of_getElem? (i := 51) rfl))) (mvT hZ (hw _ (List.mem_of_getElem? (i := 52) rfl))) (by decide) (backOf (W := 1) (rm10 l Z a0 hw [] b180 (.ref us3) b347_0 b112_0 b146_0 v8 .null .null .null .null (0 : Int32) (T347.heap) n0 Z385 rfl F112_0 F146_0 F379 F380 F381 F382 F383 F384 g_b180) hZ (hw _ (List.mem_of_getElem? (i := 52) rfl)) (hw _ (List.mem_of_getElem? (i := 37) rfl)) (by decide) (by decide)) (g := (mkF m 93 #[.val (.int p0), .val (.int p1), .val (.int p2), .val (.int p3), .val (.int p4), .val (.int v1), .val (.int v2), .val (.int v4), .val (.int v6), .val (.int v8), .val b112_0, .val b146_0, .unset, .unset, .unset, .unset] [(.int v8), b146_0, b112_0, (.ref b347_0), (.ref us3), (.ref b180), (.ref b180)])) rfl (by rw [hml]; rfl) (Steps.refl _) (a := b180) (argsL := [(.ref us3), (.ref b347_0), b112_0, b146_0, (.int v8)]) (rest := [(.ref b180)]) (lenOf pd8 rfl) rfl (by show 2 * 0 + _ ≤ _; exact Nat.le_of_eq rfl) (hb hby at_93) (fun _ _ => ⟨rfl, (rfl : T347.heap = T347.heap), (by decide : 7 + 0 ≤ _), (by decide : 21 + 0 ≤ _)⟩)
    dsimp only [Pt.U, Pt.locs, Pt.cells, Pt.slots] at X387 l387 y387 z387 st387 hQ387
    subst l387 y387 z387
    obtain ⟨rfl, N387q, K387q, F387_0, F387_1, F387_2, F387_3, F387_4, F387_5⟩ := hQ387
    have F388 := F355.keep K387q
    have F389 := F373.keep K387q (ninS ne_us3_b180 nin0)
    have F390 := F379.keep K387q
    have F391 := F347_0.keep K387q
    have F392 := F347_1.keep K387q (ninS (Exa.ne F347_0 F379 (by decide)) nin0)
    have Z393 : n0 ≤ T387.heap.size := Nat.le_trans Z385 K387q.1
    have K394 : Keep h0 T387.heap [] := K386.trans K387q (allS (Or.inr sz_b180) all0)
    have N387 := Fr.app N347 N387q
    obtain ⟨v30, hv30⟩ : ∃ z : Int32, z = (if v1 = (3 : Int32) then (1 : Int32) else (0 : Int32)) := ⟨_, rfl⟩
    obtain ⟨v31, hv31⟩ : ∃ z : Int32, z = (if v1 = (2 : Int32) then (1 : Int32) else v30) := ⟨_, rfl⟩
    obtain ⟨T400, lc400, X400, N400, e400, st400⟩ := own_mrg (n0 := n0) (h := T387.heap) (g := (mkF m 101 #[.val (.int p0), .val (.int p1), .val (.int p2), .val (.int p3), .val (.int p4), .val (.int v1), .val (.int v2), .val (.int v4), .val (.int v6), .val (.int v8), .val b112_0, .val b146_0, .val (.ref b180), .unset, .unset, .unset] [(.int (2 : Int32)), (.int v1)])) (g' := (mkF m 115 #[.val (.int p0), .val (.int p1), .val (.int p2), .val (.int p3), .val (.int p4), .val (.int v1), .val (.int v2), .val (.int v4), .val (.int v6), .val (.int v8), .val b112_0, .val b146_0, .val (.ref b180), .unset, .unset, .unset] [(.int v31)])) X387 (by
      by_cases hc101_28 : v1 = (2 : Int32)
      · have hgo395 : ∀ t, Steps p.tables e below (T387.setTop (mkF m 115 #[.val (.int p0), .val (.int p1), .val (.int p2), .val (.int p3), .val (.int p4), .val (.int v1), .val (.int v2), .val (.int v4), .val (.int v6), .val (.int v8), .val b112_0, .val b146_0, .val (.ref b180), .unset, .unset, .unset] [(.int (1 : Int32))])) t → Steps p.tables e below (T387.setTop (mkF m 101 #[.val (.int p0), .val (.int p1), .val (.int p2), .val (.int p3), .val (.int p4), .val (.int v1), .val (.int v2), .val (.int v4), .val (.int v6), .val (.int v8), .val b112_0, .val b146_0, .val (.ref b180), .unset, .unset, .unset] [(.int (2 : Int32)), (.int v1)])) t := by
          intro t kt
          show Steps p.tables e below (T387.setTop (mkF m 101 #[.val (.int p0), .val (.int p1), .val (.int p2), .val (.int p3), .val (.int p4), .val (.int v1), .val (.int v2), .val (.int v4), .val (.int v6), .val (.int v8), .val b112_0, .val b146_0, .val (.ref b180), .unset, .unset, .unset] [(.int (2 : Int32)), (.int v1)])) _
          refine XS.icmpYes X387.here hx rfl (pc0 := 101) (pc' := 110) rfl (hb hby at_101) rfl (teq hc101_28).1 (by decide) (by decide) ?_
          show Steps p.tables e below (T387.setTop (mkF m 110 #[.val (.int p0), .val (.int p1), .val (.int p2), .val (.int p3), .val (.int p4), .val (.int v1), .val (.int v2), .val (.int v4), .val (.int v6), .val (.int v8), .val b112_0, .val b146_0, .val (.ref b180), .unset, .unset, .unset] [])) _
          refine XS.iconst X387.here hx rfl (hb hby at_110) ?_
          show Steps p.tables e below (T387.setTop (mkF m 111 #[.val (.int p0), .val (.int p1), .val (.int p2), .val (.int p3), .val (.int p4), .val (.int v1), .val (.int v2), .val (.int v4), .val (.int v6), .val (.int v8), .val b112_0, .val b146_0, .val (.ref b180), .unset, .unset, .unset] [(.int (1 : Int32))])) _
          refine XS.goto X387.here hx rfl (pc0 := 111) (pc' := 115) rfl (hb hby at_111) (by decide) (by decide) ?_
          exact kt
        refine own_arm hgo395 ?_
        exact own_armEnd X387 N387 (rfl : T387.heap = T387.heap) (by rw [hv31.trans (if_pos hc101_28)])
      · obtain ⟨T398, lc398, X398, N398, e398, st398⟩ := own_mrg (n0 := n0) (h := T387.heap) (g := (mkF m 107 #[.val (.int p0), .val (.int p1), .val (.int p2), .val (.int p3), .val (.int p4), .val (.int v1), .val (.int v2), .val (.int v4), .val (.int v6), .val (.int v8), .val b112_0, .val b146_0, .val (.ref b180), .unset, .unset, .unset] [(.int (3 : Int32)), (.int v1)])) (g' := (mkF m 115 #[.val (.int p0), .val (.int p1), .val (.int p2), .val (.int p3), .val (.int p4), .val (.int v1), .val (.int v2), .val (.int v4), .val (.int v6), .val (.int v8), .val b112_0, .val b146_0, .val (.ref b180), .unset, .unset, .unset] [(.int v30)])) X387 (by
          by_cases hc107_29 : v1 = (3 : Int32)
          · have hgo396 : ∀ t, Steps p.tables e below (T387.setTop (mkF m 115 #[.val (.int p0), .val (.int p1), .val (.int p2), .val (.int p3), .val (.int p4), .val (.int v1), .val (.int v2), .val (.int v4), .val (.int v6), .val (.int v8), .val b112_0, .val b146_0, .val (.ref b180), .unset, .unset, .unset] [(.int (1 : Int32))])) t → Steps p.tables e below (T387.setTop (mkF m 107 #[.val (.int p0), .val (.int p1), .val (.int p2), .val (.int p3), .val (.int p4), .val (.int v1), .val (.int v2), .val (.int v4), .val (.int v6), .val (.int v8), .val b112_0, .val b146_0, .val (.ref b180), .unset, .unset, .unset] [(.int (3 : Int32)), (.int v1)])) t := by
              intro t kt
              show Steps p.tables e below (T387.setTop (mkF m 107 #[.val (.int p0), .val (.int p1), .val (.int p2), .val (.int p3), .val (.int p4), .val (.int v1), .val (.int v2), .val (.int v4), .val (.int v6), .val (.int v8), .val b112_0, .val b146_0, .val (.ref b180), .unset, .unset, .unset] [(.int (3 : Int32)), (.int v1)])) _
              refine XS.icmpNo X387.here hx rfl (hb hby at_107) rfl (teq hc107_29).2 ?_
              show Steps p.tables e below (T387.setTop (mkF m 110 #[.val (.int p0), .val (.int p1), .val (.int p2), .val (.int p3), .val (.int p4), .val (.int v1), .val (.int v2), .val (.int v4), .val (.int v6), .val (.int v8), .val b112_0, .val b146_0, .val (.ref b180), .unset, .unset, .unset] [])) _
              refine XS.iconst X387.here hx rfl (hb hby at_110) ?_
              show Steps p.tables e below (T387.setTop (mkF m 111 #[.val (.int p0), .val (.int p1), .val (.int p2), .val (.int p3), .val (.int p4), .val (.int v1), .val (.int v2), .val (.int v4), .val (.int v6), .val (.int v8), .val b112_0, .val b146_0, .val (.ref b180), .unset, .unset, .unset] [(.int (1 : Int32))])) _
              refine XS.goto X387.here hx rfl (pc0 := 111) (pc' := 115) rfl (hb hby at_111) (by decide) (by decide) ?_
              exact kt
            refine own_arm hgo396 ?_
            exact own_armEnd X387 N387 (rfl : T387.heap = T387.heap) (by rw [hv30.trans (if_pos hc107_29)])
          · have hgo397 : ∀ t, Steps p.tables e below (T387.setTop (mkF m 115 #[.val (.int p0), .val (.int p1), .val (.int p2), .val (.int p3), .val (.int p4), .val (.int v1), .val (.int v2), .val (.int v4), .val (.int v6), .val (.int v8), .val b112_0, .val b146_0, .val (.ref b180), .unset, .unset, .unset] [(.int (0 : Int32))])) t → Steps p.tables e below (T387.setTop (mkF m 107 #[.val (.int p0), .val (.int p1), .val (.int p2), .val (.int p3), .val (.int p4), .val (.int v1), .val (.int v2), .val (.int v4), .val (.int v6), .val (.int v8), .val b112_0, .val b146_0, .val (.ref b180), .unset, .unset, .unset] [(.int (3 : Int32)), (.int v1)])) t := by
              intro t kt
              show Steps p.tables e below (T387.setTop (mkF m 107 #[.val (.int p0), .val (.int p1), .val (.int p2), .val (.int p3), .val (.int p4), .val (.int v1), .val (.int v2), .val (.int v4), .val (.int v6), .val (.int v8), .val b112_0, .val b146_0, .val (.ref b180), .unset, .unset, .unset] [(.int (3 : Int32)), (.int v1)])) _
              refine XS.icmpYes X387.here hx rfl (pc0 := 107) (pc' := 114) rfl (hb hby at_107) rfl (feq hc107_29).2 (by decide) (by decide) ?_
              show Steps p.tables e below (T387.setTop (mkF m 114 #[.val (.int p0), .val (.int p1), .val (.int p2), .val (.int p3), .val (.int p4), .val (.int v1), .val (.int v2), .val (.int v4), .val (.int v6), .val (.int v8), .val b112_0, .val b146_0, .val (.ref b180), .unset, .unset, .unset] [])) _
              refine XS.iconst X387.here hx rfl (hb hby at_114) ?_
              exact kt
            refine own_arm hgo397 ?_
            exact own_armEnd X387 N387 (rfl : T387.heap = T387.heap) (by rw [hv30.trans (if_neg hc107_29)]))
        have hgo399 : ∀ t, Steps p.tables e below (T398.setTop (mkF m 115 #[.val (.int p0), .val (.int p1), .val (.int p2), .val (.int p3), .val (.int p4), .val (.int v1), .val (.int v2), .val (.int v4), .val (.int v6), .val (.int v8), .val b112_0, .val b146_0, .val (.ref b180), .unset, .unset, .unset] [(.int v30)])) t → Steps p.tables e below (T387.setTop (mkF m 101 #[.val (.int p0), .val (.int p1), .val (.int p2), .val (.int p3), .val (.int p4), .val (.int v1), .val (.int v2), .val (.int v4), .val (.int v6), .val (.int v8), .val b112_0, .val b146_0, .val (.ref b180), .unset, .unset, .unset] [(.int (2 : Int32)), (.int v1)])) t := by
          intro t kt
          show Steps p.tables e below (T387.setTop (mkF m 101 #[.val (.int p0), .val (.int p1), .val (.int p2), .val (.int p3), .val (.int p4), .val (.int v1), .val (.int v2), .val (.int v4), .val (.int v6), .val (.int v8), .val b112_0, .val b146_0, .val (.ref b180), .unset, .unset, .unset] [(.int (2 : Int32)), (.int v1)])) _
          refine XS.icmpNo X387.here hx rfl (hb hby at_101) rfl (feq hc101_28).1 ?_
          show Steps p.tables e below (T387.setTop (mkF m 104 #[.val (.int p0), .val (.int p1), .val (.int p2), .val (.int p3), .val (.int p4), .val (.int v1), .val (.int v2), .val (.int v4), .val (.int v6), .val (.int v8), .val b112_0, .val b146_0, .val (.ref b180), .unset, .unset, .unset] [])) _
          refine XS.iload X387.here hx rfl (hb hby at_104) rfl ?_
          show Steps p.tables e below (T387.setTop (mkF m 106 #[.val (.int p0), .val (.int p1), .val (.int p2), .val (.int p3), .val (.int p4), .val (.int v1), .val (.int v2), .val (.int v4), .val (.int v6), .val (.int v8), .val b112_0, .val b146_0, .val (.ref b180), .unset, .unset, .unset] [(.int v1)])) _
          refine XS.iconst X387.here hx rfl (hb hby at_106) ?_
          show Steps p.tables e below (T387.setTop (mkF m 107 #[.val (.int p0), .val (.int p1), .val (.int p2), .val (.int p3), .val (.int p4), .val (.int v1), .val (.int v2), .val (.int v4), .val (.int v6), .val (.int v8), .val b112_0, .val b146_0, .val (.ref b180), .unset, .unset, .unset] [(.int (3 : Int32)), (.int v1)])) _
          refine st398 _ ?_
          exact kt
        refine own_arm hgo399 ?_
        exact own_armEnd X398 N398 e398 (by rw [hv31.trans (if_neg hc101_28)]))
    obtain ⟨T403, lc403, X403, N403, e403, st403⟩ := own_mrg (n0 := n0) (h := T387.heap) (g := (mkF m 138 #[.val (.int p0), .val (.int p1), .val (.int p2), .val (.int p3), .val (.int p4), .val (.int v1), .val (.int v2), .val (.int v4), .val (.int v6), .val (.int v8), .val b112_0, .val b146_0, .val (.ref b180), .val (.int v31), .val (.int (1 : Int32)), .unset] [(.int v31)])) (g' := (mkF m 151 #[.val (.int p0), .val (.int p1), .val (.int p2), .val (.int p3), .val (.int p4), .val (.int v1), .val (.int v2), .val (.int v4), .val (.int v6), .val (.int v8), .val b112_0, .val b146_0, .val (.ref b180), .val (.int v31), .val (.int (1 : Int32)), .unset] [(.int (1 : Int32))])) X400 (by
      by_cases hc138_32 : v31 = (0 : Int32)
      · have hgo401 : ∀ t, Steps p.tables e below (T400.setTop (mkF m 151 #[.val (.int p0), .val (.int p1), .val (.int p2), .val (.int p3), .val (.int p4), .val (.int v1), .val (.int v2), .val (.int v4), .val (.int v6), .val (.int v8), .val b112_0, .val b146_0, .val (.ref b180), .val (.int v31), .val (.int (1 : Int32)), .unset] [(.int (1 : Int32))])) t → Steps p.tables e below (T400.setTop (mkF m 138 #[.val (.int p0), .val (.int p1), .val (.int p2), .val (.int p3), .val (.int p4), .val (.int v1), .val (.int v2), .val (.int v4), .val (.int v6), .val (.int v8), .val b112_0, .val b146_0, .val (.ref b180), .val (.int v31), .val (.int (1 : Int32)), .unset] [(.int v31)])) t := by
          intro t kt
          show Steps p.tables e below (T400.setTop (mkF m 138 #[.val (.int p0), .val (.int p1), .val (.int p2), .val (.int p3), .val (.int p4), .val (.int v1), .val (.int v2), .val (.int v4), .val (.int v6), .val (.int v8), .val b112_0, .val b146_0, .val (.ref b180), .val (.int v31), .val (.int (1 : Int32)), .unset] [(.int v31)])) _
          refine XS.ifYes X400.here hx rfl (pc0 := 138) (pc' := 146) rfl (hb hby at_138) rfl ((if0 _ _).trans (teq hc138_32).1) (by decide) (by decide) ?_
          show Steps p.tables e below (T400.setTop (mkF m 146 #[.val (.int p0), .val (.int p1), .val (.int p2), .val (.int p3), .val (.int p4), .val (.int v1), .val (.int v2), .val (.int v4), .val (.int v6), .val (.int v8), .val b112_0, .val b146_0, .val (.ref b180), .val (.int v31), .val (.int (1 : Int32)), .unset] [])) _
          refine XS.iconst X400.here hx rfl (hb hby at_146) ?_
          show Steps p.tables e below (T400.setTop (mkF m 147 #[.val (.int p0), .val (.int p1), .val (.int p2), .val (.int p3), .val (.int p4), .val (.int v1), .val (.int v2), .val (.int v4), .val (.int v6), .val (.int v8), .val b112_0, .val b146_0, .val (.ref b180), .val (.int v31), .val (.int (1 : Int32)), .unset] [(.int (1 : Int32))])) _
          refine XS.goto X400.here hx rfl (pc0 := 147) (pc' := 151) rfl (hb hby at_147) (by decide) (by decide) ?_
          exact kt
        refine own_arm hgo401 ?_
        exact own_armEnd X400 N400 e400 rfl
      · have hgo402 : ∀ t, Steps p.tables e below (T400.setTop (mkF m 151 #[.val (.int p0), .val (.int p1), .val (.int p2), .val (.int p3), .val (.int p4), .val (.int v1), .val (.int v2), .val (.int v4), .val (.int v6), .val (.int v8), .val b112_0, .val b146_0, .val (.ref b180), .val (.int v31), .val (.int (1 : Int32)), .unset] [(.int (1 : Int32))])) t → Steps p.tables e below (T400.setTop (mkF m 138 #[.val (.int p0), .val (.int p1), .val (.int p2), .val (.int p3), .val (.int p4), .val (.int v1), .val (.int v2), .val (.int v4), .val (.int v6), .val (.int v8), .val b112_0, .val b146_0, .val (.ref b180), .val (.int v31), .val (.int (1 : Int32)), .unset] [(.int v31)])) t := by
          intro t kt
          show Steps p.tables e below (T400.setTop (mkF m 138 #[.val (.int p0), .val (.int p1), .val (.int p2), .val (.int p3), .val (.int p4), .val (.int v1), .val (.int v2), .val (.int v4), .val (.int v6), .val (.int v8), .val b112_0, .val b146_0, .val (.ref b180), .val (.int v31), .val (.int (1 : Int32)), .unset] [(.int v31)])) _
          refine XS.ifNo X400.here hx rfl (hb hby at_138) rfl ((if0 _ _).trans (feq hc138_32).1) ?_
          show Steps p.tables e below (T400.setTop (mkF m 141 #[.val (.int p0), .val (.int p1), .val (.int p2), .val (.int p3), .val (.int p4), .val (.int v1), .val (.int v2), .val (.int v4), .val (.int v6), .val (.int v8), .val b112_0, .val b146_0, .val (.ref b180), .val (.int v31), .val (.int (1 : Int32)), .unset] [])) _
          refine XS.iload X400.here hx rfl (hb hby at_141) rfl ?_
          show Steps p.tables e below (T400.setTop (mkF m 143 #[.val (.int p0), .val (.int p1), .val (.int p2), .val (.int p3), .val (.int p4), .val (.int v1), .val (.int v2), .val (.int v4), .val (.int v6), .val (.int v8), .val b112_0, .val b146_0, .val (.ref b180), .val (.int v31), .val (.int (1 : Int32)), .unset] [(.int (1 : Int32))])) _
          refine XS.ifNo X400.here hx rfl (hb hby at_143) rfl ((if0 _ _).trans (feq (by decide : ¬ ((1 : Int32) = (0 : Int32)))).1) ?_
          show Steps p.tables e below (T400.setTop (mkF m 146 #[.val (.int p0), .val (.int p1), .val (.int p2), .val (.int p3), .val (.int p4), .val (.int v1), .val (.int v2), .val (.int v4), .val (.int v6), .val (.int v8), .val b112_0, .val b146_0, .val (.ref b180), .val (.int v31), .val (.int (1 : Int32)), .unset] [])) _
          refine XS.iconst X400.here hx rfl (hb hby at_146) ?_
          show Steps p.tables e below (T400.setTop (mkF m 147 #[.val (.int p0), .val (.int p1), .val (.int p2), .val (.int p3), .val (.int p4), .val (.int v1), .val (.int v2), .val (.int v4), .val (.int v6), .val (.int v8), .val b112_0, .val b146_0, .val (.ref b180), .val (.int v31), .val (.int (1 : Int32)), .unset] [(.int (1 : Int32))])) _
          refine XS.goto X400.here hx rfl (pc0 := 147) (pc' := 151) rfl (hb hby at_147) (by decide) (by decide) ?_
          exact kt
        refine own_arm hgo402 ?_
        exact own_armEnd X400 N400 e400 rfl)
    obtain ⟨cq404, kq404, q404a, q404b, q404c⟩ := isOf hZ e403 F387_0
    obtain ⟨_, _, ⟨T404, L404, k404, n404⟩, -, X404, ⟨Lc404, hQ404, l404, y404, z404⟩, st404⟩ := X403.virtualBack hx (y := (⟨"inducere/Activation", "switchedOff", "()Z"⟩ : MethodName)) (z := (⟨"inducere/Activation", "switchedOff", "()Z"⟩ : MethodName)) hown (mvT hZ (hw _ (List.mem_of_getElem? (i := 69) rfl))) (mvT hZ (hw _ (List.mem_of_getElem? (i := 70) rfl))) (notFace_of_selects (args := #[]) (mvT hZ (hw _ (List.mem_of_getElem? (i := 72) rfl)))) (mvT hZ (hw _ (List.mem_of_getElem? (i := 72) rfl))) (mvT hZ (hw _ (List.mem_of_getElem? (i := 71) rfl))) (by decide) (backOf (W := 0) (rm12r l Z a0 hw [] b180 b347_0 (own_on v1) us3 (0 : Int32) (T387.heap) n0 Z393 F387_2 F392 F387_1 F389) hZ (hw _ (List.mem_of_getElem? (i := 73) rfl)) (hw _ (List.mem_of_getElem? (i := 37) rfl)) (by decide) (by decide)) q404a q404c (g := (mkF m 155 #[.val (.int p0), .val (.int p1), .val (.int p2), .val (.int p3), .val (.int p4), .val (.int v1), .val (.int v2), .val (.int v4), .val (.int v6), .val (.int v8), .val b112_0, .val b146_0, .val (.ref b180), .val (.int v31), .val (.int (1 : Int32)), .val (.int (1 : Int32))] [(.ref b180)])) rfl (by rw [hml]; rfl) (Steps.refl _) (argsL := []) (rest := []) (lenOf pd9 rfl) rfl (by show 2 * 0 + _ ≤ _; exact Nat.le_of_eq rfl) (hb hby at_155) (fun _ _ => ⟨rfl, e403, (by decide : 7 + 0 ≤ _), (by decide : 21 + 0 ≤ _)⟩)
    dsimp only [Pt.U, Pt.locs, Pt.cells, Pt.slots] at X404 l404 y404 z404 st404 hQ404
    subst l404 y404 z404
    obtain ⟨rfl, N404q, e404⟩ := hQ404
    have N404 := Fr.app N403 N404q
    obtain ⟨v34, hv34⟩ : ∃ z : Int32, z = (if (own_r12r (own_on v1) (0 : Int32)) = (1 : Int32) then (1 : Int32) else (0 : Int32)) := ⟨_, rfl⟩
    obtain ⟨T407, lc407, X407, N407, e407, st407⟩ := own_mrg (n0 := n0) (h := T387.heap) (g := (mkF m 160 #[.val (.int p0), .val (.int p1), .val (.int p2), .val (.int p3), .val (.int p4), .val (.int v1), .val (.int v2), .val (.int v4), .val (.int v6), .val (.int v8), .val b112_0, .val b146_0, .val (.ref b180), .val (.int v31), .val (.int (1 : Int32)), .val (.int (1 : Int32))] [(.int (1 : Int32)), (.int (own_r12r (own_on v1) (0 : Int32)))])) (g' := (mkF m 168 #[.val (.int p0), .val (.int p1), .val (.int p2), .val (.int p3), .val (.int p4), .val (.int v1), .val (.int v2), .val (.int v4), .val (.int v6), .val (.int v8), .val b112_0, .val b146_0, .val (.ref b180), .val (.int v31), .val (.int (1 : Int32)), .val (.int (1 : Int32))] [(.int v34)])) X404 (by
      by_cases hc160_33 : (own_r12r (own_on v1) (0 : Int32)) = (1 : Int32)
      · have hgo405 : ∀ t, Steps p.tables e below (T404.setTop (mkF m 168 #[.val (.int p0), .val (.int p1), .val (.int p2), .val (.int p3), .val (.int p4), .val (.int v1), .val (.int v2), .val (.int v4), .val (.int v6), .val (.int v8), .val b112_0, .val b146_0, .val (.ref b180), .val (.int v31), .val (.int (1 : Int32)), .val (.int (1 : Int32))] [(.int (1 : Int32))])) t → Steps p.tables e below (T404.setTop (mkF m 160 #[.val (.int p0), .val (.int p1), .val (.int p2), .val (.int p3), .val (.int p4), .val (.int v1), .val (.int v2), .val (.int v4), .val (.int v6), .val (.int v8), .val b112_0, .val b146_0, .val (.ref b180), .val (.int v31), .val (.int (1 : Int32)), .val (.int (1 : Int32))] [(.int (1 : Int32)), (.int (own_r12r (own_on v1) (0 : Int32)))])) t := by
          intro t kt
          show Steps p.tables e below (T404.setTop (mkF m 160 #[.val (.int p0), .val (.int p1), .val (.int p2), .val (.int p3), .val (.int p4), .val (.int v1), .val (.int v2), .val (.int v4), .val (.int v6), .val (.int v8), .val b112_0, .val b146_0, .val (.ref b180), .val (.int v31), .val (.int (1 : Int32)), .val (.int (1 : Int32))] [(.int (1 : Int32)), (.int (own_r12r (own_on v1) (0 : Int32)))])) _
          refine XS.icmpNo X404.here hx rfl (hb hby at_160) rfl (teq hc160_33).2 ?_
          show Steps p.tables e below (T404.setTop (mkF m 163 #[.val (.int p0), .val (.int p1), .val (.int p2), .val (.int p3), .val (.int p4), .val (.int v1), .val (.int v2), .val (.int v4), .val (.int v6), .val (.int v8), .val b112_0, .val b146_0, .val (.ref b180), .val (.int v31), .val (.int (1 : Int32)), .val (.int (1 : Int32))] [])) _
          refine XS.iconst X404.here hx rfl (hb hby at_163) ?_
          show Steps p.tables e below (T404.setTop (mkF m 164 #[.val (.int p0), .val (.int p1), .val (.int p2), .val (.int p3), .val (.int p4), .val (.int v1), .val (.int v2), .val (.int v4), .val (.int v6), .val (.int v8), .val b112_0, .val b146_0, .val (.ref b180), .val (.int v31), .val (.int (1 : Int32)), .val (.int (1 : Int32))] [(.int (1 : Int32))])) _
          refine XS.goto X404.here hx rfl (pc0 := 164) (pc' := 168) rfl (hb hby at_164) (by decide) (by decide) ?_
          exact kt
        refine own_arm hgo405 ?_
        exact own_armEnd X404 N404 e404 (by rw [hv34.trans (if_pos hc160_33)])
      · have hgo406 : ∀ t, Steps p.tables e below (T404.setTop (mkF m 168 #[.val (.int p0), .val (.int p1), .val (.int p2), .val (.int p3), .val (.int p4), .val (.int v1), .val (.int v2), .val (.int v4), .val (.int v6), .val (.int v8), .val b112_0, .val b146_0, .val (.ref b180), .val (.int v31), .val (.int (1 : Int32)), .val (.int (1 : Int32))] [(.int (0 : Int32))])) t → Steps p.tables e below (T404.setTop (mkF m 160 #[.val (.int p0), .val (.int p1), .val (.int p2), .val (.int p3), .val (.int p4), .val (.int v1), .val (.int v2), .val (.int v4), .val (.int v6), .val (.int v8), .val b112_0, .val b146_0, .val (.ref b180), .val (.int v31), .val (.int (1 : Int32)), .val (.int (1 : Int32))] [(.int (1 : Int32)), (.int (own_r12r (own_on v1) (0 : Int32)))])) t := by
          intro t kt
          show Steps p.tables e below (T404.setTop (mkF m 160 #[.val (.int p0), .val (.int p1), .val (.int p2), .val (.int p3), .val (.int p4), .val (.int v1), .val (.int v2), .val (.int v4), .val (.int v6), .val (.int v8), .val b112_0, .val b146_0, .val (.ref b180), .val (.int v31), .val (.int (1 : Int32)), .val (.int (1 : Int32))] [(.int (1 : Int32)), (.int (own_r12r (own_on v1) (0 : Int32)))])) _
          refine XS.icmpYes X404.here hx rfl (pc0 := 160) (pc' := 167) rfl (hb hby at_160) rfl (feq hc160_33).2 (by decide) (by decide) ?_
          show Steps p.tables e below (T404.setTop (mkF m 167 #[.val (.int p0), .val (.int p1), .val (.int p2), .val (.int p3), .val (.int p4), .val (.int v1), .val (.int v2), .val (.int v4), .val (.int v6), .val (.int v8), .val b112_0, .val b146_0, .val (.ref b180), .val (.int v31), .val (.int (1 : Int32)), .val (.int (1 : Int32))] [])) _
          refine XS.iconst X404.here hx rfl (hb hby at_167) ?_
          exact kt
        refine own_arm hgo406 ?_
        exact own_armEnd X404 N404 e404 (by rw [hv34.trans (if_neg hc160_33)]))
    have hgo408 : ∀ t, Steps p.tables e below (T407.setTop (mkF m 168 #[.val (.int p0), .val (.int p1), .val (.int p2), .val (.int p3), .val (.int p4), .val (.int v1), .val (.int v2), .val (.int v4), .val (.int v6), .val (.int v8), .val b112_0, .val b146_0, .val (.ref b180), .val (.int v31), .val (.int (1 : Int32)), .val (.int (1 : Int32))] [(.int v34)])) t → Steps p.tables e below (T180.setTop (mkF m 79 #[.val (.int p0), .val (.int p1), .val (.int p2), .val (.int p3), .val (.int p4), .val (.int v1), .val (.int v2), .val (.int v4), .val (.int v6), .val (.int v8), .val b112_0, .val b146_0, .unset, .unset, .unset, .unset] [(.int v2), (.ref b180), (.ref b180)])) t := by
      intro t kt
      show Steps p.tables e below (T180.setTop (mkF m 79 #[.val (.int p0), .val (.int p1), .val (.int p2), .val (.int p3), .val (.int p4), .val (.int v1), .val (.int v2), .val (.int v4), .val (.int v6), .val (.int v8), .val b112_0, .val b146_0, .unset, .unset, .unset, .unset] [(.int v2), (.ref b180), (.ref b180)])) _
      refine st346 _ ?_
      show Steps p.tables e below (T346.setTop (mkF m 82 #[.val (.int p0), .val (.int p1), .val (.int p2), .val (.int p3), .val (.int p4), .val (.int v1), .val (.int v2), .val (.int v4), .val (.int v6), .val (.int v8), .val b112_0, .val b146_0, .unset, .unset, .unset, .unset] [(.ref us3), (.ref b180), (.ref b180)])) _
      refine XS.iload X346.here hx rfl (hb hby at_82) rfl ?_
      show Steps p.tables e below (T346.setTop (mkF m 84 #[.val (.int p0), .val (.int p1), .val (.int p2), .val (.int p3), .val (.int p4), .val (.int v1), .val (.int v2), .val (.int v4), .val (.int v6), .val (.int v8), .val b112_0, .val b146_0, .unset, .unset, .unset, .unset] [(.int v1), (.ref us3), (.ref b180), (.ref b180)])) _
      refine st347 _ ?_
      show Steps p.tables e below (T347.setTop (mkF m 87 #[.val (.int p0), .val (.int p1), .val (.int p2), .val (.int p3), .val (.int p4), .val (.int v1), .val (.int v2), .val (.int v4), .val (.int v6), .val (.int v8), .val b112_0, .val b146_0, .unset, .unset, .unset, .unset] [(.ref b347_0), (.ref us3), (.ref b180), (.ref b180)])) _
      refine XS.aload X347.here hx rfl (hb hby at_87) rfl (F112_0) ?_
      show Steps p.tables e below (T347.setTop (mkF m 89 #[.val (.int p0), .val (.int p1), .val (.int p2), .val (.int p3), .val (.int p4), .val (.int v1), .val (.int v2), .val (.int v4), .val (.int v6), .val (.int v8), .val b112_0, .val b146_0, .unset, .unset, .unset, .unset] [b112_0, (.ref b347_0), (.ref us3), (.ref b180), (.ref b180)])) _
      refine XS.aload X347.here hx rfl (hb hby at_89) rfl (F146_0) ?_
      show Steps p.tables e below (T347.setTop (mkF m 91 #[.val (.int p0), .val (.int p1), .val (.int p2), .val (.int p3), .val (.int p4), .val (.int v1), .val (.int v2), .val (.int v4), .val (.int v6), .val (.int v8), .val b112_0, .val b146_0, .unset, .unset, .unset, .unset] [b146_0, b112_0, (.ref b347_0), (.ref us3), (.ref b180), (.ref b180)])) _
      refine XS.iload X347.here hx rfl (hb hby at_91) rfl ?_
      show Steps p.tables e below (T347.setTop (mkF m 93 #[.val (.int p0), .val (.int p1), .val (.int p2), .val (.int p3), .val (.int p4), .val (.int v1), .val (.int v2), .val (.int v4), .val (.int v6), .val (.int v8), .val b112_0, .val b146_0, .unset, .unset, .unset, .unset] [(.int v8), b146_0, b112_0, (.ref b347_0), (.ref us3), (.ref b180), (.ref b180)])) _
      refine st387.trans ?_
      show Steps p.tables e below (T387.setTop (mkF m 96 #[.val (.int p0), .val (.int p1), .val (.int p2), .val (.int p3), .val (.int p4), .val (.int v1), .val (.int v2), .val (.int v4), .val (.int v6), .val (.int v8), .val b112_0, .val b146_0, .unset, .unset, .unset, .unset] [(.ref b180)])) _
      refine XS.astore X387.here hx rfl (hb hby at_96) rfl rfl (l' := #[.val (.int p0), .val (.int p1), .val (.int p2), .val (.int p3), .val (.int p4), .val (.int v1), .val (.int v2), .val (.int v4), .val (.int v6), .val (.int v8), .val b112_0, .val b146_0, .val (.ref b180), .unset, .unset, .unset]) rfl ?_
      show Steps p.tables e below (T387.setTop (mkF m 98 #[.val (.int p0), .val (.int p1), .val (.int p2), .val (.int p3), .val (.int p4), .val (.int v1), .val (.int v2), .val (.int v4), .val (.int v6), .val (.int v8), .val b112_0, .val b146_0, .val (.ref b180), .unset, .unset, .unset] [])) _
      refine XS.iload X387.here hx rfl (hb hby at_98) rfl ?_
      show Steps p.tables e below (T387.setTop (mkF m 100 #[.val (.int p0), .val (.int p1), .val (.int p2), .val (.int p3), .val (.int p4), .val (.int v1), .val (.int v2), .val (.int v4), .val (.int v6), .val (.int v8), .val b112_0, .val b146_0, .val (.ref b180), .unset, .unset, .unset] [(.int v1)])) _
      refine XS.iconst X387.here hx rfl (hb hby at_100) ?_
      show Steps p.tables e below (T387.setTop (mkF m 101 #[.val (.int p0), .val (.int p1), .val (.int p2), .val (.int p3), .val (.int p4), .val (.int v1), .val (.int v2), .val (.int v4), .val (.int v6), .val (.int v8), .val b112_0, .val b146_0, .val (.ref b180), .unset, .unset, .unset] [(.int (2 : Int32)), (.int v1)])) _
      refine st400 _ ?_
      show Steps p.tables e below (T400.setTop (mkF m 115 #[.val (.int p0), .val (.int p1), .val (.int p2), .val (.int p3), .val (.int p4), .val (.int v1), .val (.int v2), .val (.int v4), .val (.int v6), .val (.int v8), .val b112_0, .val b146_0, .val (.ref b180), .unset, .unset, .unset] [(.int v31)])) _
      refine XS.istore X400.here hx rfl (hb hby at_115) rfl (l' := #[.val (.int p0), .val (.int p1), .val (.int p2), .val (.int p3), .val (.int p4), .val (.int v1), .val (.int v2), .val (.int v4), .val (.int v6), .val (.int v8), .val b112_0, .val b146_0, .val (.ref b180), .val (.int v31), .unset, .unset]) rfl ?_
      show Steps p.tables e below (T400.setTop (mkF m 117 #[.val (.int p0), .val (.int p1), .val (.int p2), .val (.int p3), .val (.int p4), .val (.int v1), .val (.int v2), .val (.int v4), .val (.int v6), .val (.int v8), .val b112_0, .val b146_0, .val (.ref b180), .val (.int v31), .unset, .unset] [])) _
      refine XS.iload X400.here hx rfl (hb hby at_117) rfl ?_
      show Steps p.tables e below (T400.setTop (mkF m 119 #[.val (.int p0), .val (.int p1), .val (.int p2), .val (.int p3), .val (.int p4), .val (.int v1), .val (.int v2), .val (.int v4), .val (.int v6), .val (.int v8), .val b112_0, .val b146_0, .val (.ref b180), .val (.int v31), .unset, .unset] [(.int v2)])) _
      refine XS.iconst X400.here hx rfl (hb hby at_119) ?_
      show Steps p.tables e below (T400.setTop (mkF m 120 #[.val (.int p0), .val (.int p1), .val (.int p2), .val (.int p3), .val (.int p4), .val (.int v1), .val (.int v2), .val (.int v4), .val (.int v6), .val (.int v8), .val b112_0, .val b146_0, .val (.ref b180), .val (.int v31), .unset, .unset] [(.int (2 : Int32)), (.int v2)])) _
      refine XS.icmpYes X400.here hx rfl (pc0 := 120) (pc' := 129) rfl (hb hby at_120) rfl (teq hs79_27).1 (by decide) (by decide) ?_
      show Steps p.tables e below (T400.setTop (mkF m 129 #[.val (.int p0), .val (.int p1), .val (.int p2), .val (.int p3), .val (.int p4), .val (.int v1), .val (.int v2), .val (.int v4), .val (.int v6), .val (.int v8), .val b112_0, .val b146_0, .val (.ref b180), .val (.int v31), .unset, .unset] [])) _
      refine XS.iconst X400.here hx rfl (hb hby at_129) ?_
      show Steps p.tables e below (T400.setTop (mkF m 130 #[.val (.int p0), .val (.int p1), .val (.int p2), .val (.int p3), .val (.int p4), .val (.int v1), .val (.int v2), .val (.int v4), .val (.int v6), .val (.int v8), .val b112_0, .val b146_0, .val (.ref b180), .val (.int v31), .unset, .unset] [(.int (1 : Int32))])) _
      refine XS.goto X400.here hx rfl (pc0 := 130) (pc' := 134) rfl (hb hby at_130) (by decide) (by decide) ?_
      show Steps p.tables e below (T400.setTop (mkF m 134 #[.val (.int p0), .val (.int p1), .val (.int p2), .val (.int p3), .val (.int p4), .val (.int v1), .val (.int v2), .val (.int v4), .val (.int v6), .val (.int v8), .val b112_0, .val b146_0, .val (.ref b180), .val (.int v31), .unset, .unset] [(.int (1 : Int32))])) _
      refine XS.istore X400.here hx rfl (hb hby at_134) rfl (l' := #[.val (.int p0), .val (.int p1), .val (.int p2), .val (.int p3), .val (.int p4), .val (.int v1), .val (.int v2), .val (.int v4), .val (.int v6), .val (.int v8), .val b112_0, .val b146_0, .val (.ref b180), .val (.int v31), .val (.int (1 : Int32)), .unset]) rfl ?_
      show Steps p.tables e below (T400.setTop (mkF m 136 #[.val (.int p0), .val (.int p1), .val (.int p2), .val (.int p3), .val (.int p4), .val (.int v1), .val (.int v2), .val (.int v4), .val (.int v6), .val (.int v8), .val b112_0, .val b146_0, .val (.ref b180), .val (.int v31), .val (.int (1 : Int32)), .unset] [])) _
      refine XS.iload X400.here hx rfl (hb hby at_136) rfl ?_
      show Steps p.tables e below (T400.setTop (mkF m 138 #[.val (.int p0), .val (.int p1), .val (.int p2), .val (.int p3), .val (.int p4), .val (.int v1), .val (.int v2), .val (.int v4), .val (.int v6), .val (.int v8), .val b112_0, .val b146_0, .val (.ref b180), .val (.int v31), .val (.int (1 : Int32)), .unset] [(.int v31)])) _
      refine st403 _ ?_
      show Steps p.tables e below (T403.setTop (mkF m 151 #[.val (.int p0), .val (.int p1), .val (.int p2), .val (.int p3), .val (.int p4), .val (.int v1), .val (.int v2), .val (.int v4), .val (.int v6), .val (.int v8), .val b112_0, .val b146_0, .val (.ref b180), .val (.int v31), .val (.int (1 : Int32)), .unset] [(.int (1 : Int32))])) _
      refine XS.istore X403.here hx rfl (hb hby at_151) rfl (l' := #[.val (.int p0), .val (.int p1), .val (.int p2), .val (.int p3), .val (.int p4), .val (.int v1), .val (.int v2), .val (.int v4), .val (.int v6), .val (.int v8), .val b112_0, .val b146_0, .val (.ref b180), .val (.int v31), .val (.int (1 : Int32)), .val (.int (1 : Int32))]) rfl ?_
      show Steps p.tables e below (T403.setTop (mkF m 153 #[.val (.int p0), .val (.int p1), .val (.int p2), .val (.int p3), .val (.int p4), .val (.int v1), .val (.int v2), .val (.int v4), .val (.int v6), .val (.int v8), .val b112_0, .val b146_0, .val (.ref b180), .val (.int v31), .val (.int (1 : Int32)), .val (.int (1 : Int32))] [])) _
      refine XS.aload X403.here hx rfl (hb hby at_153) rfl rfl ?_
      show Steps p.tables e below (T403.setTop (mkF m 155 #[.val (.int p0), .val (.int p1), .val (.int p2), .val (.int p3), .val (.int p4), .val (.int v1), .val (.int v2), .val (.int v4), .val (.int v6), .val (.int v8), .val b112_0, .val b146_0, .val (.ref b180), .val (.int v31), .val (.int (1 : Int32)), .val (.int (1 : Int32))] [(.ref b180)])) _
      refine st404.trans ?_
      show Steps p.tables e below (T404.setTop (mkF m 158 #[.val (.int p0), .val (.int p1), .val (.int p2), .val (.int p3), .val (.int p4), .val (.int v1), .val (.int v2), .val (.int v4), .val (.int v6), .val (.int v8), .val b112_0, .val b146_0, .val (.ref b180), .val (.int v31), .val (.int (1 : Int32)), .val (.int (1 : Int32))] [(.int (own_r12r (own_on v1) (0 : Int32)))])) _
      refine XS.iload X404.here hx rfl (hb hby at_158) rfl ?_
      show Steps p.tables e below (T404.setTop (mkF m 160 #[.val (.int p0), .val (.int p1), .val (.int p2), .val (.int p3), .val (.int p4), .val (.int v1), .val (.int v2), .val (.int v4), .val (.int v6), .val (.int v8), .val b112_0, .val b146_0, .val (.ref b180), .val (.int v31), .val (.int (1 : Int32)), .val (.int (1 : Int32))] [(.int (1 : Int32)), (.int (own_r12r (own_on v1) (0 : Int32)))])) _
      refine st407 _ ?_
      exact kt
    refine own_go hgo408 ?_
    have hz409 : v34 = 1 := own_leaf2 (p0 := p0) (p1 := p1) (p2 := p2) (p3 := p3) (p4 := p4) (us0 := us0) (us1 := us1) (us2 := us2) (us3 := us3) (us4 := us4) (us5 := us5) (us6 := us6) (us7 := us7) (us8 := us8) (us9 := us9) (ucs := ucs) hv1 hv2 hv4 hv6 hv8 hv30 hv31 hv34 hs79_9 hs79_18 hs79_27
    exact own_retZ X407 hx Bd.returns Bd.notSynchronized (hb hby at_168) (by decide) (by decide) (Or.inr hz409) ⟨by rw [hz409], N407⟩
  · obtain ⟨_, _, ⟨T410, L410, k410, n410⟩, -, X410, ⟨Lc410, hQ410, l410, y410, z410⟩, st410⟩ := Jvm.LawKit.callS X180 hx (y := (⟨"inducere/ActivationSwitchedOffPinLaw", "status", "(I)Linducere/Activation$Status;"⟩ : MethodName)) hown (mvT hZ (hw _ (List.mem_of_getElem? (i := 38) rfl))) (mvT hZ (hw _ (List.mem_of_getElem? (i := 39) rfl))) (mvT hZ (hw _ (List.mem_of_getElem? (i := 3) rfl))) (mvT hZ (hw _ (List.mem_of_getElem? (i := 40) rfl))) (by decide) (backOf (W := 2) (rm8_3 l Z a0 hw [] v2 us0 h180 n0 Z212 (by first | assumption | decide : ¬ (v2 = (0 : Int32))) (by first | assumption | decide : ¬ (v2 = (1 : Int32))) (by first | assumption | decide : ¬ (v2 = (2 : Int32))) F181) hZ (hw _ (List.mem_of_getElem? (i := 40) rfl)) (hw _ (List.mem_of_getElem? (i := 3) rfl)) (by decide) (by decide)) (g := (mkF m 79 #[.val (.int p0), .val (.int p1), .val (.int p2), .val (.int p3), .val (.int p4), .val (.int v1), .val (.int v2), .val (.int v4), .val (.int v6), .val (.int v8), .val b112_0, .val b146_0, .unset, .unset, .unset, .unset] [(.int v2), (.ref b180), (.ref b180)])) rfl (by rw [hml]; rfl) (argsL := [(.int v2)]) (rest := [(.ref b180), (.ref b180)]) (lenOf pd6 rfl) rfl (by show 2 * 0 + _ ≤ _; exact Nat.le_of_eq rfl) (hb hby at_79) (fun _ _ => ⟨rfl, e180, (by decide : 7 + 0 ≤ _), (by decide : 21 + 0 ≤ _)⟩)
    dsimp only [Pt.U, Pt.locs, Pt.cells, Pt.slots] at X410 l410 y410 z410 st410 hQ410
    subst l410 y410 z410
    obtain ⟨rfl, N410q, e410⟩ := hQ410
    have N410 := Fr.app N146 N410q
    obtain ⟨_, _, ⟨T411, L411, k411, n411⟩, -, X411, ⟨Lc411, hQ411, l411, y411, z411⟩, st411⟩ := Jvm.LawKit.callS X410 hx (y := (⟨"inducere/ActivationSwitchedOffPinLaw", "life", "(I)Linducere/Activation$Lifecycle;"⟩ : MethodName)) hown (mvT hZ (hw _ (List.mem_of_getElem? (i := 44) rfl))) (mvT hZ (hw _ (List.mem_of_getElem? (i := 45) rfl))) (mvT hZ (hw _ (List.mem_of_getElem? (i := 3) rfl))) (mvT hZ (hw _ (List.mem_of_getElem? (i := 46) rfl))) (by decide) (backOf (W := 3) (rm9 l Z a0 hw [] v1 us1 us2 us4 us5 us7 us8 us9 h180 n0 Z212 F183 F184 F185 F186 F189 F190 F191 F192 F195 F196 F197 F198 F199 F200 F201 F202 F203 F205 F207 F208 F210) hZ (hw _ (List.mem_of_getElem? (i := 46) rfl)) (hw _ (List.mem_of_getElem? (i := 3) rfl)) (by decide) (by decide)) (g := (mkF m 84 #[.val (.int p0), .val (.int p1), .val (.int p2), .val (.int p3), .val (.int p4), .val (.int v1), .val (.int v2), .val (.int v4), .val (.int v6), .val (.int v8), .val b112_0, .val b146_0, .unset, .unset, .unset, .unset] [(.int v1), (.ref us0), (.ref b180), (.ref b180)])) rfl (by rw [hml]; rfl) (argsL := [(.int v1)]) (rest := [(.ref us0), (.ref b180), (.ref b180)]) (lenOf pd7 rfl) rfl (by show 2 * 0 + _ ≤ _; exact Nat.le_of_eq rfl) (hb hby at_84) (fun _ _ => ⟨rfl, e410, (by decide : 7 + 0 ≤ _), (by decide : 21 + 0 ≤ _)⟩)
    dsimp only [Pt.U, Pt.locs, Pt.cells, Pt.slots] at X411 l411 y411 z411 st411 hQ411
    subst l411 y411 z411
    obtain ⟨b411_0, rfl, N411q, K411q, F411_0, F411_1⟩ := hQ411
    have F412 := own_staKeep F181 K411q all0
    have F413 := F182.keep K411q
    have F414 := own_staKeep F183 K411q all0
    have F415 := F184.keep K411q
    have F416 := own_staKeep F185 K411q all0
    have F417 := F186.keep K411q
    have F418 := own_staKeep F187 K411q all0
    have F419 := F188.keep K411q
    have F420 := own_staKeep F189 K411q all0
    have F421 := F190.keep K411q
    have F422 := own_staKeep F191 K411q all0
    have F423 := F192.keep K411q
    have F424 := own_staKeep F193 K411q all0
    have F425 := F194.keep K411q
    have F426 := own_staKeep F195 K411q all0
    have F427 := F196.keep K411q
    have F428 := own_staKeep F197 K411q all0
    have F429 := F198.keep K411q
    have F430 := own_staKeep F199 K411q all0
    have F431 := F200.keep K411q
    have F432 := F201.keep K411q nin0
    have F433 := F202.keep K411q nin0
    have F434 := F203.keep K411q nin0
    have F435 := F204.keep K411q nin0
    have F436 := F205.keep K411q nin0
    have F437 := F206.keep K411q nin0
    have F438 := F207.keep K411q nin0
    have F439 := F208.keep K411q nin0
    have F440 := F209.keep K411q nin0
    have F441 := F210.keep K411q nin0
    have F442 := own_staKeep F211 K411q all0
    have F443 := A180.keep K411q
    have F444 := F214.keep K411q nin0
    have F445 := F215.keep K411q nin0
    have F446 := F216.keep K411q nin0
    have F447 := F217.keep K411q nin0
    have F448 := F218.keep K411q nin0
    have Z449 : n0 ≤ T411.heap.size := Nat.le_trans Z212 K411q.1
    have K450 : Keep h0 T411.heap [] := K213.trans K411q all0
    have N411 := Fr.app N410 N411q
    obtain ⟨_, _, ⟨T451, L451, k451, n451⟩, -, X451, ⟨Lc451, hQ451, l451, y451, z451⟩, st451⟩ := X411.specialBack hx (y := (⟨"inducere/Activation", "<init>", "(Linducere/Activation$Status;Linducere/Activation$Lifecycle;Ljava/lang/String;Ljava/lang/String;Z)V"⟩ : MethodName)) rfl hown (mvT hZ (hw _ (List.mem_of_getElem? (i := 50) rfl))) (mvT hZ (hw _ (List.mem_of_getElem? (i := 51) rfl))) (mvT hZ (hw _ (List.mem_of_getElem? (i := 52) rfl))) (by decide) (backOf (W := 1) (rm10 l Z a0 hw [] b180 (.ref us0) b411_0 b112_0 b146_0 v8 .null .null .null .null (0 : Int32) (T411.heap) n0 Z449 rfl F112_0 F146_0 F443 F444 F445 F446 F447 F448 g_b180) hZ (hw _ (List.mem_of_getElem? (i := 52) rfl)) (hw _ (List.mem_of_getElem? (i := 37) rfl)) (by decide) (by decide)) (g := (mkF m 93 #[.val (.int p0), .val (.int p1), .val (.int p2), .val (.int p3), .val (.int p4), .val (.int v1), .val (.int v2), .val (.int v4), .val (.int v6), .val (.int v8), .val b112_0, .val b146_0, .unset, .unset, .unset, .unset] [(.int v8), b146_0, b112_0, (.ref b411_0), (.ref us0), (.ref b180), (.ref b180)])) rfl (by rw [hml]; rfl) (Steps.refl _) (a := b180) (argsL := [(.ref us0), (.ref b411_0), b112_0, b146_0, (.int v8)]) (rest := [(.ref b180)]) (lenOf pd8 rfl) rfl (by show 2 * 0 + _ ≤ _; exact Nat.le_of_eq rfl) (hb hby at_93) (fun _ _ => ⟨rfl, (rfl : T411.heap = T411.heap), (by decide : 7 + 0 ≤ _), (by decide : 21 + 0 ≤ _)⟩)
    dsimp only [Pt.U, Pt.locs, Pt.cells, Pt.slots] at X451 l451 y451 z451 st451 hQ451
    subst l451 y451 z451
    obtain ⟨rfl, N451q, K451q, F451_0, F451_1, F451_2, F451_3, F451_4, F451_5⟩ := hQ451
    have F452 := F413.keep K451q
    have F453 := F435.keep K451q (ninS ne_us0_b180 nin0)
    have F454 := F443.keep K451q
    have F455 := F411_0.keep K451q
    have F456 := F411_1.keep K451q (ninS (Exa.ne F411_0 F443 (by decide)) nin0)
    have Z457 : n0 ≤ T451.heap.size := Nat.le_trans Z449 K451q.1
    have K458 : Keep h0 T451.heap [] := K450.trans K451q (allS (Or.inr sz_b180) all0)
    have N451 := Fr.app N411 N451q
    obtain ⟨v37, hv37⟩ : ∃ z : Int32, z = (if v1 = (3 : Int32) then (1 : Int32) else (0 : Int32)) := ⟨_, rfl⟩
    obtain ⟨v38, hv38⟩ : ∃ z : Int32, z = (if v1 = (2 : Int32) then (1 : Int32) else v37) := ⟨_, rfl⟩
    obtain ⟨T464, lc464, X464, N464, e464, st464⟩ := own_mrg (n0 := n0) (h := T451.heap) (g := (mkF m 101 #[.val (.int p0), .val (.int p1), .val (.int p2), .val (.int p3), .val (.int p4), .val (.int v1), .val (.int v2), .val (.int v4), .val (.int v6), .val (.int v8), .val b112_0, .val b146_0, .val (.ref b180), .unset, .unset, .unset] [(.int (2 : Int32)), (.int v1)])) (g' := (mkF m 115 #[.val (.int p0), .val (.int p1), .val (.int p2), .val (.int p3), .val (.int p4), .val (.int v1), .val (.int v2), .val (.int v4), .val (.int v6), .val (.int v8), .val b112_0, .val b146_0, .val (.ref b180), .unset, .unset, .unset] [(.int v38)])) X451 (by
      by_cases hc101_35 : v1 = (2 : Int32)
      · have hgo459 : ∀ t, Steps p.tables e below (T451.setTop (mkF m 115 #[.val (.int p0), .val (.int p1), .val (.int p2), .val (.int p3), .val (.int p4), .val (.int v1), .val (.int v2), .val (.int v4), .val (.int v6), .val (.int v8), .val b112_0, .val b146_0, .val (.ref b180), .unset, .unset, .unset] [(.int (1 : Int32))])) t → Steps p.tables e below (T451.setTop (mkF m 101 #[.val (.int p0), .val (.int p1), .val (.int p2), .val (.int p3), .val (.int p4), .val (.int v1), .val (.int v2), .val (.int v4), .val (.int v6), .val (.int v8), .val b112_0, .val b146_0, .val (.ref b180), .unset, .unset, .unset] [(.int (2 : Int32)), (.int v1)])) t := by
          intro t kt
          show Steps p.tables e below (T451.setTop (mkF m 101 #[.val (.int p0), .val (.int p1), .val (.int p2), .val (.int p3), .val (.int p4), .val (.int v1), .val (.int v2), .val (.int v4), .val (.int v6), .val (.int v8), .val b112_0, .val b146_0, .val (.ref b180), .unset, .unset, .unset] [(.int (2 : Int32)), (.int v1)])) _
          refine XS.icmpYes X451.here hx rfl (pc0 := 101) (pc' := 110) rfl (hb hby at_101) rfl (teq hc101_35).1 (by decide) (by decide) ?_
          show Steps p.tables e below (T451.setTop (mkF m 110 #[.val (.int p0), .val (.int p1), .val (.int p2), .val (.int p3), .val (.int p4), .val (.int v1), .val (.int v2), .val (.int v4), .val (.int v6), .val (.int v8), .val b112_0, .val b146_0, .val (.ref b180), .unset, .unset, .unset] [])) _
          refine XS.iconst X451.here hx rfl (hb hby at_110) ?_
          show Steps p.tables e below (T451.setTop (mkF m 111 #[.val (.int p0), .val (.int p1), .val (.int p2), .val (.int p3), .val (.int p4), .val (.int v1), .val (.int v2), .val (.int v4), .val (.int v6), .val (.int v8), .val b112_0, .val b146_0, .val (.ref b180), .unset, .unset, .unset] [(.int (1 : Int32))])) _
          refine XS.goto X451.here hx rfl (pc0 := 111) (pc' := 115) rfl (hb hby at_111) (by decide) (by decide) ?_
          exact kt
        refine own_arm hgo459 ?_
        exact own_armEnd X451 N451 (rfl : T451.heap = T451.heap) (by rw [hv38.trans (if_pos hc101_35)])
      · obtain ⟨T462, lc462, X462, N462, e462, st462⟩ := own_mrg (n0 := n0) (h := T451.heap) (g := (mkF m 107 #[.val (.int p0), .val (.int p1), .val (.int p2), .val (.int p3), .val (.int p4), .val (.int v1), .val (.int v2), .val (.int v4), .val (.int v6), .val (.int v8), .val b112_0, .val b146_0, .val (.ref b180), .unset, .unset, .unset] [(.int (3 : Int32)), (.int v1)])) (g' := (mkF m 115 #[.val (.int p0), .val (.int p1), .val (.int p2), .val (.int p3), .val (.int p4), .val (.int v1), .val (.int v2), .val (.int v4), .val (.int v6), .val (.int v8), .val b112_0, .val b146_0, .val (.ref b180), .unset, .unset, .unset] [(.int v37)])) X451 (by
          by_cases hc107_36 : v1 = (3 : Int32)
          · have hgo460 : ∀ t, Steps p.tables e below (T451.setTop (mkF m 115 #[.val (.int p0), .val (.int p1), .val (.int p2), .val (.int p3), .val (.int p4), .val (.int v1), .val (.int v2), .val (.int v4), .val (.int v6), .val (.int v8), .val b112_0, .val b146_0, .val (.ref b180), .unset, .unset, .unset] [(.int (1 : Int32))])) t → Steps p.tables e below (T451.setTop (mkF m 107 #[.val (.int p0), .val (.int p1), .val (.int p2), .val (.int p3), .val (.int p4), .val (.int v1), .val (.int v2), .val (.int v4), .val (.int v6), .val (.int v8), .val b112_0, .val b146_0, .val (.ref b180), .unset, .unset, .unset] [(.int (3 : Int32)), (.int v1)])) t := by
              intro t kt
              show Steps p.tables e below (T451.setTop (mkF m 107 #[.val (.int p0), .val (.int p1), .val (.int p2), .val (.int p3), .val (.int p4), .val (.int v1), .val (.int v2), .val (.int v4), .val (.int v6), .val (.int v8), .val b112_0, .val b146_0, .val (.ref b180), .unset, .unset, .unset] [(.int (3 : Int32)), (.int v1)])) _
              refine XS.icmpNo X451.here hx rfl (hb hby at_107) rfl (teq hc107_36).2 ?_
              show Steps p.tables e below (T451.setTop (mkF m 110 #[.val (.int p0), .val (.int p1), .val (.int p2), .val (.int p3), .val (.int p4), .val (.int v1), .val (.int v2), .val (.int v4), .val (.int v6), .val (.int v8), .val b112_0, .val b146_0, .val (.ref b180), .unset, .unset, .unset] [])) _
              refine XS.iconst X451.here hx rfl (hb hby at_110) ?_
              show Steps p.tables e below (T451.setTop (mkF m 111 #[.val (.int p0), .val (.int p1), .val (.int p2), .val (.int p3), .val (.int p4), .val (.int v1), .val (.int v2), .val (.int v4), .val (.int v6), .val (.int v8), .val b112_0, .val b146_0, .val (.ref b180), .unset, .unset, .unset] [(.int (1 : Int32))])) _
              refine XS.goto X451.here hx rfl (pc0 := 111) (pc' := 115) rfl (hb hby at_111) (by decide) (by decide) ?_
              exact kt
            refine own_arm hgo460 ?_
            exact own_armEnd X451 N451 (rfl : T451.heap = T451.heap) (by rw [hv37.trans (if_pos hc107_36)])
          · have hgo461 : ∀ t, Steps p.tables e below (T451.setTop (mkF m 115 #[.val (.int p0), .val (.int p1), .val (.int p2), .val (.int p3), .val (.int p4), .val (.int v1), .val (.int v2), .val (.int v4), .val (.int v6), .val (.int v8), .val b112_0, .val b146_0, .val (.ref b180), .unset, .unset, .unset] [(.int (0 : Int32))])) t → Steps p.tables e below (T451.setTop (mkF m 107 #[.val (.int p0), .val (.int p1), .val (.int p2), .val (.int p3), .val (.int p4), .val (.int v1), .val (.int v2), .val (.int v4), .val (.int v6), .val (.int v8), .val b112_0, .val b146_0, .val (.ref b180), .unset, .unset, .unset] [(.int (3 : Int32)), (.int v1)])) t := by
              intro t kt
              show Steps p.tables e below (T451.setTop (mkF m 107 #[.val (.int p0), .val (.int p1), .val (.int p2), .val (.int p3), .val (.int p4), .val (.int v1), .val (.int v2), .val (.int v4), .val (.int v6), .val (.int v8), .val b112_0, .val b146_0, .val (.ref b180), .unset, .unset, .unset] [(.int (3 : Int32)), (.int v1)])) _
              refine XS.icmpYes X451.here hx rfl (pc0 := 107) (pc' := 114) rfl (hb hby at_107) rfl (feq hc107_36).2 (by decide) (by decide) ?_
              show Steps p.tables e below (T451.setTop (mkF m 114 #[.val (.int p0), .val (.int p1), .val (.int p2), .val (.int p3), .val (.int p4), .val (.int v1), .val (.int v2), .val (.int v4), .val (.int v6), .val (.int v8), .val b112_0, .val b146_0, .val (.ref b180), .unset, .unset, .unset] [])) _
              refine XS.iconst X451.here hx rfl (hb hby at_114) ?_
              exact kt
            refine own_arm hgo461 ?_
            exact own_armEnd X451 N451 (rfl : T451.heap = T451.heap) (by rw [hv37.trans (if_neg hc107_36)]))
        have hgo463 : ∀ t, Steps p.tables e below (T462.setTop (mkF m 115 #[.val (.int p0), .val (.int p1), .val (.int p2), .val (.int p3), .val (.int p4), .val (.int v1), .val (.int v2), .val (.int v4), .val (.int v6), .val (.int v8), .val b112_0, .val b146_0, .val (.ref b180), .unset, .unset, .unset] [(.int v37)])) t → Steps p.tables e below (T451.setTop (mkF m 101 #[.val (.int p0), .val (.int p1), .val (.int p2), .val (.int p3), .val (.int p4), .val (.int v1), .val (.int v2), .val (.int v4), .val (.int v6), .val (.int v8), .val b112_0, .val b146_0, .val (.ref b180), .unset, .unset, .unset] [(.int (2 : Int32)), (.int v1)])) t := by
          intro t kt
          show Steps p.tables e below (T451.setTop (mkF m 101 #[.val (.int p0), .val (.int p1), .val (.int p2), .val (.int p3), .val (.int p4), .val (.int v1), .val (.int v2), .val (.int v4), .val (.int v6), .val (.int v8), .val b112_0, .val b146_0, .val (.ref b180), .unset, .unset, .unset] [(.int (2 : Int32)), (.int v1)])) _
          refine XS.icmpNo X451.here hx rfl (hb hby at_101) rfl (feq hc101_35).1 ?_
          show Steps p.tables e below (T451.setTop (mkF m 104 #[.val (.int p0), .val (.int p1), .val (.int p2), .val (.int p3), .val (.int p4), .val (.int v1), .val (.int v2), .val (.int v4), .val (.int v6), .val (.int v8), .val b112_0, .val b146_0, .val (.ref b180), .unset, .unset, .unset] [])) _
          refine XS.iload X451.here hx rfl (hb hby at_104) rfl ?_
          show Steps p.tables e below (T451.setTop (mkF m 106 #[.val (.int p0), .val (.int p1), .val (.int p2), .val (.int p3), .val (.int p4), .val (.int v1), .val (.int v2), .val (.int v4), .val (.int v6), .val (.int v8), .val b112_0, .val b146_0, .val (.ref b180), .unset, .unset, .unset] [(.int v1)])) _
          refine XS.iconst X451.here hx rfl (hb hby at_106) ?_
          show Steps p.tables e below (T451.setTop (mkF m 107 #[.val (.int p0), .val (.int p1), .val (.int p2), .val (.int p3), .val (.int p4), .val (.int v1), .val (.int v2), .val (.int v4), .val (.int v6), .val (.int v8), .val b112_0, .val b146_0, .val (.ref b180), .unset, .unset, .unset] [(.int (3 : Int32)), (.int v1)])) _
          refine st462 _ ?_
          exact kt
        refine own_arm hgo463 ?_
        exact own_armEnd X462 N462 e462 (by rw [hv38.trans (if_neg hc101_35)]))
    obtain ⟨v40, hv40⟩ : ∃ z : Int32, z = (if v2 = (3 : Int32) then (1 : Int32) else (0 : Int32)) := ⟨_, rfl⟩
    obtain ⟨T467, lc467, X467, N467, e467, st467⟩ := own_mrg (n0 := n0) (h := T451.heap) (g := (mkF m 126 #[.val (.int p0), .val (.int p1), .val (.int p2), .val (.int p3), .val (.int p4), .val (.int v1), .val (.int v2), .val (.int v4), .val (.int v6), .val (.int v8), .val b112_0, .val b146_0, .val (.ref b180), .val (.int v38), .unset, .unset] [(.int (3 : Int32)), (.int v2)])) (g' := (mkF m 134 #[.val (.int p0), .val (.int p1), .val (.int p2), .val (.int p3), .val (.int p4), .val (.int v1), .val (.int v2), .val (.int v4), .val (.int v6), .val (.int v8), .val b112_0, .val b146_0, .val (.ref b180), .val (.int v38), .unset, .unset] [(.int v40)])) X464 (by
      by_cases hc126_39 : v2 = (3 : Int32)
      · have hgo465 : ∀ t, Steps p.tables e below (T464.setTop (mkF m 134 #[.val (.int p0), .val (.int p1), .val (.int p2), .val (.int p3), .val (.int p4), .val (.int v1), .val (.int v2), .val (.int v4), .val (.int v6), .val (.int v8), .val b112_0, .val b146_0, .val (.ref b180), .val (.int v38), .unset, .unset] [(.int (1 : Int32))])) t → Steps p.tables e below (T464.setTop (mkF m 126 #[.val (.int p0), .val (.int p1), .val (.int p2), .val (.int p3), .val (.int p4), .val (.int v1), .val (.int v2), .val (.int v4), .val (.int v6), .val (.int v8), .val b112_0, .val b146_0, .val (.ref b180), .val (.int v38), .unset, .unset] [(.int (3 : Int32)), (.int v2)])) t := by
          intro t kt
          show Steps p.tables e below (T464.setTop (mkF m 126 #[.val (.int p0), .val (.int p1), .val (.int p2), .val (.int p3), .val (.int p4), .val (.int v1), .val (.int v2), .val (.int v4), .val (.int v6), .val (.int v8), .val b112_0, .val b146_0, .val (.ref b180), .val (.int v38), .unset, .unset] [(.int (3 : Int32)), (.int v2)])) _
          refine XS.icmpNo X464.here hx rfl (hb hby at_126) rfl (teq hc126_39).2 ?_
          show Steps p.tables e below (T464.setTop (mkF m 129 #[.val (.int p0), .val (.int p1), .val (.int p2), .val (.int p3), .val (.int p4), .val (.int v1), .val (.int v2), .val (.int v4), .val (.int v6), .val (.int v8), .val b112_0, .val b146_0, .val (.ref b180), .val (.int v38), .unset, .unset] [])) _
          refine XS.iconst X464.here hx rfl (hb hby at_129) ?_
          show Steps p.tables e below (T464.setTop (mkF m 130 #[.val (.int p0), .val (.int p1), .val (.int p2), .val (.int p3), .val (.int p4), .val (.int v1), .val (.int v2), .val (.int v4), .val (.int v6), .val (.int v8), .val b112_0, .val b146_0, .val (.ref b180), .val (.int v38), .unset, .unset] [(.int (1 : Int32))])) _
          refine XS.goto X464.here hx rfl (pc0 := 130) (pc' := 134) rfl (hb hby at_130) (by decide) (by decide) ?_
          exact kt
        refine own_arm hgo465 ?_
        exact own_armEnd X464 N464 e464 (by rw [hv40.trans (if_pos hc126_39)])
      · have hgo466 : ∀ t, Steps p.tables e below (T464.setTop (mkF m 134 #[.val (.int p0), .val (.int p1), .val (.int p2), .val (.int p3), .val (.int p4), .val (.int v1), .val (.int v2), .val (.int v4), .val (.int v6), .val (.int v8), .val b112_0, .val b146_0, .val (.ref b180), .val (.int v38), .unset, .unset] [(.int (0 : Int32))])) t → Steps p.tables e below (T464.setTop (mkF m 126 #[.val (.int p0), .val (.int p1), .val (.int p2), .val (.int p3), .val (.int p4), .val (.int v1), .val (.int v2), .val (.int v4), .val (.int v6), .val (.int v8), .val b112_0, .val b146_0, .val (.ref b180), .val (.int v38), .unset, .unset] [(.int (3 : Int32)), (.int v2)])) t := by
          intro t kt
          show Steps p.tables e below (T464.setTop (mkF m 126 #[.val (.int p0), .val (.int p1), .val (.int p2), .val (.int p3), .val (.int p4), .val (.int v1), .val (.int v2), .val (.int v4), .val (.int v6), .val (.int v8), .val b112_0, .val b146_0, .val (.ref b180), .val (.int v38), .unset, .unset] [(.int (3 : Int32)), (.int v2)])) _
          refine XS.icmpYes X464.here hx rfl (pc0 := 126) (pc' := 133) rfl (hb hby at_126) rfl (feq hc126_39).2 (by decide) (by decide) ?_
          show Steps p.tables e below (T464.setTop (mkF m 133 #[.val (.int p0), .val (.int p1), .val (.int p2), .val (.int p3), .val (.int p4), .val (.int v1), .val (.int v2), .val (.int v4), .val (.int v6), .val (.int v8), .val b112_0, .val b146_0, .val (.ref b180), .val (.int v38), .unset, .unset] [])) _
          refine XS.iconst X464.here hx rfl (hb hby at_133) ?_
          exact kt
        refine own_arm hgo466 ?_
        exact own_armEnd X464 N464 e464 (by rw [hv40.trans (if_neg hc126_39)]))
    obtain ⟨v43, hv43⟩ : ∃ z : Int32, z = (if v40 = (0 : Int32) then (0 : Int32) else (1 : Int32)) := ⟨_, rfl⟩
    obtain ⟨v44, hv44⟩ : ∃ z : Int32, z = (if v38 = (0 : Int32) then (1 : Int32) else v43) := ⟨_, rfl⟩
    obtain ⟨T473, lc473, X473, N473, e473, st473⟩ := own_mrg (n0 := n0) (h := T451.heap) (g := (mkF m 138 #[.val (.int p0), .val (.int p1), .val (.int p2), .val (.int p3), .val (.int p4), .val (.int v1), .val (.int v2), .val (.int v4), .val (.int v6), .val (.int v8), .val b112_0, .val b146_0, .val (.ref b180), .val (.int v38), .val (.int v40), .unset] [(.int v38)])) (g' := (mkF m 151 #[.val (.int p0), .val (.int p1), .val (.int p2), .val (.int p3), .val (.int p4), .val (.int v1), .val (.int v2), .val (.int v4), .val (.int v6), .val (.int v8), .val b112_0, .val b146_0, .val (.ref b180), .val (.int v38), .val (.int v40), .unset] [(.int v44)])) X467 (by
      by_cases hc138_41 : v38 = (0 : Int32)
      · have hgo468 : ∀ t, Steps p.tables e below (T467.setTop (mkF m 151 #[.val (.int p0), .val (.int p1), .val (.int p2), .val (.int p3), .val (.int p4), .val (.int v1), .val (.int v2), .val (.int v4), .val (.int v6), .val (.int v8), .val b112_0, .val b146_0, .val (.ref b180), .val (.int v38), .val (.int v40), .unset] [(.int (1 : Int32))])) t → Steps p.tables e below (T467.setTop (mkF m 138 #[.val (.int p0), .val (.int p1), .val (.int p2), .val (.int p3), .val (.int p4), .val (.int v1), .val (.int v2), .val (.int v4), .val (.int v6), .val (.int v8), .val b112_0, .val b146_0, .val (.ref b180), .val (.int v38), .val (.int v40), .unset] [(.int v38)])) t := by
          intro t kt
          show Steps p.tables e below (T467.setTop (mkF m 138 #[.val (.int p0), .val (.int p1), .val (.int p2), .val (.int p3), .val (.int p4), .val (.int v1), .val (.int v2), .val (.int v4), .val (.int v6), .val (.int v8), .val b112_0, .val b146_0, .val (.ref b180), .val (.int v38), .val (.int v40), .unset] [(.int v38)])) _
          refine XS.ifYes X467.here hx rfl (pc0 := 138) (pc' := 146) rfl (hb hby at_138) rfl ((if0 _ _).trans (teq hc138_41).1) (by decide) (by decide) ?_
          show Steps p.tables e below (T467.setTop (mkF m 146 #[.val (.int p0), .val (.int p1), .val (.int p2), .val (.int p3), .val (.int p4), .val (.int v1), .val (.int v2), .val (.int v4), .val (.int v6), .val (.int v8), .val b112_0, .val b146_0, .val (.ref b180), .val (.int v38), .val (.int v40), .unset] [])) _
          refine XS.iconst X467.here hx rfl (hb hby at_146) ?_
          show Steps p.tables e below (T467.setTop (mkF m 147 #[.val (.int p0), .val (.int p1), .val (.int p2), .val (.int p3), .val (.int p4), .val (.int v1), .val (.int v2), .val (.int v4), .val (.int v6), .val (.int v8), .val b112_0, .val b146_0, .val (.ref b180), .val (.int v38), .val (.int v40), .unset] [(.int (1 : Int32))])) _
          refine XS.goto X467.here hx rfl (pc0 := 147) (pc' := 151) rfl (hb hby at_147) (by decide) (by decide) ?_
          exact kt
        refine own_arm hgo468 ?_
        exact own_armEnd X467 N467 e467 (by rw [hv44.trans (if_pos hc138_41)])
      · obtain ⟨T471, lc471, X471, N471, e471, st471⟩ := own_mrg (n0 := n0) (h := T451.heap) (g := (mkF m 143 #[.val (.int p0), .val (.int p1), .val (.int p2), .val (.int p3), .val (.int p4), .val (.int v1), .val (.int v2), .val (.int v4), .val (.int v6), .val (.int v8), .val b112_0, .val b146_0, .val (.ref b180), .val (.int v38), .val (.int v40), .unset] [(.int v40)])) (g' := (mkF m 151 #[.val (.int p0), .val (.int p1), .val (.int p2), .val (.int p3), .val (.int p4), .val (.int v1), .val (.int v2), .val (.int v4), .val (.int v6), .val (.int v8), .val b112_0, .val b146_0, .val (.ref b180), .val (.int v38), .val (.int v40), .unset] [(.int v43)])) X467 (by
          by_cases hc143_42 : v40 = (0 : Int32)
          · have hgo469 : ∀ t, Steps p.tables e below (T467.setTop (mkF m 151 #[.val (.int p0), .val (.int p1), .val (.int p2), .val (.int p3), .val (.int p4), .val (.int v1), .val (.int v2), .val (.int v4), .val (.int v6), .val (.int v8), .val b112_0, .val b146_0, .val (.ref b180), .val (.int v38), .val (.int v40), .unset] [(.int (0 : Int32))])) t → Steps p.tables e below (T467.setTop (mkF m 143 #[.val (.int p0), .val (.int p1), .val (.int p2), .val (.int p3), .val (.int p4), .val (.int v1), .val (.int v2), .val (.int v4), .val (.int v6), .val (.int v8), .val b112_0, .val b146_0, .val (.ref b180), .val (.int v38), .val (.int v40), .unset] [(.int v40)])) t := by
              intro t kt
              show Steps p.tables e below (T467.setTop (mkF m 143 #[.val (.int p0), .val (.int p1), .val (.int p2), .val (.int p3), .val (.int p4), .val (.int v1), .val (.int v2), .val (.int v4), .val (.int v6), .val (.int v8), .val b112_0, .val b146_0, .val (.ref b180), .val (.int v38), .val (.int v40), .unset] [(.int v40)])) _
              refine XS.ifYes X467.here hx rfl (pc0 := 143) (pc' := 150) rfl (hb hby at_143) rfl ((if0 _ _).trans (teq hc143_42).1) (by decide) (by decide) ?_
              show Steps p.tables e below (T467.setTop (mkF m 150 #[.val (.int p0), .val (.int p1), .val (.int p2), .val (.int p3), .val (.int p4), .val (.int v1), .val (.int v2), .val (.int v4), .val (.int v6), .val (.int v8), .val b112_0, .val b146_0, .val (.ref b180), .val (.int v38), .val (.int v40), .unset] [])) _
              refine XS.iconst X467.here hx rfl (hb hby at_150) ?_
              exact kt
            refine own_arm hgo469 ?_
            exact own_armEnd X467 N467 e467 (by rw [hv43.trans (if_pos hc143_42)])
          · have hgo470 : ∀ t, Steps p.tables e below (T467.setTop (mkF m 151 #[.val (.int p0), .val (.int p1), .val (.int p2), .val (.int p3), .val (.int p4), .val (.int v1), .val (.int v2), .val (.int v4), .val (.int v6), .val (.int v8), .val b112_0, .val b146_0, .val (.ref b180), .val (.int v38), .val (.int v40), .unset] [(.int (1 : Int32))])) t → Steps p.tables e below (T467.setTop (mkF m 143 #[.val (.int p0), .val (.int p1), .val (.int p2), .val (.int p3), .val (.int p4), .val (.int v1), .val (.int v2), .val (.int v4), .val (.int v6), .val (.int v8), .val b112_0, .val b146_0, .val (.ref b180), .val (.int v38), .val (.int v40), .unset] [(.int v40)])) t := by
              intro t kt
              show Steps p.tables e below (T467.setTop (mkF m 143 #[.val (.int p0), .val (.int p1), .val (.int p2), .val (.int p3), .val (.int p4), .val (.int v1), .val (.int v2), .val (.int v4), .val (.int v6), .val (.int v8), .val b112_0, .val b146_0, .val (.ref b180), .val (.int v38), .val (.int v40), .unset] [(.int v40)])) _
              refine XS.ifNo X467.here hx rfl (hb hby at_143) rfl ((if0 _ _).trans (feq hc143_42).1) ?_
              show Steps p.tables e below (T467.setTop (mkF m 146 #[.val (.int p0), .val (.int p1), .val (.int p2), .val (.int p3), .val (.int p4), .val (.int v1), .val (.int v2), .val (.int v4), .val (.int v6), .val (.int v8), .val b112_0, .val b146_0, .val (.ref b180), .val (.int v38), .val (.int v40), .unset] [])) _
              refine XS.iconst X467.here hx rfl (hb hby at_146) ?_
              show Steps p.tables e below (T467.setTop (mkF m 147 #[.val (.int p0), .val (.int p1), .val (.int p2), .val (.int p3), .val (.int p4), .val (.int v1), .val (.int v2), .val (.int v4), .val (.int v6), .val (.int v8), .val b112_0, .val b146_0, .val (.ref b180), .val (.int v38), .val (.int v40), .unset] [(.int (1 : Int32))])) _
              refine XS.goto X467.here hx rfl (pc0 := 147) (pc' := 151) rfl (hb hby at_147) (by decide) (by decide) ?_
              exact kt
            refine own_arm hgo470 ?_
            exact own_armEnd X467 N467 e467 (by rw [hv43.trans (if_neg hc143_42)]))
        have hgo472 : ∀ t, Steps p.tables e below (T471.setTop (mkF m 151 #[.val (.int p0), .val (.int p1), .val (.int p2), .val (.int p3), .val (.int p4), .val (.int v1), .val (.int v2), .val (.int v4), .val (.int v6), .val (.int v8), .val b112_0, .val b146_0, .val (.ref b180), .val (.int v38), .val (.int v40), .unset] [(.int v43)])) t → Steps p.tables e below (T467.setTop (mkF m 138 #[.val (.int p0), .val (.int p1), .val (.int p2), .val (.int p3), .val (.int p4), .val (.int v1), .val (.int v2), .val (.int v4), .val (.int v6), .val (.int v8), .val b112_0, .val b146_0, .val (.ref b180), .val (.int v38), .val (.int v40), .unset] [(.int v38)])) t := by
          intro t kt
          show Steps p.tables e below (T467.setTop (mkF m 138 #[.val (.int p0), .val (.int p1), .val (.int p2), .val (.int p3), .val (.int p4), .val (.int v1), .val (.int v2), .val (.int v4), .val (.int v6), .val (.int v8), .val b112_0, .val b146_0, .val (.ref b180), .val (.int v38), .val (.int v40), .unset] [(.int v38)])) _
          refine XS.ifNo X467.here hx rfl (hb hby at_138) rfl ((if0 _ _).trans (feq hc138_41).1) ?_
          show Steps p.tables e below (T467.setTop (mkF m 141 #[.val (.int p0), .val (.int p1), .val (.int p2), .val (.int p3), .val (.int p4), .val (.int v1), .val (.int v2), .val (.int v4), .val (.int v6), .val (.int v8), .val b112_0, .val b146_0, .val (.ref b180), .val (.int v38), .val (.int v40), .unset] [])) _
          refine XS.iload X467.here hx rfl (hb hby at_141) rfl ?_
          show Steps p.tables e below (T467.setTop (mkF m 143 #[.val (.int p0), .val (.int p1), .val (.int p2), .val (.int p3), .val (.int p4), .val (.int v1), .val (.int v2), .val (.int v4), .val (.int v6), .val (.int v8), .val b112_0, .val b146_0, .val (.ref b180), .val (.int v38), .val (.int v40), .unset] [(.int v40)])) _
          refine st471 _ ?_
          exact kt
        refine own_arm hgo472 ?_
        exact own_armEnd X471 N471 e471 (by rw [hv44.trans (if_neg hc138_41)]))
    obtain ⟨cq474, kq474, q474a, q474b, q474c⟩ := isOf hZ e473 F451_0
    obtain ⟨_, _, ⟨T474, L474, k474, n474⟩, -, X474, ⟨Lc474, hQ474, l474, y474, z474⟩, st474⟩ := X473.virtualBack hx (y := (⟨"inducere/Activation", "switchedOff", "()Z"⟩ : MethodName)) (z := (⟨"inducere/Activation", "switchedOff", "()Z"⟩ : MethodName)) hown (mvT hZ (hw _ (List.mem_of_getElem? (i := 69) rfl))) (mvT hZ (hw _ (List.mem_of_getElem? (i := 70) rfl))) (notFace_of_selects (args := #[]) (mvT hZ (hw _ (List.mem_of_getElem? (i := 72) rfl)))) (mvT hZ (hw _ (List.mem_of_getElem? (i := 72) rfl))) (mvT hZ (hw _ (List.mem_of_getElem? (i := 71) rfl))) (by decide) (backOf (W := 0) (rm12r l Z a0 hw [] b180 b411_0 (own_on v1) us0 (0 : Int32) (T451.heap) n0 Z457 F451_2 F456 F451_1 F453) hZ (hw _ (List.mem_of_getElem? (i := 73) rfl)) (hw _ (List.mem_of_getElem? (i := 37) rfl)) (by decide) (by decide)) q474a q474c (g := (mkF m 155 #[.val (.int p0), .val (.int p1), .val (.int p2), .val (.int p3), .val (.int p4), .val (.int v1), .val (.int v2), .val (.int v4), .val (.int v6), .val (.int v8), .val b112_0, .val b146_0, .val (.ref b180), .val (.int v38), .val (.int v40), .val (.int v44)] [(.ref b180)])) rfl (by rw [hml]; rfl) (Steps.refl _) (argsL := []) (rest := []) (lenOf pd9 rfl) rfl (by show 2 * 0 + _ ≤ _; exact Nat.le_of_eq rfl) (hb hby at_155) (fun _ _ => ⟨rfl, e473, (by decide : 7 + 0 ≤ _), (by decide : 21 + 0 ≤ _)⟩)
    dsimp only [Pt.U, Pt.locs, Pt.cells, Pt.slots] at X474 l474 y474 z474 st474 hQ474
    subst l474 y474 z474
    obtain ⟨rfl, N474q, e474⟩ := hQ474
    have N474 := Fr.app N473 N474q
    obtain ⟨v46, hv46⟩ : ∃ z : Int32, z = (if (own_r12r (own_on v1) (0 : Int32)) = v44 then (1 : Int32) else (0 : Int32)) := ⟨_, rfl⟩
    obtain ⟨T477, lc477, X477, N477, e477, st477⟩ := own_mrg (n0 := n0) (h := T451.heap) (g := (mkF m 160 #[.val (.int p0), .val (.int p1), .val (.int p2), .val (.int p3), .val (.int p4), .val (.int v1), .val (.int v2), .val (.int v4), .val (.int v6), .val (.int v8), .val b112_0, .val b146_0, .val (.ref b180), .val (.int v38), .val (.int v40), .val (.int v44)] [(.int v44), (.int (own_r12r (own_on v1) (0 : Int32)))])) (g' := (mkF m 168 #[.val (.int p0), .val (.int p1), .val (.int p2), .val (.int p3), .val (.int p4), .val (.int v1), .val (.int v2), .val (.int v4), .val (.int v6), .val (.int v8), .val b112_0, .val b146_0, .val (.ref b180), .val (.int v38), .val (.int v40), .val (.int v44)] [(.int v46)])) X474 (by
      by_cases hc160_45 : (own_r12r (own_on v1) (0 : Int32)) = v44
      · have hgo475 : ∀ t, Steps p.tables e below (T474.setTop (mkF m 168 #[.val (.int p0), .val (.int p1), .val (.int p2), .val (.int p3), .val (.int p4), .val (.int v1), .val (.int v2), .val (.int v4), .val (.int v6), .val (.int v8), .val b112_0, .val b146_0, .val (.ref b180), .val (.int v38), .val (.int v40), .val (.int v44)] [(.int (1 : Int32))])) t → Steps p.tables e below (T474.setTop (mkF m 160 #[.val (.int p0), .val (.int p1), .val (.int p2), .val (.int p3), .val (.int p4), .val (.int v1), .val (.int v2), .val (.int v4), .val (.int v6), .val (.int v8), .val b112_0, .val b146_0, .val (.ref b180), .val (.int v38), .val (.int v40), .val (.int v44)] [(.int v44), (.int (own_r12r (own_on v1) (0 : Int32)))])) t := by
          intro t kt
          show Steps p.tables e below (T474.setTop (mkF m 160 #[.val (.int p0), .val (.int p1), .val (.int p2), .val (.int p3), .val (.int p4), .val (.int v1), .val (.int v2), .val (.int v4), .val (.int v6), .val (.int v8), .val b112_0, .val b146_0, .val (.ref b180), .val (.int v38), .val (.int v40), .val (.int v44)] [(.int v44), (.int (own_r12r (own_on v1) (0 : Int32)))])) _
          refine XS.icmpNo X474.here hx rfl (hb hby at_160) rfl (teq hc160_45).2 ?_
          show Steps p.tables e below (T474.setTop (mkF m 163 #[.val (.int p0), .val (.int p1), .val (.int p2), .val (.int p3), .val (.int p4), .val (.int v1), .val (.int v2), .val (.int v4), .val (.int v6), .val (.int v8), .val b112_0, .val b146_0, .val (.ref b180), .val (.int v38), .val (.int v40), .val (.int v44)] [])) _
          refine XS.iconst X474.here hx rfl (hb hby at_163) ?_
          show Steps p.tables e below (T474.setTop (mkF m 164 #[.val (.int p0), .val (.int p1), .val (.int p2), .val (.int p3), .val (.int p4), .val (.int v1), .val (.int v2), .val (.int v4), .val (.int v6), .val (.int v8), .val b112_0, .val b146_0, .val (.ref b180), .val (.int v38), .val (.int v40), .val (.int v44)] [(.int (1 : Int32))])) _
          refine XS.goto X474.here hx rfl (pc0 := 164) (pc' := 168) rfl (hb hby at_164) (by decide) (by decide) ?_
          exact kt
        refine own_arm hgo475 ?_
        exact own_armEnd X474 N474 e474 (by rw [hv46.trans (if_pos hc160_45)])
      · have hgo476 : ∀ t, Steps p.tables e below (T474.setTop (mkF m 168 #[.val (.int p0), .val (.int p1), .val (.int p2), .val (.int p3), .val (.int p4), .val (.int v1), .val (.int v2), .val (.int v4), .val (.int v6), .val (.int v8), .val b112_0, .val b146_0, .val (.ref b180), .val (.int v38), .val (.int v40), .val (.int v44)] [(.int (0 : Int32))])) t → Steps p.tables e below (T474.setTop (mkF m 160 #[.val (.int p0), .val (.int p1), .val (.int p2), .val (.int p3), .val (.int p4), .val (.int v1), .val (.int v2), .val (.int v4), .val (.int v6), .val (.int v8), .val b112_0, .val b146_0, .val (.ref b180), .val (.int v38), .val (.int v40), .val (.int v44)] [(.int v44), (.int (own_r12r (own_on v1) (0 : Int32)))])) t := by
          intro t kt
          show Steps p.tables e below (T474.setTop (mkF m 160 #[.val (.int p0), .val (.int p1), .val (.int p2), .val (.int p3), .val (.int p4), .val (.int v1), .val (.int v2), .val (.int v4), .val (.int v6), .val (.int v8), .val b112_0, .val b146_0, .val (.ref b180), .val (.int v38), .val (.int v40), .val (.int v44)] [(.int v44), (.int (own_r12r (own_on v1) (0 : Int32)))])) _
          refine XS.icmpYes X474.here hx rfl (pc0 := 160) (pc' := 167) rfl (hb hby at_160) rfl (feq hc160_45).2 (by decide) (by decide) ?_
          show Steps p.tables e below (T474.setTop (mkF m 167 #[.val (.int p0), .val (.int p1), .val (.int p2), .val (.int p3), .val (.int p4), .val (.int v1), .val (.int v2), .val (.int v4), .val (.int v6), .val (.int v8), .val b112_0, .val b146_0, .val (.ref b180), .val (.int v38), .val (.int v40), .val (.int v44)] [])) _
          refine XS.iconst X474.here hx rfl (hb hby at_167) ?_
          exact kt
        refine own_arm hgo476 ?_
        exact own_armEnd X474 N474 e474 (by rw [hv46.trans (if_neg hc160_45)]))
    have hgo478 : ∀ t, Steps p.tables e below (T477.setTop (mkF m 168 #[.val (.int p0), .val (.int p1), .val (.int p2), .val (.int p3), .val (.int p4), .val (.int v1), .val (.int v2), .val (.int v4), .val (.int v6), .val (.int v8), .val b112_0, .val b146_0, .val (.ref b180), .val (.int v38), .val (.int v40), .val (.int v44)] [(.int v46)])) t → Steps p.tables e below (T180.setTop (mkF m 79 #[.val (.int p0), .val (.int p1), .val (.int p2), .val (.int p3), .val (.int p4), .val (.int v1), .val (.int v2), .val (.int v4), .val (.int v6), .val (.int v8), .val b112_0, .val b146_0, .unset, .unset, .unset, .unset] [(.int v2), (.ref b180), (.ref b180)])) t := by
      intro t kt
      show Steps p.tables e below (T180.setTop (mkF m 79 #[.val (.int p0), .val (.int p1), .val (.int p2), .val (.int p3), .val (.int p4), .val (.int v1), .val (.int v2), .val (.int v4), .val (.int v6), .val (.int v8), .val b112_0, .val b146_0, .unset, .unset, .unset, .unset] [(.int v2), (.ref b180), (.ref b180)])) _
      refine st410 _ ?_
      show Steps p.tables e below (T410.setTop (mkF m 82 #[.val (.int p0), .val (.int p1), .val (.int p2), .val (.int p3), .val (.int p4), .val (.int v1), .val (.int v2), .val (.int v4), .val (.int v6), .val (.int v8), .val b112_0, .val b146_0, .unset, .unset, .unset, .unset] [(.ref us0), (.ref b180), (.ref b180)])) _
      refine XS.iload X410.here hx rfl (hb hby at_82) rfl ?_
      show Steps p.tables e below (T410.setTop (mkF m 84 #[.val (.int p0), .val (.int p1), .val (.int p2), .val (.int p3), .val (.int p4), .val (.int v1), .val (.int v2), .val (.int v4), .val (.int v6), .val (.int v8), .val b112_0, .val b146_0, .unset, .unset, .unset, .unset] [(.int v1), (.ref us0), (.ref b180), (.ref b180)])) _
      refine st411 _ ?_
      show Steps p.tables e below (T411.setTop (mkF m 87 #[.val (.int p0), .val (.int p1), .val (.int p2), .val (.int p3), .val (.int p4), .val (.int v1), .val (.int v2), .val (.int v4), .val (.int v6), .val (.int v8), .val b112_0, .val b146_0, .unset, .unset, .unset, .unset] [(.ref b411_0), (.ref us0), (.ref b180), (.ref b180)])) _
      refine XS.aload X411.here hx rfl (hb hby at_87) rfl (F112_0) ?_
      show Steps p.tables e below (T411.setTop (mkF m 89 #[.val (.int p0), .val (.int p1), .val (.int p2), .val (.int p3), .val (.int p4), .val (.int v1), .val (.int v2), .val (.int v4), .val (.int v6), .val (.int v8), .val b112_0, .val b146_0, .unset, .unset, .unset, .unset] [b112_0, (.ref b411_0), (.ref us0), (.ref b180), (.ref b180)])) _
      refine XS.aload X411.here hx rfl (hb hby at_89) rfl (F146_0) ?_
      show Steps p.tables e below (T411.setTop (mkF m 91 #[.val (.int p0), .val (.int p1), .val (.int p2), .val (.int p3), .val (.int p4), .val (.int v1), .val (.int v2), .val (.int v4), .val (.int v6), .val (.int v8), .val b112_0, .val b146_0, .unset, .unset, .unset, .unset] [b146_0, b112_0, (.ref b411_0), (.ref us0), (.ref b180), (.ref b180)])) _
      refine XS.iload X411.here hx rfl (hb hby at_91) rfl ?_
      show Steps p.tables e below (T411.setTop (mkF m 93 #[.val (.int p0), .val (.int p1), .val (.int p2), .val (.int p3), .val (.int p4), .val (.int v1), .val (.int v2), .val (.int v4), .val (.int v6), .val (.int v8), .val b112_0, .val b146_0, .unset, .unset, .unset, .unset] [(.int v8), b146_0, b112_0, (.ref b411_0), (.ref us0), (.ref b180), (.ref b180)])) _
      refine st451.trans ?_
      show Steps p.tables e below (T451.setTop (mkF m 96 #[.val (.int p0), .val (.int p1), .val (.int p2), .val (.int p3), .val (.int p4), .val (.int v1), .val (.int v2), .val (.int v4), .val (.int v6), .val (.int v8), .val b112_0, .val b146_0, .unset, .unset, .unset, .unset] [(.ref b180)])) _
      refine XS.astore X451.here hx rfl (hb hby at_96) rfl rfl (l' := #[.val (.int p0), .val (.int p1), .val (.int p2), .val (.int p3), .val (.int p4), .val (.int v1), .val (.int v2), .val (.int v4), .val (.int v6), .val (.int v8), .val b112_0, .val b146_0, .val (.ref b180), .unset, .unset, .unset]) rfl ?_
      show Steps p.tables e below (T451.setTop (mkF m 98 #[.val (.int p0), .val (.int p1), .val (.int p2), .val (.int p3), .val (.int p4), .val (.int v1), .val (.int v2), .val (.int v4), .val (.int v6), .val (.int v8), .val b112_0, .val b146_0, .val (.ref b180), .unset, .unset, .unset] [])) _
      refine XS.iload X451.here hx rfl (hb hby at_98) rfl ?_
      show Steps p.tables e below (T451.setTop (mkF m 100 #[.val (.int p0), .val (.int p1), .val (.int p2), .val (.int p3), .val (.int p4), .val (.int v1), .val (.int v2), .val (.int v4), .val (.int v6), .val (.int v8), .val b112_0, .val b146_0, .val (.ref b180), .unset, .unset, .unset] [(.int v1)])) _
      refine XS.iconst X451.here hx rfl (hb hby at_100) ?_
      show Steps p.tables e below (T451.setTop (mkF m 101 #[.val (.int p0), .val (.int p1), .val (.int p2), .val (.int p3), .val (.int p4), .val (.int v1), .val (.int v2), .val (.int v4), .val (.int v6), .val (.int v8), .val b112_0, .val b146_0, .val (.ref b180), .unset, .unset, .unset] [(.int (2 : Int32)), (.int v1)])) _
      refine st464 _ ?_
      show Steps p.tables e below (T464.setTop (mkF m 115 #[.val (.int p0), .val (.int p1), .val (.int p2), .val (.int p3), .val (.int p4), .val (.int v1), .val (.int v2), .val (.int v4), .val (.int v6), .val (.int v8), .val b112_0, .val b146_0, .val (.ref b180), .unset, .unset, .unset] [(.int v38)])) _
      refine XS.istore X464.here hx rfl (hb hby at_115) rfl (l' := #[.val (.int p0), .val (.int p1), .val (.int p2), .val (.int p3), .val (.int p4), .val (.int v1), .val (.int v2), .val (.int v4), .val (.int v6), .val (.int v8), .val b112_0, .val b146_0, .val (.ref b180), .val (.int v38), .unset, .unset]) rfl ?_
      show Steps p.tables e below (T464.setTop (mkF m 117 #[.val (.int p0), .val (.int p1), .val (.int p2), .val (.int p3), .val (.int p4), .val (.int v1), .val (.int v2), .val (.int v4), .val (.int v6), .val (.int v8), .val b112_0, .val b146_0, .val (.ref b180), .val (.int v38), .unset, .unset] [])) _
      refine XS.iload X464.here hx rfl (hb hby at_117) rfl ?_
      show Steps p.tables e below (T464.setTop (mkF m 119 #[.val (.int p0), .val (.int p1), .val (.int p2), .val (.int p3), .val (.int p4), .val (.int v1), .val (.int v2), .val (.int v4), .val (.int v6), .val (.int v8), .val b112_0, .val b146_0, .val (.ref b180), .val (.int v38), .unset, .unset] [(.int v2)])) _
      refine XS.iconst X464.here hx rfl (hb hby at_119) ?_
      show Steps p.tables e below (T464.setTop (mkF m 120 #[.val (.int p0), .val (.int p1), .val (.int p2), .val (.int p3), .val (.int p4), .val (.int v1), .val (.int v2), .val (.int v4), .val (.int v6), .val (.int v8), .val b112_0, .val b146_0, .val (.ref b180), .val (.int v38), .unset, .unset] [(.int (2 : Int32)), (.int v2)])) _
      refine XS.icmpNo X464.here hx rfl (hb hby at_120) rfl (feq hs79_27).1 ?_
      show Steps p.tables e below (T464.setTop (mkF m 123 #[.val (.int p0), .val (.int p1), .val (.int p2), .val (.int p3), .val (.int p4), .val (.int v1), .val (.int v2), .val (.int v4), .val (.int v6), .val (.int v8), .val b112_0, .val b146_0, .val (.ref b180), .val (.int v38), .unset, .unset] [])) _
      refine XS.iload X464.here hx rfl (hb hby at_123) rfl ?_
      show Steps p.tables e below (T464.setTop (mkF m 125 #[.val (.int p0), .val (.int p1), .val (.int p2), .val (.int p3), .val (.int p4), .val (.int v1), .val (.int v2), .val (.int v4), .val (.int v6), .val (.int v8), .val b112_0, .val b146_0, .val (.ref b180), .val (.int v38), .unset, .unset] [(.int v2)])) _
      refine XS.iconst X464.here hx rfl (hb hby at_125) ?_
      show Steps p.tables e below (T464.setTop (mkF m 126 #[.val (.int p0), .val (.int p1), .val (.int p2), .val (.int p3), .val (.int p4), .val (.int v1), .val (.int v2), .val (.int v4), .val (.int v6), .val (.int v8), .val b112_0, .val b146_0, .val (.ref b180), .val (.int v38), .unset, .unset] [(.int (3 : Int32)), (.int v2)])) _
      refine st467 _ ?_
      show Steps p.tables e below (T467.setTop (mkF m 134 #[.val (.int p0), .val (.int p1), .val (.int p2), .val (.int p3), .val (.int p4), .val (.int v1), .val (.int v2), .val (.int v4), .val (.int v6), .val (.int v8), .val b112_0, .val b146_0, .val (.ref b180), .val (.int v38), .unset, .unset] [(.int v40)])) _
      refine XS.istore X467.here hx rfl (hb hby at_134) rfl (l' := #[.val (.int p0), .val (.int p1), .val (.int p2), .val (.int p3), .val (.int p4), .val (.int v1), .val (.int v2), .val (.int v4), .val (.int v6), .val (.int v8), .val b112_0, .val b146_0, .val (.ref b180), .val (.int v38), .val (.int v40), .unset]) rfl ?_
      show Steps p.tables e below (T467.setTop (mkF m 136 #[.val (.int p0), .val (.int p1), .val (.int p2), .val (.int p3), .val (.int p4), .val (.int v1), .val (.int v2), .val (.int v4), .val (.int v6), .val (.int v8), .val b112_0, .val b146_0, .val (.ref b180), .val (.int v38), .val (.int v40), .unset] [])) _
      refine XS.iload X467.here hx rfl (hb hby at_136) rfl ?_
      show Steps p.tables e below (T467.setTop (mkF m 138 #[.val (.int p0), .val (.int p1), .val (.int p2), .val (.int p3), .val (.int p4), .val (.int v1), .val (.int v2), .val (.int v4), .val (.int v6), .val (.int v8), .val b112_0, .val b146_0, .val (.ref b180), .val (.int v38), .val (.int v40), .unset] [(.int v38)])) _
      refine st473 _ ?_
      show Steps p.tables e below (T473.setTop (mkF m 151 #[.val (.int p0), .val (.int p1), .val (.int p2), .val (.int p3), .val (.int p4), .val (.int v1), .val (.int v2), .val (.int v4), .val (.int v6), .val (.int v8), .val b112_0, .val b146_0, .val (.ref b180), .val (.int v38), .val (.int v40), .unset] [(.int v44)])) _
      refine XS.istore X473.here hx rfl (hb hby at_151) rfl (l' := #[.val (.int p0), .val (.int p1), .val (.int p2), .val (.int p3), .val (.int p4), .val (.int v1), .val (.int v2), .val (.int v4), .val (.int v6), .val (.int v8), .val b112_0, .val b146_0, .val (.ref b180), .val (.int v38), .val (.int v40), .val (.int v44)]) rfl ?_
      show Steps p.tables e below (T473.setTop (mkF m 153 #[.val (.int p0), .val (.int p1), .val (.int p2), .val (.int p3), .val (.int p4), .val (.int v1), .val (.int v2), .val (.int v4), .val (.int v6), .val (.int v8), .val b112_0, .val b146_0, .val (.ref b180), .val (.int v38), .val (.int v40), .val (.int v44)] [])) _
      refine XS.aload X473.here hx rfl (hb hby at_153) rfl rfl ?_
      show Steps p.tables e below (T473.setTop (mkF m 155 #[.val (.int p0), .val (.int p1), .val (.int p2), .val (.int p3), .val (.int p4), .val (.int v1), .val (.int v2), .val (.int v4), .val (.int v6), .val (.int v8), .val b112_0, .val b146_0, .val (.ref b180), .val (.int v38), .val (.int v40), .val (.int v44)] [(.ref b180)])) _
      refine st474.trans ?_
      show Steps p.tables e below (T474.setTop (mkF m 158 #[.val (.int p0), .val (.int p1), .val (.int p2), .val (.int p3), .val (.int p4), .val (.int v1), .val (.int v2), .val (.int v4), .val (.int v6), .val (.int v8), .val b112_0, .val b146_0, .val (.ref b180), .val (.int v38), .val (.int v40), .val (.int v44)] [(.int (own_r12r (own_on v1) (0 : Int32)))])) _
      refine XS.iload X474.here hx rfl (hb hby at_158) rfl ?_
      show Steps p.tables e below (T474.setTop (mkF m 160 #[.val (.int p0), .val (.int p1), .val (.int p2), .val (.int p3), .val (.int p4), .val (.int v1), .val (.int v2), .val (.int v4), .val (.int v6), .val (.int v8), .val b112_0, .val b146_0, .val (.ref b180), .val (.int v38), .val (.int v40), .val (.int v44)] [(.int v44), (.int (own_r12r (own_on v1) (0 : Int32)))])) _
      refine st477 _ ?_
      exact kt
    refine own_go hgo478 ?_
    have hz479 : v46 = 1 := own_leaf3 (p0 := p0) (p1 := p1) (p2 := p2) (p3 := p3) (p4 := p4) (us0 := us0) (us1 := us1) (us2 := us2) (us3 := us3) (us4 := us4) (us5 := us5) (us6 := us6) (us7 := us7) (us8 := us8) (us9 := us9) (ucs := ucs) hv1 hv2 hv4 hv6 hv8 hv37 hv38 hv40 hv43 hv44 hv46 hs79_9 hs79_18 hs79_27
    exact own_retZ X477 hx Bd.returns Bd.notSynchronized (hb hby at_168) (by decide) (by decide) (Or.inr hz479) ⟨by rw [hz479], N477⟩
set_option maxRecDepth 65536 in
set_option maxHeartbeats 40000000 in
theorem comes_1 {Post : Tables → Env → Array Value → State → Outcome → State → Prop} (hpost : ∀ tb e args s v u, (limb_1_1.after args s (.returned v) u = true ∧ limb_1_2.after args s (.returned v) u = true ∧ True) → FrameEnd s (.returned v) u (Jvm.fieldLocs frame_1_writes args s ++ Jvm.arrayLocs frame_1_arrays args s ++ Jvm.staticLocs frame_1_statics s) 24 128 → Post tb e args s (.returned v) u) :
    ArmFor flags0 classFile x code maxLocals ret World_1 tables_1 room_1 Calls_1 rest_1 Pre_1 Post := by
  intro l hfl _ _ p e ha hc hk s m args below hf hA hF happ hP
  obtain ⟨hcalls, hrest, hpre⟩ := hP
  obtain ⟨-, -, -, hnamed, -, -, -, hat⟩ := (Spec.applies_iff hf).mp happ
  obtain ⟨hg, hn⟩ := and_e (Cond.before_iff.mp (show (Jvm.Cond.and given_1 narrow_1).before args s = true from hpre))
  obtain ⟨gg1, gg2⟩ := and_e hg
  obtain ⟨gg3, gg4⟩ := and_e gg2
  obtain ⟨gg5, gg6⟩ := and_e gg4
  obtain ⟨gg7, gg8⟩ := and_e gg6
  obtain ⟨gg9, gg10⟩ := and_e gg8
  obtain ⟨gg11, gg12⟩ := and_e hn
  obtain ⟨gg13, gg14⟩ := and_e gg12
  obtain ⟨gg15, gg16⟩ := and_e gg14
  obtain ⟨gg17, gg18⟩ := and_e gg16
  obtain ⟨gg19, gg20⟩ := and_e gg18
  obtain ⟨gg21, gg22⟩ := and_e gg20
  obtain ⟨gg23, gg24⟩ := and_e gg22
  obtain ⟨gg25, gg26⟩ := and_e gg24
  obtain ⟨gg27, gg28⟩ := and_e gg26
  obtain ⟨gg29, gg30⟩ := and_e gg28
  obtain ⟨gg31, gg32⟩ := and_e gg30
  obtain ⟨gg33, gg34⟩ := and_e gg32
  obtain ⟨gg35, gg36⟩ := and_e gg34
  obtain ⟨gg37, gg38⟩ := and_e gg36
  obtain ⟨gg39, gg40⟩ := and_e gg38
  obtain ⟨gg41, gg42⟩ := and_e gg40
  obtain ⟨gg43, gg44⟩ := and_e gg42
  obtain ⟨gg45, gg46⟩ := and_e gg44
  obtain ⟨gg47, gg48⟩ := and_e gg46
  obtain ⟨w0, w1, w2, w3, w4, rfl⟩ : ∃ w0 w1 w2 w3 w4 : Value, args = #[w0, w1, w2, w3, w4] := by
    have hs : args.size = 5 := by simpa [Cond.value, given_1] using gg1
    obtain ⟨L⟩ := args
    match L, hs with
    | [w0, w1, w2, w3, w4], _ => exact ⟨w0, w1, w2, w3, w4, rfl⟩
  have hw := fun d (hd : d ∈ tables_1) => atoms_spec (ws := Jvm.Cond.code x code maxLocals ret :: tables_1) hat d (List.mem_cons_of_mem _ hd)
  have hfit : Fit s := fun {y c} hc i hi => by
    obtain ⟨ha, rfl⟩ := Array.getElem?_eq_some_iff.mp hc
    have q := List.all_eq_true.mp ((Array.all_eq_true_iff_forall_mem.mp hF) _ (Array.getElem_mem ha)) i (List.mem_range.mpr hi)
    simpa [Array.getElem?_eq_getElem hi] using q
  obtain ⟨hsets, hown0⟩ := atoms_of _ (rest_1_c_eq ▸ (show rest_1_c.before _ s = true from hrest))
  have hr0 := Cond.before_iff.mp hown0
  obtain ⟨i0, ei0⟩ := is_v gg3
  obtain rfl : w0 = (.int i0) := Option.some.inj ei0
  obtain ⟨i1, ei1⟩ := is_v gg5
  obtain rfl : w1 = (.int i1) := Option.some.inj ei1
  obtain ⟨i2, ei2⟩ := is_v gg7
  obtain rfl : w2 = (.int i2) := Option.some.inj ei2
  obtain ⟨i3, ei3⟩ := is_v gg9
  obtain rfl : w3 = (.int i3) := Option.some.inj ei3
  obtain ⟨i4, ei4⟩ := is_v gg10
  obtain rfl : w4 = (.int i4) := Option.some.inj ei4
  obtain ⟨us0, eus0⟩ := exa_v gg11
  obtain ⟨us1, eus1⟩ := exa_v gg13
  obtain ⟨us2, eus2⟩ := exa_v gg17
  obtain ⟨us3, eus3⟩ := exa_v gg21
  obtain ⟨us4, eus4⟩ := exa_v gg23
  obtain ⟨us5, eus5⟩ := exa_v gg29
  obtain ⟨us6, eus6⟩ := exa_v gg33
  obtain ⟨us7, eus7⟩ := exa_v gg37
  obtain ⟨us8, eus8⟩ := exa_v gg41
  obtain ⟨us9, eus9⟩ := exa_v gg47
  obtain ⟨ucs, eucs⟩ := is_v (Cond.before_iff.mp (hsets _ (List.mem_of_getElem? (i := 1) rfl)))
  obtain ⟨n, o, h1, h2, h3, _, L, rfl, ⟨rfl, N⟩, hq⟩ := rm0 l s _ hw tables_1 i0 i1 i2 i3 i4 us0 us1 us2 us3 us4 us5 us6 us7 us8 us9 ucs s.heap s.heap.size (Nat.le_refl _) (Sta.start eus0 (Or.inr ⟨(hw _ (List.mem_of_getElem? (i := 42) rfl)), (hw _ (List.mem_of_getElem? (i := 43) rfl))⟩)) (Exa.start eus0 gg11) (Sta.start eus1 (Or.inr ⟨(hw _ (List.mem_of_getElem? (i := 48) rfl)), (hw _ (List.mem_of_getElem? (i := 49) rfl))⟩)) (Exa.start eus1 gg13) (Sta.start eus2 (Or.inr ⟨(hw _ (List.mem_of_getElem? (i := 48) rfl)), (hw _ (List.mem_of_getElem? (i := 77) rfl))⟩)) (Exa.start eus2 gg17) (Sta.start eus3 (Or.inr ⟨(hw _ (List.mem_of_getElem? (i := 42) rfl)), (hw _ (List.mem_of_getElem? (i := 79) rfl))⟩)) (Exa.start eus3 gg21) (Sta.start eus4 (Or.inr ⟨(hw _ (List.mem_of_getElem? (i := 48) rfl)), (hw _ (List.mem_of_getElem? (i := 81) rfl))⟩)) (Exa.start eus4 gg23) (Sta.start eus5 (Or.inr ⟨(hw _ (List.mem_of_getElem? (i := 48) rfl)), (hw _ (List.mem_of_getElem? (i := 85) rfl))⟩)) (Exa.start eus5 gg29) (Sta.start eus6 (Or.inr ⟨(hw _ (List.mem_of_getElem? (i := 42) rfl)), (hw _ (List.mem_of_getElem? (i := 87) rfl))⟩)) (Exa.start eus6 gg33) (Sta.start eus7 (Or.inr ⟨(hw _ (List.mem_of_getElem? (i := 48) rfl)), (hw _ (List.mem_of_getElem? (i := 89) rfl))⟩)) (Exa.start eus7 gg37) (Sta.start eus8 (Or.inr ⟨(hw _ (List.mem_of_getElem? (i := 48) rfl)), (hw _ (List.mem_of_getElem? (i := 91) rfl))⟩)) (Exa.start eus8 gg41) (Sta.start eus9 (Or.inr ⟨(hw _ (List.mem_of_getElem? (i := 48) rfl)), (hw _ (List.mem_of_getElem? (i := 93) rfl))⟩)) (Exa.start eus9 gg47) (own_fldI eus1 gg15) (own_fldI eus2 gg19) (own_fldI eus4 gg25) (own_fldI eus0 gg27) (own_fldI eus5 gg31) (own_fldI eus3 gg35) (own_fldI eus7 gg39) (own_fldI eus8 gg43) (own_fldI eus6 gg45) (own_fldI eus9 gg48) (Sta.start eucs (Or.inl (hsets _ (List.mem_of_getElem? (i := 0) rfl)))) (own_neI eucs (Cond.before_iff.mp (hsets _ (List.mem_of_getElem? (i := 2) rfl)))) p e ha hc hk s m _ below hf ((Spec.applies_iff_loose hf).mp happ).1 ⟨rfl, State.Warmed39.refl s, rfl⟩ trivial
  refine ⟨n, _, h1, h2, h3, hpost _ _ _ _ _ _ ⟨Cond.after_iff.mpr rfl, Cond.after_iff.mpr (eq_i res_at (Term.int_eval (1)) rfl), trivial⟩ ⟨hq.1, hq.2.1, (hq.2.2.sift fun y hy => Or.inr (N y hy)).mono (by decide) (by decide)⟩⟩
theorem main_1_1 : Claimed_1_1 := comes_1 fun _ _ _ _ _ _ h hF => ⟨h.1, hF⟩
theorem main_1_2 : Claimed_1_2 := comes_1 fun _ _ _ _ _ _ h hF => ⟨h.2.1, hF⟩
end Jvm.Pilot.@@N@@
namespace Jvm.Pilot.@@N@@
open Jvm Jvm.ClassFile Sem Op Lib Jvm.Free Jvm.Stand Jvm.Pilot.@@N@@.Jvm.D
/-! MADE BY PROGRAM (witnessworld.py) out of the Statement's table words and the real class files: 24 classes; the members and pool entries that the words name. The judged class is class 1, her method 4. -/
namespace start1
open Jvm.ClassFile
def u (s : String) : CpInfo := .utf8 (stringToUtf16 s)
/-- a pool by its gaps: so many unusable entries, then the entry; so many at the end -/
def gap : Nat → List CpInfo → List CpInfo
  | 0, r => r
  | n + 1, r => .unusable :: gap n r
def poolList (es : List (Nat × CpInfo)) (last : Nat) : List CpInfo := es.foldr (fun e r => gap e.1 (e.2 :: r)) (gap last [])
def pool (es : List (Nat × CpInfo)) (last : Nat) : Array CpInfo := ⟨poolList es last⟩
def fileOf (pool : Array CpInfo) (this : Nat) (attrs : Array Attribute := #[]) (ms : Array MethodInfo := #[]) (fl : Nat := 33) (sup : Nat := 0) (ifs : Array Nat := #[]) (fds : Array FieldInfo := #[]) : ClassFile where
  minorVersion := 0
  majorVersion := 65
  constantPool := pool
  accessFlags := fl
  thisClass := this
  superClass := sup
  interfaces := ifs
  fields := fds
  methods := ms
  attributes := attrs
def plain (name : String) (sup : Option ClassId) : Class where
  name := name
  kind := .ordinary
  loader := none
  accessFlags := 33
  super := sup
  interfaces := #[]
  cf := none
  fields := #[]
  methods := #[]
  instanceTypes := #[]
  staticTypes := #[]
  resolved := #[]
  callSites := []
  init := .initialized
  statics := none
  mirror := none

def pool0 : Array CpInfo := pool [(5, u "<init>"), (0, u "()V"), (1, .class_ 10), (1, u "java/lang/Object")] 113

def k0c0 : Code := { maxStack := 0, maxLocals := 1, code := object_method_1_code, exceptionTable := #[], attributes := #[] }
def k0m0 : Method := { name := "<init>", desc := "()V", sig := { parameters := [], returnType := none }, accessFlags := 1, code := some k0c0 }
/-- java/lang/Object -/
def k0 : Class := { plain "java/lang/Object" none with
  accessFlags := 33
  interfaces := #[]
  cf := some (fileOf pool0 8 #[] #[{ accessFlags := 1, nameIndex := 5, descriptorIndex := 6, attributes := #[] }] 33 0 #[] #[])
  fields := #[]
  methods := #[k0m0]
  instanceTypes := #[]
  staticTypes := #[]
  resolved := Array.replicate 124 none
  statics := none }

def pool1 : Array CpInfo := pool [(2, .class_ 4), (1, u "java/lang/Object"), (0, u "<init>"), (0, u "()V"), (0, .fieldref 8 9), (0, .class_ 10), (0, .nameAndType 11 12), (0, u "inducere/Activation$Lifecycle"), (0, u "DRAFT"), (0, u "Linducere/Activation$Lifecycle;"), (0, .fieldref 8 14), (0, .nameAndType 15 12), (0, u "PROPOSED"), (0, .fieldref 8 17), (0, .nameAndType 18 12), (0, u "ACTIVE"), (0, .fieldref 8 20), (0, .nameAndType 21 12), (0, u "DEPRECATED"), (0, .fieldref 8 23), (0, .nameAndType 24 12), (0, u "SUSPENDED"), (0, .fieldref 8 26), (0, .nameAndType 27 12), (0, u "ARCHIVED"), (0, .fieldref 8 29), (0, .nameAndType 30 12), (0, u "FAILED"), (0, .fieldref 32 33), (0, .class_ 34), (0, .nameAndType 35 36), (0, u "inducere/Activation$Status"), (0, u "ENABLED"), (0, u "Linducere/Activation$Status;"), (0, .fieldref 32 38), (0, .nameAndType 39 36), (0, u "DISABLED"), (0, .fieldref 32 41), (0, .nameAndType 27 36), (0, .class_ 43), (0, u "java/lang/String"), (0, .methodref 42 45), (0, .nameAndType 5 46), (0, u "([C)V"), (0, .integer 2147483647), (0, .methodref 49 50), (0, .class_ 51), (0, .nameAndType 52 53), (0, u "inducere/ActivationSwitchedOffPinLaw"), (0, u "drawn"), (0, u "(ZI)Ljava/lang/String;"), (0, .class_ 55), (0, u "inducere/Activation"), (0, .methodref 49 57), (0, .nameAndType 58 59), (0, u "status"), (0, u "(I)Linducere/Activation$Status;"), (0, .methodref 49 61), (0, .nameAndType 62 63), (0, u "life"), (0, u "(I)Linducere/Activation$Lifecycle;"), (0, .methodref 54 65), (0, .nameAndType 5 66), (0, u "(Linducere/Activation$Status;Linducere/Activation$Lifecycle;Ljava/lang/String;Ljava/lang/String;Z)V"), (0, .methodref 54 68), (0, .nameAndType 69 70), (0, u "switchedOff"), (0, u "()Z"), (3, u "law"), (0, u "(IIIII)Z")] 5

def k1m0 : Method := { name := "<init>", desc := "()V", sig := { parameters := [], returnType := none }, accessFlags := 1, code := none }
def k1c1 : Code := { maxStack := 2, maxLocals := 1, code := method_2_code, exceptionTable := #[], attributes := #[] }
def k1m1 : Method := { name := "life", desc := "(I)Linducere/Activation$Lifecycle;", sig := { parameters := [.int], returnType := some (.object "inducere/Activation$Lifecycle") }, accessFlags := 10, code := some k1c1 }
def k1c2 : Code := { maxStack := 2, maxLocals := 1, code := method_3_code, exceptionTable := #[], attributes := #[] }
def k1m2 : Method := { name := "status", desc := "(I)Linducere/Activation$Status;", sig := { parameters := [.int], returnType := some (.object "inducere/Activation$Status") }, accessFlags := 10, code := some k1c2 }
def k1c3 : Code := { maxStack := 4, maxLocals := 3, code := method_4_code, exceptionTable := #[], attributes := #[] }
def k1m3 : Method := { name := "drawn", desc := "(ZI)Ljava/lang/String;", sig := { parameters := [.boolean, .int], returnType := some (.object "java/lang/String") }, accessFlags := 10, code := some k1c3 }
def k1c4 : Code := { maxStack := 7, maxLocals := 16, code := code, exceptionTable := #[], attributes := #[] }
def k1m4 : Method := { name := "law", desc := "(IIIII)Z", sig := { parameters := [.int, .int, .int, .int, .int], returnType := some .boolean }, accessFlags := 9, code := some k1c4 }
/-- inducere/ActivationSwitchedOffPinLaw -/
def k1 : Class := { plain "inducere/ActivationSwitchedOffPinLaw" (some 0) with
  accessFlags := 49
  interfaces := #[]
  cf := some (fileOf pool1 49 #[] #[{ accessFlags := 1, nameIndex := 5, descriptorIndex := 6, attributes := #[] }, { accessFlags := 10, nameIndex := 62, descriptorIndex := 63, attributes := #[] }, { accessFlags := 10, nameIndex := 58, descriptorIndex := 59, attributes := #[] }, { accessFlags := 10, nameIndex := 52, descriptorIndex := 53, attributes := #[] }, { accessFlags := 9, nameIndex := 74, descriptorIndex := 75, attributes := #[] }] 49 2 #[] #[])
  fields := #[]
  methods := #[k1m0, k1m1, k1m2, k1m3, k1m4]
  instanceTypes := #[]
  staticTypes := #[]
  resolved := Array.replicate 81 none
  statics := none }

def pool2 : Array CpInfo := pool [(1, .class_ 2), (0, u "java/io/Serializable"), (0, .class_ 4), (0, u "java/lang/Object")] 2

/-- java/io/Serializable -/
def k2 : Class := { plain "java/io/Serializable" (some 0) with
  accessFlags := 1537
  interfaces := #[]
  cf := some (fileOf pool2 1 #[] #[] 1537 3 #[] #[])
  fields := #[]
  methods := #[]
  instanceTypes := #[]
  staticTypes := #[]
  resolved := Array.replicate 7 none
  statics := none }

def pool3 : Array CpInfo := pool [(1, .class_ 2), (0, u "java/lang/Comparable"), (0, .class_ 4), (0, u "java/lang/Object")] 7

/-- java/lang/Comparable -/
def k3 : Class := { plain "java/lang/Comparable" (some 0) with
  accessFlags := 1537
  interfaces := #[]
  cf := some (fileOf pool3 1 #[] #[] 1537 3 #[] #[])
  fields := #[]
  methods := #[]
  instanceTypes := #[]
  staticTypes := #[]
  resolved := Array.replicate 12 none
  statics := none }

def pool4 : Array CpInfo := pool [(2, .class_ 4), (1, u "java/lang/CharSequence"), (42, .class_ 48), (0, u "java/lang/CharSequence$1CodePointIterator"), (10, .class_ 60), (0, u "java/lang/CharSequence$1CharIterator"), (5, .class_ 67), (0, u "java/lang/Object")] 63

/-- java/lang/CharSequence -/
def k4 : Class := { plain "java/lang/CharSequence" (some 0) with
  accessFlags := 1537
  interfaces := #[]
  cf := some (fileOf pool4 2 #[.nestMembers #[47, 59]] #[] 1537 66 #[] #[])
  fields := #[]
  methods := #[]
  instanceTypes := #[]
  staticTypes := #[]
  resolved := Array.replicate 131 none
  statics := none }

def pool5 : Array CpInfo := pool [(1, .class_ 2), (0, u "java/lang/constant/Constable"), (0, .class_ 4), (0, u "java/lang/Object")] 6

/-- java/lang/constant/Constable -/
def k5 : Class := { plain "java/lang/constant/Constable" (some 0) with
  accessFlags := 1537
  interfaces := #[]
  cf := some (fileOf pool5 1 #[] #[] 1537 3 #[] #[])
  fields := #[]
  methods := #[]
  instanceTypes := #[]
  staticTypes := #[]
  resolved := Array.replicate 11 none
  statics := none }

def pool6 : Array CpInfo := pool [(1, .class_ 2), (0, u "java/lang/constant/ConstantDesc"), (0, .class_ 4), (0, u "java/lang/Object")] 32

/-- java/lang/constant/ConstantDesc -/
def k6 : Class := { plain "java/lang/constant/ConstantDesc" (some 0) with
  accessFlags := 1537
  interfaces := #[]
  cf := some (fileOf pool6 1 #[] #[] 1537 3 #[] #[])
  fields := #[]
  methods := #[]
  instanceTypes := #[]
  staticTypes := #[]
  resolved := Array.replicate 37 none
  statics := none }

def pool7 : Array CpInfo := pool [(1, .methodref 2 3), (0, .class_ 4), (0, .nameAndType 5 6), (0, u "java/lang/Object"), (0, u "<init>"), (0, u "()V"), (2, .fieldref 10 11), (0, .class_ 12), (0, .nameAndType 13 14), (0, u "java/lang/String"), (0, u "value"), (0, u "[B"), (0, .fieldref 10 16), (0, .nameAndType 17 18), (0, u "coder"), (0, u "B"), (2, u "hash"), (0, u "I"), (2, u "hashIsZero"), (0, u "Z"), (0, .methodref 10 28), (0, .nameAndType 5 29), (0, u "([CIILjava/lang/Void;)V"), (8, .fieldref 10 39), (0, .nameAndType 40 26), (0, u "COMPACT_STRINGS"), (1, .class_ 44), (1, u "java/lang/StringUTF16"), (0, u "compress"), (1, .methodref 42 48), (0, .nameAndType 49 50), (0, u "coderFromArrayLen"), (0, u "([BI)B"), (126, .methodref 42 178), (0, .nameAndType 45 179), (0, u "([CII)[B"), (395, .class_ 576), (0, u "java/lang/CharSequence"), (22, u "CASE_INSENSITIVE_ORDER"), (0, u "Ljava/util/Comparator;"), (409, u "([C)V"), (90, u "serialPersistentFields"), (0, u "[Ljava/io/ObjectStreamField;"), (0, .class_ 1104), (0, u "java/lang/String$CaseInsensitiveComparator"), (1, .class_ 1107), (0, u "java/io/Serializable"), (0, .class_ 1109), (0, u "java/lang/Comparable"), (0, .class_ 1111), (0, u "java/lang/constant/Constable"), (0, .class_ 1113), (0, u "java/lang/constant/ConstantDesc"), (2, u "serialVersionUID"), (0, u "J"), (3, u "REPL"), (0, u "C"), (2, u "LATIN1"), (1, u "UTF16")] 323

def k7m0 : Method := { name := "<init>", desc := "()V", sig := { parameters := [], returnType := none }, accessFlags := 1, code := none }
def k7c1 : Code := { maxStack := 5, maxLocals := 2, code := jdk_42_method_3_code, exceptionTable := #[], attributes := #[] }
def k7m1 : Method := { name := "<init>", desc := "([C)V", sig := { parameters := [(.array .char)], returnType := none }, accessFlags := 1, code := some k7c1 }
def k7c2 : Code := { maxStack := 4, maxLocals := 6, code := jdk_42_method_149_code, exceptionTable := #[], attributes := #[] }
def k7m2 : Method := { name := "<init>", desc := "([CIILjava/lang/Void;)V", sig := { parameters := [(.array .char), .int, .int, (.object "java/lang/Void")], returnType := none }, accessFlags := 2, code := some k7c2 }
/-- java/lang/String -/
def k7 : Class := { plain "java/lang/String" (some 0) with
  accessFlags := 49
  interfaces := #[2, 3, 4, 5, 6]
  cf := some (fileOf pool7 10 #[.nestMembers #[1103]] #[{ accessFlags := 1, nameIndex := 5, descriptorIndex := 6, attributes := #[] }, { accessFlags := 1, nameIndex := 5, descriptorIndex := 1010, attributes := #[] }, { accessFlags := 2, nameIndex := 5, descriptorIndex := 29, attributes := #[] }] 49 2 #[1106, 1108, 575, 1110, 1112] #[{ accessFlags := 18, nameIndex := 13, descriptorIndex := 14, attributes := #[] }, { accessFlags := 18, nameIndex := 17, descriptorIndex := 18, attributes := #[] }, { accessFlags := 2, nameIndex := 21, descriptorIndex := 22, attributes := #[] }, { accessFlags := 2, nameIndex := 25, descriptorIndex := 26, attributes := #[] }, { accessFlags := 26, nameIndex := 1116, descriptorIndex := 1117, attributes := #[] }, { accessFlags := 24, nameIndex := 40, descriptorIndex := 26, attributes := #[] }, { accessFlags := 26, nameIndex := 1101, descriptorIndex := 1102, attributes := #[] }, { accessFlags := 26, nameIndex := 1121, descriptorIndex := 1122, attributes := #[] }, { accessFlags := 25, nameIndex := 599, descriptorIndex := 600, attributes := #[] }, { accessFlags := 24, nameIndex := 1125, descriptorIndex := 18, attributes := #[] }, { accessFlags := 24, nameIndex := 1127, descriptorIndex := 18, attributes := #[] }])
  fields := #[{ name := "value", type := (.array .byte), accessFlags := 18, slot := 0, constantValue := 0 }, { name := "coder", type := .byte, accessFlags := 18, slot := 1, constantValue := 0 }, { name := "hash", type := .int, accessFlags := 2, slot := 2, constantValue := 0 }, { name := "hashIsZero", type := .boolean, accessFlags := 2, slot := 3, constantValue := 0 }, { name := "serialVersionUID", type := .long, accessFlags := 26, slot := 0, constantValue := 0 }, { name := "COMPACT_STRINGS", type := .boolean, accessFlags := 24, slot := 1, constantValue := 0 }, { name := "serialPersistentFields", type := (.array (.object "java/io/ObjectStreamField")), accessFlags := 26, slot := 2, constantValue := 0 }, { name := "REPL", type := .char, accessFlags := 26, slot := 3, constantValue := 0 }, { name := "CASE_INSENSITIVE_ORDER", type := (.object "java/util/Comparator"), accessFlags := 25, slot := 4, constantValue := 0 }, { name := "LATIN1", type := .byte, accessFlags := 24, slot := 5, constantValue := 0 }, { name := "UTF16", type := .byte, accessFlags := 24, slot := 6, constantValue := 0 }]
  methods := #[k7m0, k7m1, k7m2]
  instanceTypes := #[(.array .byte), .byte, .int, .boolean]
  staticTypes := #[.long, .boolean, (.array (.object "java/io/ObjectStreamField")), .char, (.object "java/util/Comparator"), .byte, .byte]
  resolved := Array.replicate 1451 none
  statics := some 0 }

def pool8 : Array CpInfo := pool [(6, .class_ 8), (1, u "java/lang/Object"), (0, u "<init>"), (0, u "()V"), (1, .class_ 14), (1, u "java/lang/StringUTF16"), (31, u "$assertionsDisabled"), (0, u "Z"), (13, u "HI_BYTE_SHIFT"), (0, u "I"), (2, u "LO_BYTE_SHIFT"), (49, .methodref 12 116), (0, .nameAndType 117 118), (0, u "compress"), (0, u "([CI[BII)I"), (3, u "([CII)[B"), (138, u "coderFromArrayLen"), (0, u "([BI)B"), (106, .class_ 371), (1, u "java/lang/StringUTF16$LinesSpliterator"), (58, u "MAX_LENGTH"), (196, .class_ 628), (0, u "java/lang/StringUTF16$CodePointsSpliterator"), (0, .class_ 630), (0, u "java/lang/StringUTF16$CharsSpliterator")] 4

def k8m0 : Method := { name := "<init>", desc := "()V", sig := { parameters := [], returnType := none }, accessFlags := 0, code := none }
def k8c1 : Code := { maxStack := 2, maxLocals := 2, code := jdk_52_method_15_code, exceptionTable := #[], attributes := #[] }
def k8m1 : Method := { name := "coderFromArrayLen", desc := "([BI)B", sig := { parameters := [(.array .byte), .int], returnType := some .byte }, accessFlags := 8, code := some k8c1 }
def k8c2 : Code := { maxStack := 5, maxLocals := 6, code := jdk_52_method_16_code, exceptionTable := #[], attributes := #[] }
def k8m2 : Method := { name := "compress", desc := "([CII)[B", sig := { parameters := [(.array .char), .int, .int], returnType := some (.array .byte) }, accessFlags := 9, code := some k8c2 }
def k8c3 : Code := { maxStack := 3, maxLocals := 7, code := jdk_52_method_21_code, exceptionTable := #[], attributes := #[] }
def k8m3 : Method := { name := "compress", desc := "([CI[BII)I", sig := { parameters := [(.array .char), .int, (.array .byte), .int, .int], returnType := some .int }, accessFlags := 9, code := some k8c3 }
/-- java/lang/StringUTF16 -/
def k8 : Class := { plain "java/lang/StringUTF16" (some 0) with
  accessFlags := 48
  interfaces := #[]
  cf := some (fileOf pool8 12 #[.nestMembers #[627, 629, 369]] #[{ accessFlags := 0, nameIndex := 9, descriptorIndex := 10, attributes := #[] }, { accessFlags := 8, nameIndex := 261, descriptorIndex := 262, attributes := #[] }, { accessFlags := 9, nameIndex := 117, descriptorIndex := 122, attributes := #[] }, { accessFlags := 9, nameIndex := 117, descriptorIndex := 118, attributes := #[] }] 48 6 #[] #[{ accessFlags := 26, nameIndex := 61, descriptorIndex := 62, attributes := #[] }, { accessFlags := 26, nameIndex := 65, descriptorIndex := 62, attributes := #[] }, { accessFlags := 24, nameIndex := 430, descriptorIndex := 62, attributes := #[] }, { accessFlags := 4120, nameIndex := 46, descriptorIndex := 47, attributes := #[] }])
  fields := #[{ name := "HI_BYTE_SHIFT", type := .int, accessFlags := 26, slot := 0, constantValue := 0 }, { name := "LO_BYTE_SHIFT", type := .int, accessFlags := 26, slot := 1, constantValue := 0 }, { name := "MAX_LENGTH", type := .int, accessFlags := 24, slot := 2, constantValue := 0 }, { name := "$assertionsDisabled", type := .boolean, accessFlags := 4120, slot := 3, constantValue := 0 }]
  methods := #[k8m0, k8m1, k8m2, k8m3]
  instanceTypes := #[]
  staticTypes := #[.int, .int, .int, .boolean]
  resolved := Array.replicate 635 none
  statics := none }

def pool9 : Array CpInfo := pool [(1, .methodref 2 3), (0, .class_ 4), (0, .nameAndType 5 6), (0, u "java/lang/Object"), (0, u "<init>"), (0, u "()V"), (0, .class_ 8), (0, u "java/lang/Record")] 13

def k9c0 : Code := { maxStack := 1, maxLocals := 1, code := jdk_30_method_1_code, exceptionTable := #[], attributes := #[] }
def k9m0 : Method := { name := "<init>", desc := "()V", sig := { parameters := [], returnType := none }, accessFlags := 4, code := some k9c0 }
/-- java/lang/Record -/
def k9 : Class := { plain "java/lang/Record" (some 0) with
  accessFlags := 1057
  interfaces := #[]
  cf := some (fileOf pool9 7 #[] #[{ accessFlags := 4, nameIndex := 5, descriptorIndex := 6, attributes := #[] }] 1057 2 #[] #[])
  fields := #[]
  methods := #[k9m0]
  instanceTypes := #[]
  staticTypes := #[]
  resolved := Array.replicate 22 none
  statics := none }

def pool10 : Array CpInfo := pool [(1, .methodref 2 3), (0, .class_ 4), (0, .nameAndType 5 6), (0, u "java/lang/Record"), (0, u "<init>"), (0, u "()V"), (0, .fieldref 8 9), (0, .class_ 10), (0, .nameAndType 11 12), (0, u "inducere/Activation"), (0, u "status"), (0, u "Linducere/Activation$Status;"), (0, .fieldref 8 14), (0, .nameAndType 15 16), (0, u "lifecycle"), (0, u "Linducere/Activation$Lifecycle;"), (0, .fieldref 8 18), (0, .nameAndType 19 20), (0, u "validFrom"), (0, u "Ljava/lang/String;"), (0, .fieldref 8 22), (0, .nameAndType 23 20), (0, u "validTo"), (0, .fieldref 8 25), (0, .nameAndType 26 27), (0, u "conditional"), (0, u "Z"), (0, .fieldref 29 30), (0, .class_ 31), (0, .nameAndType 32 27), (0, u "inducere/Activation$Lifecycle"), (0, u "on"), (0, .fieldref 34 30), (0, .class_ 35), (0, u "inducere/Activation$Status"), (2, u "(Linducere/Activation$Status;Linducere/Activation$Lifecycle;Ljava/lang/String;Ljava/lang/String;Z)V"), (30, u "ON"), (0, u "Linducere/Activation;"), (3, u "switchedOff"), (0, u "()Z")] 51

def k10c0 : Code := { maxStack := 2, maxLocals := 6, code := prog_1_method_1_code, exceptionTable := #[], attributes := #[] }
def k10m0 : Method := { name := "<init>", desc := "(Linducere/Activation$Status;Linducere/Activation$Lifecycle;Ljava/lang/String;Ljava/lang/String;Z)V", sig := { parameters := [(.object "inducere/Activation$Status"), (.object "inducere/Activation$Lifecycle"), (.object "java/lang/String"), (.object "java/lang/String"), .boolean], returnType := none }, accessFlags := 0, code := some k10c0 }
def k10c1 : Code := { maxStack := 1, maxLocals := 1, code := prog_1_method_2_code, exceptionTable := #[], attributes := #[] }
def k10m1 : Method := { name := "switchedOff", desc := "()Z", sig := { parameters := [], returnType := some .boolean }, accessFlags := 0, code := some k10c1 }
/-- inducere/Activation -/
def k10 : Class := { plain "inducere/Activation" (some 9) with
  accessFlags := 48
  interfaces := #[]
  cf := some (fileOf pool10 8 #[.nestMembers #[29, 34]] #[{ accessFlags := 0, nameIndex := 5, descriptorIndex := 38, attributes := #[] }, { accessFlags := 0, nameIndex := 74, descriptorIndex := 75, attributes := #[] }] 48 2 #[] #[{ accessFlags := 18, nameIndex := 11, descriptorIndex := 12, attributes := #[] }, { accessFlags := 18, nameIndex := 15, descriptorIndex := 16, attributes := #[] }, { accessFlags := 18, nameIndex := 19, descriptorIndex := 20, attributes := #[] }, { accessFlags := 18, nameIndex := 23, descriptorIndex := 20, attributes := #[] }, { accessFlags := 18, nameIndex := 26, descriptorIndex := 27, attributes := #[] }, { accessFlags := 24, nameIndex := 69, descriptorIndex := 70, attributes := #[] }])
  fields := #[{ name := "status", type := (.object "inducere/Activation$Status"), accessFlags := 18, slot := 0, constantValue := 0 }, { name := "lifecycle", type := (.object "inducere/Activation$Lifecycle"), accessFlags := 18, slot := 1, constantValue := 0 }, { name := "validFrom", type := (.object "java/lang/String"), accessFlags := 18, slot := 2, constantValue := 0 }, { name := "validTo", type := (.object "java/lang/String"), accessFlags := 18, slot := 3, constantValue := 0 }, { name := "conditional", type := .boolean, accessFlags := 18, slot := 4, constantValue := 0 }, { name := "ON", type := (.object "inducere/Activation"), accessFlags := 24, slot := 0, constantValue := 0 }]
  methods := #[k10m0, k10m1]
  instanceTypes := #[(.object "inducere/Activation$Status"), (.object "inducere/Activation$Lifecycle"), (.object "java/lang/String"), (.object "java/lang/String"), .boolean]
  staticTypes := #[(.object "inducere/Activation")]
  resolved := ((Array.replicate 127 none).setIfInBounds 28 (some (.field 13 9))).setIfInBounds 33 (some (.field 12 5))
  statics := none }

def pool11 : Array CpInfo := pool [(2, .class_ 4), (1, u "java/lang/Enum"), (0, u "name"), (0, u "Ljava/lang/String;"), (2, u "ordinal"), (0, u "I"), (1, .class_ 14), (1, u "java/lang/Object"), (4, u "hash"), (86, .class_ 108), (1, u "java/lang/Enum$EnumDesc"), (2, .class_ 112), (0, u "java/lang/constant/Constable"), (0, .class_ 114), (0, u "java/lang/Comparable"), (0, .class_ 116), (0, u "java/io/Serializable")] 87

/-- java/lang/Enum -/
def k11 : Class := { plain "java/lang/Enum" (some 0) with
  accessFlags := 1057
  interfaces := #[5, 3, 2]
  cf := some (fileOf pool11 2 #[.nestMembers #[106]] #[] 1057 12 #[111, 113, 115] #[{ accessFlags := 18, nameIndex := 5, descriptorIndex := 6, attributes := #[] }, { accessFlags := 18, nameIndex := 9, descriptorIndex := 10, attributes := #[] }, { accessFlags := 2, nameIndex := 19, descriptorIndex := 10, attributes := #[] }])
  fields := #[{ name := "name", type := (.object "java/lang/String"), accessFlags := 18, slot := 0, constantValue := 0 }, { name := "ordinal", type := .int, accessFlags := 18, slot := 1, constantValue := 0 }, { name := "hash", type := .int, accessFlags := 2, slot := 2, constantValue := 0 }]
  methods := #[]
  instanceTypes := #[(.object "java/lang/String"), .int, .int]
  staticTypes := #[]
  resolved := Array.replicate 204 none
  statics := none }

def pool12 : Array CpInfo := pool [(1, .class_ 2), (0, u "inducere/Activation$Status"), (2, u "ENABLED"), (0, u "Linducere/Activation$Status;"), (2, u "DISABLED"), (2, u "ARCHIVED"), (2, u "$VALUES"), (0, u "[Linducere/Activation$Status;"), (6, .class_ 25), (1, u "java/lang/Enum"), (8, u "word"), (0, u "Ljava/lang/String;"), (2, u "on"), (0, u "Z"), (36, u "WORDS"), (0, u "Linducere/Vocabulary;"), (15, .class_ 94), (0, u "inducere/Activation")] 21

/-- inducere/Activation$Status -/
def k12 : Class := { plain "inducere/Activation$Status" (some 11) with
  accessFlags := 16432
  interfaces := #[]
  cf := some (fileOf pool12 1 #[.nestHost 93] #[] 16432 23 #[] #[{ accessFlags := 16409, nameIndex := 5, descriptorIndex := 6, attributes := #[] }, { accessFlags := 16409, nameIndex := 9, descriptorIndex := 6, attributes := #[] }, { accessFlags := 16409, nameIndex := 12, descriptorIndex := 6, attributes := #[] }, { accessFlags := 24, nameIndex := 76, descriptorIndex := 77, attributes := #[] }, { accessFlags := 18, nameIndex := 34, descriptorIndex := 35, attributes := #[] }, { accessFlags := 18, nameIndex := 38, descriptorIndex := 39, attributes := #[] }, { accessFlags := 4122, nameIndex := 15, descriptorIndex := 16, attributes := #[] }])
  fields := #[{ name := "ENABLED", type := (.object "inducere/Activation$Status"), accessFlags := 16409, slot := 0, constantValue := 0 }, { name := "DISABLED", type := (.object "inducere/Activation$Status"), accessFlags := 16409, slot := 1, constantValue := 0 }, { name := "ARCHIVED", type := (.object "inducere/Activation$Status"), accessFlags := 16409, slot := 2, constantValue := 0 }, { name := "WORDS", type := (.object "inducere/Vocabulary"), accessFlags := 24, slot := 3, constantValue := 0 }, { name := "word", type := (.object "java/lang/String"), accessFlags := 18, slot := 3, constantValue := 0 }, { name := "on", type := .boolean, accessFlags := 18, slot := 4, constantValue := 0 }, { name := "$VALUES", type := (.array (.object "inducere/Activation$Status")), accessFlags := 4122, slot := 4, constantValue := 0 }]
  methods := #[]
  instanceTypes := #[(.object "java/lang/String"), .int, .int, (.object "java/lang/String"), .boolean]
  staticTypes := #[(.object "inducere/Activation$Status"), (.object "inducere/Activation$Status"), (.object "inducere/Activation$Status"), (.object "inducere/Vocabulary"), (.array (.object "inducere/Activation$Status"))]
  resolved := Array.replicate 116 none
  statics := some 1 }

def pool13 : Array CpInfo := pool [(1, .class_ 2), (0, u "inducere/Activation$Lifecycle"), (2, u "DRAFT"), (0, u "Linducere/Activation$Lifecycle;"), (2, u "PROPOSED"), (2, u "ACTIVE"), (2, u "DEPRECATED"), (2, u "SUSPENDED"), (2, u "ARCHIVED"), (2, u "FAILED"), (2, u "$VALUES"), (0, u "[Linducere/Activation$Lifecycle;"), (6, .class_ 37), (1, u "java/lang/Enum"), (8, u "word"), (0, u "Ljava/lang/String;"), (2, u "on"), (0, u "Z"), (2, u "assignmentsActive"), (48, u "WORDS"), (0, u "Linducere/Vocabulary;"), (15, .class_ 121), (0, u "inducere/Activation")] 21

/-- inducere/Activation$Lifecycle -/
def k13 : Class := { plain "inducere/Activation$Lifecycle" (some 11) with
  accessFlags := 16432
  interfaces := #[]
  cf := some (fileOf pool13 1 #[.nestHost 120] #[] 16432 35 #[] #[{ accessFlags := 16409, nameIndex := 5, descriptorIndex := 6, attributes := #[] }, { accessFlags := 16409, nameIndex := 9, descriptorIndex := 6, attributes := #[] }, { accessFlags := 16409, nameIndex := 12, descriptorIndex := 6, attributes := #[] }, { accessFlags := 16409, nameIndex := 15, descriptorIndex := 6, attributes := #[] }, { accessFlags := 16409, nameIndex := 18, descriptorIndex := 6, attributes := #[] }, { accessFlags := 16409, nameIndex := 21, descriptorIndex := 6, attributes := #[] }, { accessFlags := 16409, nameIndex := 24, descriptorIndex := 6, attributes := #[] }, { accessFlags := 24, nameIndex := 103, descriptorIndex := 104, attributes := #[] }, { accessFlags := 18, nameIndex := 46, descriptorIndex := 47, attributes := #[] }, { accessFlags := 18, nameIndex := 50, descriptorIndex := 51, attributes := #[] }, { accessFlags := 18, nameIndex := 54, descriptorIndex := 51, attributes := #[] }, { accessFlags := 4122, nameIndex := 27, descriptorIndex := 28, attributes := #[] }])
  fields := #[{ name := "DRAFT", type := (.object "inducere/Activation$Lifecycle"), accessFlags := 16409, slot := 0, constantValue := 0 }, { name := "PROPOSED", type := (.object "inducere/Activation$Lifecycle"), accessFlags := 16409, slot := 1, constantValue := 0 }, { name := "ACTIVE", type := (.object "inducere/Activation$Lifecycle"), accessFlags := 16409, slot := 2, constantValue := 0 }, { name := "DEPRECATED", type := (.object "inducere/Activation$Lifecycle"), accessFlags := 16409, slot := 3, constantValue := 0 }, { name := "SUSPENDED", type := (.object "inducere/Activation$Lifecycle"), accessFlags := 16409, slot := 4, constantValue := 0 }, { name := "ARCHIVED", type := (.object "inducere/Activation$Lifecycle"), accessFlags := 16409, slot := 5, constantValue := 0 }, { name := "FAILED", type := (.object "inducere/Activation$Lifecycle"), accessFlags := 16409, slot := 6, constantValue := 0 }, { name := "WORDS", type := (.object "inducere/Vocabulary"), accessFlags := 24, slot := 7, constantValue := 0 }, { name := "word", type := (.object "java/lang/String"), accessFlags := 18, slot := 3, constantValue := 0 }, { name := "on", type := .boolean, accessFlags := 18, slot := 4, constantValue := 0 }, { name := "assignmentsActive", type := .boolean, accessFlags := 18, slot := 5, constantValue := 0 }, { name := "$VALUES", type := (.array (.object "inducere/Activation$Lifecycle")), accessFlags := 4122, slot := 8, constantValue := 0 }]
  methods := #[]
  instanceTypes := #[(.object "java/lang/String"), .int, .int, (.object "java/lang/String"), .boolean, .boolean]
  staticTypes := #[(.object "inducere/Activation$Lifecycle"), (.object "inducere/Activation$Lifecycle"), (.object "inducere/Activation$Lifecycle"), (.object "inducere/Activation$Lifecycle"), (.object "inducere/Activation$Lifecycle"), (.object "inducere/Activation$Lifecycle"), (.object "inducere/Activation$Lifecycle"), (.object "inducere/Vocabulary"), (.array (.object "inducere/Activation$Lifecycle"))]
  resolved := Array.replicate 143 none
  statics := some 2 }

def pool14 : Array CpInfo := pool [(4, .class_ 6), (1, u "java/lang/Object"), (0, u "<init>"), (0, u "()V"), (5, .class_ 16), (1, u "java/lang/StringLatin1"), (104, u "$assertionsDisabled"), (0, u "Z"), (98, .class_ 223), (1, u "java/lang/StringLatin1$LinesSpliterator"), (166, .class_ 391), (0, u "java/lang/StringLatin1$CharsSpliterator")] 3

def k14m0 : Method := { name := "<init>", desc := "()V", sig := { parameters := [], returnType := none }, accessFlags := 0, code := none }
/-- java/lang/StringLatin1 -/
def k14 : Class := { plain "java/lang/StringLatin1" (some 0) with
  accessFlags := 48
  interfaces := #[]
  cf := some (fileOf pool14 14 #[.nestMembers #[390, 221]] #[{ accessFlags := 0, nameIndex := 7, descriptorIndex := 8, attributes := #[] }] 48 4 #[] #[{ accessFlags := 4120, nameIndex := 121, descriptorIndex := 122, attributes := #[] }])
  fields := #[{ name := "$assertionsDisabled", type := .boolean, accessFlags := 4120, slot := 0, constantValue := 0 }]
  methods := #[k14m0]
  instanceTypes := #[]
  staticTypes := #[.boolean]
  resolved := Array.replicate 395 none
  statics := none }

def pool15 : Array CpInfo := pool [(2, .class_ 4), (1, u "java/lang/Object"), (0, u "<init>"), (0, u "()V"), (17, .class_ 26), (1, u "jdk/internal/util/Preconditions"), (28, .class_ 56), (0, u "jdk/internal/util/Preconditions$4"), (57, .class_ 115), (0, u "jdk/internal/util/Preconditions$1"), (7, u "SIOOBE_FORMATTER"), (0, u "Ljava/util/function/BiFunction;"), (0, .class_ 126), (0, u "jdk/internal/util/Preconditions$2"), (3, u "AIOOBE_FORMATTER"), (0, .class_ 132), (0, u "jdk/internal/util/Preconditions$3"), (3, u "IOOBE_FORMATTER")] 57

def k15m0 : Method := { name := "<init>", desc := "()V", sig := { parameters := [], returnType := none }, accessFlags := 1, code := none }
/-- jdk/internal/util/Preconditions -/
def k15 : Class := { plain "jdk/internal/util/Preconditions" (some 0) with
  accessFlags := 33
  interfaces := #[]
  cf := some (fileOf pool15 24 #[.nestMembers #[55, 131, 125, 114]] #[{ accessFlags := 1, nameIndex := 5, descriptorIndex := 6, attributes := #[] }] 33 2 #[] #[{ accessFlags := 25, nameIndex := 123, descriptorIndex := 124, attributes := #[] }, { accessFlags := 25, nameIndex := 130, descriptorIndex := 124, attributes := #[] }, { accessFlags := 25, nameIndex := 136, descriptorIndex := 124, attributes := #[] }])
  fields := #[{ name := "SIOOBE_FORMATTER", type := (.object "java/util/function/BiFunction"), accessFlags := 25, slot := 0, constantValue := 0 }, { name := "AIOOBE_FORMATTER", type := (.object "java/util/function/BiFunction"), accessFlags := 25, slot := 1, constantValue := 0 }, { name := "IOOBE_FORMATTER", type := (.object "java/util/function/BiFunction"), accessFlags := 25, slot := 2, constantValue := 0 }]
  methods := #[k15m0]
  instanceTypes := #[]
  staticTypes := #[(.object "java/util/function/BiFunction"), (.object "java/util/function/BiFunction"), (.object "java/util/function/BiFunction")]
  resolved := Array.replicate 194 none
  statics := some 3 }

def pool16 : Array CpInfo := pool [(9, u "<init>"), (6, .class_ 18), (1, u "java/lang/Object"), (0, u "()V"), (1, .class_ 23), (1, u "jdk/internal/util/ArraysSupport"), (0, u "LOG2_ARRAY_LONG_INDEX_SCALE"), (0, u "I"), (2, u "U"), (0, u "Ljdk/internal/misc/Unsafe;"), (8, u "BIG_ENDIAN"), (0, u "Z"), (8, u "LOG2_BYTE_BIT_SIZE"), (4, u "LOG2_ARRAY_INT_INDEX_SCALE"), (54, u "JLA"), (0, u "Ljdk/internal/access/JavaLangAccess;"), (11, u "LOG2_ARRAY_BOOLEAN_INDEX_SCALE"), (9, u "LOG2_ARRAY_BYTE_INDEX_SCALE"), (5, u "LOG2_ARRAY_CHAR_INDEX_SCALE"), (5, u "LOG2_ARRAY_SHORT_INDEX_SCALE"), (18, u "LOG2_ARRAY_FLOAT_INDEX_SCALE"), (24, u "LOG2_ARRAY_DOUBLE_INDEX_SCALE"), (89, u "T_BOOLEAN"), (2, u "T_CHAR"), (1, u "T_FLOAT"), (1, u "T_DOUBLE"), (1, u "T_BYTE"), (1, u "T_SHORT"), (1, u "T_INT"), (1, u "T_LONG"), (1, u "SOFT_MAX_ARRAY_LENGTH")] 83

def k16m0 : Method := { name := "<init>", desc := "()V", sig := { parameters := [], returnType := none }, accessFlags := 2, code := none }
/-- jdk/internal/util/ArraysSupport -/
def k16 : Class := { plain "jdk/internal/util/ArraysSupport" (some 0) with
  accessFlags := 33
  interfaces := #[]
  cf := some (fileOf pool16 21 #[] #[{ accessFlags := 2, nameIndex := 9, descriptorIndex := 19, attributes := #[] }] 33 16 #[] #[{ accessFlags := 24, nameIndex := 28, descriptorIndex := 29, attributes := #[] }, { accessFlags := 26, nameIndex := 38, descriptorIndex := 39, attributes := #[] }, { accessFlags := 25, nameIndex := 121, descriptorIndex := 25, attributes := #[] }, { accessFlags := 25, nameIndex := 131, descriptorIndex := 25, attributes := #[] }, { accessFlags := 25, nameIndex := 137, descriptorIndex := 25, attributes := #[] }, { accessFlags := 25, nameIndex := 143, descriptorIndex := 25, attributes := #[] }, { accessFlags := 25, nameIndex := 53, descriptorIndex := 25, attributes := #[] }, { accessFlags := 25, nameIndex := 24, descriptorIndex := 25, attributes := #[] }, { accessFlags := 25, nameIndex := 162, descriptorIndex := 25, attributes := #[] }, { accessFlags := 25, nameIndex := 187, descriptorIndex := 25, attributes := #[] }, { accessFlags := 26, nameIndex := 48, descriptorIndex := 25, attributes := #[] }, { accessFlags := 25, nameIndex := 277, descriptorIndex := 25, attributes := #[] }, { accessFlags := 25, nameIndex := 280, descriptorIndex := 25, attributes := #[] }, { accessFlags := 25, nameIndex := 282, descriptorIndex := 25, attributes := #[] }, { accessFlags := 25, nameIndex := 284, descriptorIndex := 25, attributes := #[] }, { accessFlags := 25, nameIndex := 286, descriptorIndex := 25, attributes := #[] }, { accessFlags := 25, nameIndex := 288, descriptorIndex := 25, attributes := #[] }, { accessFlags := 25, nameIndex := 290, descriptorIndex := 25, attributes := #[] }, { accessFlags := 25, nameIndex := 292, descriptorIndex := 25, attributes := #[] }, { accessFlags := 26, nameIndex := 108, descriptorIndex := 109, attributes := #[] }, { accessFlags := 25, nameIndex := 294, descriptorIndex := 25, attributes := #[] }])
  fields := #[{ name := "U", type := (.object "jdk/internal/misc/Unsafe"), accessFlags := 24, slot := 0, constantValue := 0 }, { name := "BIG_ENDIAN", type := .boolean, accessFlags := 26, slot := 1, constantValue := 0 }, { name := "LOG2_ARRAY_BOOLEAN_INDEX_SCALE", type := .int, accessFlags := 25, slot := 2, constantValue := 0 }, { name := "LOG2_ARRAY_BYTE_INDEX_SCALE", type := .int, accessFlags := 25, slot := 3, constantValue := 0 }, { name := "LOG2_ARRAY_CHAR_INDEX_SCALE", type := .int, accessFlags := 25, slot := 4, constantValue := 0 }, { name := "LOG2_ARRAY_SHORT_INDEX_SCALE", type := .int, accessFlags := 25, slot := 5, constantValue := 0 }, { name := "LOG2_ARRAY_INT_INDEX_SCALE", type := .int, accessFlags := 25, slot := 6, constantValue := 0 }, { name := "LOG2_ARRAY_LONG_INDEX_SCALE", type := .int, accessFlags := 25, slot := 7, constantValue := 0 }, { name := "LOG2_ARRAY_FLOAT_INDEX_SCALE", type := .int, accessFlags := 25, slot := 8, constantValue := 0 }, { name := "LOG2_ARRAY_DOUBLE_INDEX_SCALE", type := .int, accessFlags := 25, slot := 9, constantValue := 0 }, { name := "LOG2_BYTE_BIT_SIZE", type := .int, accessFlags := 26, slot := 10, constantValue := 0 }, { name := "T_BOOLEAN", type := .int, accessFlags := 25, slot := 11, constantValue := 0 }, { name := "T_CHAR", type := .int, accessFlags := 25, slot := 12, constantValue := 0 }, { name := "T_FLOAT", type := .int, accessFlags := 25, slot := 13, constantValue := 0 }, { name := "T_DOUBLE", type := .int, accessFlags := 25, slot := 14, constantValue := 0 }, { name := "T_BYTE", type := .int, accessFlags := 25, slot := 15, constantValue := 0 }, { name := "T_SHORT", type := .int, accessFlags := 25, slot := 16, constantValue := 0 }, { name := "T_INT", type := .int, accessFlags := 25, slot := 17, constantValue := 0 }, { name := "T_LONG", type := .int, accessFlags := 25, slot := 18, constantValue := 0 }, { name := "JLA", type := (.object "jdk/internal/access/JavaLangAccess"), accessFlags := 26, slot := 19, constantValue := 0 }, { name := "SOFT_MAX_ARRAY_LENGTH", type := .int, accessFlags := 25, slot := 20, constantValue := 0 }]
  methods := #[k16m0]
  instanceTypes := #[]
  staticTypes := #[(.object "jdk/internal/misc/Unsafe"), .boolean, .int, .int, .int, .int, .int, .int, .int, .int, .int, .int, .int, .int, .int, .int, .int, .int, .int, (.object "jdk/internal/access/JavaLangAccess"), .int]
  resolved := Array.replicate 378 none
  statics := none }

def pool17 : Array CpInfo := pool [(1, u "java/lang/Cloneable"), (0, .class_ 1), (0, u "java/lang/Object"), (0, .class_ 3)] 3

/-- java/lang/Cloneable -/
def k17 : Class := { plain "java/lang/Cloneable" (some 0) with
  accessFlags := 1537
  interfaces := #[]
  cf := some (fileOf pool17 2 #[] #[] 1537 4 #[] #[])
  fields := #[]
  methods := #[]
  instanceTypes := #[]
  staticTypes := #[]
  resolved := Array.replicate 8 none
  statics := none }

/-- the primitive byte -/
def k18 : Class := { plain "byte" none with kind := .primitive 'B', accessFlags := 0x411 }
/-- [B -/
def k19 : Class := { plain "[B" (some 0) with kind := .array 18 .byte, interfaces := #[17, 2], accessFlags := 1041 }

/-- the primitive char -/
def k20 : Class := { plain "char" none with kind := .primitive 'C', accessFlags := 0x411 }
/-- [C -/
def k21 : Class := { plain "[C" (some 0) with kind := .array 20 .char, interfaces := #[17, 2], accessFlags := 1041 }

/-- the primitive int -/
def k22 : Class := { plain "int" none with kind := .primitive 'I', accessFlags := 0x411 }
/-- [I -/
def k23 : Class := { plain "[I" (some 0) with kind := .array 22 .int, interfaces := #[17, 2], accessFlags := 1041 }

def heap : Heap := #[{ cls := 7, slots := #[.long 0, .int 1, .null, .int 0, .null, .int 0, .int 0], vm := .statics 7 },
  { cls := 12, slots := #[.ref 4, .ref 5, .ref 6, .null, .null], vm := .statics 12 },
  { cls := 13, slots := #[.ref 7, .ref 8, .ref 9, .ref 10, .ref 11, .ref 12, .ref 13, .null, .null], vm := .statics 13 },
  { cls := 15, slots := #[.null, .null, .null], vm := .statics 15 },
  { cls := 12, slots := #[.null, .int 0, .int 0, .null, .int 1], vm := .none },
  { cls := 12, slots := #[.null, .int 1, .int 0, .null, .int 0], vm := .none },
  { cls := 12, slots := #[.null, .int 2, .int 0, .null, .int 0], vm := .none },
  { cls := 13, slots := #[.null, .int 0, .int 0, .null, .int 0, .int 0], vm := .none },
  { cls := 13, slots := #[.null, .int 1, .int 0, .null, .int 0, .int 0], vm := .none },
  { cls := 13, slots := #[.null, .int 2, .int 0, .null, .int 1, .int 0], vm := .none },
  { cls := 13, slots := #[.null, .int 3, .int 0, .null, .int 1, .int 0], vm := .none },
  { cls := 13, slots := #[.null, .int 4, .int 0, .null, .int 0, .int 0], vm := .none },
  { cls := 13, slots := #[.null, .int 5, .int 0, .null, .int 0, .int 0], vm := .none },
  { cls := 13, slots := #[.null, .int 6, .int 0, .null, .int 0, .int 0], vm := .none }]
def classes : Array Class := #[k0, k1, k2, k3, k4, k5, k6, k7, k8, k9, k10, k11, k12, k13, k14, k15, k16, k17, k18, k19, k20, k21, k22, k23]
def interned : List (Array UInt16 × Addr) := []
def slotsUsed : Nat := 81
def theMethod : MethodId := ⟨1, 4⟩
def args0 : Array Value := #[.int 5, .int 5, .int 5, .int 5, .int 5]
def aboutOver (below : List Frame) : State where
  vm := { classes := classes, interned := interned.toArray }
  heap := heap
  slotsUsed := slotsUsed
  threads := #[{ frames := .invoking theMethod args0 :: below }]
def below0 : List Frame := [.native { method := ⟨0, 0⟩, args := #[] }]
def about1 : State := aboutOver below0
def p0 : Program := .bare "" "" ""
def e0 : Env := launch0.env 0 0 0
theorem w_frames : about1.frames = Frame.invoking theMethod args0 :: below0 := rfl
set_option maxRecDepth 65536 in
theorem w_args : argsFit about1.vm theMethod args0 = true := by decide +kernel
set_option maxRecDepth 65536 in
theorem w_heap : heapFits about1 = true := by decide +kernel
set_option maxRecDepth 65536 in
theorem w_runnable : about1.curStatus? = some .runnable := by decide +kernel
set_option maxRecDepth 65536 in
theorem w_alone : about1.alone = true := by decide +kernel
set_option maxRecDepth 65536 in
theorem w_named : about1.methodNamed? x = some theMethod := by decide +kernel
set_option maxRecDepth 65536 in
theorem w_hears : about1.hears theMethod below0 = true := by decide +kernel
set_option maxRecDepth 65536 in
theorem w_ripe : about1.ripe theMethod args0 below0 = true := by decide +kernel
theorem w_running : about1.status = .running := rfl
set_option maxRecDepth 65536 in
theorem w_room : about1.hasRoom e0.platform room_1 = true :=
  launch0.hasRoom_least _ room_1 (by decide +kernel) (by decide +kernel) (by decide +kernel) (by decide +kernel) (by decide +kernel) (by decide +kernel)
theorem allAtoms_all (ts : List Jvm.Cond) (a : Array Jvm.Value) (st : Jvm.State) : (allAtoms ts).before a st = ts.all (fun c => c.before a st) := by
  induction ts with
  | nil => rfl
  | cons c t ih =>
    show (Jvm.Cond.and c (allAtoms t)).before a st = _
    rw [Jvm.Cond.before_and, ih, List.all_cons]
def words1 : List Jvm.Cond := Jvm.Cond.code x code maxLocals ret :: tables_1
/-- a 'code' word, met by the world's own term for the bytes: nothing is compared byte by byte -/
theorem code_word {y : MethodName} {bytes : ByteArray} {mx : Nat} {rt : Option FieldType} {a : Array Value} {s : State} {m : MethodId} {meth : Method} {c : Code} (h1 : s.methodNamed? y = some m) (h2 : s.vm.method? m = some meth) (h3 : meth.code = some c) (h4 : c.code = bytes)
    (h5 : (c.maxLocals == mx && c.exceptionTable.isEmpty && decide (c.maxStack ≤ mostOperands) && decide (meth.sig.returnType = rt) && !meth.locks && decide (parseMethodDescriptor y.desc = some meth.sig)) = true) : (Jvm.Cond.code y bytes mx rt).before a s = true := by
  simp only [Bool.and_eq_true, beq_iff_eq, Bool.not_eq_true', decide_eq_true_eq] at h5
  obtain ⟨⟨⟨⟨⟨g1, g2⟩, g3⟩, g4⟩, g5⟩, g6⟩ := h5
  simp [Cond.before, Cond.holds, Cond.value, h1, h2, h3, h4, g1, g2, g3, g4, g5, g6]
def isCode : Jvm.Cond → Bool
  | .code _ _ _ _ => true
  | _ => false
theorem all_split {L : List Jvm.Cond} {P : Jvm.Cond → Bool} (h1 : L.all (fun c => isCode c || P c) = true) (h2 : ∀ c ∈ L.filter isCode, P c = true) : L.all P = true := by
  refine List.all_eq_true.mpr fun c hc => ?_
  have h := List.all_eq_true.mp h1 c hc
  rcases Bool.eq_false_or_eq_true (isCode c) with hi | hi
  · exact h2 c (List.mem_filter.mpr ⟨hc, hi⟩)
  · simpa [hi] using h
set_option maxRecDepth 65536 in
theorem w_c0 : (Jvm.Cond.code x code maxLocals ret).before args0 about1 = true := code_word (m := ⟨1, 4⟩) (meth := k1m4) (c := k1c4) (by decide +kernel) rfl rfl rfl (by decide +kernel)
set_option maxRecDepth 65536 in
theorem w_c1 : (Jvm.Cond.code ({ cls := "inducere/ActivationSwitchedOffPinLaw", name := "drawn", desc := "(ZI)Ljava/lang/String;" } : Jvm.MethodName) method_4_code (3 : Nat) (Option.some (Jvm.ClassFile.FieldType.object "java/lang/String"))).before args0 about1 = true := code_word (m := ⟨1, 3⟩) (meth := k1m3) (c := k1c3) (by decide +kernel) rfl rfl rfl (by decide +kernel)
set_option maxRecDepth 65536 in
theorem w_c2 : (Jvm.Cond.code ({ cls := "java/lang/String", name := "<init>", desc := "([C)V" } : Jvm.MethodName) jdk_42_method_3_code (2 : Nat) (Option.none : Option Jvm.ClassFile.FieldType)).before args0 about1 = true := code_word (m := ⟨7, 1⟩) (meth := k7m1) (c := k7c1) (by decide +kernel) rfl rfl rfl (by decide +kernel)
set_option maxRecDepth 65536 in
theorem w_c3 : (Jvm.Cond.code ({ cls := "java/lang/String", name := "<init>", desc := "([CIILjava/lang/Void;)V" } : Jvm.MethodName) jdk_42_method_149_code (6 : Nat) (Option.none : Option Jvm.ClassFile.FieldType)).before args0 about1 = true := code_word (m := ⟨7, 2⟩) (meth := k7m2) (c := k7c2) (by decide +kernel) rfl rfl rfl (by decide +kernel)
set_option maxRecDepth 65536 in
theorem w_c4 : (Jvm.Cond.code ({ cls := "java/lang/Object", name := "<init>", desc := "()V" } : Jvm.MethodName) object_method_1_code (1 : Nat) (Option.none : Option Jvm.ClassFile.FieldType)).before args0 about1 = true := code_word (m := ⟨0, 0⟩) (meth := k0m0) (c := k0c0) (by decide +kernel) rfl rfl rfl (by decide +kernel)
set_option maxRecDepth 65536 in
theorem w_c5 : (Jvm.Cond.code ({ cls := "java/lang/StringUTF16", name := "compress", desc := "([CII)[B" } : Jvm.MethodName) jdk_52_method_16_code (6 : Nat) (Option.some (Jvm.ClassFile.FieldType.array Jvm.ClassFile.FieldType.byte))).before args0 about1 = true := code_word (m := ⟨8, 2⟩) (meth := k8m2) (c := k8c2) (by decide +kernel) rfl rfl rfl (by decide +kernel)
set_option maxRecDepth 65536 in
theorem w_c6 : (Jvm.Cond.code ({ cls := "java/lang/StringUTF16", name := "compress", desc := "([CI[BII)I" } : Jvm.MethodName) jdk_52_method_21_code (7 : Nat) (Option.some Jvm.ClassFile.FieldType.int)).before args0 about1 = true := code_word (m := ⟨8, 3⟩) (meth := k8m3) (c := k8c3) (by decide +kernel) rfl rfl rfl (by decide +kernel)
set_option maxRecDepth 65536 in
theorem w_c7 : (Jvm.Cond.code ({ cls := "java/lang/StringUTF16", name := "coderFromArrayLen", desc := "([BI)B" } : Jvm.MethodName) jdk_52_method_15_code (2 : Nat) (Option.some Jvm.ClassFile.FieldType.byte)).before args0 about1 = true := code_word (m := ⟨8, 1⟩) (meth := k8m1) (c := k8c1) (by decide +kernel) rfl rfl rfl (by decide +kernel)
set_option maxRecDepth 65536 in
theorem w_c8 : (Jvm.Cond.code ({ cls := "inducere/ActivationSwitchedOffPinLaw", name := "status", desc := "(I)Linducere/Activation$Status;" } : Jvm.MethodName) method_3_code (1 : Nat) (Option.some (Jvm.ClassFile.FieldType.object "inducere/Activation$Status"))).before args0 about1 = true := code_word (m := ⟨1, 2⟩) (meth := k1m2) (c := k1c2) (by decide +kernel) rfl rfl rfl (by decide +kernel)
set_option maxRecDepth 65536 in
theorem w_c9 : (Jvm.Cond.code ({ cls := "inducere/ActivationSwitchedOffPinLaw", name := "life", desc := "(I)Linducere/Activation$Lifecycle;" } : Jvm.MethodName) method_2_code (1 : Nat) (Option.some (Jvm.ClassFile.FieldType.object "inducere/Activation$Lifecycle"))).before args0 about1 = true := code_word (m := ⟨1, 1⟩) (meth := k1m1) (c := k1c1) (by decide +kernel) rfl rfl rfl (by decide +kernel)
set_option maxRecDepth 65536 in
theorem w_c10 : (Jvm.Cond.code ({ cls := "inducere/Activation", name := "<init>", desc := "(Linducere/Activation$Status;Linducere/Activation$Lifecycle;Ljava/lang/String;Ljava/lang/String;Z)V" } : Jvm.MethodName) prog_1_method_1_code (6 : Nat) (Option.none : Option Jvm.ClassFile.FieldType)).before args0 about1 = true := code_word (m := ⟨10, 0⟩) (meth := k10m0) (c := k10c0) (by decide +kernel) rfl rfl rfl (by decide +kernel)
set_option maxRecDepth 65536 in
theorem w_c11 : (Jvm.Cond.code ({ cls := "java/lang/Record", name := "<init>", desc := "()V" } : Jvm.MethodName) jdk_30_method_1_code (1 : Nat) (Option.none : Option Jvm.ClassFile.FieldType)).before args0 about1 = true := code_word (m := ⟨9, 0⟩) (meth := k9m0) (c := k9c0) (by decide +kernel) rfl rfl rfl (by decide +kernel)
set_option maxRecDepth 65536 in
theorem w_c12 : (Jvm.Cond.code ({ cls := "inducere/Activation", name := "switchedOff", desc := "()Z" } : Jvm.MethodName) prog_1_method_2_code (1 : Nat) (Option.some Jvm.ClassFile.FieldType.boolean)).before args0 about1 = true := code_word (m := ⟨10, 1⟩) (meth := k10m1) (c := k10c1) (by decide +kernel) rfl rfl rfl (by decide +kernel)
def codes1 : List Jvm.Cond := [Jvm.Cond.code x code maxLocals ret, Jvm.Cond.code ({ cls := "inducere/ActivationSwitchedOffPinLaw", name := "drawn", desc := "(ZI)Ljava/lang/String;" } : Jvm.MethodName) method_4_code (3 : Nat) (Option.some (Jvm.ClassFile.FieldType.object "java/lang/String")), Jvm.Cond.code ({ cls := "java/lang/String", name := "<init>", desc := "([C)V" } : Jvm.MethodName) jdk_42_method_3_code (2 : Nat) (Option.none : Option Jvm.ClassFile.FieldType), Jvm.Cond.code ({ cls := "java/lang/String", name := "<init>", desc := "([CIILjava/lang/Void;)V" } : Jvm.MethodName) jdk_42_method_149_code (6 : Nat) (Option.none : Option Jvm.ClassFile.FieldType), Jvm.Cond.code ({ cls := "java/lang/Object", name := "<init>", desc := "()V" } : Jvm.MethodName) object_method_1_code (1 : Nat) (Option.none : Option Jvm.ClassFile.FieldType), Jvm.Cond.code ({ cls := "java/lang/StringUTF16", name := "compress", desc := "([CII)[B" } : Jvm.MethodName) jdk_52_method_16_code (6 : Nat) (Option.some (Jvm.ClassFile.FieldType.array Jvm.ClassFile.FieldType.byte)), Jvm.Cond.code ({ cls := "java/lang/StringUTF16", name := "compress", desc := "([CI[BII)I" } : Jvm.MethodName) jdk_52_method_21_code (7 : Nat) (Option.some Jvm.ClassFile.FieldType.int), Jvm.Cond.code ({ cls := "java/lang/StringUTF16", name := "coderFromArrayLen", desc := "([BI)B" } : Jvm.MethodName) jdk_52_method_15_code (2 : Nat) (Option.some Jvm.ClassFile.FieldType.byte), Jvm.Cond.code ({ cls := "inducere/ActivationSwitchedOffPinLaw", name := "status", desc := "(I)Linducere/Activation$Status;" } : Jvm.MethodName) method_3_code (1 : Nat) (Option.some (Jvm.ClassFile.FieldType.object "inducere/Activation$Status")), Jvm.Cond.code ({ cls := "inducere/ActivationSwitchedOffPinLaw", name := "life", desc := "(I)Linducere/Activation$Lifecycle;" } : Jvm.MethodName) method_2_code (1 : Nat) (Option.some (Jvm.ClassFile.FieldType.object "inducere/Activation$Lifecycle")), Jvm.Cond.code ({ cls := "inducere/Activation", name := "<init>", desc := "(Linducere/Activation$Status;Linducere/Activation$Lifecycle;Ljava/lang/String;Ljava/lang/String;Z)V" } : Jvm.MethodName) prog_1_method_1_code (6 : Nat) (Option.none : Option Jvm.ClassFile.FieldType), Jvm.Cond.code ({ cls := "java/lang/Record", name := "<init>", desc := "()V" } : Jvm.MethodName) jdk_30_method_1_code (1 : Nat) (Option.none : Option Jvm.ClassFile.FieldType), Jvm.Cond.code ({ cls := "inducere/Activation", name := "switchedOff", desc := "()Z" } : Jvm.MethodName) prog_1_method_2_code (1 : Nat) (Option.some Jvm.ClassFile.FieldType.boolean)]
set_option maxRecDepth 65536 in
theorem codes_eq : words1.filter isCode = codes1 := rfl
theorem w_codes : ∀ c ∈ words1.filter isCode, c.before args0 about1 = true := by
  rw [codes_eq]
  intro c hc
  simp only [codes1, List.mem_cons, List.not_mem_nil, or_false] at hc
  rcases hc with rfl | rfl | rfl | rfl | rfl | rfl | rfl | rfl | rfl | rfl | rfl | rfl | rfl
  · exact w_c0
  · exact w_c1
  · exact w_c2
  · exact w_c3
  · exact w_c4
  · exact w_c5
  · exact w_c6
  · exact w_c7
  · exact w_c8
  · exact w_c9
  · exact w_c10
  · exact w_c11
  · exact w_c12
set_option maxRecDepth 65536 in
theorem w_t1 : (words1.take 24).all (fun c => isCode c || c.before args0 about1) = true := by decide +kernel
set_option maxRecDepth 65536 in
theorem w_t2 : ((words1.drop 24).take 24).all (fun c => isCode c || c.before args0 about1) = true := by decide +kernel
set_option maxRecDepth 65536 in
theorem w_t3 : (((words1.drop 24).drop 24).take 24).all (fun c => isCode c || c.before args0 about1) = true := by decide +kernel
set_option maxRecDepth 65536 in
theorem w_t4 : (((words1.drop 24).drop 24).drop 24).all (fun c => isCode c || c.before args0 about1) = true := by decide +kernel
theorem w_tables : (allAtoms (Jvm.Cond.code x code maxLocals ret :: tables_1)).before args0 about1 = true := by
  rw [allAtoms_all]
  show words1.all (fun c => c.before args0 about1) = true
  refine all_split ?_ w_codes
  rw [← List.take_append_drop 24 words1, List.all_append, w_t1, ← List.take_append_drop 24 (words1.drop 24), List.all_append, w_t2, ← List.take_append_drop 24 ((words1.drop 24).drop 24), List.all_append, w_t3, w_t4]
  rfl
set_option maxRecDepth 65536 in
theorem w_rest : rest_1_c.before args0 about1 = true := by decide +kernel
set_option maxRecDepth 65536 in
theorem w_case : (Jvm.Cond.and given_1 narrow_1).before args0 about1 = true := by decide +kernel
theorem w_applies : (headSpec (Jvm.Cond.code x code maxLocals ret :: tables_1) room_1).applies x e0.platform about1 = true :=
  (Spec.applies_iff w_frames).mpr ⟨w_running, w_runnable, w_alone, w_named, w_hears, w_ripe, w_room, w_tables⟩
theorem atStart : AtStart classFile x code maxLocals ret World_1 tables_1 room_1 Calls_1 rest_1 Pre_1 launch0 p0 e0 about1 theMethod args0 below0 :=
  ⟨lists_1, trivial, launch0.admits_env _ _ _, launch0.least_env, fairChoices_fair.cas, fairChoices_fair.clock, w_frames, w_args, w_heap, w_applies, trivial, w_rest, w_case⟩
end start1
theorem witness_1 : WitnessClaimed_1 := ⟨start1.p0, start1.e0, start1.about1, start1.theMethod, start1.args0, start1.below0, start1.atStart⟩
end Jvm.Pilot.@@N@@
