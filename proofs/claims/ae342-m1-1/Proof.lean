import JvmDerived
import JvmDerived.Pilot.@@N@@Statement
import JvmDerived.Pilot.@@N@@Code
set_option linter.unusedVariables false
set_option linter.unusedSimpArgs false
/- laws to paste: Road.backV (cut by pick.py; bodies as the Statement names them) -/
namespace Jvm.Pilot.@@N@@
namespace StrChars
open Jvm Sem ClassFile Op Lib Jvm.Stand Jvm.Free.XT Jvm.Free.ALB Jvm.Free.JM Jvm.Free
open Jvm.Lib.Cold (StaticIs)
/-- a char array whose places are chars -/
def Ch (a : Addr) (A : Cell) (U : State) : Prop := Arr .char a A U ∧ Typed .char A
theorem Ch.mv {a : Addr} {A : Cell} {U U' : State} (h : Ch a A U) (hal : U.vm.Alike U'.vm) (hh : U'.heap = U.heap) : Ch a A U' := ⟨h.1.mv hal hh, h.2⟩
theorem Ch.keep {a : Addr} {A : Cell} {U U' : State} (h : Ch a A U) (hal : U.vm.Alike U'.vm) (hk : U'.heap[a]? = some A) : Ch a A U' := ⟨h.1.keep hal hk, h.2⟩
/-- what place i of a char[]'s cell holds -/
def cv (A : Cell) (i : Nat) : Int32 := match A.slots[i]? with | some (.int x) => x | _ => 0
theorem Ch.get {a : Addr} {A : Cell} {U : State} (h : Ch a A U) {i : Nat} (hi : i < A.slots.size) : A.slots[i]? = some (.int (cv A i)) := by
  have e := Array.getElem?_eq_getElem hi
  have f := h.2 i _ e
  unfold cv; rw [e]
  generalize A.slots[i] = v at f
  cases v <;> simp [fits] at f ⊢
/-- the byte that i2b leaves of a char -/
def lo8 (x : Int32) : Int32 := x.toInt8.toInt32
theorem fits_lo8 (y : Int32) : fits .byte (.int (lo8 y)) = true := by
  have h1 := y.toInt8.le_toInt
  have h2 := y.toInt8.toInt_lt
  simp only [lo8, fits, Bool.and_eq_true, decide_eq_true_eq, Int32.le_iff_toInt_le, Int8.toInt_toInt32, show (-128 : Int32).toInt = -128 from by decide, show (127 : Int32).toInt = 127 from by decide]
  omega
/-- A' is A but that each place j of lo .. hi - 1 holds f j -/
def Laid (A A' : Cell) (lo hi : Nat) (f : Nat → Value) : Prop := A'.cls = A.cls ∧ A'.vm = A.vm ∧ A'.slots.size = A.slots.size ∧ ∀ i, A'.slots[i]? = if lo ≤ i ∧ i < hi then some (f i) else A.slots[i]?
theorem Laid.zero (A : Cell) (lo : Nat) (f : Nat → Value) : Laid A A lo (lo + 0) f := ⟨rfl, rfl, rfl, fun i => by rw [if_neg (by omega)]⟩
theorem Laid.step {A Ak : Cell} {lo k : Nat} {f : Nat → Value} {v : Value} (h : Laid A Ak lo k f) (hlo : lo ≤ k) (hk : k < Ak.slots.size) (hv : v = f k) : Laid A (Ak.setSlot k v) lo (k + 1) f := by
  refine ⟨h.1, h.2.1, by simpa [Cell.setSlot] using h.2.2.1, fun i => ?_⟩
  by_cases e : k = i
  · subst e; rw [Cell.slots_setSlot_self v hk, if_pos (by omega), hv]
  · rw [Cell.slots_setSlot_ne v e, h.2.2.2 i]
    by_cases q : lo ≤ i ∧ i < k
    · rw [if_pos q, if_pos (by omega)]
    · rw [if_neg q, if_neg (by omega)]
def U16 : String := "java/lang/StringUTF16"
namespace Cmp5
def yN : MethodName := ⟨"java/lang/StringUTF16", "compress", "([CI[BII)I"⟩
abbrev yB : ByteArray := jdk_52_method_21_code
theorem d0 : decode yB 0 = .ok (.iconst 0, 1) := by decide +kernel
theorem d1 : decode yB 1 = .ok (.istore 5, 2) := by decide +kernel
theorem d3 : decode yB 3 = .ok (.iload 5, 2) := by decide +kernel
theorem d5 : decode yB 5 = .ok (.iload 4, 2) := by decide +kernel
theorem d7 : decode yB 7 = .ok (.if_icmp (.ge) 37, 3) := by decide +kernel
theorem d10 : decode yB 10 = .ok (.aload_n 0, 1) := by decide +kernel
theorem d11 : decode yB 11 = .ok (.iload_n 1, 1) := by decide +kernel
theorem d12 : decode yB 12 = .ok (.caload, 1) := by decide +kernel
theorem d13 : decode yB 13 = .ok (.istore 6, 2) := by decide +kernel
theorem d15 : decode yB 15 = .ok (.iload 6, 2) := by decide +kernel
theorem d17 : decode yB 17 = .ok (.sipush 255, 3) := by decide +kernel
theorem d20 : decode yB 20 = .ok (.if_icmp (.le) 6, 3) := by decide +kernel
theorem d26 : decode yB 26 = .ok (.aload_n 2, 1) := by decide +kernel
theorem d27 : decode yB 27 = .ok (.iload_n 3, 1) := by decide +kernel
theorem d28 : decode yB 28 = .ok (.iload 6, 2) := by decide +kernel
theorem d30 : decode yB 30 = .ok (.i2b, 1) := by decide +kernel
theorem d31 : decode yB 31 = .ok (.bastore, 1) := by decide +kernel
theorem d32 : decode yB 32 = .ok (.iinc 1 1, 3) := by decide +kernel
theorem d35 : decode yB 35 = .ok (.iinc 3 1, 3) := by decide +kernel
theorem d38 : decode yB 38 = .ok (.iinc 5 1, 3) := by decide +kernel
theorem d41 : decode yB 41 = .ok (.goto (-38), 3) := by decide +kernel
theorem d44 : decode yB 44 = .ok (.iload 4, 2) := by decide +kernel
theorem d46 : decode yB 46 = .ok (.ireturn, 1) := by decide +kernel
def site : List Cond := []
def tab : Cond := tabOf yN yB 7 (some .int) site
def P (b : Addr) (A : Cell) (d : Addr) (B : Cell) (o q len : Nat) (args : Array Value) (s : State) : Prop := args = #[.ref b, .int (Int32.ofNat o), .ref d, .int (Int32.ofNat q), .int (Int32.ofNat len)] ∧ Ch b A s ∧ Arr .byte d B s ∧ b ≠ d ∧ o + len ≤ A.slots.size ∧ q + len ≤ B.slots.size ∧ ∀ i, i < len → ¬ 255 < cv A (o + i)
def E (b : Addr) (A : Cell) (d : Addr) (B : Cell) (o q len : Nat) (r : Option Value) (s u : State) : Prop := r = some (.int (Int32.ofNat len)) ∧ ∃ B', Put d B' s u ∧ Laid B B' q (q + len) (fun j => Value.int (lo8 (cv A (o + (j - q)))))
/-- no char of the range above 255: len; the places written hold each char's low byte -/
theorem law (l : Launch) (b : Addr) (A : Cell) (d : Addr) (B : Cell) (o q len : Nat) : Law l yN 5 5 0 0 yB 7 (some .int) site (P b A d B o q len) (E b A d B o q len) (copyLocs d q len) 0 0 := by
  refine Law.of_walk (plainFor_of_name (by decide +kernel)) (by decide +kernel) (by decide +kernel) (by decide) (fun _ _ h => by rw [h.1]; rfl) (fun _ U U' hal hh h => ⟨h.1, h.2.1.mv hal hh, h.2.2.1.mv hal hh, h.2.2.2⟩) (fun r U U' V V' h1 hal h2 h => ⟨h.1, h.2.elim fun B' q => ⟨B', q.1.mv h1 h2, q.2⟩⟩) ?_
  intro p e s m args below meth c s₁ X0 hexec hbytes hml hret hlk hnm hown hh0 W hP
  obtain ⟨rfl, hA, hB, hne, l1, l2, hp⟩ := hP
  have c1 : Steps p.tables e below (s₁.setTop (entryFrame m #[.ref b, .int (Int32.ofNat o), .ref d, .int (Int32.ofNat q), .int (Int32.ofNat len)] 7)) (s₁.setTop (mkF m 0 #[.val (.ref b), .val (.int (Int32.ofNat o)), .val (.ref d), .val (.int (Int32.ofNat q)), .val (.int (Int32.ofNat len)), .unset, .unset] [])) := entry rfl
  have hA0 := hA.1.mv X0.warmed.alike hh0
  have hB0 := hB.mv X0.warmed.alike hh0
  have a31 := hA.1.2.2.2
  have c2 : Steps p.tables e below (s₁.setTop (entryFrame m #[.ref b, .int (Int32.ofNat o), .ref d, .int (Int32.ofNat q), .int (Int32.ofNat len)] 7)) (s₁.setTop (mkF m 3 #[.val (.ref b), .val (.int (Int32.ofNat o)), .val (.ref d), .val (.int (Int32.ofNat q)), .val (.int (Int32.ofNat len)), .val (.int 0), .unset] [])) := c1.trans (by
    refine iconstV X0.here hexec rfl 0 (hb hbytes d0) (by decide) ?_
    refine XS.istore X0.here hexec rfl (hb hbytes d1) rfl rfl ?_
    exact Steps.refl _)
  have loop : ∀ (r i : Nat), i + r = len → ∀ (z : Slot), (z = .unset ∨ ∃ w, z = .val w ∧ w.category = 1) → ∀ (Tl : State) (Bk : Cell), Stand p l e { frames := 0, locals := 0, cells := 0, slots := 0 } s m #[.ref b, .int (Int32.ofNat o), .ref d, .int (Int32.ofNat q), .int (Int32.ofNat len)] below meth c Tl ([] ++ copyLocs d q i) 0 0 → Put d Bk s₁ Tl → Laid B Bk q (q + i) (fun j => Value.int (lo8 (cv A (o + (j - q))))) →
      Steps p.tables e below (s₁.setTop (entryFrame m #[.ref b, .int (Int32.ofNat o), .ref d, .int (Int32.ofNat q), .int (Int32.ofNat len)] 7)) (Tl.setTop (mkF m 3 #[.val (.ref b), .val (.int (Int32.ofNat (o + i))), .val (.ref d), .val (.int (Int32.ofNat (q + i))), .val (.int (Int32.ofNat len)), .val (.int (Int32.ofNat i)), z] [])) → ∃ (T' : State) (B' : Cell) (z' : Slot), Stand p l e { frames := 0, locals := 0, cells := 0, slots := 0 } s m #[.ref b, .int (Int32.ofNat o), .ref d, .int (Int32.ofNat q), .int (Int32.ofNat len)] below meth c T' ([] ++ copyLocs d q len) 0 0 ∧ Put d B' s₁ T' ∧ Laid B B' q (q + len) (fun j => Value.int (lo8 (cv A (o + (j - q))))) ∧
      Steps p.tables e below (s₁.setTop (entryFrame m #[.ref b, .int (Int32.ofNat o), .ref d, .int (Int32.ofNat q), .int (Int32.ofNat len)] 7)) (T'.setTop (mkF m 3 #[.val (.ref b), .val (.int (Int32.ofNat (o + len))), .val (.ref d), .val (.int (Int32.ofNat (q + len))), .val (.int (Int32.ofNat len)), .val (.int (Int32.ofNat len)), z'] [])) := by
    intro r
    induction r with
    | zero =>
      intro i hi z hz Tl Bk Xl pl fl cl
      have hil : i = len := by omega
      rw [hil] at Xl fl cl
      exact ⟨Tl, Bk, z, Xl, pl, fl, cl⟩
    | succ r ih =>
      intro i hi z hz Tl Bk Xl pl fl cl
      have all := X0.warmed.alike.symm.trans Xl.warmed.alike
      have hAl := hA0.keep all (pl.other hne hA0.1)
      have hBk := hB0.like all pl.1 fl.1 fl.2.1 fl.2.2.1
      have hlt : q + i < Bk.slots.size := by rw [fl.2.2.1]; omega
      have c3 : Steps p.tables e below (s₁.setTop (entryFrame m #[.ref b, .int (Int32.ofNat o), .ref d, .int (Int32.ofNat q), .int (Int32.ofNat len)] 7)) (Tl.setTop (mkF m 12 #[.val (.ref b), .val (.int (Int32.ofNat (o + i))), .val (.ref d), .val (.int (Int32.ofNat (q + i))), .val (.int (Int32.ofNat len)), .val (.int (Int32.ofNat i)), z] [.int (Int32.ofNat (o + i)), .ref b])) := cl.trans (by
        refine XS.iload Xl.here hexec rfl (hb hbytes d3) rfl ?_
        refine XS.iload Xl.here hexec rfl (hb hbytes d5) rfl ?_
        refine XS.icmpNo Xl.here hexec rfl (hb hbytes d7) rfl (ii_ge_f (lt32 (by omega) (by omega))) ?_
        refine XS.aloadN Xl.here hexec rfl (hb hbytes d10) rfl rfl ?_
        refine XS.iloadN Xl.here hexec rfl (hb hbytes d11) rfl ?_
        exact Steps.refl _)
      have c4 : Steps p.tables e below (s₁.setTop (entryFrame m #[.ref b, .int (Int32.ofNat o), .ref d, .int (Int32.ofNat q), .int (Int32.ofNat len)] 7)) (Tl.setTop (mkF m 13 #[.val (.ref b), .val (.int (Int32.ofNat (o + i))), .val (.ref d), .val (.int (Int32.ofNat (q + i))), .val (.int (Int32.ofNat len)), .val (.int (Int32.ofNat i)), z] [.int (cv A (o + i))])) := c3.trans (by
        refine Xl.aget hexec hAl rfl (hA.get (i := o + i) (by omega)) rfl rfl (hb hbytes d12) ?_
        exact Steps.refl _)
      have c5 : Steps p.tables e below (s₁.setTop (entryFrame m #[.ref b, .int (Int32.ofNat o), .ref d, .int (Int32.ofNat q), .int (Int32.ofNat len)] 7)) (Tl.setTop (mkF m 15 #[.val (.ref b), .val (.int (Int32.ofNat (o + i))), .val (.ref d), .val (.int (Int32.ofNat (q + i))), .val (.int (Int32.ofNat len)), .val (.int (Int32.ofNat i)), .val (.int (cv A (o + i)))] [])) := c4.trans (by
        refine XS.istoreS Xl.here hexec rfl (hb hbytes d13) rfl rfl hz ?_
        exact Steps.refl _)
      have c6 : Steps p.tables e below (s₁.setTop (entryFrame m #[.ref b, .int (Int32.ofNat o), .ref d, .int (Int32.ofNat q), .int (Int32.ofNat len)] 7)) (Tl.setTop (mkF m 31 #[.val (.ref b), .val (.int (Int32.ofNat (o + i))), .val (.ref d), .val (.int (Int32.ofNat (q + i))), .val (.int (Int32.ofNat len)), .val (.int (Int32.ofNat i)), .val (.int (cv A (o + i)))] [.int (lo8 (cv A (o + i))), .int (Int32.ofNat (q + i)), .ref d])) := c5.trans (by
        refine XS.iload Xl.here hexec rfl (hb hbytes d15) rfl ?_
        refine sipushV Xl.here hexec rfl 255 (hb hbytes d17) (by decide) ?_
        refine XS.icmpYes Xl.here hexec rfl (pc0 := 20) rfl (hb hbytes d20) rfl (ii_le_t (hp i (by omega))) (by decide) rfl ?_
        refine XS.aloadN Xl.here hexec rfl (hb hbytes d26) rfl rfl ?_
        refine XS.iloadN Xl.here hexec rfl (hb hbytes d27) rfl ?_
        refine XS.iload Xl.here hexec rfl (hb hbytes d28) rfl ?_
        refine i2b Xl.here hexec rfl (hb hbytes d30) rfl ?_
        exact Steps.refl _)
      obtain ⟨T7, X7, p7, st7⟩ := Xl.aput hexec hBk rfl hlt rfl (fits_lo8 (cv A (o + i))) (g := (mkF m 31 #[.val (.ref b), .val (.int (Int32.ofNat (o + i))), .val (.ref d), .val (.int (Int32.ofNat (q + i))), .val (.int (Int32.ofNat len)), .val (.int (Int32.ofNat i)), .val (.int (cv A (o + i)))] [.int (lo8 (cv A (o + i))), .int (Int32.ofNat (q + i)), .ref d])) rfl (rest := []) rfl (hb hbytes d31)
      have c8 : Steps p.tables e below (s₁.setTop (entryFrame m #[.ref b, .int (Int32.ofNat o), .ref d, .int (Int32.ofNat q), .int (Int32.ofNat len)] 7)) (T7.setTop (mkF m 32 #[.val (.ref b), .val (.int (Int32.ofNat (o + i))), .val (.ref d), .val (.int (Int32.ofNat (q + i))), .val (.int (Int32.ofNat len)), .val (.int (Int32.ofNat i)), .val (.int (cv A (o + i)))] [])) := c6.trans (st7 _ (Steps.refl _))
      have c9 : Steps p.tables e below (s₁.setTop (entryFrame m #[.ref b, .int (Int32.ofNat o), .ref d, .int (Int32.ofNat q), .int (Int32.ofNat len)] 7)) (T7.setTop (mkF m 3 #[.val (.ref b), .val (.int (Int32.ofNat (o + i) + 1)), .val (.ref d), .val (.int (Int32.ofNat (q + i) + 1)), .val (.int (Int32.ofNat len)), .val (.int (Int32.ofNat i + 1)), .val (.int (cv A (o + i)))] [])) := c8.trans (by
        refine iincV X7.here hexec rfl 1 (hb hbytes d32) (by decide) rfl rfl ?_
        refine iincV X7.here hexec rfl 1 (hb hbytes d35) (by decide) rfl rfl ?_
        refine iincV X7.here hexec rfl 1 (hb hbytes d38) (by decide) rfl rfl ?_
        refine XS.goto X7.here hexec rfl (pc0 := 41) rfl (hb hbytes d41) (by decide) rfl ?_
        exact Steps.refl _)
      have c10 : Steps p.tables e below (s₁.setTop (entryFrame m #[.ref b, .int (Int32.ofNat o), .ref d, .int (Int32.ofNat q), .int (Int32.ofNat len)] 7)) (T7.setTop (mkF m 3 #[.val (.ref b), .val (.int (Int32.ofNat (o + (i + 1)))), .val (.ref d), .val (.int (Int32.ofNat (q + (i + 1)))), .val (.int (Int32.ofNat len)), .val (.int (Int32.ofNat (i + 1))), .val (.int (cv A (o + i)))] [])) := by
        have := c9
        rw [succ32, succ32, succ32] at this
        exact this
      exact ih (i + 1) (by omega) _ (Or.inr ⟨_, rfl, rfl⟩) T7 _ (by rw [copyLocs_step, ← List.append_assoc]; exact X7) (pl.trans p7) (fl.step (by omega) hlt (by simp)) c10
  obtain ⟨T9, B9, z9, X9, p9, f9, g9⟩ := loop len 0 (by omega) .unset (Or.inl rfl) s₁ B (by simpa [copyLocs] using X0) ⟨hB0.1, fun _ _ => rfl, rfl⟩ (Laid.zero _ _ _) c2
  have c11 : Steps p.tables e below (s₁.setTop (entryFrame m #[.ref b, .int (Int32.ofNat o), .ref d, .int (Int32.ofNat q), .int (Int32.ofNat len)] 7)) (T9.setTop (mkF m 46 #[.val (.ref b), .val (.int (Int32.ofNat (o + len))), .val (.ref d), .val (.int (Int32.ofNat (q + len))), .val (.int (Int32.ofNat len)), .val (.int (Int32.ofNat len)), z9] [.int (Int32.ofNat len)])) := g9.trans (by
    refine XS.iload X9.here hexec rfl (hb hbytes d3) rfl ?_
    refine XS.iload X9.here hexec rfl (hb hbytes d5) rfl ?_
    refine XS.icmpYes X9.here hexec rfl (pc0 := 7) rfl (hb hbytes d7) rfl (ii_ge_t (nlt32 (by omega) (Nat.le_refl _))) (by decide) rfl ?_
    refine XS.iload X9.here hexec rfl (hb hbytes d44) rfl ?_
    exact Steps.refl _)
  exact ⟨T9, some (.int (Int32.ofNat len)), _, _, _, X9, by simp, rfl, rfl, (fun h => by cases h), ⟨rfl, B9, p9.from hh0, f9⟩, fun fs hl => c11.trans (X9.ireturnOut hexec hret rfl (Or.inl rfl) (hb hbytes d46) hl)⟩
end Cmp5
namespace Cmp3
def yN : MethodName := ⟨"java/lang/StringUTF16", "compress", "([CII)[B"⟩
abbrev yB : ByteArray := jdk_52_method_16_code
theorem d0 : decode yB 0 = .ok (.iload_n 2, 1) := by decide +kernel
theorem d1 : decode yB 1 = .ok (.newarray .byte, 2) := by decide +kernel
theorem d3 : decode yB 3 = .ok (.astore_n 3, 1) := by decide +kernel
theorem d4 : decode yB 4 = .ok (.aload_n 0, 1) := by decide +kernel
theorem d5 : decode yB 5 = .ok (.iload_n 1, 1) := by decide +kernel
theorem d6 : decode yB 6 = .ok (.aload_n 3, 1) := by decide +kernel
theorem d7 : decode yB 7 = .ok (.iconst 0, 1) := by decide +kernel
theorem d8 : decode yB 8 = .ok (.iload_n 2, 1) := by decide +kernel
theorem d9 : decode yB 9 = .ok (.invokestatic 115, 3) := by decide +kernel
theorem d12 : decode yB 12 = .ok (.istore 4, 2) := by decide +kernel
theorem d14 : decode yB 14 = .ok (.iload 4, 2) := by decide +kernel
theorem d16 : decode yB 16 = .ok (.iload_n 2, 1) := by decide +kernel
theorem d17 : decode yB 17 = .ok (.if_icmp (.eq) 40, 3) := by decide +kernel
theorem d57 : decode yB 57 = .ok (.aload_n 3, 1) := by decide +kernel
theorem d58 : decode yB 58 = .ok (.areturn, 1) := by decide +kernel
def site : List Cond := [.arrayClass .byte, Cmp5.tab] ++ staticW U16 115 Cmp5.yN
def tab : Cond := tabOf yN yB 6 (some (.array .byte)) site
def P (b : Addr) (A : Cell) (o len : Nat) (args : Array Value) (s : State) : Prop := args = #[.ref b, .int (Int32.ofNat o), .int (Int32.ofNat len)] ∧ Ch b A s ∧ o + len ≤ A.slots.size ∧ len ≤ 536870912 ∧ ∀ i, i < len → ¬ 255 < cv A (o + i)
def E (b : Addr) (A : Cell) (o len : Nat) (r : Option Value) (s u : State) : Prop := NewArr .byte "[B" len (fun j => .int (lo8 (cv A (o + j)))) r s u ∧ u.heap.size = s.heap.size + 1
/-- no char of the range above 255: a new byte[] of their low bytes -/
theorem law (l : Launch) (b : Addr) (A : Cell) (o len : Nat) : Law l yN 3 3 1 18 yB 6 (some (.array .byte)) site (P b A o len) (E b A o len) [] 1 len := by
  refine Law.of_walk (plainFor_of_name (by decide +kernel)) (by decide +kernel) (by decide +kernel) (by decide) (fun _ _ h => by rw [h.1]; rfl) (fun _ U U' hal hh h => ⟨h.1, h.2.1.mv hal hh, h.2.2⟩) (fun r U U' V V' h1 hal h2 h => ⟨NewArr.mv r U U' V V' h1 hal h2 h.1, by rw [h1, h2]; exact h.2⟩) ?_
  intro p e s m args below meth c s₁ X0 hexec hbytes hml hret hlk hnm hown hh0 W hP
  obtain ⟨rfl, hA, l1, l2, hp⟩ := hP
  have a31 := hA.1.2.2.2
  have c1 : Steps p.tables e below (s₁.setTop (entryFrame m #[.ref b, .int (Int32.ofNat o), .int (Int32.ofNat len)] 6)) (s₁.setTop (mkF m 0 #[.val (.ref b), .val (.int (Int32.ofNat o)), .val (.int (Int32.ofNat len)), .unset, .unset, .unset] [])) := entry rfl
  have c2 : Steps p.tables e below (s₁.setTop (entryFrame m #[.ref b, .int (Int32.ofNat o), .int (Int32.ofNat len)] 6)) (s₁.setTop (mkF m 1 #[.val (.ref b), .val (.int (Int32.ofNat o)), .val (.int (Int32.ofNat len)), .unset, .unset, .unset] [.int (Int32.ofNat len)])) := c1.trans (by
    refine XS.iloadN X0.here hexec rfl (hb hbytes d0) rfl ?_
    exact Steps.refl _)
  obtain ⟨T3, B3, X3, ba3, bs3, bv3, bh3, bf3, st3⟩ := X0.anew hexec (atype := .byte) (wk W (.arrayClass .byte)) rfl (by show len * 1 ≤ _; omega) (by omega) (g := (mkF m 1 #[.val (.ref b), .val (.int (Int32.ofNat o)), .val (.int (Int32.ofNat len)), .unset, .unset, .unset] [.int (Int32.ofNat len)])) rfl (hb hbytes d1) (rest := []) rfl (Nat.le_refl _) (by show 0 + len ≤ len; omega)
  rw [hh0] at ba3 st3
  have kp3 : XT.Kept s T3 := (XT.Kept.of_eq hh0).push bh3
  have hA3 := hA.keep X3.warmed.alike (kp3 _ _ hA.1.1)
  have hne : b ≠ s.heap.size := hA.1.ne
  have c4 : Steps p.tables e below (s₁.setTop (entryFrame m #[.ref b, .int (Int32.ofNat o), .int (Int32.ofNat len)] 6)) (T3.setTop (mkF m 3 #[.val (.ref b), .val (.int (Int32.ofNat o)), .val (.int (Int32.ofNat len)), .unset, .unset, .unset] [.ref s.heap.size])) := c2.trans (st3 _ (Steps.refl _))
  have c5 : Steps p.tables e below (s₁.setTop (entryFrame m #[.ref b, .int (Int32.ofNat o), .int (Int32.ofNat len)] 6)) (T3.setTop (mkF m 9 #[.val (.ref b), .val (.int (Int32.ofNat o)), .val (.int (Int32.ofNat len)), .val (.ref s.heap.size), .unset, .unset] [.int (Int32.ofNat len), .int 0, .ref s.heap.size, .int (Int32.ofNat o), .ref b])) := c4.trans (by
    refine XS.astoreN X3.here hexec rfl (hb hbytes d3) rfl rfl rfl ?_
    refine XS.aloadN X3.here hexec rfl (hb hbytes d4) rfl rfl ?_
    refine XS.iloadN X3.here hexec rfl (hb hbytes d5) rfl ?_
    refine XS.aloadN X3.here hexec rfl (hb hbytes d6) rfl rfl ?_
    refine iconstV X3.here hexec rfl 0 (hb hbytes d7) (by decide) ?_
    refine XS.iloadN X3.here hexec rfl (hb hbytes d8) rfl ?_
    exact Steps.refl _)
  obtain ⟨v6, T6, X6, E6, g6⟩ := X3.callS hexec (Cmp5.law l b A s.heap.size B3 o 0 len) hown (wks W (staticW U16 115 Cmp5.yN)) (wk W Cmp5.tab) (W := 0) (Nat.le_of_ble_eq_true rfl) (Nat.le_of_ble_eq_true rfl) (Nat.le_refl _) (by show 0 + len + 0 ≤ len; omega) (g := (mkF m 9 #[.val (.ref b), .val (.int (Int32.ofNat o)), .val (.int (Int32.ofNat len)), .val (.ref s.heap.size), .unset, .unset] [.int (Int32.ofNat len), .int (Int32.ofNat 0), .ref s.heap.size, .int (Int32.ofNat o), .ref b])) rfl (by rw [hml]; rfl) c5 (argsL := [.ref b, .int (Int32.ofNat o), .ref s.heap.size, .int (Int32.ofNat 0), .int (Int32.ofNat len)]) (rest := []) rfl rfl (by show 2 * 0 + 0 ≤ _; decide) (hb hbytes d9) (⟨rfl, hA3, ba3, hne, l1, by rw [bs3]; simp, hp⟩)
  obtain ⟨rfl, B6, p6, f6⟩ := E6
  have c7 : Steps p.tables e below (s₁.setTop (entryFrame m #[.ref b, .int (Int32.ofNat o), .int (Int32.ofNat len)] 6)) (T6.setTop (mkF m 12 #[.val (.ref b), .val (.int (Int32.ofNat o)), .val (.int (Int32.ofNat len)), .val (.ref s.heap.size), .unset, .unset] [.int (Int32.ofNat len)])) := g6
  have c8 : Steps p.tables e below (s₁.setTop (entryFrame m #[.ref b, .int (Int32.ofNat o), .int (Int32.ofNat len)] 6)) (T6.setTop (mkF m 58 #[.val (.ref b), .val (.int (Int32.ofNat o)), .val (.int (Int32.ofNat len)), .val (.ref s.heap.size), .val (.int (Int32.ofNat len)), .unset] [.ref s.heap.size])) := c7.trans (by
    refine XS.istore X6.here hexec rfl (hb hbytes d12) rfl rfl ?_
    refine XS.iload X6.here hexec rfl (hb hbytes d14) rfl ?_
    refine XS.iloadN X6.here hexec rfl (hb hbytes d16) rfl ?_
    refine XS.icmpYes X6.here hexec rfl (pc0 := 17) rfl (hb hbytes d17) rfl (ii_eq_t rfl) (by decide) rfl ?_
    refine XS.aloadN X6.here hexec rfl (hb hbytes d57) rfl rfl ?_
    exact Steps.refl _)
  have X8 := X6.wide (L' := []) (cells' := 1) (slots' := len) (fun x hx hlt => by
    simp only [List.nil_append, copyLocs, List.mem_map, List.mem_range] at hx
    obtain ⟨i, -, rfl⟩ := hx
    exact absurd hlt (Nat.lt_irrefl _)) (Nat.le_refl _) (by omega)
  exact ⟨T6, some (.ref s.heap.size), _, _, _, X8, rfl, rfl, rfl, (fun h => by cases h), ⟨⟨rfl, B6, ba3.like (X3.warmed.alike.symm.trans X6.warmed.alike) p6.1 f6.1 f6.2.1 f6.2.2.1, f6.2.1.trans bv3, by rw [X6.warmed.alike.findClass, f6.1]; exact bf3, by rw [f6.2.2.1, bs3]; simp, fun j hj => by rw [f6.2.2.2 j, if_pos (by omega)]; rfl, kp3.put p6 (Nat.le_refl _)⟩, by rw [p6.2.2, bh3, hh0]; simp⟩, fun fs hl => c8.trans (X8.areturnOut hexec rfl hret rfl (hb hbytes d58) hl)⟩
end Cmp3
namespace CodL
def yN : MethodName := ⟨"java/lang/StringUTF16", "coderFromArrayLen", "([BI)B"⟩
abbrev yB : ByteArray := jdk_52_method_15_code
theorem d0 : decode yB 0 = .ok (.iload_n 1, 1) := by decide +kernel
theorem d1 : decode yB 1 = .ok (.aload_n 0, 1) := by decide +kernel
theorem d2 : decode yB 2 = .ok (.arraylength, 1) := by decide +kernel
theorem d3 : decode yB 3 = .ok (.isub, 1) := by decide +kernel
theorem d4 : decode yB 4 = .ok (.bipush 31, 2) := by decide +kernel
theorem d6 : decode yB 6 = .ok (.iushr, 1) := by decide +kernel
theorem d7 : decode yB 7 = .ok (.i2b, 1) := by decide +kernel
theorem d8 : decode yB 8 = .ok (.ireturn, 1) := by decide +kernel
def site : List Cond := []
def tab : Cond := tabOf yN yB 2 (some .byte) site
def P (d : Addr) (B : Cell) (args : Array Value) (s : State) : Prop := args = #[.ref d, .int (Int32.ofNat B.slots.size)] ∧ Arr .byte d B s
def E (r : Option Value) (s u : State) : Prop := XT.PureE (some (.int 0)) r s u
/-- an array as long as the number of chars: LATIN1 -/
theorem law (l : Launch) (d : Addr) (B : Cell) : Law l yN 2 2 0 0 yB 2 (some .byte) site (P d B) E [] 0 0 := by
  refine Law.of_walk (plainFor_of_name (by decide +kernel)) (by decide +kernel) (by decide +kernel) (by decide) (fun _ _ h => by rw [h.1]; rfl) (fun _ U U' hal hh h => ⟨h.1, h.2.mv hal hh⟩) (fun r U U' V V' h1 hal h2 h => XT.PureE.mv r U U' V V' h1 hal h2 h) ?_
  intro p e s m args below meth c s₁ X0 hexec hbytes hml hret hlk hnm hown hh0 W hP
  obtain ⟨rfl, hB⟩ := hP
  have hB0 := hB.mv X0.warmed.alike hh0
  have c1 : Steps p.tables e below (s₁.setTop (entryFrame m #[.ref d, .int (Int32.ofNat B.slots.size)] 2)) (s₁.setTop (mkF m 0 #[.val (.ref d), .val (.int (Int32.ofNat B.slots.size))] [])) := entry rfl
  have c2 : Steps p.tables e below (s₁.setTop (entryFrame m #[.ref d, .int (Int32.ofNat B.slots.size)] 2)) (s₁.setTop (mkF m 2 #[.val (.ref d), .val (.int (Int32.ofNat B.slots.size))] [.ref d, .int (Int32.ofNat B.slots.size)])) := c1.trans (by
    refine XS.iloadN X0.here hexec rfl (hb hbytes d0) rfl ?_
    refine XS.aloadN X0.here hexec rfl (hb hbytes d1) rfl rfl ?_
    exact Steps.refl _)
  have c3 : Steps p.tables e below (s₁.setTop (entryFrame m #[.ref d, .int (Int32.ofNat B.slots.size)] 2)) (s₁.setTop (mkF m 8 #[.val (.ref d), .val (.int (Int32.ofNat B.slots.size))] [.int (lo8 (ushr (Int32.ofNat B.slots.size - Int32.ofNat B.slots.size) 31))])) := c2.trans (by
    refine X0.alen hexec hB0 rfl rfl (hb hbytes d2) ?_
    refine XS.isub X0.here hexec rfl (hb hbytes d3) rfl ?_
    refine bipushV X0.here hexec rfl 31 (hb hbytes d4) (by decide) ?_
    refine iushr X0.here hexec rfl (hb hbytes d6) rfl ?_
    refine i2b X0.here hexec rfl (hb hbytes d7) rfl ?_
    exact Steps.refl _)
  have e0 : lo8 (ushr (Int32.ofNat B.slots.size - Int32.ofNat B.slots.size) 31) = 0 := by rw [Int32.sub_self]; decide
  rw [e0] at c3
  exact ⟨s₁, some (.int 0), _, _, _, X0, rfl, rfl, rfl, (fun h => by cases h), ⟨rfl, hh0⟩, fun fs hl => c3.trans (X0.ireturnOut hexec hret rfl (Or.inr (Or.inr (Or.inl rfl))) (hb hbytes d8) hl)⟩
end CodL
/-- the String at a is Latin-1 over a new byte[] (the heap's one new cell): the low bytes of the len chars of A from o on; every cell but a is kept -/
def Got (a : Addr) (D : Cell) (fV fC : Field) (A : Cell) (o len : Nat) (r : Option Value) (s u : State) : Prop := r = none ∧ ∃ D' V : Cell, Blank "java/lang/String" a D' u ∧ Same D D' [fV.slot, fC.slot] ∧ D'.slots[fV.slot]? = some (.ref s.heap.size) ∧ D'.slots[fC.slot]? = some (.int 0) ∧ Arr .byte s.heap.size V u ∧ V.vm = .none ∧ u.vm.findClass "[B" = some V.cls ∧ V.slots.size = len ∧ (∀ j, j < len → V.slots[j]? = some (.int (lo8 (cv A (o + j))))) ∧ (∀ (y : Addr) (c : Cell), y ≠ a → s.heap[y]? = some c → u.heap[y]? = some c) ∧ u.heap.size = s.heap.size + 1
theorem Got.mv {a : Addr} {D A : Cell} {fV fC : Field} {o len : Nat} : ∀ r (U U' V V' : State), U'.heap = U.heap → V.vm.Alike V'.vm → V'.heap = V.heap → Got a D fV fC A o len r U V → Got a D fV fC A o len r U' V' :=
  fun r U U' V V' h1 hal h2 ⟨e0, D', X, a1, a2, a3, a4, a5, a6, a7, a8, a9, a10, a11⟩ => ⟨e0, D', X, a1.mv hal h2, a2, by rw [h1]; exact a3, a4, by rw [h1]; exact a5.mv hal h2, a6, by rw [hal.findClass]; exact a7, a8, a9, by rw [h1, h2]; exact a10, by rw [h1, h2]; exact a11⟩
namespace New4
def yN : MethodName := ⟨"java/lang/String", "<init>", "([CIILjava/lang/Void;)V"⟩
abbrev yB : ByteArray := jdk_42_method_149_code
theorem d0 : decode yB 0 = .ok (.aload_n 0, 1) := by decide +kernel
theorem d1 : decode yB 1 = .ok (.invokespecial 1, 3) := by decide +kernel
theorem d4 : decode yB 4 = .ok (.iload_n 3, 1) := by decide +kernel
theorem d5 : decode yB 5 = .ok (.ifCond (.ne) 22, 3) := by decide +kernel
theorem d27 : decode yB 27 = .ok (.getstatic 38, 3) := by decide +kernel
theorem d30 : decode yB 30 = .ok (.ifCond (.eq) 28, 3) := by decide +kernel
theorem d33 : decode yB 33 = .ok (.aload_n 1, 1) := by decide +kernel
theorem d34 : decode yB 34 = .ok (.iload_n 2, 1) := by decide +kernel
theorem d35 : decode yB 35 = .ok (.iload_n 3, 1) := by decide +kernel
theorem d36 : decode yB 36 = .ok (.invokestatic 177, 3) := by decide +kernel
theorem d39 : decode yB 39 = .ok (.astore 5, 2) := by decide +kernel
theorem d41 : decode yB 41 = .ok (.aload_n 0, 1) := by decide +kernel
theorem d42 : decode yB 42 = .ok (.aload 5, 2) := by decide +kernel
theorem d44 : decode yB 44 = .ok (.iload_n 3, 1) := by decide +kernel
theorem d45 : decode yB 45 = .ok (.invokestatic 47, 3) := by decide +kernel
theorem d48 : decode yB 48 = .ok (.putfield 15, 3) := by decide +kernel
theorem d51 : decode yB 51 = .ok (.aload_n 0, 1) := by decide +kernel
theorem d52 : decode yB 52 = .ok (.aload 5, 2) := by decide +kernel
theorem d54 : decode yB 54 = .ok (.putfield 9, 3) := by decide +kernel
theorem d57 : decode yB 57 = .ok (.return_, 1) := by decide +kernel
def site : List Cond := [.fieldLink "java/lang/String" 38 "java/lang/String" "COMPACT_STRINGS" "Z", Cmp3.tab, CodL.tab, .laysFinal "java/lang/String" "java/lang/String" "value" "[B", .fieldLink "java/lang/String" 9 "java/lang/String" "value" "[B", .laysFinal "java/lang/String" "java/lang/String" "coder" "B", .fieldLink "java/lang/String" 15 "java/lang/String" "coder" "B"] ++ objW "java/lang/String" 1 ++ staticW "java/lang/String" 177 Cmp3.yN ++ staticW "java/lang/String" 47 CodL.yN
def tab : Cond := tabOf yN yB 6 none site
def P (a : Addr) (D : Cell) (fV fC : Field) (b : Addr) (A : Cell) (z : Int32) (o len : Nat) (args : Array Value) (s : State) : Prop := args = #[.ref a, .ref b, .int (Int32.ofNat o), .int (Int32.ofNat len), .null] ∧ Blank "java/lang/String" a D s ∧ Found "java/lang/String" "value" "[B" fV s ∧ Found "java/lang/String" "coder" "B" fC s ∧ Ch b A s ∧ StaticIs s "java/lang/String" "COMPACT_STRINGS" "Z" (.int z) ∧ ¬ z = 0 ∧ 0 < len ∧ o + len ≤ A.slots.size ∧ len ≤ 536870912 ∧ ∀ i, i < len → ¬ 255 < cv A (o + i)
def E (a : Addr) (D : Cell) (fV fC : Field) (A : Cell) (o len : Nat) (r : Option Value) (s u : State) : Prop := Got a D fV fC A o len r s u
/-- len > 0, no char of the range above 255: a Latin-1 String of their low bytes -/
theorem law (l : Launch) (a : Addr) (D : Cell) (fV fC : Field) (b : Addr) (A : Cell) (z : Int32) (o len : Nat) : Law l yN 5 4 2 35 yB 6 none site (P a D fV fC b A z o len) (E a D fV fC A o len) [⟨a, fC.slot⟩, ⟨a, fV.slot⟩] 1 len := by
  refine Law.of_walk (plainFor_of_name (by decide +kernel)) (by decide +kernel) (by decide +kernel) (by decide) (fun _ _ h => by rw [h.1]; rfl) (fun _ U U' hal hh h => ⟨h.1, h.2.1.mv hal hh, h.2.2.1.al hal, h.2.2.2.1.al hal, h.2.2.2.2.1.mv hal hh, h.2.2.2.2.2.1.there hal hh, h.2.2.2.2.2.2⟩) (fun r U U' V V' h1 hal h2 h => Got.mv r U U' V V' h1 hal h2 h) ?_
  intro p e s m args below meth c s₁ X0 hexec hbytes hml hret hlk hnm hown hh0 W hP
  obtain ⟨rfl, hB, f1, f2, hA, s1, hz, l0, l1, l2, hp⟩ := hP
  have a31 := hA.1.2.2.2
  have c1 : Steps p.tables e below (s₁.setTop (entryFrame m #[.ref a, .ref b, .int (Int32.ofNat o), .int (Int32.ofNat len), .null] 6)) (s₁.setTop (mkF m 0 #[.val (.ref a), .val (.ref b), .val (.int (Int32.ofNat o)), .val (.int (Int32.ofNat len)), .val .null, .unset] [])) := entry rfl
  have c2 : Steps p.tables e below (s₁.setTop (entryFrame m #[.ref a, .ref b, .int (Int32.ofNat o), .int (Int32.ofNat len), .null] 6)) (s₁.setTop (mkF m 1 #[.val (.ref a), .val (.ref b), .val (.int (Int32.ofNat o)), .val (.int (Int32.ofNat len)), .val .null, .unset] [.ref a])) := c1.trans (by
    refine XS.aloadN X0.here hexec rfl (hb hbytes d0) rfl rfl ?_
    exact Steps.refl _)
  obtain ⟨T3, X3, q3, st3⟩ := X0.oinit hexec hown (wks W (objW "java/lang/String" 1)) (g := (mkF m 1 #[.val (.ref a), .val (.ref b), .val (.int (Int32.ofNat o)), .val (.int (Int32.ofNat len)), .val .null, .unset] [.ref a])) rfl (by rw [hml]; rfl) (rest := []) rfl (hb hbytes d1) (W := 0) (by show 2 * 0 + 0 ≤ _; decide) (Nat.le_of_ble_eq_true rfl) (Nat.le_of_ble_eq_true rfl)
  have hh3 := q3.trans hh0
  have c4 : Steps p.tables e below (s₁.setTop (entryFrame m #[.ref a, .ref b, .int (Int32.ofNat o), .int (Int32.ofNat len), .null] 6)) (T3.setTop (mkF m 27 #[.val (.ref a), .val (.ref b), .val (.int (Int32.ofNat o)), .val (.int (Int32.ofNat len)), .val .null, .unset] [])) := (c2.trans (st3 _ (Steps.refl _))).trans (by
    refine XS.iloadN X3.here hexec rfl (hb hbytes d4) rfl ?_
    refine XS.ifYes X3.here hexec rfl (pc0 := 5) rfl (hb hbytes d5) rfl (i0_ne_t (nz32 (by omega) l0)) (by decide) rfl ?_
    exact Steps.refl _)
  obtain ⟨T5, X5, q5, st5⟩ := X3.sget hexec hown (wk W (.fieldLink "java/lang/String" 38 "java/lang/String" "COMPACT_STRINGS" "Z")) s1 (fun _ _ h => by rw [hh3]; exact h) (g := (mkF m 27 #[.val (.ref a), .val (.ref b), .val (.int (Int32.ofNat o)), .val (.int (Int32.ofNat len)), .val .null, .unset] [])) rfl (hb hbytes d27)
  have hh5 := q5.trans hh3
  have c6 : Steps p.tables e below (s₁.setTop (entryFrame m #[.ref a, .ref b, .int (Int32.ofNat o), .int (Int32.ofNat len), .null] 6)) (T5.setTop (mkF m 30 #[.val (.ref a), .val (.ref b), .val (.int (Int32.ofNat o)), .val (.int (Int32.ofNat len)), .val .null, .unset] [.int z])) := c4.trans (st5 _ (Steps.refl _))
  have c7 : Steps p.tables e below (s₁.setTop (entryFrame m #[.ref a, .ref b, .int (Int32.ofNat o), .int (Int32.ofNat len), .null] 6)) (T5.setTop (mkF m 36 #[.val (.ref a), .val (.ref b), .val (.int (Int32.ofNat o)), .val (.int (Int32.ofNat len)), .val .null, .unset] [.int (Int32.ofNat len), .int (Int32.ofNat o), .ref b])) := c6.trans (by
    refine XS.ifNo X5.here hexec rfl (hb hbytes d30) rfl (i0_eq_f hz) ?_
    refine XS.aloadN X5.here hexec rfl (hb hbytes d33) rfl rfl ?_
    refine XS.iloadN X5.here hexec rfl (hb hbytes d34) rfl ?_
    refine XS.iloadN X5.here hexec rfl (hb hbytes d35) rfl ?_
    exact Steps.refl _)
  obtain ⟨v8, T8, X8, E8, g8⟩ := X5.callS hexec (Cmp3.law l b A o len) hown (wks W (staticW "java/lang/String" 177 Cmp3.yN)) (wk W Cmp3.tab) (W := 0) (Nat.le_of_ble_eq_true rfl) (Nat.le_of_ble_eq_true rfl) (Nat.le_refl _) (by show 0 + len ≤ len; omega) (g := (mkF m 36 #[.val (.ref a), .val (.ref b), .val (.int (Int32.ofNat o)), .val (.int (Int32.ofNat len)), .val .null, .unset] [.int (Int32.ofNat len), .int (Int32.ofNat o), .ref b])) rfl (by rw [hml]; rfl) c7 (argsL := [.ref b, .int (Int32.ofNat o), .int (Int32.ofNat len)]) (rest := []) rfl rfl (by show 2 * 0 + 0 ≤ _; decide) (hb hbytes d36) (⟨rfl, hA.mv X5.warmed.alike hh5, l1, l2, hp⟩)
  obtain ⟨e8, z8⟩ := E8
  obtain ⟨rfl, N, n1, n2, n3, n4, n5, n6⟩ := NewArr.mv _ T5 s _ _ hh5.symm (Vm.Alike.refl _) rfl e8
  rw [hh5] at z8
  have hB1 := hB.keep X8.warmed.alike (n6 _ _ hB.1)
  have hne : s.heap.size ≠ a := (Nat.ne_of_lt (Array.getElem?_eq_some_iff.mp hB.1).1).symm
  have c9 : Steps p.tables e below (s₁.setTop (entryFrame m #[.ref a, .ref b, .int (Int32.ofNat o), .int (Int32.ofNat len), .null] 6)) (T8.setTop (mkF m 39 #[.val (.ref a), .val (.ref b), .val (.int (Int32.ofNat o)), .val (.int (Int32.ofNat len)), .val .null, .unset] [.ref s.heap.size])) := g8
  have c10 : Steps p.tables e below (s₁.setTop (entryFrame m #[.ref a, .ref b, .int (Int32.ofNat o), .int (Int32.ofNat len), .null] 6)) (T8.setTop (mkF m 45 #[.val (.ref a), .val (.ref b), .val (.int (Int32.ofNat o)), .val (.int (Int32.ofNat len)), .val .null, .val (.ref s.heap.size)] [.int (Int32.ofNat N.slots.size), .ref s.heap.size, .ref a])) := by
    have hc : Steps p.tables e below (s₁.setTop (entryFrame m #[.ref a, .ref b, .int (Int32.ofNat o), .int (Int32.ofNat len), .null] 6)) (T8.setTop (mkF m 45 #[.val (.ref a), .val (.ref b), .val (.int (Int32.ofNat o)), .val (.int (Int32.ofNat len)), .val .null, .val (.ref s.heap.size)] [.int (Int32.ofNat len), .ref s.heap.size, .ref a])) := c9.trans (by
      refine XS.astore X8.here hexec rfl (hb hbytes d39) rfl rfl rfl ?_
      refine XS.aloadN X8.here hexec rfl (hb hbytes d41) rfl rfl ?_
      refine XS.aload X8.here hexec rfl (hb hbytes d42) rfl rfl ?_
      refine XS.iloadN X8.here hexec rfl (hb hbytes d44) rfl ?_
      exact Steps.refl _)
    rw [n4]; exact hc
  obtain ⟨v11, T11, X11, E11, g11⟩ := X8.callS hexec (CodL.law l s.heap.size N) hown (wks W (staticW "java/lang/String" 47 CodL.yN)) (wk W CodL.tab) (W := 1) (Nat.le_of_ble_eq_true rfl) (Nat.le_of_ble_eq_true rfl) (Nat.le_refl _) (by show 0 + len + 0 ≤ len; omega) (g := (mkF m 45 #[.val (.ref a), .val (.ref b), .val (.int (Int32.ofNat o)), .val (.int (Int32.ofNat len)), .val .null, .val (.ref s.heap.size)] [.int (Int32.ofNat N.slots.size), .ref s.heap.size, .ref a])) rfl (by rw [hml]; rfl) c10 (argsL := [.ref s.heap.size, .int (Int32.ofNat N.slots.size)]) (rest := [.ref a]) rfl rfl (by show 2 * 0 + (1 + 0) ≤ _; decide) (hb hbytes d45) (⟨rfl, n1⟩)
  obtain ⟨rfl, q11⟩ := E11
  have hB11 := hB1.mv (X8.warmed.alike.symm.trans X11.warmed.alike) q11
  have c12 : Steps p.tables e below (s₁.setTop (entryFrame m #[.ref a, .ref b, .int (Int32.ofNat o), .int (Int32.ofNat len), .null] 6)) (T11.setTop (mkF m 48 #[.val (.ref a), .val (.ref b), .val (.int (Int32.ofNat o)), .val (.int (Int32.ofNat len)), .val .null, .val (.ref s.heap.size)] [.int 0, .ref a])) := g11
  obtain ⟨T13, X13, p13, bl13, sl13, st13⟩ := X11.finit hexec hown (wk W (.fieldLink "java/lang/String" 15 "java/lang/String" "coder" "B")) (Or.inr ⟨_, (wk W (.laysFinal "java/lang/String" "java/lang/String" "coder" "B"))⟩) (Or.inl ⟨rfl, hnm⟩) f2 (Or.inl rfl) hB11 (t := .byte) (by decide +kernel) rfl (g := (mkF m 48 #[.val (.ref a), .val (.ref b), .val (.int (Int32.ofNat o)), .val (.int (Int32.ofNat len)), .val .null, .val (.ref s.heap.size)] [.int 0, .ref a])) rfl (rest := []) rfl (hb hbytes d48)
  have c14 : Steps p.tables e below (s₁.setTop (entryFrame m #[.ref a, .ref b, .int (Int32.ofNat o), .int (Int32.ofNat len), .null] 6)) (T13.setTop (mkF m 54 #[.val (.ref a), .val (.ref b), .val (.int (Int32.ofNat o)), .val (.int (Int32.ofNat len)), .val .null, .val (.ref s.heap.size)] [.ref s.heap.size, .ref a])) := (c12.trans (st13 _ (Steps.refl _))).trans (by
    refine XS.aloadN X13.here hexec rfl (hb hbytes d51) rfl rfl ?_
    refine XS.aload X13.here hexec rfl (hb hbytes d52) rfl rfl ?_
    exact Steps.refl _)
  obtain ⟨T15, X15, p15, bl15, sl15, st15⟩ := X13.finit hexec hown (wk W (.fieldLink "java/lang/String" 9 "java/lang/String" "value" "[B")) (Or.inr ⟨_, (wk W (.laysFinal "java/lang/String" "java/lang/String" "value" "[B"))⟩) (Or.inl ⟨rfl, hnm⟩) f1 (Or.inl rfl) bl13 (t := (.array .byte)) (by decide +kernel) rfl (g := (mkF m 54 #[.val (.ref a), .val (.ref b), .val (.int (Int32.ofNat o)), .val (.int (Int32.ofNat len)), .val .null, .val (.ref s.heap.size)] [.ref s.heap.size, .ref a])) rfl (rest := []) rfl (hb hbytes d54)
  have c16 : Steps p.tables e below (s₁.setTop (entryFrame m #[.ref a, .ref b, .int (Int32.ofNat o), .int (Int32.ofNat len), .null] 6)) (T15.setTop (mkF m 57 #[.val (.ref a), .val (.ref b), .val (.int (Int32.ofNat o)), .val (.int (Int32.ofNat len)), .val .null, .val (.ref s.heap.size)] [])) := c14.trans (st15 _ (Steps.refl _))
  have ap := apart (Or.inr ⟨_, (wk W (.laysFinal "java/lang/String" "java/lang/String" "value" "[B"))⟩) (Or.inr ⟨_, (wk W (.laysFinal "java/lang/String" "java/lang/String" "coder" "B"))⟩) f1 f2 (t₁ := .array .byte) (t₂ := .byte) (by decide +kernel) (by decide +kernel) (by decide)
  have al := X8.warmed.alike.symm.trans X15.warmed.alike
  have n7 : T11.heap[s.heap.size]? = some N := by rw [q11]; exact n1.1
  exact ⟨T15, none, _, _, _, X15, by simp, rfl, by omega, (fun _ => rfl), ⟨rfl, _, N, bl15, ((Same.refl D _).set _ (by simp)).set _ (by simp), sl15, (Cell.slots_setSlot_ne _ ap).trans sl13, n1.keep al (p15.other hne (p13.other hne n7)), n2, by rw [al.findClass]; exact n3, n4, n5, fun y c h1 h2 => p15.other h1 (p13.other h1 (by rw [q11]; exact n6 y c h2)), by rw [p15.2.2, p13.2.2, q11]; exact z8⟩, fun fs hl => c16.trans (X15.returnOut hexec hret (hb hbytes d57) hl)⟩
end New4
namespace New1
def yN : MethodName := ⟨"java/lang/String", "<init>", "([C)V"⟩
abbrev yB : ByteArray := jdk_42_method_3_code
theorem d0 : decode yB 0 = .ok (.aload_n 0, 1) := by decide +kernel
theorem d1 : decode yB 1 = .ok (.aload_n 1, 1) := by decide +kernel
theorem d2 : decode yB 2 = .ok (.iconst 0, 1) := by decide +kernel
theorem d3 : decode yB 3 = .ok (.aload_n 1, 1) := by decide +kernel
theorem d4 : decode yB 4 = .ok (.arraylength, 1) := by decide +kernel
theorem d5 : decode yB 5 = .ok (.aconst_null, 1) := by decide +kernel
theorem d6 : decode yB 6 = .ok (.invokespecial 27, 3) := by decide +kernel
theorem d9 : decode yB 9 = .ok (.return_, 1) := by decide +kernel
def site : List Cond := [New4.tab] ++ initW "java/lang/String" 27 New4.yN
def tab : Cond := tabOf yN yB 2 none site
def P (a : Addr) (D : Cell) (fV fC : Field) (b : Addr) (A : Cell) (z : Int32) (args : Array Value) (s : State) : Prop := args = #[.ref a, .ref b] ∧ Blank "java/lang/String" a D s ∧ Found "java/lang/String" "value" "[B" fV s ∧ Found "java/lang/String" "coder" "B" fC s ∧ Ch b A s ∧ StaticIs s "java/lang/String" "COMPACT_STRINGS" "Z" (.int z) ∧ ¬ z = 0 ∧ 0 < A.slots.size ∧ A.slots.size ≤ 536870912 ∧ ∀ i, i < A.slots.size → ¬ 255 < cv A i
def E (a : Addr) (D : Cell) (fV fC : Field) (A : Cell) (r : Option Value) (s u : State) : Prop := Got a D fV fC A 0 A.slots.size r s u
/-- new String(chars), not empty, no char above 255: a Latin-1 String of their low bytes -/
theorem law (l : Launch) (a : Addr) (D : Cell) (fV fC : Field) (b : Addr) (A : Cell) (z : Int32) : Law l yN 2 1 3 52 yB 2 none site (P a D fV fC b A z) (E a D fV fC A) [⟨a, fC.slot⟩, ⟨a, fV.slot⟩] 1 A.slots.size := by
  refine Law.of_walk (plainFor_of_name (by decide +kernel)) (by decide +kernel) (by decide +kernel) (by decide) (fun _ _ h => by rw [h.1]; rfl) (fun _ U U' hal hh h => ⟨h.1, h.2.1.mv hal hh, h.2.2.1.al hal, h.2.2.2.1.al hal, h.2.2.2.2.1.mv hal hh, h.2.2.2.2.2.1.there hal hh, h.2.2.2.2.2.2⟩) (fun r U U' V V' h1 hal h2 h => Got.mv r U U' V V' h1 hal h2 h) ?_
  intro p e s m args below meth c s₁ X0 hexec hbytes hml hret hlk hnm hown hh0 W hP
  obtain ⟨rfl, hB, f1, f2, hA, s1, hz, l0, l2, hp⟩ := hP
  have c1 : Steps p.tables e below (s₁.setTop (entryFrame m #[.ref a, .ref b] 2)) (s₁.setTop (mkF m 0 #[.val (.ref a), .val (.ref b)] [])) := entry rfl
  have c2 : Steps p.tables e below (s₁.setTop (entryFrame m #[.ref a, .ref b] 2)) (s₁.setTop (mkF m 6 #[.val (.ref a), .val (.ref b)] [.null, .int (Int32.ofNat A.slots.size), .int 0, .ref b, .ref a])) := c1.trans (by
    refine XS.aloadN X0.here hexec rfl (hb hbytes d0) rfl rfl ?_
    refine XS.aloadN X0.here hexec rfl (hb hbytes d1) rfl rfl ?_
    refine iconstV X0.here hexec rfl 0 (hb hbytes d2) (by decide) ?_
    refine XS.aloadN X0.here hexec rfl (hb hbytes d3) rfl rfl ?_
    refine X0.alen hexec (hA.1.mv X0.warmed.alike hh0) rfl rfl (hb hbytes d4) ?_
    refine XS.aconstNull X0.here hexec rfl (hb hbytes d5) ?_
    exact Steps.refl _)
  obtain ⟨v3, T3, X3, E3, g3⟩ := X0.callN hexec (New4.law l a D fV fC b A z 0 A.slots.size) rfl hown (wks W (initW "java/lang/String" 27 New4.yN)) (W New4.tab (by simp only [site, List.mem_cons, List.mem_append, true_or, or_true])) (W := 0) (Nat.le_of_ble_eq_true rfl) (Nat.le_of_ble_eq_true rfl) (Nat.le_refl _) (by show 0 + A.slots.size ≤ A.slots.size; omega) (g := (mkF m 6 #[.val (.ref a), .val (.ref b)] [.null, .int (Int32.ofNat A.slots.size), .int (Int32.ofNat 0), .ref b, .ref a])) rfl (by rw [hml]; rfl) c2 (argsL := [.ref b, .int (Int32.ofNat 0), .int (Int32.ofNat A.slots.size), .null]) (rest := []) rfl rfl (by show 2 * 0 + 0 ≤ _; decide) (hb hbytes d6) (⟨rfl, hB.mv X0.warmed.alike hh0, f1.al X0.warmed.alike, f2.al X0.warmed.alike, hA.mv X0.warmed.alike hh0, s1.there X0.warmed.alike hh0, hz, l0, by omega, l2, fun i hi => by rw [Nat.zero_add]; exact hp i hi⟩)
  have e0 := Got.mv _ s₁ s _ _ hh0.symm (Vm.Alike.refl _) rfl E3
  obtain rfl := e0.1
  have c4 : Steps p.tables e below (s₁.setTop (entryFrame m #[.ref a, .ref b] 2)) (T3.setTop (mkF m 9 #[.val (.ref a), .val (.ref b)] [])) := g3
  exact ⟨T3, none, _, _, _, X3, by simp, rfl, by omega, (fun _ => rfl), e0, fun fs hl => c4.trans (X3.returnOut hexec hret (hb hbytes d9) hl)⟩
theorem pays {l : Launch} {R : Room} {p : Program} {e : Env} {below : List Frame} {s : State} {sargs : Array Value} {len W : Nat} (a : Addr) (D : Cell) (fV fC : Field) (b : Addr) (A : Cell) (z : Int32) (htab : tab.before sargs s = true) (hfr : 4 ≤ R.frames) (hlo : W + 65 ≤ R.locals) :
    Back l R p e below s sargs yN len W (fun A₁ a₁ => A₁.cells + 1 ≤ R.cells ∧ A₁.slots + A.slots.size ≤ R.slots ∧ P a D fV fC b A z a₁ A₁.U) (fun A₁ _ v₁ B₁ => E a D fV fC A v₁ A₁.U B₁.U ∧ B₁.locs = A₁.locs ++ [⟨a, fC.slot⟩, ⟨a, fV.slot⟩] ∧ B₁.cells = A₁.cells + 1 ∧ B₁.slots = A₁.slots + A.slots.size) :=
  (law l a D fV fC b A z).pays htab hfr (by omega)
end New1
end StrChars
namespace StrChars.Road
open Jvm Sem ClassFile Op Lib Jvm.Stand Jvm.Free Jvm.Free.XT
open Jvm.Lib.Cold (StaticIs)
abbrev ST : String := "java/lang/String"
/-- every table word that New1's law asks, flat -/
abbrev words : List Jvm.Cond := [.code New1.yN New1.yB 2 none, .initialized ST, .methodLink ST 27 New4.yN, .instanceMethod New4.yN,
  .code New4.yN New4.yB 6 none, .fieldLink ST 38 ST "COMPACT_STRINGS" "Z", .laysFinal ST ST "value" "[B", .fieldLink ST 9 ST "value" "[B", .laysFinal ST ST "coder" "B", .fieldLink ST 15 ST "coder" "B",
  .methodLink ST 1 Lib.objectInit, .instanceMethod Lib.objectInit, .code Lib.objectInit ⟨#[0xb1]⟩ 1 none, .methodLink ST 177 Cmp3.yN, .static Cmp3.yN, .methodLink ST 47 CodL.yN, .static CodL.yN,
  .code Cmp3.yN Cmp3.yB 6 (some (.array .byte)), .initialized U16, .arrayClass .byte, .methodLink U16 115 Cmp5.yN, .static Cmp5.yN, .code Cmp5.yN Cmp5.yB 7 (some .int), .code CodL.yN CodL.yB 2 (some .byte)]
theorem tab_of {a : Array Value} {s : State} (h : ∀ w ∈ words, w.before a s = true) : New1.tab.before a s = true := by
  have h5 : Cmp5.tab.before a s = true := unparts (wk h (.code Cmp5.yN Cmp5.yB 7 (some .int))) (wks h (.initialized Cmp5.yN.cls :: Cmp5.site))
  have hc : CodL.tab.before a s = true := unparts (wk h (.code CodL.yN CodL.yB 2 (some .byte))) (wks h (.initialized CodL.yN.cls :: CodL.site))
  have q5 : ∀ w ∈ Cmp5.tab :: words, w.before a s = true := fun w hw => (List.mem_cons.mp hw).elim (fun e => e ▸ h5) (h w)
  have h3 : Cmp3.tab.before a s = true := unparts (wk q5 (.code Cmp3.yN Cmp3.yB 6 (some (.array .byte)))) (wks q5 (.initialized Cmp3.yN.cls :: Cmp3.site))
  have q3 : ∀ w ∈ Cmp3.tab :: CodL.tab :: words, w.before a s = true := fun w hw => (List.mem_cons.mp hw).elim (fun e => e ▸ h3) fun hw => (List.mem_cons.mp hw).elim (fun e => e ▸ hc) (h w)
  have h4 : New4.tab.before a s = true := unparts (wk q3 (.code New4.yN New4.yB 6 none)) (wks q3 (.initialized New4.yN.cls :: New4.site))
  have q4 : ∀ w ∈ New4.tab :: words, w.before a s = true := fun w hw => (List.mem_cons.mp hw).elim (fun e => e ▸ h4) (h w)
  exact unparts (wk q4 (.code New1.yN New1.yB 2 none)) (wks q4 (.initialized New1.yN.cls :: New1.site))
/-- the words ride from the start Z to the walk's own state -/
theorem moved {Z s : State} {a0 args : Array Value} (hZ : Z.Warmed39 s.vm) (hw : ∀ d ∈ words, d.before a0 Z = true) : ∀ d ∈ words, d.before args s = true := fun d hd => by
  have q := hw d hd
  have t : ∀ d ∈ words, d = .arrayClass .byte ∨ (d.onTables && d.keepsFace) = true := by decide +kernel
  rcases t d hd with rfl | t
  · exact RoadKit.mvA hZ q
  · exact RoadKit.mv hZ q t
/-- WHAT COMES BACK, over the tables of the start Z: h the heap at the call, h' behind it -/
def Q (Z : State) (x : Addr) (A : Cell) (h : Heap) (v : Option Value) (h' : Heap) (L : List Loc) : Prop := v = none ∧ (∀ y ∈ L, y.base = x) ∧ RoadKit.Keep h h' [x] ∧ h'.size = h.size + 1 ∧ RoadKit.Exa Z h' x ST ∧ RoadKit.Fld Z h' x ST "value" "[B" (.ref h.size) ∧ RoadKit.Fld Z h' x ST "coder" "B" (.int 0) ∧
  (∃ V : Cell, RoadKit.Arr Z h' h.size V .byte ∧ V.vm = .none ∧ Z.vm.findClass "[B" = some V.cls ∧ V.slots.size = A.slots.size ∧ ∀ j, j < A.slots.size → V.slots[j]? = some (.int (lo8 (cv A j)))) ∧
  ∀ (O n d : String) (w : Value), RoadKit.Fld Z h x O n d w → RoadKit.slotOf Z O n d ≠ RoadKit.slotOf Z ST "value" "[B" → RoadKit.slotOf Z O n d ≠ RoadKit.slotOf Z ST "coder" "B" → RoadKit.Fld Z h' x O n d w
/-- **new String(chars) AT A CALL, IN THE ROAD'S FORM**: for specialBack behind newO: x the fresh String, b the char[] with the cell A -/
theorem back {p : Program} {l : Launch} {e : Env} {R : Room} {s : State} {args : Array Value} {below : List Frame} {len W : Nat} {Z : State} {a0 : Array Value} {h : Heap} (hZ : Z.Warmed39 s.vm) (hw : ∀ d ∈ words, d.before a0 Z = true) {kI : Nat} (wi : (Jvm.Cond.instantiable ST kI).before a0 Z = true)
    {x b : Addr} {A : Cell} {z : Int32} {v0 c0 : Value} (E : RoadKit.Exa Z h x ST) (V : RoadKit.Fld Z h x ST "value" "[B" v0) (C : RoadKit.Fld Z h x ST "coder" "B" c0) (K : RoadKit.Arr Z h b A .char) (hty : Typed .char A) (S : RoadKit.Sta Z h ST "COMPACT_STRINGS" "Z" (.int z)) (hz : ¬ z = 0)
    (l0 : 0 < A.slots.size) (l2 : A.slots.size ≤ 536870912) (hp : ∀ i, i < A.slots.size → ¬ 255 < cv A i) (hfr : 4 ≤ R.frames) (hlo : W + 65 ≤ R.locals) :
    Back l R p e below s args New1.yN len W (fun P a => a = #[.ref x, .ref b] ∧ P.U.heap = h ∧ P.cells + 1 ≤ R.cells ∧ P.slots + A.slots.size ≤ R.slots)
      (fun P _ v B => ∃ L, Q Z x A h v B.U.heap L ∧ B.locs = P.locs ++ L ∧ B.cells = P.cells + 1 ∧ B.slots = P.slots + A.slots.size) := by
  intro m meth c P g ig mk a X hg hsize hdg hW hn hp'
  obtain ⟨rfl, rfl, r1, r2⟩ := hp'
  have al : Z.vm.Alike P.U.vm := hZ.alike.trans X.warmed.alike
  obtain ⟨D, cfV, kV, iV, fV, hD, gV, stV, knV, obV, asV, slV⟩ := id V
  obtain ⟨D', cfC, kC, iC, fC, hD', gC, stC, -, -, asC, slC⟩ := id C
  cases hD.symm.trans hD'
  obtain ⟨D2, kD, e1, e2, e3, e4, e5⟩ := id E
  cases hD.symm.trans e1
  obtain ⟨c2, k2, i1, i2, i3, -⟩ := Cond.instantiable_spec wi
  cases e2.symm.trans i1
  cases e3.symm.trans i2
  obtain ⟨kU, u1, u2⟩ := al.2.2 _ _ e3
  have hB : Blank ST x D P.U := ⟨hD, ⟨knV, fun q hq => by rw [hq] at obV; cases obV⟩, by rw [al.findClass]; exact e2, kU, u1, by rw [u2]; exact i3, by rw [u2]; exact e5 i3⟩
  have F1 : Found ST "value" "[B" fV P.U := ⟨SBG.found_only al ⟨cfV, kV, iV, gV⟩, stV⟩
  have F2 : Found ST "coder" "B" fC P.U := ⟨SBG.found_only al ⟨cfC, kC, iC, gC⟩, stC⟩
  have hA : Ch b A P.U := ⟨⟨K.1, State.isArrayOf_alike al K.2.1, K.2.2, by omega⟩, hty⟩
  have hS : StaticIs P.U ST "COMPACT_STRINGS" "Z" (.int z) := by
    obtain ⟨cfS, iS, kS, fS, st, cS, t1, t2, t3, t4, t5, t6, t7⟩ := S
    exact StaticIs.there (s := { Z with heap := P.U.heap }) ⟨cfS, iS, kS, fS, st, cS, t1, t2, t3, t4, t5, (fun q => by rw [q] at t6; cases t6), t7⟩ al rfl
  obtain ⟨v, B, X', ⟨⟨hv, E', V', q1, q2, q3, q4, q5, q6, q7, q8, q9, q10, q11⟩, hl, hc, hs⟩, st⟩ := New1.pays x D fV fC b A z (tab_of (moved hZ hw)) hfr hlo m meth c P g ig mk _ X hg hsize hdg hW hn ⟨r1, r2, rfl, hB, F1, F2, hA, hS, hz, l0, l2, hp⟩
  have al' : Z.vm.Alike B.U.vm := hZ.alike.trans X'.warmed.alike
  have hsz : E'.slots.size = D.slots.size := by
    obtain ⟨-, -, -, kB, w1, w2, w3⟩ := q1
    obtain ⟨kB', y1, y2⟩ := al'.2.2 _ _ e3
    rw [q2.2.1] at w1
    cases w1.symm.trans y1
    rw [w3, e5 i3, y2]
  refine ⟨v, B, X', ⟨_, ⟨hv, ?_, ⟨by omega, fun y cy hy hn' => q10 y cy (by simpa using hn') hy, fun y cy hy => ?_⟩, q11, ⟨E', _, q1.1, by rw [q2.2.1]; exact e2, by rw [q2.2.1]; exact e3, by rw [q2.1]; exact obV, fun _ => by rw [hsz]; exact e5 i3⟩,
    ⟨E', cfV, kV, iV, fV, q1.1, gV, stV, by rw [q2.1]; exact knV, by rw [q2.1]; exact obV, by rw [q2.2.1]; exact asV, q3⟩, ⟨E', cfC, kC, iC, fC, q1.1, gC, stC, by rw [q2.1]; exact knV, by rw [q2.1]; exact obV, by rw [q2.2.1]; exact asC, q4⟩,
    ⟨V', ⟨q5.1, State.isArrayOf_alike al'.symm q5.2.1, q5.2.2.1⟩, q6, by rw [← al'.findClass]; exact q7, q8, fun j hj => by have := q9 j hj; rwa [Nat.zero_add] at this⟩, fun O n d w F n1 n2 => ?_⟩, hl, hc, hs⟩, st⟩
  · intro y hy
    simp only [List.mem_cons, List.not_mem_nil, or_false] at hy
    rcases hy with rfl | rfl <;> rfl
  · by_cases q : y = x
    · subst q
      cases hD.symm.trans hy
      exact ⟨E', q1.1, q2.2.1, q2.1, hsz⟩
    · exact ⟨cy, q10 y cy q hy, rfl, rfl, rfl⟩
  · obtain ⟨D3, cf, k, i, f, g1, g2, g3, g4, g5, g6, g7⟩ := F
    cases hD.symm.trans g1
    simp only [RoadKit.slotOf, g2, gV, gC, Option.map_some, Option.getD_some] at n1 n2
    exact ⟨E', cf, k, i, f, q1.1, g2, g3, by rw [q2.1]; exact g4, by rw [q2.1]; exact g5, by rw [q2.2.1]; exact g6, by rw [q2.2.2 f.slot (by simp [n1, n2])]; exact g7⟩
end StrChars.Road
namespace StrChars.Road
open Jvm Sem ClassFile Op Lib Jvm.Stand Jvm.Free Jvm.Free.XT
/-- WHAT COMES BACK, the byte[] as a list of values -/
def QA (Z : State) (x : Addr) (zn : Int32) (cs : List Int32) (h : Heap) (v : Option Value) (h' : Heap) (L : List Loc) : Prop := v = none ∧ (∀ y ∈ L, y.base = x) ∧ RoadKit.Keep h h' [x] ∧ h'.size = h.size + 1 ∧ RoadKit.Exa Z h' x ST ∧ RoadKit.Fld Z h' x ST "value" "[B" (.ref h.size) ∧ RoadKit.Fld Z h' x ST "coder" "B" (.int 0) ∧
  (∃ kb, Z.vm.findClass "[B" = some kb ∧ RoadKit.Arv Z h' h.size kb .byte zn (cs.map fun c => .int (lo8 c)) (.int 0)) ∧
  ∀ (O n d : String) (w : Value), RoadKit.Fld Z h x O n d w → RoadKit.slotOf Z O n d ≠ RoadKit.slotOf Z ST "value" "[B" → RoadKit.slotOf Z O n d ≠ RoadKit.slotOf Z ST "coder" "B" → RoadKit.Fld Z h' x O n d w
/-- **new String(chars) AT A CALL, THE ARRAYS AS LISTS**: the char[] at b holds cs, not empty, no char above 255 -/
theorem backArv {p : Program} {l : Launch} {e : Env} {R : Room} {s : State} {args : Array Value} {below : List Frame} {len W : Nat} {Z : State} {a0 : Array Value} {h : Heap} (hZ : Z.Warmed39 s.vm) (hw : ∀ d ∈ words, d.before a0 Z = true) {kI : Nat} (wi : (Jvm.Cond.instantiable ST kI).before a0 Z = true)
    {x b : Addr} {k : ClassId} {zn z : Int32} {cs : List Int32} {dv v0 c0 : Value} (E : RoadKit.Exa Z h x ST) (V : RoadKit.Fld Z h x ST "value" "[B" v0) (C : RoadKit.Fld Z h x ST "coder" "B" c0) (K : RoadKit.Arv Z h b k .char zn (cs.map Value.int) dv) (S : RoadKit.Sta Z h ST "COMPACT_STRINGS" "Z" (.int z)) (hz : ¬ z = 0)
    (hlen : zn.toNatClampNeg = cs.length) (h0 : 0 < cs.length) (hbig : cs.length ≤ 536870912) (hall : ∀ c ∈ cs, ¬ 255 < c) (hfr : 4 ≤ R.frames) (hlo : W + 65 ≤ R.locals) :
    Back l R p e below s args New1.yN len W (fun P a => a = #[.ref x, .ref b] ∧ P.U.heap = h ∧ P.cells + 1 ≤ R.cells ∧ P.slots + cs.length ≤ R.slots)
      (fun P _ v B => ∃ L, QA Z x zn cs h v B.U.heap L ∧ B.locs = P.locs ++ L ∧ B.cells = P.cells + 1 ∧ B.slots = P.slots + cs.length) := by
  obtain ⟨A, K1, K2, K3, K4, K5, K6⟩ := K
  have e : A.slots.size = cs.length := K3.trans hlen
  have hat : ∀ (i : Nat) (hi : i < cs.length), A.slots[i]? = some (.int cs[i]) := fun i hi => by rw [K5 i (by omega)]; simp [List.getD_eq_getElem?_getD, hi]
  have hcv : ∀ (i : Nat) (hi : i < cs.length), cv A i = cs[i] := fun i hi => by unfold cv; rw [hat i hi]
  have hty : Typed .char A := fun i v hv => by
    have hi : i < A.slots.size := (Array.getElem?_eq_some_iff.mp hv).1
    have q := K5 i hi
    rw [hv] at q
    rw [Option.some.inj q]
    exact K6 i hi
  refine Back.mono (back hZ hw wi E V C K1 hty S hz (by omega) (by omega) (fun i hi => by rw [hcv i (by omega)]; exact hall _ (List.getElem_mem _)) hfr hlo) (fun P a hp => ⟨hp.1, hp.2.1, hp.2.2.1, by rw [e]; exact hp.2.2.2⟩) (fun P a v B hp hq => ?_)
  obtain ⟨L, ⟨q1, q2, q3, q4, q5, q6, q7, ⟨V', v1, v2, v3, v4, v5⟩, q9⟩, hl, hc, hs⟩ := hq
  refine ⟨L, ⟨q1, q2, q3, q4, q5, q6, q7, ⟨V'.cls, v3, V', v1, rfl, by rw [v4, e, hlen], K4, fun i hi => ?_, fun i hi => ?_⟩, q9⟩, hl, hc, by rw [hs, e]⟩
  · have hi' : i < cs.length := by omega
    rw [v5 i (by omega), hcv i hi']; simp [List.getD_eq_getElem?_getD, hi']
  · have hi' : i < cs.length := by omega
    simp only [List.getD_eq_getElem?_getD, List.getElem?_map, List.getElem?_eq_getElem hi', Option.map_some, Option.getD_some]
    exact fits_lo8 _
end StrChars.Road
namespace StrChars.Road
open Jvm Sem ClassFile Op Lib Jvm.Stand Jvm.Free Jvm.Free.XT
/-- WHAT COMES BACK, in the writer's own shape -/
def QV (Z : State) (x : Addr) (N : Int32) (bs : List Int32) (h : Heap) (n0 : Nat) (v : Option Value) (h' : Heap) (L : List Loc) : Prop := v = none ∧ RoadKit.Fr n0 L ∧ RoadKit.Keep h h' [x] ∧ RoadKit.Exa Z h' x ST ∧ RoadKit.Fld Z h' x ST "coder" "B" (.int 0) ∧
  ∃ (t : Addr) (kb : ClassId), n0 ≤ t ∧ h.size ≤ t ∧ ¬ t = x ∧ RoadKit.Fld Z h' x ST "value" "[B" (.ref t) ∧ RoadKit.Arv Z h' t kb .byte N (bs.map Value.int) (.int 0)
/-- **new String(chars) AT A CALL, FOR THE WRITER**: a char[] of n known ints, each 0 to 255 -/
theorem backV {p : Program} {l : Launch} {e : Env} {R : Room} {s : State} {args : Array Value} {below : List Frame} {len W : Nat} {Z : State} {a0 : Array Value} {h : Heap} (hZ : Z.Warmed39 s.vm) (hw : ∀ d ∈ words, d.before a0 Z = true) {kI : Nat} (wi : (Jvm.Cond.instantiable ST kI).before a0 Z = true)
    {x b : Addr} {kC : ClassId} {cs bs : List Int32} {d v0 c0 : Value} {z N : Int32} {n n0 : Nat} (hx0 : n0 ≤ x) (hh0 : n0 ≤ h.size) (E : RoadKit.Exa Z h x ST) (V : RoadKit.Fld Z h x ST "value" "[B" v0) (C : RoadKit.Fld Z h x ST "coder" "B" c0) (K : RoadKit.Arv Z h b kC .char N (cs.map Value.int) d) (S : RoadKit.Sta Z h ST "COMPACT_STRINGS" "Z" (.int z)) (hz : ¬ z = 0)
    (hn : cs.length = n) (hN : N = Int32.ofNat n) (l0 : 0 < n) (l2 : n ≤ 4000) (hp : ∀ c ∈ cs, ¬ c < 0 ∧ ¬ (255 : Int32) < c) (hb : bs = cs.map (fun c => c.toInt8.toInt32)) (hfr : 4 ≤ R.frames) (hlo : W + 65 ≤ R.locals) :
    Back l R p e below s args (⟨"java/lang/String", "<init>", "([C)V"⟩ : MethodName) len W (fun P a => a = #[.ref x, .ref b] ∧ P.U.heap = h ∧ P.cells + 1 ≤ R.cells ∧ P.slots + n ≤ R.slots)
      (fun P _ v B => ∃ L, QV Z x N bs h n0 v B.U.heap L ∧ B.locs = P.locs ++ L ∧ B.cells = P.cells + 1 ∧ B.slots = P.slots + n) := by
  subst hn hN hb
  refine Back.mono (backArv hZ hw wi E V C K S hz (n32 (by omega)) l0 (by omega) (fun c hc => (hp c hc).2) hfr hlo) (fun P a hp => hp) (fun P a v B hp hq => ?_)
  obtain ⟨L, ⟨q1, q2, q3, q4, q5, q6, q7, ⟨kb, v1, v2⟩, q9⟩, hl, hc, hs⟩ := hq
  exact ⟨L, ⟨q1, fun y hy => by rw [q2 y hy]; exact hx0, q3, q5, q7, h.size, kb, hh0, Nat.le_refl _, Nat.ne_of_gt E.lt, q6, by rw [List.map_map]; exact v2⟩, hl, hc, hs⟩
end StrChars.Road
end Jvm.Pilot.@@N@@
namespace Jvm.Pilot.@@N@@
open Jvm Jvm.ClassFile Sem Op Lib Jvm.Free Jvm.Stand Jvm.LawKit Jvm.RoadKit Bundle Jvm.Pilot.@@N@@.Jvm.D
/-! the walk, forward: own_G: from here the run comes to an end that meets P -/
def own_G (tb : Tables) (e : Env) (below : List Frame) (P : Outcome → State → Prop) (a : State) : Prop := ∃ s₂ o, Steps tb e below a s₂ ∧ s₂.status = .running ∧ Ended s₂ below o ∧ P o s₂
def own_c (x : Int32) : Int32 := x.toUInt32.toUInt16.toUInt32.toInt32
section OwnKit
variable {tb : Tables} {p : Program} {l : Launch} {e : Env} {R : Room} {s : State} {m : MethodId} {args : Array Value} {below : List Frame} {meth : Method} {c : Code} {T : State} {locs : List Loc} {cells slots : Nat} {P : Outcome → State → Prop} {a b : State} {h : Heap} {Z : State} {a0 : Array Value}
theorem own_w {d : Jvm.Cond} (hw : ∀ d ∈ tables_1, d.before a0 Z = true) (k : Nat) (h : tables_1[k]? = some d) : d.before a0 Z = true := hw _ (List.mem_of_getElem? h)
theorem own_G.go (h : ∀ t, Steps tb e below b t → Steps tb e below a t) (k : own_G tb e below P b) : own_G tb e below P a := by
  obtain ⟨s₂, o, h1, h2⟩ := k
  exact ⟨s₂, o, h _ h1, h2⟩
theorem own_G.via (h : Steps tb e below a b) (k : own_G tb e below P b) : own_G tb e below P a := own_G.go (fun _ q => h.trans q) k
theorem own_G.cast {g g' : JFrame} (q : g = g') (k : own_G tb e below P (T.setTop g')) : own_G tb e below P (T.setTop g) := q ▸ k
theorem own_G.end_ (X : Stand p l e R s m args below meth c T locs cells slots) (hlk : meth.locks = false) {v : Option Value} (hv : meth.sig.returnType = none → v = none)
    (st : ∀ fs, (∀ (f : JFrame) (acts : List Action), f.method = m → f.locked = none → f.entered = [] → (doReturn e (T.setTop f) acts v).1 = T.setFrames fs) → Steps p.tables e below a (T.setFrames fs))
    {Q : Option Value → Heap → List Loc → Prop} {rc rs : Nat} (eT : T.heap = h) (hQ : Q v h locs) (hc : cells ≤ rc) (hs : slots ≤ rs) :
    own_G p.tables e below (fun o t => ∃ v L, o = .returned v ∧ Q v t.heap L ∧ FrameEnd s o t L rc rs) a := by
  obtain ⟨fs, hr, hrun, hended, hW, hsame⟩ := X.leave hv
  subst eT
  exact ⟨_, _, st fs hr, hrun, hended, _, _, rfl, hQ, ⟨_, rfl⟩, hW, hsame.mono hc hs⟩
/-! calls by a payer of backOf's shape -/
theorem own_callS (X : Stand p l e R s m args below meth c T locs cells slots) (hx : p.tables.exec = Jvm.exec) {own : String} {index : Nat} {y : MethodName} {bytes : ByteArray} {maxL : Nat} {ret : Option FieldType}
    (hown : s.vm.findClass own = some m.cls) (hlink : (Jvm.Cond.methodLink own index y).before args s = true) (hstat : (Jvm.Cond.static y).before args s = true) (hinit : (Jvm.Cond.initialized y.cls).before args s = true) (hcode : (Jvm.Cond.code y bytes maxL ret).before args s = true)
    (hy : y.cls ≠ "java/lang/invoke/MethodHandle" ∧ y.cls ≠ "java/lang/invoke/VarHandle") {W rc rs : Nat} {as' : Array Value} {Q : Option Value → Heap → List Loc → Prop}
    (hK : Back l R p e below s args y 3 W (fun A a => a = as' ∧ A.U.heap = h ∧ A.cells + rc ≤ R.cells ∧ A.slots + rs ≤ R.slots) (fun A _ v B => ∃ L, Q v B.U.heap L ∧ B.locs = A.locs ++ L ∧ B.cells = A.cells + rc ∧ B.slots = A.slots + rs))
    {g : JFrame} (hg : g.method = m) (hsize : g.locals.size = c.maxLocals) {argsL rest : List Value} (hlen : ∀ sig, parseMethodDescriptor y.desc = some sig → argsL.length = sig.parameters.length)
    (hstack : g.stack = argsL.reverse ++ rest) (hW : 2 * g.monitorRoom + (rest.map fun v => v.category).sum ≤ W) (hdg : decode c.code g.pc = .ok (.invokestatic index, 3))
    (eT : T.heap = h) (has : argsL.toArray = as') (hc : cells + rc ≤ R.cells) (hs : slots + rs ≤ R.slots) :
    ∃ (v : Option Value) (T' : State) (L : List Loc), Q v T'.heap L ∧ Stand p l e R s m args below meth c T' (locs ++ L) (cells + rc) (slots + rs) ∧ Steps p.tables e below (T.setTop g) (T'.setTop { g with pc := g.pc + 3, stack := v.toList ++ rest }) := by
  obtain ⟨v, vm₁, ⟨T', L', k', n'⟩, -, X', ⟨L, hQ, l1, l2, l3⟩, st⟩ := Jvm.LawKit.callS X hx hown hlink hstat hinit hcode hy hK hg hsize hlen hstack hW hdg (fun _ _ => ⟨has, eT, hc, hs⟩)
  dsimp only [Pt.U, Pt.locs, Pt.cells, Pt.slots] at X' l1 l2 l3 st hQ
  subst l1 l2 l3
  exact ⟨v, T', L, hQ, X', st _ (Steps.refl _)⟩
theorem own_callI (X : Stand p l e R s m args below meth c T locs cells slots) (hx : p.tables.exec = Jvm.exec) {own : String} {index : Nat} {y : MethodName} (hy1 : y.name = "<init>") {bytes : ByteArray} {maxL : Nat}
    (hown : s.vm.findClass own = some m.cls) (hlink : (Jvm.Cond.methodLink own index y).before args s = true) (hinst : (Jvm.Cond.instanceMethod y).before args s = true) (hcode : (Jvm.Cond.code y bytes maxL none).before args s = true)
    (hy : y.cls ≠ "java/lang/invoke/MethodHandle" ∧ y.cls ≠ "java/lang/invoke/VarHandle") {W rc rs : Nat} {as' : Array Value} {Q : Option Value → Heap → List Loc → Prop}
    (hK : Back l R p e below s args y 3 W (fun A a => a = as' ∧ A.U.heap = h ∧ A.cells + rc ≤ R.cells ∧ A.slots + rs ≤ R.slots) (fun A _ v B => ∃ L, Q v B.U.heap L ∧ B.locs = A.locs ++ L ∧ B.cells = A.cells + rc ∧ B.slots = A.slots + rs))
    {a : Addr} {g : JFrame} (hg : g.method = m) (hsize : g.locals.size = c.maxLocals) {argsL rest : List Value} (hlen : ∀ sig, parseMethodDescriptor y.desc = some sig → argsL.length = sig.parameters.length)
    (hstack : g.stack = argsL.reverse ++ .ref a :: rest) (hW : 2 * g.monitorRoom + (rest.map fun v => v.category).sum ≤ W) (hdg : decode c.code g.pc = .ok (.invokespecial index, 3))
    (eT : T.heap = h) (has : (.ref a :: argsL).toArray = as') (hc : cells + rc ≤ R.cells) (hs : slots + rs ≤ R.slots) :
    ∃ (v : Option Value) (T' : State) (L : List Loc), Q v T'.heap L ∧ Stand p l e R s m args below meth c T' (locs ++ L) (cells + rc) (slots + rs) ∧ Steps p.tables e below (T.setTop g) (T'.setTop { g with pc := g.pc + 3, stack := v.toList ++ rest }) := by
  obtain ⟨v, vm₁, ⟨T', L', k', n'⟩, -, X', ⟨L, hQ, l1, l2, l3⟩, st⟩ := X.specialBack hx hy1 hown hlink hinst hcode hy hK hg hsize (Steps.refl _) hlen hstack hW hdg (fun _ _ => ⟨has, eT, hc, hs⟩)
  dsimp only [Pt.U, Pt.locs, Pt.cells, Pt.slots] at X' l1 l2 l3 st hQ
  subst l1 l2 l3
  exact ⟨v, T', L, hQ, X', st⟩
theorem own_callV (X : Stand p l e R s m args below meth c T locs cells slots) (hx : p.tables.exec = Jvm.exec) {own C : String} {index : Nat} {y z : MethodName}
    (hown : s.vm.findClass own = some m.cls) (hlink : (Jvm.Cond.methodLink own index y).before args s = true) (hdecl : (Jvm.Cond.declares y).before args s = true) (hnf : NotFace s y)
    (hsel : (Jvm.Cond.selects C y z).before args s = true) (hinst : (Jvm.Cond.instanceMethod z).before args s = true)
    (hy : y.cls ≠ "java/lang/invoke/MethodHandle" ∧ y.cls ≠ "java/lang/invoke/VarHandle") {W rc rs : Nat} {as' : Array Value} {Q : Option Value → Heap → List Loc → Prop}
    (hK : Back l R p e below s args z 3 W (fun A a => a = as' ∧ A.U.heap = h ∧ A.cells + rc ≤ R.cells ∧ A.slots + rs ≤ R.slots) (fun A _ v B => ∃ L, Q v B.U.heap L ∧ B.locs = A.locs ++ L ∧ B.cells = A.cells + rc ∧ B.slots = A.slots + rs))
    {b : Addr} {cB : ClassId} (hcB : s.vm.findClass C = some cB) (hrecv : IsOf cB T b)
    {g : JFrame} (hg : g.method = m) (hsize : g.locals.size = c.maxLocals) {argsL rest : List Value} (hlen : ∀ sig, parseMethodDescriptor y.desc = some sig → argsL.length = sig.parameters.length)
    (hstack : g.stack = argsL.reverse ++ .ref b :: rest) (hW : 2 * g.monitorRoom + (rest.map fun v => v.category).sum ≤ W) (hdg : decode c.code g.pc = .ok (.invokevirtual index, 3))
    (eT : T.heap = h) (has : (.ref b :: argsL).toArray = as') (hc : cells + rc ≤ R.cells) (hs : slots + rs ≤ R.slots) :
    ∃ (v : Option Value) (T' : State) (L : List Loc), Q v T'.heap L ∧ Stand p l e R s m args below meth c T' (locs ++ L) (cells + rc) (slots + rs) ∧ Steps p.tables e below (T.setTop g) (T'.setTop { g with pc := g.pc + 3, stack := v.toList ++ rest }) := by
  obtain ⟨v, vm₁, ⟨T', L', k', n'⟩, -, X', ⟨L, hQ, l1, l2, l3⟩, st⟩ := X.virtualBack hx hown hlink hdecl hnf hsel hinst hy hK hcB hrecv hg hsize (Steps.refl _) hlen hstack hW hdg (fun _ _ => ⟨has, eT, hc, hs⟩)
  dsimp only [Pt.U, Pt.locs, Pt.cells, Pt.slots] at X' l1 l2 l3 st hQ
  subst l1 l2 l3
  exact ⟨v, T', L, hQ, X', st⟩
/-! stores into an array whose values are known -/
theorem own_stC {k : ClassId} {n : Int32} {vs : List Value} {d : Value} {a : Addr} (X : Stand p l e R s m args below meth c T locs cells slots) (hx : p.tables.exec = Jvm.exec) (hZ : Z.Warmed39 s.vm) (eT : T.heap = h) (V : Arv Z h a k .char n vs d) {j x : Int32} (i : Nat) (hi : i < vs.length) (hji : j.toNatClampNeg = i) (hj : ¬ j < 0 ∧ j < n)
    {g : JFrame} (hg : g.method = m) {rest : List Value} (hs : g.stack = .int x :: .int j :: .ref a :: rest) (hd : decode c.code g.pc = .ok (.castore, 1)) :
    ∃ T' h', Stand p l e R s m args below meth c T' (locs ++ [⟨a, j.toNatClampNeg⟩]) cells slots ∧ T'.heap = h' ∧ Wr h h' a j.toNatClampNeg (.int (nar .char x)) ∧ Arv Z h' a k .char n (vs.set i (.int (nar .char x))) d ∧ ∀ target, Steps p.tables e below (T'.setTop { g with pc := g.pc + 1, stack := rest }) target → Steps p.tables e below (T.setTop g) target := by
  obtain ⟨cl, A, q, S, M, H, U⟩ := V
  obtain ⟨T', h', X', e', W', st⟩ := stC X hx hZ eT A (j := j) (inb_of S hj) hg hs hd
  exact ⟨T', h', X', e', W', Arv.set A q S M H U (fits_nar_char _) W' i hji hi, st⟩
theorem own_stB {k : ClassId} {n : Int32} {vs : List Value} {d : Value} {a : Addr} (X : Stand p l e R s m args below meth c T locs cells slots) (hx : p.tables.exec = Jvm.exec) (hZ : Z.Warmed39 s.vm) (eT : T.heap = h) (V : Arv Z h a k .byte n vs d) {j x : Int32} (i : Nat) (hi : i < vs.length) (hji : j.toNatClampNeg = i) (hj : ¬ j < 0 ∧ j < n)
    {g : JFrame} (hg : g.method = m) {rest : List Value} (hs : g.stack = .int x :: .int j :: .ref a :: rest) (hd : decode c.code g.pc = .ok (.bastore, 1)) :
    ∃ T' h', Stand p l e R s m args below meth c T' (locs ++ [⟨a, j.toNatClampNeg⟩]) cells slots ∧ T'.heap = h' ∧ Wr h h' a j.toNatClampNeg (.int (nar .byte x)) ∧ Arv Z h' a k .byte n (vs.set i (.int (nar .byte x))) d ∧ ∀ target, Steps p.tables e below (T'.setTop { g with pc := g.pc + 1, stack := rest }) target → Steps p.tables e below (T.setTop g) target := by
  obtain ⟨cl, A, q, S, M, H, U⟩ := V
  obtain ⟨T', h', X', e', W', st⟩ := stB X hx hZ eT A (j := j) (inb_of S hj) hg hs hd
  exact ⟨T', h', X', e', W', Arv.set A q S M H U (fits_nar_byte _) W' i hji hi, st⟩
theorem own_stI {k : ClassId} {n : Int32} {vs : List Value} {d : Value} {a : Addr} (X : Stand p l e R s m args below meth c T locs cells slots) (hx : p.tables.exec = Jvm.exec) (hZ : Z.Warmed39 s.vm) (eT : T.heap = h) (V : Arv Z h a k .int n vs d) {j x : Int32} (i : Nat) (hi : i < vs.length) (hji : j.toNatClampNeg = i) (hj : ¬ j < 0 ∧ j < n)
    {g : JFrame} (hg : g.method = m) {rest : List Value} (hs : g.stack = .int x :: .int j :: .ref a :: rest) (hd : decode c.code g.pc = .ok (.iastore, 1)) :
    ∃ T' h', Stand p l e R s m args below meth c T' (locs ++ [⟨a, j.toNatClampNeg⟩]) cells slots ∧ T'.heap = h' ∧ Wr h h' a j.toNatClampNeg (.int x) ∧ Arv Z h' a k .int n (vs.set i (.int x)) d ∧ ∀ target, Steps p.tables e below (T'.setTop { g with pc := g.pc + 1, stack := rest }) target → Steps p.tables e below (T.setTop g) target := by
  obtain ⟨cl, A, q, S, M, H, U⟩ := V
  obtain ⟨T', h', X', e', W', st⟩ := stI X hx hZ eT A (j := j) (inb_of S hj) hg hs hd
  exact ⟨T', h', X', e', W', Arv.set A q S M H U rfl W' i hji hi, st⟩
end OwnKit
/-! the same for walks that may load String constants (the frame is the wide one) -/
section OwnKitW
variable {p : Program} {l : Launch} {e : Env} {R : Room} {s : State} {m : MethodId} {args : Array Value} {below : List Frame} {meth : Method} {c : Code} {T : State} {locs : List Loc} {cells slots : Nat} {P : Outcome → State → Prop} {a b : State} {h : Heap} {Z : State} {a0 : Array Value} {vm0 : Vm} {k0 : Nat}
theorem own_since (s : State) (n : Nat) : s.Since s.vm n := (State.WarmedH.refl s).since n
theorem own_G.endW (X : Stand p l e R (s.setVm vm0) m args below meth c T locs cells slots) (hS : s.Since vm0 k0) (hn : k0 ≤ h.size) (hlk : meth.locks = false) {v : Option Value} (hv : meth.sig.returnType = none → v = none)
    (st : ∀ fs, (∀ (f : JFrame) (acts : List Action), f.method = m → f.locked = none → f.entered = [] → (doReturn e (T.setTop f) acts v).1 = T.setFrames fs) → Steps p.tables e below a (T.setFrames fs))
    {Q : Option Value → Heap → List Loc → Prop} {rc rs : Nat} (eT : T.heap = h) (hQ : Q v h locs) (hc : cells ≤ rc) (hs : slots ≤ rs) :
    own_G p.tables e below (fun o t => ∃ v L, o = .returned v ∧ Q v t.heap L ∧ ReturnedEndW s o t L rc rs) a := by
  subst eT
  obtain ⟨fs, hr, hrun, hended, r1, r2, r3, r4⟩ := X.leaveW hS hn hv hlk
  exact ⟨_, _, st fs hr, hrun, hended, _, _, rfl, hQ, r1, r2, r3, r4.mono hc hs⟩
theorem own_backS {y : MethodName} {len W rc rs : Nat} {as' : Array Value} {Q : Option Value → Heap → List Loc → Prop} {S : State}
    (hK : BackS l R p e below S args y len W (fun A a => a = as' ∧ A.U.heap = h ∧ A.cells + rc ≤ R.cells ∧ A.slots + rs ≤ R.slots) (fun A _ v B => ∃ L, Q v B.U.heap L ∧ B.locs = A.locs ++ L ∧ B.cells = A.cells + rc ∧ B.slots = A.slots + rs)) :
    BackS l R p e below S args y len W (fun A a => a = as' ∧ A.U.heap = h ∧ A.cells + rc ≤ R.cells ∧ A.slots + rs ≤ R.slots) (fun A _ v B => ∃ L, (fun v (U : State) L => Q v U.heap L) v B.U L ∧ B.locs = A.locs ++ L ∧ B.cells = A.cells + rc ∧ B.slots = A.slots + rs) := hK
theorem own_callIW (X : Stand p l e R (s.setVm vm0) m args below meth c T locs cells slots) (hx : p.tables.exec = Jvm.exec) (hS : s.Since vm0 k0) (hk : k0 ≤ h.size) (hZ : Z.Warmed39 vm0) {own : String} {index : Nat} {y : MethodName} (hy1 : y.name = "<init>") {bytes : ByteArray} {maxL : Nat}
    (hown : vm0.findClass own = some m.cls) (hlink : (Jvm.Cond.methodLink own index y).before args (s.setVm vm0) = true) (hinst : (Jvm.Cond.instanceMethod y).before args (s.setVm vm0) = true) (hcode : (Jvm.Cond.code y bytes maxL none).before args (s.setVm vm0) = true)
    (hy : y.cls ≠ "java/lang/invoke/MethodHandle" ∧ y.cls ≠ "java/lang/invoke/VarHandle") {W rc rs : Nat} {as' : Array Value} {Q : Option Value → State → List Loc → Prop}
    (hK : BackS l R p e below (s.setVm vm0) args y 3 W (fun A a => a = as' ∧ A.U.heap = h ∧ A.cells + rc ≤ R.cells ∧ A.slots + rs ≤ R.slots) (fun A _ v B => ∃ L, Q v B.U L ∧ B.locs = A.locs ++ L ∧ B.cells = A.cells + rc ∧ B.slots = A.slots + rs))
    {a : Addr} {g : JFrame} (hg : g.method = m) (hsize : g.locals.size = c.maxLocals) {argsL rest : List Value} (hlen : ∀ sig, parseMethodDescriptor y.desc = some sig → argsL.length = sig.parameters.length)
    (hstack : g.stack = argsL.reverse ++ .ref a :: rest) (hW : 2 * g.monitorRoom + (rest.map fun v => v.category).sum ≤ W) (hdg : decode c.code g.pc = .ok (.invokespecial index, 3))
    (eT : T.heap = h) (has : (.ref a :: argsL).toArray = as') (hc : cells + rc ≤ R.cells) (hs : slots + rs ≤ R.slots) :
    ∃ (v : Option Value) (T' : State) (L : List Loc), Q v T' L ∧ Stand p l e R (s.setVm T'.vm) m args below meth c T' (locs ++ L) (cells + rc) (slots + rs) ∧ s.Since T'.vm T'.heap.size ∧ Z.Warmed39 (s.setVm T'.vm).vm ∧ (s.setVm T'.vm).vm.findClass own = some m.cls ∧ Steps p.tables e below (T.setTop g) (T'.setTop { g with pc := g.pc + 3, stack := v.toList ++ rest }) := by
  subst eT
  obtain ⟨v, vm₁, ⟨T', L', k', n'⟩, -, X', h2, hgr, ⟨L, hQ, l1, l2, l3⟩, st⟩ := X.specialBackS hx hy1 hown hlink hinst hcode hy hK hg hsize (Steps.refl _) hlen hstack hW hdg (fun _ _ => ⟨has, rfl, hc, hs⟩)
  dsimp only [Pt.U, Pt.locs, Pt.cells, Pt.slots] at X' l1 l2 l3 st hQ h2 hgr
  subst l1 l2 l3
  obtain ⟨r1, r2, r3, r4⟩ := rebS hS hk X' h2 hgr hZ hown
  exact ⟨v, T', L, hQ, r1, r2, r3, r4, st⟩
theorem own_callSW (X : Stand p l e R (s.setVm vm0) m args below meth c T locs cells slots) (hx : p.tables.exec = Jvm.exec) (hS : s.Since vm0 k0) (hk : k0 ≤ h.size) (hZ : Z.Warmed39 vm0) {own : String} {index : Nat} {y : MethodName} {bytes : ByteArray} {maxL : Nat} {ret : Option FieldType}
    (hown : vm0.findClass own = some m.cls) (hlink : (Jvm.Cond.methodLink own index y).before args (s.setVm vm0) = true) (hstat : (Jvm.Cond.static y).before args (s.setVm vm0) = true) (hinit : (Jvm.Cond.initialized y.cls).before args (s.setVm vm0) = true) (hcode : (Jvm.Cond.code y bytes maxL ret).before args (s.setVm vm0) = true)
    (hy : y.cls ≠ "java/lang/invoke/MethodHandle" ∧ y.cls ≠ "java/lang/invoke/VarHandle") {W rc rs : Nat} {as' : Array Value} {Q : Option Value → State → List Loc → Prop}
    (hK : BackS l R p e below (s.setVm vm0) args y 3 W (fun A a => a = as' ∧ A.U.heap = h ∧ A.cells + rc ≤ R.cells ∧ A.slots + rs ≤ R.slots) (fun A _ v B => ∃ L, Q v B.U L ∧ B.locs = A.locs ++ L ∧ B.cells = A.cells + rc ∧ B.slots = A.slots + rs))
    {g : JFrame} (hg : g.method = m) (hsize : g.locals.size = c.maxLocals) {argsL rest : List Value} (hlen : ∀ sig, parseMethodDescriptor y.desc = some sig → argsL.length = sig.parameters.length)
    (hstack : g.stack = argsL.reverse ++ rest) (hW : 2 * g.monitorRoom + (rest.map fun v => v.category).sum ≤ W) (hdg : decode c.code g.pc = .ok (.invokestatic index, 3))
    (eT : T.heap = h) (has : argsL.toArray = as') (hc : cells + rc ≤ R.cells) (hs : slots + rs ≤ R.slots) :
    ∃ (v : Option Value) (T' : State) (L : List Loc), Q v T' L ∧ Stand p l e R (s.setVm T'.vm) m args below meth c T' (locs ++ L) (cells + rc) (slots + rs) ∧ s.Since T'.vm T'.heap.size ∧ Z.Warmed39 (s.setVm T'.vm).vm ∧ (s.setVm T'.vm).vm.findClass own = some m.cls ∧ Steps p.tables e below (T.setTop g) (T'.setTop { g with pc := g.pc + 3, stack := v.toList ++ rest }) := by
  subst eT
  obtain ⟨v, vm₁, ⟨T', L', k', n'⟩, -, X', h2, hgr, ⟨L, hQ, l1, l2, l3⟩, st⟩ := callSS X hx hown hlink hstat hinit hcode hy hK hg hsize hlen hstack hW hdg (fun _ _ => ⟨has, rfl, hc, hs⟩)
  dsimp only [Pt.U, Pt.locs, Pt.cells, Pt.slots] at X' l1 l2 l3 st hQ h2 hgr
  subst l1 l2 l3
  obtain ⟨r1, r2, r3, r4⟩ := rebS hS hk X' h2 hgr hZ hown
  exact ⟨v, T', L, hQ, r1, r2, r3, r4, st⟩
theorem own_callVW (X : Stand p l e R (s.setVm vm0) m args below meth c T locs cells slots) (hx : p.tables.exec = Jvm.exec) (hS : s.Since vm0 k0) (hk : k0 ≤ h.size) (hZ : Z.Warmed39 vm0) {own C : String} {index : Nat} {y z : MethodName}
    (hown : vm0.findClass own = some m.cls) (hlink : (Jvm.Cond.methodLink own index y).before args (s.setVm vm0) = true) (hdecl : (Jvm.Cond.declares y).before args (s.setVm vm0) = true) (hnf : NotFace (s.setVm vm0) y)
    (hsel : (Jvm.Cond.selects C y z).before args (s.setVm vm0) = true) (hinst : (Jvm.Cond.instanceMethod z).before args (s.setVm vm0) = true)
    (hy : y.cls ≠ "java/lang/invoke/MethodHandle" ∧ y.cls ≠ "java/lang/invoke/VarHandle") {W rc rs : Nat} {as' : Array Value} {Q : Option Value → State → List Loc → Prop}
    (hK : BackS l R p e below (s.setVm vm0) args z 3 W (fun A a => a = as' ∧ A.U.heap = h ∧ A.cells + rc ≤ R.cells ∧ A.slots + rs ≤ R.slots) (fun A _ v B => ∃ L, Q v B.U L ∧ B.locs = A.locs ++ L ∧ B.cells = A.cells + rc ∧ B.slots = A.slots + rs))
    {b : Addr} {cB : ClassId} (hcB : (s.setVm vm0).vm.findClass C = some cB) (hrecv : IsOf cB T b)
    {g : JFrame} (hg : g.method = m) (hsize : g.locals.size = c.maxLocals) {argsL rest : List Value} (hlen : ∀ sig, parseMethodDescriptor y.desc = some sig → argsL.length = sig.parameters.length)
    (hstack : g.stack = argsL.reverse ++ .ref b :: rest) (hW : 2 * g.monitorRoom + (rest.map fun v => v.category).sum ≤ W) (hdg : decode c.code g.pc = .ok (.invokevirtual index, 3))
    (eT : T.heap = h) (has : (.ref b :: argsL).toArray = as') (hc : cells + rc ≤ R.cells) (hs : slots + rs ≤ R.slots) :
    ∃ (v : Option Value) (T' : State) (L : List Loc), Q v T' L ∧ Stand p l e R (s.setVm T'.vm) m args below meth c T' (locs ++ L) (cells + rc) (slots + rs) ∧ s.Since T'.vm T'.heap.size ∧ Z.Warmed39 (s.setVm T'.vm).vm ∧ (s.setVm T'.vm).vm.findClass own = some m.cls ∧ Steps p.tables e below (T.setTop g) (T'.setTop { g with pc := g.pc + 3, stack := v.toList ++ rest }) := by
  subst eT
  obtain ⟨v, vm₁, ⟨T', L', k', n'⟩, -, X', h2, hgr, ⟨L, hQ, l1, l2, l3⟩, st⟩ := X.virtualBackS hx hown hlink hdecl hnf hsel hinst hy hK hcB hrecv hg hsize (Steps.refl _) hlen hstack hW hdg (fun _ _ => ⟨has, rfl, hc, hs⟩)
  dsimp only [Pt.U, Pt.locs, Pt.cells, Pt.slots] at X' l1 l2 l3 st hQ h2 hgr
  subst l1 l2 l3
  obtain ⟨r1, r2, r3, r4⟩ := rebS hS hk X' h2 hgr hZ hown
  exact ⟨v, T', L, hQ, r1, r2, r3, r4, st⟩
end OwnKitW
theorem own_c255 (x : Int32) : 0 ≤ (own_c (x &&& (255 : Int32))).toInt ∧ (own_c (x &&& (255 : Int32))).toInt ≤ 255 := by
  have h := c_mask x 255 8 (by decide) (by decide)
  have := c_i2c (x &&& (255 : Int32))
  unfold own_c
  omega
theorem own_n255 (x : Int32) : ¬ (255 : Int32) < own_c (x &&& (255 : Int32)) := by
  rw [Int32.lt_iff_toInt_lt]
  have := own_c255 x
  have e : (255 : Int32).toInt = 255 := rfl
  omega
theorem own_nc (x : Int32) : ¬ nar .char (own_c (x &&& (255 : Int32))) < 0 ∧ ¬ (255 : Int32) < nar .char (own_c (x &&& (255 : Int32))) := by
  have h1 := own_c255 x
  have h2 := c_i2c (own_c (x &&& (255 : Int32)))
  have h3 : nar .char (own_c (x &&& (255 : Int32))) = (own_c (x &&& (255 : Int32))).toUInt32.toUInt16.toUInt32.toInt32 := rfl
  rw [h3, Int32.lt_iff_toInt_lt, Int32.lt_iff_toInt_lt]
  have e : (255 : Int32).toInt = 255 := rfl
  have e0 : (0 : Int32).toInt = 0 := rfl
  omega

theorem own_fld {args : Array Value} {s : State} {t : Term} {C n d : String} {v : Value} {a : Addr} (h : (Term.field t C n d).eval args s none [] s = some v) (ht : t.eval args s none [] s = some (.ref a)) : s.fieldOf? a C n d = some v := by
  simp only [Term.eval, ht, Option.bind_eq_bind, Option.bind_some] at h
  exact h
def Qolinit (Z : State) (a : Addr) (j : Int64) (h0 : Heap) (n0 : Nat) (v : Option Value) (h : Heap) (L : List Loc) : Prop := v = none ∧ Fr n0 L ∧ Keep h0 h [a] ∧ Exa Z h a "java/util/OptionalLong" ∧ Fld Z h a "java/util/OptionalLong" "isPresent" "Z" (.int (1 : Int32)) ∧ Fld Z h a "java/util/OptionalLong" "value" "J" (.long j)
theorem pn_1 : plainName "java/util/OptionalLong" = true := by first | (simp [plainName, overriddenIn]; done) | decide +kernel
theorem d_rm_olinit_0 : decode jdk_2650_method_3_code 0 = .ok (.aload_n 0, 1) := by decide +kernel
theorem d_rm_olinit_1 : decode jdk_2650_method_3_code 1 = .ok (.invokespecial 1, 3) := by decide +kernel
theorem d_rm_olinit_4 : decode jdk_2650_method_3_code 4 = .ok (.aload_n 0, 1) := by decide +kernel
theorem d_rm_olinit_5 : decode jdk_2650_method_3_code 5 = .ok (.iconst 1, 1) := by decide +kernel
theorem d_rm_olinit_6 : decode jdk_2650_method_3_code 6 = .ok (.putfield 7, 3) := by decide +kernel
theorem d_rm_olinit_9 : decode jdk_2650_method_3_code 9 = .ok (.aload_n 0, 1) := by decide +kernel
theorem d_rm_olinit_10 : decode jdk_2650_method_3_code 10 = .ok (.lload_n 1, 1) := by decide +kernel
theorem d_rm_olinit_11 : decode jdk_2650_method_3_code 11 = .ok (.putfield 13, 3) := by decide +kernel
theorem d_rm_olinit_14 : decode jdk_2650_method_3_code 14 = .ok (.return_, 1) := by decide +kernel
set_option maxRecDepth 65536 in
set_option maxHeartbeats 40000000 in
theorem rm_olinit (l : Launch) (Z : State) (a0 : Array Value) (hw : ∀ d ∈ tables_1, d.before a0 Z = true) (ws : List Jvm.Cond) (a : Addr) (j : Int64) (h0 : Heap) (n0 : Nat) (Z0 : n0 ≤ h0.size) (g0 : n0 ≤ a) (E0 : Exa Z h0 a "java/util/OptionalLong") (F1 : Fld Z h0 a "java/util/OptionalLong" "isPresent" "Z" (.int (0 : Int32))) (F2 : Fld Z h0 a "java/util/OptionalLong" "value" "J" (.long (0 : Int64))) :
    MetFree l (⟨"java/util/OptionalLong", "<init>", "(J)V"⟩ : MethodName) (head1 (Jvm.Cond.code (⟨"java/util/OptionalLong", "<init>", "(J)V"⟩ : MethodName) jdk_2650_method_3_code 3 none :: ws) ({ frames := 1, cells := 0, slots := 0, locals := 12 } : Room)) (fun a_ U => a_ = #[(.ref a), (.long j)] ∧ Z.Warmed39 U.vm ∧ U.heap = h0) (fun _ _ _ _ _ => True) (fun _ U o U' => ∃ v L, o = .returned v ∧ Qolinit Z a j h0 n0 v U'.heap L ∧ FrameEnd U o U' L ({ frames := 1, cells := 0, slots := 0, locals := 12 } : Room).cells ({ frames := 1, cells := 0, slots := 0, locals := 12 } : Room).slots) := by
  refine MetFree.of_bodySF (plainFor_of_name pn_1) hisR ?_
  intro p e s m args below meth c s₁ Bd hml0 hP hK
  obtain ⟨rfl, hZ, hh⟩ := hP
  have hx := Bd.exec
  have hby := Bd.bytes
  have hrt := Bd.returns
  have hlk : meth.locks = false := Bd.notSynchronized
  have hml : c.maxLocals = 3 := hml0
  have hown : s.vm.findClass "java/util/OptionalLong" = some m.cls := findClass_of_methodNamed Bd.named
  have hnm := (name_of_methodNamed Bd.named Bd.method).1
  have X0 : Stand p l e ({ frames := 1, cells := 0, slots := 0, locals := 12 } : Room) s m #[(.ref a), (.long j)] below meth c s₁ [] 0 0 := Stand.of_body Bd
  have e0 : s₁.heap = h0 := by rw [← hh, Bd.state]; rfl
  have N0 := Fr.nil n0
  show own_G p.tables e below (fun o t => ∃ v L, o = .returned v ∧ Qolinit Z a j h0 n0 v t.heap L ∧ FrameEnd s o t L ({ frames := 1, cells := 0, slots := 0, locals := 12 } : Room).cells ({ frames := 1, cells := 0, slots := 0, locals := 12 } : Room).slots) (s₁.setTop (entryFrame m #[(.ref a), (.long j)] 3))
  refine own_G.cast (show entryFrame m #[(.ref a), (.long j)] 3 = mkF m 0 #[.val (.ref a), .val (.long j), .second] [] from by first | (simp [entryFrame, mkF, argsToLocals, Value.category]; done) | rfl) ?_
  refine own_G.go (fun t_ k_ => XS.aloadN X0.here hx rfl (hb hby d_rm_olinit_0) rfl rfl k_) ?_
  show own_G _ _ _ _ (s₁.setTop (mkF m 1 #[.val (.ref a), .val (.long j), .second] [(.ref a)]))
  obtain ⟨T_1, X_1, e_1, st_1⟩ := initO X0 hx hZ hown (own_w hw 70 rfl) (own_w hw 12 rfl) (own_w hw 13 rfl) e0 (g := (mkF m 1 #[.val (.ref a), .val (.long j), .second] [(.ref a)])) rfl (by rw [hml]; rfl) rfl (hb hby d_rm_olinit_1) (by decide) (W := 0) (by show 2 * 0 + _ ≤ _; exact Nat.le_of_eq rfl) (by decide)
  refine own_G.go st_1 ?_
  show own_G _ _ _ _ (T_1.setTop (mkF m 4 #[.val (.ref a), .val (.long j), .second] []))
  refine own_G.go (fun t_ k_ => XS.aloadN X_1.here hx rfl (hb hby d_rm_olinit_4) rfl rfl k_) ?_
  show own_G _ _ _ _ (T_1.setTop (mkF m 5 #[.val (.ref a), .val (.long j), .second] [(.ref a)]))
  refine own_G.go (fun t_ k_ => XS.iconst X_1.here hx rfl (hb hby d_rm_olinit_5) k_) ?_
  show own_G _ _ _ _ (T_1.setTop (mkF m 6 #[.val (.ref a), .val (.long j), .second] [(.int (1 : Int32)), (.ref a)]))
  obtain ⟨T_2, h_2, X_2, e_2, W_2, st_2⟩ := putFN X_1 hx hZ hown (own_w hw 71 rfl) Via.refl e_1 F1 E0 (Or.inr ⟨(own_w hw 72 rfl), rfl, hnm⟩) (own_w hw 65 rfl) (ty := .boolean) (v' := (.int (1 : Int32))) (by decide) rfl rfl (g := (mkF m 6 #[.val (.ref a), .val (.long j), .second] [(.int (1 : Int32)), (.ref a)])) rfl rfl (hb hby d_rm_olinit_6)
  refine own_G.go st_2 ?_
  have F_2 : Fld Z h_2 a "java/util/OptionalLong" "isPresent" "Z" (.int (1 : Int32)) := F1.same W_2
  have N_2 := Fr.snoc X_2 N0 g0
  show own_G _ _ _ _ (T_2.setTop (mkF m 9 #[.val (.ref a), .val (.long j), .second] []))
  refine own_G.go (fun t_ k_ => XS.aloadN X_2.here hx rfl (hb hby d_rm_olinit_9) rfl rfl k_) ?_
  show own_G _ _ _ _ (T_2.setTop (mkF m 10 #[.val (.ref a), .val (.long j), .second] [(.ref a)]))
  refine own_G.go (fun t_ k_ => XS.lloadN X_2.here hx rfl (hb hby d_rm_olinit_10) rfl k_) ?_
  show own_G _ _ _ _ (T_2.setTop (mkF m 11 #[.val (.ref a), .val (.long j), .second] [(.long j), (.ref a)]))
  have F2'_3 : Fld Z h_2 a "java/util/OptionalLong" "value" "J" (.long (0 : Int64)) := (F2.other W_2 (Or.inr (slot_ne (C := "java/util/OptionalLong") (Or.inr (own_w hw 74 rfl)) (Or.inr (own_w hw 72 rfl)) (by decide) (by decide : parseFieldDescriptor "J" = some .long) (by decide : parseFieldDescriptor "Z" = some .boolean))))
  have E0'_4 : Exa Z h_2 a "java/util/OptionalLong" := (E0.wr W_2)
  obtain ⟨T_5, h_5, X_5, e_5, W_5, st_5⟩ := putF X_2 hx hZ hown (host := "") (Or.inl (own_w hw 73 rfl)) Via.refl e_2 F2'_3 E0'_4 (Or.inr ⟨(own_w hw 74 rfl), rfl, hnm⟩) (own_w hw 65 rfl) (ty := .long) (by decide) rfl rfl (g := (mkF m 11 #[.val (.ref a), .val (.long j), .second] [(.long j), (.ref a)])) rfl rfl (hb hby d_rm_olinit_11)
  refine own_G.go st_5 ?_
  have F_5 : Fld Z h_5 a "java/util/OptionalLong" "value" "J" (.long j) := F2'_3.same W_5
  have N_5 := Fr.snoc X_5 N_2 g0
  show own_G _ _ _ _ (T_5.setTop (mkF m 14 #[.val (.ref a), .val (.long j), .second] []))
  have E0'_6 : Exa Z h_5 a "java/util/OptionalLong" := (E0'_4.wr W_5)
  have F_2'_7 : Fld Z h_5 a "java/util/OptionalLong" "isPresent" "Z" (.int (1 : Int32)) := (F_2.other W_5 (Or.inr (slot_ne (C := "java/util/OptionalLong") (Or.inr (own_w hw 72 rfl)) (Or.inr (own_w hw 74 rfl)) (by decide) (by decide : parseFieldDescriptor "Z" = some .boolean) (by decide : parseFieldDescriptor "J" = some .long))))
  exact own_G.end_ X_5 hlk (v := none) (fun _ => rfl) (fun fs hr => X_5.returnOut hx hrt (hb hby d_rm_olinit_14) hr) e_5 ⟨rfl, N_5, (((Keep.refl h0 [a]).wr W_2 (Or.inl (List.mem_of_getElem? (i := 0) rfl))).wr W_5 (Or.inl (List.mem_of_getElem? (i := 0) rfl))), E0'_6, F_2'_7, F_5⟩ (by decide) (by decide)
def Qolof (Z : State) (j : Int64) (h0 : Heap) (n0 : Nat) (v : Option Value) (h : Heap) (L : List Loc) : Prop := ∃ r : Addr, v = some (.ref r) ∧ Fr n0 L ∧ Keep h0 h [] ∧ h0.size ≤ r ∧ Exa Z h r "java/util/OptionalLong" ∧ Fld Z h r "java/util/OptionalLong" "isPresent" "Z" (.int (1 : Int32)) ∧ Fld Z h r "java/util/OptionalLong" "value" "J" (.long j)
theorem pd_1 : parseMethodDescriptor "(J)V" = some ⟨[.long], none⟩ := by decide +kernel
theorem d_rm_olof_0 : decode jdk_2650_method_4_code 0 = .ok (.new 8, 3) := by decide +kernel
theorem d_rm_olof_3 : decode jdk_2650_method_4_code 3 = .ok (.dup, 1) := by decide +kernel
theorem d_rm_olof_4 : decode jdk_2650_method_4_code 4 = .ok (.lload_n 0, 1) := by decide +kernel
theorem d_rm_olof_5 : decode jdk_2650_method_4_code 5 = .ok (.invokespecial 21, 3) := by decide +kernel
theorem d_rm_olof_8 : decode jdk_2650_method_4_code 8 = .ok (.areturn, 1) := by decide +kernel
set_option maxRecDepth 65536 in
set_option maxHeartbeats 40000000 in
theorem rm_olof (l : Launch) (Z : State) (a0 : Array Value) (hw : ∀ d ∈ tables_1, d.before a0 Z = true) (ws : List Jvm.Cond) (j : Int64) (h0 : Heap) (n0 : Nat) (Z0 : n0 ≤ h0.size)  :
    MetFree l (⟨"java/util/OptionalLong", "of", "(J)Ljava/util/OptionalLong;"⟩ : MethodName) (head1 (Jvm.Cond.code (⟨"java/util/OptionalLong", "of", "(J)Ljava/util/OptionalLong;"⟩ : MethodName) jdk_2650_method_4_code 2 (some (.object "java/util/OptionalLong")) :: ws) ({ frames := 2, cells := 1, slots := 2, locals := 27 } : Room)) (fun a_ U => a_ = #[(.long j)] ∧ Z.Warmed39 U.vm ∧ U.heap = h0) (fun _ _ _ _ _ => True) (fun _ U o U' => ∃ v L, o = .returned v ∧ Qolof Z j h0 n0 v U'.heap L ∧ FrameEnd U o U' L ({ frames := 2, cells := 1, slots := 2, locals := 27 } : Room).cells ({ frames := 2, cells := 1, slots := 2, locals := 27 } : Room).slots) := by
  refine MetFree.of_bodySF (plainFor_of_name pn_1) hisR ?_
  intro p e s m args below meth c s₁ Bd hml0 hP hK
  obtain ⟨rfl, hZ, hh⟩ := hP
  have hx := Bd.exec
  have hby := Bd.bytes
  have hrt := Bd.returns
  have hlk : meth.locks = false := Bd.notSynchronized
  have hml : c.maxLocals = 2 := hml0
  have hown : s.vm.findClass "java/util/OptionalLong" = some m.cls := findClass_of_methodNamed Bd.named
  have hnm := (name_of_methodNamed Bd.named Bd.method).1
  have X0 : Stand p l e ({ frames := 2, cells := 1, slots := 2, locals := 27 } : Room) s m #[(.long j)] below meth c s₁ [] 0 0 := Stand.of_body Bd
  have e0 : s₁.heap = h0 := by rw [← hh, Bd.state]; rfl
  have N0 := Fr.nil n0
  show own_G p.tables e below (fun o t => ∃ v L, o = .returned v ∧ Qolof Z j h0 n0 v t.heap L ∧ FrameEnd s o t L ({ frames := 2, cells := 1, slots := 2, locals := 27 } : Room).cells ({ frames := 2, cells := 1, slots := 2, locals := 27 } : Room).slots) (s₁.setTop (entryFrame m #[(.long j)] 2))
  refine own_G.cast (show entryFrame m #[(.long j)] 2 = mkF m 0 #[.val (.long j), .second] [] from by first | (simp [entryFrame, mkF, argsToLocals, Value.category]; done) | rfl) ?_
  obtain ⟨T_1, h_1, X_1, e_1, E_1, A_1, D_1, -, st_1⟩ := newO X0 hx hZ hown (own_w hw 64 rfl) (own_w hw 65 rfl) (own_w hw 62 rfl) e0 (g := (mkF m 0 #[.val (.long j), .second] [])) rfl (hb hby d_rm_olof_0) (by decide) (by decide)
  obtain ⟨a_1, g_1⟩ : ∃ z, z = h0.size := ⟨_, rfl⟩
  rw [← g_1] at A_1 D_1 st_1
  refine own_G.go st_1 ?_
  have F_1_isPresent : Fld Z h_1 a_1 "java/util/OptionalLong" "isPresent" "Z" (.int (0 : Int32)) := D_1 (Or.inr (own_w hw 72 rfl)) (ty := .boolean) (by decide)
  have F_1_value : Fld Z h_1 a_1 "java/util/OptionalLong" "value" "J" (.long (0 : Int64)) := D_1 (Or.inr (own_w hw 74 rfl)) (ty := .long) (by decide)
  show own_G _ _ _ _ (T_1.setTop (mkF m 3 #[.val (.long j), .second] [(.ref a_1)]))
  refine own_G.go (fun t_ k_ => XS.dup X_1.here hx rfl (hb hby d_rm_olof_3) rfl rfl k_) ?_
  show own_G _ _ _ _ (T_1.setTop (mkF m 4 #[.val (.long j), .second] [(.ref a_1), (.ref a_1)]))
  refine own_G.go (fun t_ k_ => XS.lloadN X_1.here hx rfl (hb hby d_rm_olof_4) rfl k_) ?_
  show own_G _ _ _ _ (T_1.setTop (mkF m 5 #[.val (.long j), .second] [(.long j), (.ref a_1), (.ref a_1)]))
  have g0_a_1 : n0 ≤ a_1 := Nat.le_trans Z0 (Nat.le_of_eq g_1.symm)
  obtain ⟨_, T_2, L_2, Q_2, X_2, st_2⟩ := own_callI X_1 hx rfl hown (mvT hZ (own_w hw 66 rfl)) (mvT hZ (own_w hw 67 rfl)) (mvT hZ (own_w hw 69 rfl)) (by decide) (Q := (Qolinit Z a_1 j h_1 n0)) (backOf (W := 1) (rm_olinit l Z a0 hw [] a_1 j h_1 n0 (Nat.le_trans Z0 E_1.1) g0_a_1 A_1 F_1_isPresent F_1_value) hZ (own_w hw 69 rfl) (own_w hw 62 rfl) (by decide) (by decide)) (a := a_1) (g := (mkF m 5 #[.val (.long j), .second] [(.long j), (.ref a_1), (.ref a_1)])) rfl (by rw [hml]; rfl) (argsL := [(.long j)]) (rest := [(.ref a_1)]) (lenOf pd_1 rfl) rfl (by show 2 * 0 + _ ≤ _; exact Nat.le_of_eq rfl) (hb hby d_rm_olof_5) e_1 rfl (by decide) (by decide)
  obtain ⟨rfl, Nq_2, K_2, Ex_2, Fp_2, Fv_2⟩ := Q_2
  refine own_G.via st_2 ?_
  have N_2 := Fr.app N0 Nq_2
  show own_G _ _ _ _ (T_2.setTop (mkF m 8 #[.val (.long j), .second] [(.ref a_1)]))
  exact own_G.end_ X_2 hlk (v := (some (.ref a_1))) (fun h => by rw [hrt] at h; cases h) (fun fs hr => retOut X_2 hx hrt rfl (Or.inr (Or.inr (Or.inr (Or.inr ⟨rfl, rfl, rfl⟩)))) (hb hby d_rm_olof_8) hr) rfl ⟨a_1, rfl, N_2, (((Keep.refl h0 []).ext E_1).trans K_2 (allS (Or.inr (Nat.le_of_eq g_1.symm)) all0)), (Nat.le_of_eq g_1.symm), Ex_2, Fp_2, Fv_2⟩ (by decide) (by decide)
def Qp (r : Value) (h0 : Heap) (v : Option Value) (h : Heap) (L : List Loc) : Prop := v = some r ∧ L = [] ∧ h = h0
theorem d_rm_empty_0 : decode jdk_2650_method_2_code 0 = .ok (.getstatic 17, 3) := by decide +kernel
theorem d_rm_empty_3 : decode jdk_2650_method_2_code 3 = .ok (.areturn, 1) := by decide +kernel
set_option maxRecDepth 65536 in
set_option maxHeartbeats 40000000 in
theorem rm_empty (l : Launch) (Z : State) (a0 : Array Value) (hw : ∀ d ∈ tables_1, d.before a0 Z = true) (ws : List Jvm.Cond) (em : Addr) (h0 : Heap) (n0 : Nat) (Z0 : n0 ≤ h0.size) (OE : Sta Z Z.heap "java/util/OptionalLong" "EMPTY" "Ljava/util/OptionalLong;" (.ref em)) (X00 : Old Z n0 h0) :
    MetFree l (⟨"java/util/OptionalLong", "empty", "()Ljava/util/OptionalLong;"⟩ : MethodName) (head1 (Jvm.Cond.code (⟨"java/util/OptionalLong", "empty", "()Ljava/util/OptionalLong;"⟩ : MethodName) jdk_2650_method_2_code 0 (some (.object "java/util/OptionalLong")) :: ws) ({ frames := 0, cells := 0, slots := 0, locals := 0 } : Room)) (fun a_ U => a_ = #[] ∧ Z.Warmed39 U.vm ∧ U.heap = h0) (fun _ _ _ _ _ => True) (fun _ U o U' => ∃ v L, o = .returned v ∧ Qp (.ref em) h0 v U'.heap L ∧ FrameEnd U o U' L ({ frames := 0, cells := 0, slots := 0, locals := 0 } : Room).cells ({ frames := 0, cells := 0, slots := 0, locals := 0 } : Room).slots) := by
  refine MetFree.of_bodySF (plainFor_of_name pn_1) hisR ?_
  intro p e s m args below meth c s₁ Bd hml0 hP hK
  obtain ⟨rfl, hZ, hh⟩ := hP
  have hx := Bd.exec
  have hby := Bd.bytes
  have hrt := Bd.returns
  have hlk : meth.locks = false := Bd.notSynchronized
  have hml : c.maxLocals = 0 := hml0
  have hown : s.vm.findClass "java/util/OptionalLong" = some m.cls := findClass_of_methodNamed Bd.named
  have hnm := (name_of_methodNamed Bd.named Bd.method).1
  have X0 : Stand p l e ({ frames := 0, cells := 0, slots := 0, locals := 0 } : Room) s m #[] below meth c s₁ [] 0 0 := Stand.of_body Bd
  have e0 : s₁.heap = h0 := by rw [← hh, Bd.state]; rfl
  have N0 := Fr.nil n0
  show own_G p.tables e below (fun o t => ∃ v L, o = .returned v ∧ Qp (.ref em) h0 v t.heap L ∧ FrameEnd s o t L ({ frames := 0, cells := 0, slots := 0, locals := 0 } : Room).cells ({ frames := 0, cells := 0, slots := 0, locals := 0 } : Room).slots) (s₁.setTop (entryFrame m #[] 0))
  refine own_G.cast (show entryFrame m #[] 0 = mkF m 0 #[] [] from by first | (simp [entryFrame, mkF, argsToLocals, Value.category]; done) | rfl) ?_
  obtain ⟨T_1, X_1, e_1, st_1⟩ := getS2 X0 hx hZ hown (host := "") (Or.inl (own_w hw 102 rfl)) Via.refl e0 (OE.ext X00.2) (g := (mkF m 0 #[] [])) rfl (hb hby d_rm_empty_0)
  refine own_G.go st_1 ?_
  show own_G _ _ _ _ (T_1.setTop (mkF m 3 #[] [(.ref em)]))
  exact own_G.end_ X_1 hlk (v := (some (.ref em))) (fun h => by rw [hrt] at h; cases h) (fun fs hr => retOut X_1 hx hrt rfl (Or.inr (Or.inr (Or.inr (Or.inr ⟨rfl, rfl, rfl⟩)))) (hb hby d_rm_empty_3) hr) e_1 ⟨rfl, rfl, rfl⟩ (by decide) (by decide)
theorem d_rm_isp_0 : decode jdk_2650_method_6_code 0 = .ok (.aload_n 0, 1) := by decide +kernel
theorem d_rm_isp_1 : decode jdk_2650_method_6_code 1 = .ok (.getfield 7, 3) := by decide +kernel
theorem d_rm_isp_4 : decode jdk_2650_method_6_code 4 = .ok (.ireturn, 1) := by decide +kernel
set_option maxRecDepth 65536 in
set_option maxHeartbeats 40000000 in
theorem rm_isp (l : Launch) (Z : State) (a0 : Array Value) (hw : ∀ d ∈ tables_1, d.before a0 Z = true) (ws : List Jvm.Cond) (a : Addr) (z : Int32) (h0 : Heap) (n0 : Nat) (Z0 : n0 ≤ h0.size) (F1 : Fld Z h0 a "java/util/OptionalLong" "isPresent" "Z" (.int z)) :
    MetFree l (⟨"java/util/OptionalLong", "isPresent", "()Z"⟩ : MethodName) (head1 (Jvm.Cond.code (⟨"java/util/OptionalLong", "isPresent", "()Z"⟩ : MethodName) jdk_2650_method_6_code 1 (some .boolean) :: ws) ({ frames := 0, cells := 0, slots := 0, locals := 0 } : Room)) (fun a_ U => a_ = #[(.ref a)] ∧ Z.Warmed39 U.vm ∧ U.heap = h0) (fun _ _ _ _ _ => True) (fun _ U o U' => ∃ v L, o = .returned v ∧ Qp (.int (nar .boolean z)) h0 v U'.heap L ∧ FrameEnd U o U' L ({ frames := 0, cells := 0, slots := 0, locals := 0 } : Room).cells ({ frames := 0, cells := 0, slots := 0, locals := 0 } : Room).slots) := by
  refine MetFree.of_bodySF (plainFor_of_name pn_1) hisR ?_
  intro p e s m args below meth c s₁ Bd hml0 hP hK
  obtain ⟨rfl, hZ, hh⟩ := hP
  have hx := Bd.exec
  have hby := Bd.bytes
  have hrt := Bd.returns
  have hlk : meth.locks = false := Bd.notSynchronized
  have hml : c.maxLocals = 1 := hml0
  have hown : s.vm.findClass "java/util/OptionalLong" = some m.cls := findClass_of_methodNamed Bd.named
  have hnm := (name_of_methodNamed Bd.named Bd.method).1
  have X0 : Stand p l e ({ frames := 0, cells := 0, slots := 0, locals := 0 } : Room) s m #[(.ref a)] below meth c s₁ [] 0 0 := Stand.of_body Bd
  have e0 : s₁.heap = h0 := by rw [← hh, Bd.state]; rfl
  have N0 := Fr.nil n0
  show own_G p.tables e below (fun o t => ∃ v L, o = .returned v ∧ Qp (.int (nar .boolean z)) h0 v t.heap L ∧ FrameEnd s o t L ({ frames := 0, cells := 0, slots := 0, locals := 0 } : Room).cells ({ frames := 0, cells := 0, slots := 0, locals := 0 } : Room).slots) (s₁.setTop (entryFrame m #[(.ref a)] 1))
  refine own_G.cast (show entryFrame m #[(.ref a)] 1 = mkF m 0 #[.val (.ref a)] [] from by first | (simp [entryFrame, mkF, argsToLocals, Value.category]; done) | rfl) ?_
  refine own_G.go (fun t_ k_ => XS.aloadN X0.here hx rfl (hb hby d_rm_isp_0) rfl rfl k_) ?_
  show own_G _ _ _ _ (s₁.setTop (mkF m 1 #[.val (.ref a)] [(.ref a)]))
  obtain ⟨T_1, X_1, e_1, st_1⟩ := getF X0 hx hZ hown (host := "") (Or.inl (own_w hw 71 rfl)) Via.refl e0 F1 (g := (mkF m 1 #[.val (.ref a)] [(.ref a)])) rfl rfl (hb hby d_rm_isp_1)
  refine own_G.go st_1 ?_
  show own_G _ _ _ _ (T_1.setTop (mkF m 4 #[.val (.ref a)] [(.int z)]))
  exact own_G.end_ X_1 hlk (v := (some (.int (nar .boolean z)))) (fun h => by rw [hrt] at h; cases h) (fun fs hr => retN X_1 hx (z := z) (t := .boolean) hrt (by simp) (hb hby d_rm_isp_4) hr) e_1 ⟨rfl, rfl, rfl⟩ (by decide) (by decide)
theorem d_rm_gal_0 : decode jdk_2650_method_5_code 0 = .ok (.aload_n 0, 1) := by decide +kernel
theorem d_rm_gal_1 : decode jdk_2650_method_5_code 1 = .ok (.getfield 7, 3) := by decide +kernel
theorem d_rm_gal_4 : decode jdk_2650_method_5_code 4 = .ok (.ifCond .ne 13, 3) := by decide +kernel
theorem d_rm_gal_17 : decode jdk_2650_method_5_code 17 = .ok (.aload_n 0, 1) := by decide +kernel
theorem d_rm_gal_18 : decode jdk_2650_method_5_code 18 = .ok (.getfield 13, 3) := by decide +kernel
theorem d_rm_gal_21 : decode jdk_2650_method_5_code 21 = .ok (.lreturn, 1) := by decide +kernel
set_option maxRecDepth 65536 in
set_option maxHeartbeats 40000000 in
theorem rm_gal (l : Launch) (Z : State) (a0 : Array Value) (hw : ∀ d ∈ tables_1, d.before a0 Z = true) (ws : List Jvm.Cond) (a : Addr) (j : Int64) (h0 : Heap) (n0 : Nat) (Z0 : n0 ≤ h0.size) (F1 : Fld Z h0 a "java/util/OptionalLong" "isPresent" "Z" (.int (1 : Int32))) (F2 : Fld Z h0 a "java/util/OptionalLong" "value" "J" (.long j)) :
    MetFree l (⟨"java/util/OptionalLong", "getAsLong", "()J"⟩ : MethodName) (head1 (Jvm.Cond.code (⟨"java/util/OptionalLong", "getAsLong", "()J"⟩ : MethodName) jdk_2650_method_5_code 1 (some .long) :: ws) ({ frames := 0, cells := 0, slots := 0, locals := 0 } : Room)) (fun a_ U => a_ = #[(.ref a)] ∧ Z.Warmed39 U.vm ∧ U.heap = h0) (fun _ _ _ _ _ => True) (fun _ U o U' => ∃ v L, o = .returned v ∧ Qp (.long j) h0 v U'.heap L ∧ FrameEnd U o U' L ({ frames := 0, cells := 0, slots := 0, locals := 0 } : Room).cells ({ frames := 0, cells := 0, slots := 0, locals := 0 } : Room).slots) := by
  refine MetFree.of_bodySF (plainFor_of_name pn_1) hisR ?_
  intro p e s m args below meth c s₁ Bd hml0 hP hK
  obtain ⟨rfl, hZ, hh⟩ := hP
  have hx := Bd.exec
  have hby := Bd.bytes
  have hrt := Bd.returns
  have hlk : meth.locks = false := Bd.notSynchronized
  have hml : c.maxLocals = 1 := hml0
  have hown : s.vm.findClass "java/util/OptionalLong" = some m.cls := findClass_of_methodNamed Bd.named
  have hnm := (name_of_methodNamed Bd.named Bd.method).1
  have X0 : Stand p l e ({ frames := 0, cells := 0, slots := 0, locals := 0 } : Room) s m #[(.ref a)] below meth c s₁ [] 0 0 := Stand.of_body Bd
  have e0 : s₁.heap = h0 := by rw [← hh, Bd.state]; rfl
  have N0 := Fr.nil n0
  show own_G p.tables e below (fun o t => ∃ v L, o = .returned v ∧ Qp (.long j) h0 v t.heap L ∧ FrameEnd s o t L ({ frames := 0, cells := 0, slots := 0, locals := 0 } : Room).cells ({ frames := 0, cells := 0, slots := 0, locals := 0 } : Room).slots) (s₁.setTop (entryFrame m #[(.ref a)] 1))
  refine own_G.cast (show entryFrame m #[(.ref a)] 1 = mkF m 0 #[.val (.ref a)] [] from by first | (simp [entryFrame, mkF, argsToLocals, Value.category]; done) | rfl) ?_
  refine own_G.go (fun t_ k_ => XS.aloadN X0.here hx rfl (hb hby d_rm_gal_0) rfl rfl k_) ?_
  show own_G _ _ _ _ (s₁.setTop (mkF m 1 #[.val (.ref a)] [(.ref a)]))
  obtain ⟨T_1, X_1, e_1, st_1⟩ := getF X0 hx hZ hown (host := "") (Or.inl (own_w hw 71 rfl)) Via.refl e0 F1 (g := (mkF m 1 #[.val (.ref a)] [(.ref a)])) rfl rfl (hb hby d_rm_gal_1)
  refine own_G.go st_1 ?_
  show own_G _ _ _ _ (T_1.setTop (mkF m 4 #[.val (.ref a)] [(.int (1 : Int32))]))
  refine own_G.go (fun t_ k_ => XS.ifYes X_1.here hx rfl (pc0 := 4) (pc' := 17) rfl (hb hby d_rm_gal_4) rfl ((if0 _ _).trans (feq (by decide : ¬ ((1 : Int32) = (0 : Int32)))).2) (by decide) (by decide) k_) ?_
  show own_G _ _ _ _ (T_1.setTop (mkF m 17 #[.val (.ref a)] []))
  refine own_G.go (fun t_ k_ => XS.aloadN X_1.here hx rfl (hb hby d_rm_gal_17) rfl rfl k_) ?_
  show own_G _ _ _ _ (T_1.setTop (mkF m 18 #[.val (.ref a)] [(.ref a)]))
  obtain ⟨T_2, X_2, e_2, st_2⟩ := getF X_1 hx hZ hown (host := "") (Or.inl (own_w hw 73 rfl)) Via.refl e_1 F2 (g := (mkF m 18 #[.val (.ref a)] [(.ref a)])) rfl rfl (hb hby d_rm_gal_18)
  refine own_G.go st_2 ?_
  show own_G _ _ _ _ (T_2.setTop (mkF m 21 #[.val (.ref a)] [(.long j)]))
  exact own_G.end_ X_2 hlk (v := (some (.long j))) (fun h => by rw [hrt] at h; cases h) (fun fs hr => retOut X_2 hx hrt rfl (Or.inr (Or.inl ⟨rfl, rfl, _, rfl⟩)) (hb hby d_rm_gal_21) hr) e_2 ⟨rfl, rfl, rfl⟩ (by decide) (by decide)
theorem pn_2 : plainName "com/example/gristmill/gristmill/documents/DocumentRecord" = true := by first | (simp [plainName, overriddenIn]; done) | decide +kernel
theorem pd_2 : parseMethodDescriptor "(J)Ljava/util/OptionalLong;" = some ⟨[.long], some (.object "java/util/OptionalLong")⟩ := by decide +kernel
theorem d_rm_job1_0 : decode prog_7_method_5_code 0 = .ok (.aload_n 0, 1) := by decide +kernel
theorem d_rm_job1_1 : decode prog_7_method_5_code 1 = .ok (.getfield 29, 3) := by decide +kernel
theorem d_rm_job1_4 : decode prog_7_method_5_code 4 = .ok (.lconst 0, 1) := by decide +kernel
theorem d_rm_job1_5 : decode prog_7_method_5_code 5 = .ok (.lcmp, 1) := by decide +kernel
theorem d_rm_job1_6 : decode prog_7_method_5_code 6 = .ok (.ifCond .ne 9, 3) := by decide +kernel
theorem d_rm_job1_15 : decode prog_7_method_5_code 15 = .ok (.aload_n 0, 1) := by decide +kernel
theorem d_rm_job1_16 : decode prog_7_method_5_code 16 = .ok (.getfield 29, 3) := by decide +kernel
theorem d_rm_job1_19 : decode prog_7_method_5_code 19 = .ok (.invokestatic 48, 3) := by decide +kernel
theorem d_rm_job1_22 : decode prog_7_method_5_code 22 = .ok (.areturn, 1) := by decide +kernel
set_option maxRecDepth 65536 in
set_option maxHeartbeats 40000000 in
theorem rm_job1 (l : Launch) (Z : State) (a0 : Array Value) (hw : ∀ d ∈ tables_1, d.before a0 Z = true) (ws : List Jvm.Cond) (a : Addr) (j : Int64) (h0 : Heap) (n0 : Nat) (Z0 : n0 ≤ h0.size) (F1 : Fld Z h0 a "com/example/gristmill/gristmill/documents/DocumentRecord" "jobId" "J" (.long j)) (hj : ¬ j = 0) :
    MetFree l (⟨"com/example/gristmill/gristmill/documents/DocumentRecord", "jobId", "()Ljava/util/OptionalLong;"⟩ : MethodName) (head1 (Jvm.Cond.code (⟨"com/example/gristmill/gristmill/documents/DocumentRecord", "jobId", "()Ljava/util/OptionalLong;"⟩ : MethodName) prog_7_method_5_code 1 (some (.object "java/util/OptionalLong")) :: ws) ({ frames := 3, cells := 1, slots := 2, locals := 40 } : Room)) (fun a_ U => a_ = #[(.ref a)] ∧ Z.Warmed39 U.vm ∧ U.heap = h0) (fun _ _ _ _ _ => True) (fun _ U o U' => ∃ v L, o = .returned v ∧ Qolof Z j h0 n0 v U'.heap L ∧ FrameEnd U o U' L ({ frames := 3, cells := 1, slots := 2, locals := 40 } : Room).cells ({ frames := 3, cells := 1, slots := 2, locals := 40 } : Room).slots) := by
  refine MetFree.of_bodySF (plainFor_of_name pn_2) hisR ?_
  intro p e s m args below meth c s₁ Bd hml0 hP hK
  obtain ⟨rfl, hZ, hh⟩ := hP
  have hx := Bd.exec
  have hby := Bd.bytes
  have hrt := Bd.returns
  have hlk : meth.locks = false := Bd.notSynchronized
  have hml : c.maxLocals = 1 := hml0
  have hown : s.vm.findClass "com/example/gristmill/gristmill/documents/DocumentRecord" = some m.cls := findClass_of_methodNamed Bd.named
  have hnm := (name_of_methodNamed Bd.named Bd.method).1
  have X0 : Stand p l e ({ frames := 3, cells := 1, slots := 2, locals := 40 } : Room) s m #[(.ref a)] below meth c s₁ [] 0 0 := Stand.of_body Bd
  have e0 : s₁.heap = h0 := by rw [← hh, Bd.state]; rfl
  have N0 := Fr.nil n0
  show own_G p.tables e below (fun o t => ∃ v L, o = .returned v ∧ Qolof Z j h0 n0 v t.heap L ∧ FrameEnd s o t L ({ frames := 3, cells := 1, slots := 2, locals := 40 } : Room).cells ({ frames := 3, cells := 1, slots := 2, locals := 40 } : Room).slots) (s₁.setTop (entryFrame m #[(.ref a)] 1))
  refine own_G.cast (show entryFrame m #[(.ref a)] 1 = mkF m 0 #[.val (.ref a)] [] from by first | (simp [entryFrame, mkF, argsToLocals, Value.category]; done) | rfl) ?_
  refine own_G.go (fun t_ k_ => XS.aloadN X0.here hx rfl (hb hby d_rm_job1_0) rfl rfl k_) ?_
  show own_G _ _ _ _ (s₁.setTop (mkF m 1 #[.val (.ref a)] [(.ref a)]))
  obtain ⟨T_1, X_1, e_1, st_1⟩ := getF X0 hx hZ hown (host := "") (Or.inl (own_w hw 51 rfl)) Via.refl e0 F1 (g := (mkF m 1 #[.val (.ref a)] [(.ref a)])) rfl rfl (hb hby d_rm_job1_1)
  refine own_G.go st_1 ?_
  show own_G _ _ _ _ (T_1.setTop (mkF m 4 #[.val (.ref a)] [(.long j)]))
  refine own_G.go (fun t_ k_ => XS.lconst X_1.here hx rfl (hb hby d_rm_job1_4) k_) ?_
  show own_G _ _ _ _ (T_1.setTop (mkF m 5 #[.val (.ref a)] [(.long (0 : Int64)), (.long j)]))
  refine own_G.go (fun t_ k_ => XS.lcmp X_1.here hx rfl (hb hby d_rm_job1_5) rfl k_) ?_
  show own_G _ _ _ _ (T_1.setTop (mkF m 6 #[.val (.ref a)] [(.int (lcmpW j (0 : Int64)))]))
  refine own_G.go (fun t_ k_ => XS.ifYes X_1.here hx rfl (pc0 := 6) (pc' := 15) rfl (hb hby d_rm_job1_6) rfl ((if0 _ _).trans (feq (fun q => hj ((lw_eq _ _).mp q) : ¬ (lcmpW j (0 : Int64)) = (0 : Int32))).2) (by decide) (by decide) k_) ?_
  show own_G _ _ _ _ (T_1.setTop (mkF m 15 #[.val (.ref a)] []))
  refine own_G.go (fun t_ k_ => XS.aloadN X_1.here hx rfl (hb hby d_rm_job1_15) rfl rfl k_) ?_
  show own_G _ _ _ _ (T_1.setTop (mkF m 16 #[.val (.ref a)] [(.ref a)]))
  obtain ⟨T_2, X_2, e_2, st_2⟩ := getF X_1 hx hZ hown (host := "") (Or.inl (own_w hw 51 rfl)) Via.refl e_1 F1 (g := (mkF m 16 #[.val (.ref a)] [(.ref a)])) rfl rfl (hb hby d_rm_job1_16)
  refine own_G.go st_2 ?_
  show own_G _ _ _ _ (T_2.setTop (mkF m 19 #[.val (.ref a)] [(.long j)]))
  obtain ⟨_, T_3, L_3, Q_3, X_3, st_3⟩ := own_callS X_2 hx hown (mvT hZ (own_w hw 60 rfl)) (mvT hZ (own_w hw 61 rfl)) (mvT hZ (own_w hw 62 rfl)) (mvT hZ (own_w hw 63 rfl)) (by decide) (Q := (Qolof Z j h0 n0)) (backOf (W := 0) (rm_olof l Z a0 hw [] j h0 n0 Z0 ) hZ (own_w hw 63 rfl) (own_w hw 62 rfl) (by decide) (by decide)) (g := (mkF m 19 #[.val (.ref a)] [(.long j)])) rfl (by rw [hml]; rfl) (argsL := [(.long j)]) (rest := []) (lenOf pd_2 rfl) rfl (by show 2 * 0 + _ ≤ _; exact Nat.le_of_eq rfl) (hb hby d_rm_job1_19) e_2 rfl (by decide) (by decide)
  obtain ⟨r_3, rfl, Nq_3, K_3, lo_3, Ex_3, Fp_3, Fv_3⟩ := Q_3
  refine own_G.via st_3 ?_
  have N_3 := Fr.app N0 Nq_3
  show own_G _ _ _ _ (T_3.setTop (mkF m 22 #[.val (.ref a)] [(.ref r_3)]))
  exact own_G.end_ X_3 hlk (v := (some (.ref r_3))) (fun h => by rw [hrt] at h; cases h) (fun fs hr => retOut X_3 hx hrt rfl (Or.inr (Or.inr (Or.inr (Or.inr ⟨rfl, rfl, rfl⟩)))) (hb hby d_rm_job1_22) hr) rfl ⟨r_3, rfl, N_3, ((Keep.refl h0 []).trans K_3 all0), lo_3, Ex_3, Fp_3, Fv_3⟩ (by decide) (by decide)
theorem pd_3 : parseMethodDescriptor "()Ljava/util/OptionalLong;" = some ⟨[], some (.object "java/util/OptionalLong")⟩ := by decide +kernel
theorem d_rm_job0_0 : decode prog_7_method_5_code 0 = .ok (.aload_n 0, 1) := by decide +kernel
theorem d_rm_job0_1 : decode prog_7_method_5_code 1 = .ok (.getfield 29, 3) := by decide +kernel
theorem d_rm_job0_4 : decode prog_7_method_5_code 4 = .ok (.lconst 0, 1) := by decide +kernel
theorem d_rm_job0_5 : decode prog_7_method_5_code 5 = .ok (.lcmp, 1) := by decide +kernel
theorem d_rm_job0_6 : decode prog_7_method_5_code 6 = .ok (.ifCond .ne 9, 3) := by decide +kernel
theorem d_rm_job0_9 : decode prog_7_method_5_code 9 = .ok (.invokestatic 42, 3) := by decide +kernel
theorem d_rm_job0_12 : decode prog_7_method_5_code 12 = .ok (.goto 10, 3) := by decide +kernel
theorem d_rm_job0_22 : decode prog_7_method_5_code 22 = .ok (.areturn, 1) := by decide +kernel
set_option maxRecDepth 65536 in
set_option maxHeartbeats 40000000 in
theorem rm_job0 (l : Launch) (Z : State) (a0 : Array Value) (hw : ∀ d ∈ tables_1, d.before a0 Z = true) (ws : List Jvm.Cond) (a : Addr) (em : Addr) (h0 : Heap) (n0 : Nat) (Z0 : n0 ≤ h0.size) (F1 : Fld Z h0 a "com/example/gristmill/gristmill/documents/DocumentRecord" "jobId" "J" (.long (0 : Int64))) (OE : Sta Z Z.heap "java/util/OptionalLong" "EMPTY" "Ljava/util/OptionalLong;" (.ref em)) (X00 : Old Z n0 h0) :
    MetFree l (⟨"com/example/gristmill/gristmill/documents/DocumentRecord", "jobId", "()Ljava/util/OptionalLong;"⟩ : MethodName) (head1 (Jvm.Cond.code (⟨"com/example/gristmill/gristmill/documents/DocumentRecord", "jobId", "()Ljava/util/OptionalLong;"⟩ : MethodName) prog_7_method_5_code 1 (some (.object "java/util/OptionalLong")) :: ws) ({ frames := 1, cells := 0, slots := 0, locals := 11 } : Room)) (fun a_ U => a_ = #[(.ref a)] ∧ Z.Warmed39 U.vm ∧ U.heap = h0) (fun _ _ _ _ _ => True) (fun _ U o U' => ∃ v L, o = .returned v ∧ Qp (.ref em) h0 v U'.heap L ∧ FrameEnd U o U' L ({ frames := 1, cells := 0, slots := 0, locals := 11 } : Room).cells ({ frames := 1, cells := 0, slots := 0, locals := 11 } : Room).slots) := by
  refine MetFree.of_bodySF (plainFor_of_name pn_2) hisR ?_
  intro p e s m args below meth c s₁ Bd hml0 hP hK
  obtain ⟨rfl, hZ, hh⟩ := hP
  have hx := Bd.exec
  have hby := Bd.bytes
  have hrt := Bd.returns
  have hlk : meth.locks = false := Bd.notSynchronized
  have hml : c.maxLocals = 1 := hml0
  have hown : s.vm.findClass "com/example/gristmill/gristmill/documents/DocumentRecord" = some m.cls := findClass_of_methodNamed Bd.named
  have hnm := (name_of_methodNamed Bd.named Bd.method).1
  have X0 : Stand p l e ({ frames := 1, cells := 0, slots := 0, locals := 11 } : Room) s m #[(.ref a)] below meth c s₁ [] 0 0 := Stand.of_body Bd
  have e0 : s₁.heap = h0 := by rw [← hh, Bd.state]; rfl
  have N0 := Fr.nil n0
  show own_G p.tables e below (fun o t => ∃ v L, o = .returned v ∧ Qp (.ref em) h0 v t.heap L ∧ FrameEnd s o t L ({ frames := 1, cells := 0, slots := 0, locals := 11 } : Room).cells ({ frames := 1, cells := 0, slots := 0, locals := 11 } : Room).slots) (s₁.setTop (entryFrame m #[(.ref a)] 1))
  refine own_G.cast (show entryFrame m #[(.ref a)] 1 = mkF m 0 #[.val (.ref a)] [] from by first | (simp [entryFrame, mkF, argsToLocals, Value.category]; done) | rfl) ?_
  refine own_G.go (fun t_ k_ => XS.aloadN X0.here hx rfl (hb hby d_rm_job0_0) rfl rfl k_) ?_
  show own_G _ _ _ _ (s₁.setTop (mkF m 1 #[.val (.ref a)] [(.ref a)]))
  obtain ⟨T_1, X_1, e_1, st_1⟩ := getF X0 hx hZ hown (host := "") (Or.inl (own_w hw 51 rfl)) Via.refl e0 F1 (g := (mkF m 1 #[.val (.ref a)] [(.ref a)])) rfl rfl (hb hby d_rm_job0_1)
  refine own_G.go st_1 ?_
  show own_G _ _ _ _ (T_1.setTop (mkF m 4 #[.val (.ref a)] [(.long (0 : Int64))]))
  refine own_G.go (fun t_ k_ => XS.lconst X_1.here hx rfl (hb hby d_rm_job0_4) k_) ?_
  show own_G _ _ _ _ (T_1.setTop (mkF m 5 #[.val (.ref a)] [(.long (0 : Int64)), (.long (0 : Int64))]))
  refine own_G.go (fun t_ k_ => XS.lcmp X_1.here hx rfl (hb hby d_rm_job0_5) rfl k_) ?_
  show own_G _ _ _ _ (T_1.setTop (mkF m 6 #[.val (.ref a)] [(.int (lcmpW (0 : Int64) (0 : Int64)))]))
  refine own_G.go (fun t_ k_ => XS.ifNo X_1.here hx rfl (hb hby d_rm_job0_6) rfl ((if0 _ _).trans (teq ((lw_eq _ _).mpr rfl : (lcmpW (0 : Int64) (0 : Int64)) = (0 : Int32))).2) k_) ?_
  show own_G _ _ _ _ (T_1.setTop (mkF m 9 #[.val (.ref a)] []))
  obtain ⟨_, T_2, L_2, Q_2, X_2, st_2⟩ := own_callS X_1 hx hown (mvT hZ (own_w hw 99 rfl)) (mvT hZ (own_w hw 100 rfl)) (mvT hZ (own_w hw 62 rfl)) (mvT hZ (own_w hw 101 rfl)) (by decide) (Q := (Qp (.ref em) h0)) (backOf (W := 0) (rm_empty l Z a0 hw [] em h0 n0 Z0 OE X00) hZ (own_w hw 101 rfl) (own_w hw 62 rfl) (by decide) (by decide)) (g := (mkF m 9 #[.val (.ref a)] [])) rfl (by rw [hml]; rfl) (argsL := []) (rest := []) (lenOf pd_3 rfl) rfl (by show 2 * 0 + _ ≤ _; exact Nat.le_of_eq rfl) (hb hby d_rm_job0_9) e_1 rfl (by decide) (by decide)
  obtain ⟨rfl, rfl, eh_2⟩ := Q_2
  refine own_G.via st_2 ?_
  have N_2 := Fr.app N0 (Fr.nil n0)
  show own_G _ _ _ _ (T_2.setTop (mkF m 12 #[.val (.ref a)] [(.ref em)]))
  refine own_G.go (fun t_ k_ => XS.goto X_2.here hx rfl (pc0 := 12) (pc' := 22) rfl (hb hby d_rm_job0_12) (by decide) (by decide) k_) ?_
  show own_G _ _ _ _ (T_2.setTop (mkF m 22 #[.val (.ref a)] [(.ref em)]))
  exact own_G.end_ X_2 hlk (v := (some (.ref em))) (fun h => by rw [hrt] at h; cases h) (fun fs hr => retOut X_2 hx hrt rfl (Or.inr (Or.inr (Or.inr (Or.inr ⟨rfl, rfl, rfl⟩)))) (hb hby d_rm_job0_22) hr) eh_2 ⟨rfl, rfl, rfl⟩ (by decide) (by decide)
theorem pn_3 : plainName "java/util/Objects" = true := by first | (simp [plainName, overriddenIn]; done) | decide +kernel
theorem d_rm_rnn_0 : decode jdk_31_method_11_code 0 = .ok (.aload_n 0, 1) := by decide +kernel
theorem d_rm_rnn_1 : decode jdk_31_method_11_code 1 = .ok (.ifnonnull 12, 3) := by decide +kernel
theorem d_rm_rnn_13 : decode jdk_31_method_11_code 13 = .ok (.aload_n 0, 1) := by decide +kernel
theorem d_rm_rnn_14 : decode jdk_31_method_11_code 14 = .ok (.areturn, 1) := by decide +kernel
set_option maxRecDepth 65536 in
set_option maxHeartbeats 40000000 in
theorem rm_rnn (l : Launch) (Z : State) (a0 : Array Value) (hw : ∀ d ∈ tables_1, d.before a0 Z = true) (ws : List Jvm.Cond) (a b : Addr) (h0 : Heap) (n0 : Nat) (Z0 : n0 ≤ h0.size)  :
    MetFree l (⟨"java/util/Objects", "requireNonNull", "(Ljava/lang/Object;Ljava/lang/String;)Ljava/lang/Object;"⟩ : MethodName) (head1 (Jvm.Cond.code (⟨"java/util/Objects", "requireNonNull", "(Ljava/lang/Object;Ljava/lang/String;)Ljava/lang/Object;"⟩ : MethodName) jdk_31_method_11_code 2 (some (.object "java/lang/Object")) :: ws) ({ frames := 0, cells := 0, slots := 0, locals := 0 } : Room)) (fun a_ U => a_ = #[(.ref a), (.ref b)] ∧ Z.Warmed39 U.vm ∧ U.heap = h0) (fun _ _ _ _ _ => True) (fun _ U o U' => ∃ v L, o = .returned v ∧ Qp (.ref a) h0 v U'.heap L ∧ FrameEnd U o U' L ({ frames := 0, cells := 0, slots := 0, locals := 0 } : Room).cells ({ frames := 0, cells := 0, slots := 0, locals := 0 } : Room).slots) := by
  refine MetFree.of_bodySF (plainFor_of_name pn_3) hisR ?_
  intro p e s m args below meth c s₁ Bd hml0 hP hK
  obtain ⟨rfl, hZ, hh⟩ := hP
  have hx := Bd.exec
  have hby := Bd.bytes
  have hrt := Bd.returns
  have hlk : meth.locks = false := Bd.notSynchronized
  have hml : c.maxLocals = 2 := hml0
  have hown : s.vm.findClass "java/util/Objects" = some m.cls := findClass_of_methodNamed Bd.named
  have hnm := (name_of_methodNamed Bd.named Bd.method).1
  have X0 : Stand p l e ({ frames := 0, cells := 0, slots := 0, locals := 0 } : Room) s m #[(.ref a), (.ref b)] below meth c s₁ [] 0 0 := Stand.of_body Bd
  have e0 : s₁.heap = h0 := by rw [← hh, Bd.state]; rfl
  have N0 := Fr.nil n0
  show own_G p.tables e below (fun o t => ∃ v L, o = .returned v ∧ Qp (.ref a) h0 v t.heap L ∧ FrameEnd s o t L ({ frames := 0, cells := 0, slots := 0, locals := 0 } : Room).cells ({ frames := 0, cells := 0, slots := 0, locals := 0 } : Room).slots) (s₁.setTop (entryFrame m #[(.ref a), (.ref b)] 2))
  refine own_G.cast (show entryFrame m #[(.ref a), (.ref b)] 2 = mkF m 0 #[.val (.ref a), .val (.ref b)] [] from by first | (simp [entryFrame, mkF, argsToLocals, Value.category]; done) | rfl) ?_
  refine own_G.go (fun t_ k_ => XS.aloadN X0.here hx rfl (hb hby d_rm_rnn_0) rfl rfl k_) ?_
  show own_G _ _ _ _ (s₁.setTop (mkF m 1 #[.val (.ref a), .val (.ref b)] [(.ref a)]))
  refine own_G.go (fun t_ k_ => XS.ifnonnullYes X0.here hx rfl (pc0 := 1) (pc' := 13) rfl (hb hby d_rm_rnn_1) rfl (by decide) (by decide) k_) ?_
  show own_G _ _ _ _ (s₁.setTop (mkF m 13 #[.val (.ref a), .val (.ref b)] []))
  refine own_G.go (fun t_ k_ => XS.aloadN X0.here hx rfl (hb hby d_rm_rnn_13) rfl rfl k_) ?_
  show own_G _ _ _ _ (s₁.setTop (mkF m 14 #[.val (.ref a), .val (.ref b)] [(.ref a)]))
  exact own_G.end_ X0 hlk (v := (some (.ref a))) (fun h => by rw [hrt] at h; cases h) (fun fs hr => retOut X0 hx hrt rfl (Or.inr (Or.inr (Or.inr (Or.inr ⟨rfl, rfl, rfl⟩)))) (hb hby d_rm_rnn_14) hr) e0 ⟨rfl, rfl, rfl⟩ (by decide) (by decide)
def Qdr (Z : State) (a : Addr) (j : Int64) (h0 : Heap) (n0 : Nat) (v : Option Value) (h : Heap) (L : List Loc) : Prop := v = none ∧ Fr n0 L ∧ Keep h0 h [a] ∧ Exa Z h a "com/example/gristmill/gristmill/documents/DocumentRecord" ∧ Fld Z h a "com/example/gristmill/gristmill/documents/DocumentRecord" "jobId" "J" (.long j)
theorem pd_4 : parseMethodDescriptor "(Ljava/lang/Object;Ljava/lang/String;)Ljava/lang/Object;" = some ⟨[(.object "java/lang/Object"), (.object "java/lang/String")], some (.object "java/lang/Object")⟩ := by decide +kernel
theorem d_rm_dr0_0 : decode prog_7_method_1_code 0 = .ok (.aload_n 0, 1) := by decide +kernel
theorem d_rm_dr0_1 : decode prog_7_method_1_code 1 = .ok (.invokespecial 1, 3) := by decide +kernel
theorem d_rm_dr0_4 : decode prog_7_method_1_code 4 = .ok (.aload_n 0, 1) := by decide +kernel
theorem d_rm_dr0_5 : decode prog_7_method_1_code 5 = .ok (.lload_n 1, 1) := by decide +kernel
theorem d_rm_dr0_6 : decode prog_7_method_1_code 6 = .ok (.putfield 7, 3) := by decide +kernel
theorem d_rm_dr0_9 : decode prog_7_method_1_code 9 = .ok (.aload_n 0, 1) := by decide +kernel
theorem d_rm_dr0_10 : decode prog_7_method_1_code 10 = .ok (.aload_n 3, 1) := by decide +kernel
theorem d_rm_dr0_11 : decode prog_7_method_1_code 11 = .ok (.ldc 13, 2) := by decide +kernel
theorem d_rm_dr0_13 : decode prog_7_method_1_code 13 = .ok (.invokestatic 15, 3) := by decide +kernel
theorem d_rm_dr0_16 : decode prog_7_method_1_code 16 = .ok (.checkcast 21, 3) := by decide +kernel
theorem d_rm_dr0_19 : decode prog_7_method_1_code 19 = .ok (.putfield 23, 3) := by decide +kernel
theorem d_rm_dr0_22 : decode prog_7_method_1_code 22 = .ok (.aload_n 0, 1) := by decide +kernel
theorem d_rm_dr0_23 : decode prog_7_method_1_code 23 = .ok (.aload 4, 2) := by decide +kernel
theorem d_rm_dr0_25 : decode prog_7_method_1_code 25 = .ok (.putfield 26, 3) := by decide +kernel
theorem d_rm_dr0_28 : decode prog_7_method_1_code 28 = .ok (.aload_n 0, 1) := by decide +kernel
theorem d_rm_dr0_29 : decode prog_7_method_1_code 29 = .ok (.lload 5, 2) := by decide +kernel
theorem d_rm_dr0_31 : decode prog_7_method_1_code 31 = .ok (.putfield 29, 3) := by decide +kernel
theorem d_rm_dr0_34 : decode prog_7_method_1_code 34 = .ok (.aload_n 0, 1) := by decide +kernel
theorem d_rm_dr0_35 : decode prog_7_method_1_code 35 = .ok (.iload 7, 2) := by decide +kernel
theorem d_rm_dr0_37 : decode prog_7_method_1_code 37 = .ok (.putfield 32, 3) := by decide +kernel
theorem d_rm_dr0_40 : decode prog_7_method_1_code 40 = .ok (.return_, 1) := by decide +kernel
set_option maxRecDepth 65536 in
set_option maxHeartbeats 40000000 in
theorem rm_dr0 (l : Launch) (Z : State) (a0 : Array Value) (hw : ∀ d ∈ tables_1, d.before a0 Z = true) (ws : List Jvm.Cond) (a : Addr) (id : Int64) (ps : Addr) (j : Int64) (ch : Int32) (h0 : Heap) (n0 : Nat) (Z0 : n0 ≤ h0.size) (g0 : n0 ≤ a) (E0 : Exa Z h0 a "com/example/gristmill/gristmill/documents/DocumentRecord") (F_id : Fld Z h0 a "com/example/gristmill/gristmill/documents/DocumentRecord" "id" "J" (.long (0 : Int64))) (F_path : Fld Z h0 a "com/example/gristmill/gristmill/documents/DocumentRecord" "path" "Ljava/lang/String;" .null) (F_mediaType : Fld Z h0 a "com/example/gristmill/gristmill/documents/DocumentRecord" "mediaType" "Ljava/lang/String;" .null) (F_jobId : Fld Z h0 a "com/example/gristmill/gristmill/documents/DocumentRecord" "jobId" "J" (.long (0 : Int64))) (F_characters : Fld Z h0 a "com/example/gristmill/gristmill/documents/DocumentRecord" "characters" "I" (.int (0 : Int32))) (EP : Exa Z h0 ps "java/lang/String") :
    MetFree l (⟨"com/example/gristmill/gristmill/documents/DocumentRecord", "<init>", "(JLjava/lang/String;Ljava/lang/String;JI)V"⟩ : MethodName) (head1 (Jvm.Cond.code (⟨"com/example/gristmill/gristmill/documents/DocumentRecord", "<init>", "(JLjava/lang/String;Ljava/lang/String;JI)V"⟩ : MethodName) prog_7_method_1_code 8 none :: ws) ({ frames := 1, cells := 2, slots := 20, locals := 24 } : Room)) (fun a_ U => a_ = #[(.ref a), (.long id), (.ref ps), .null, (.long j), (.int ch)] ∧ Z.Warmed39 U.vm ∧ U.heap = h0) (fun _ _ _ _ _ => True) (fun _ U o U' => ∃ v L, o = .returned v ∧ Qdr Z a j h0 n0 v U'.heap L ∧ ReturnedEndW U o U' L ({ frames := 1, cells := 2, slots := 20, locals := 24 } : Room).cells ({ frames := 1, cells := 2, slots := 20, locals := 24 } : Room).slots) := by
  refine MetFree.of_bodySF (plainFor_of_name pn_2) hisR ?_
  intro p e s m args below meth c s₁ Bd hml0 hP hK
  obtain ⟨rfl, hZ, hh⟩ := hP
  have hx := Bd.exec
  have hby := Bd.bytes
  have hrt := Bd.returns
  have hlk : meth.locks = false := Bd.notSynchronized
  have hml : c.maxLocals = 8 := hml0
  have hown : s.vm.findClass "com/example/gristmill/gristmill/documents/DocumentRecord" = some m.cls := findClass_of_methodNamed Bd.named
  have hnm := (name_of_methodNamed Bd.named Bd.method).1
  have X0 : Stand p l e ({ frames := 1, cells := 2, slots := 20, locals := 24 } : Room) (s.setVm s.vm) m #[(.ref a), (.long id), (.ref ps), .null, (.long j), (.int ch)] below meth c s₁ [] 0 0 := Stand.of_body Bd
  have e0 : s₁.heap = h0 := by rw [← hh, Bd.state]; rfl
  have N0 := Fr.nil n0
  have hS0 : s.Since s.vm 0 := own_since s 0
  have hstr : ∀ d ∈ Bundle.stringAtoms, d.before a0 Z = true := fun d hd => hw d ((by decide +kernel : ∀ d ∈ Bundle.stringAtoms, d ∈ tables_1) d hd)
  show own_G p.tables e below (fun o t => ∃ v L, o = .returned v ∧ Qdr Z a j h0 n0 v t.heap L ∧ ReturnedEndW s o t L ({ frames := 1, cells := 2, slots := 20, locals := 24 } : Room).cells ({ frames := 1, cells := 2, slots := 20, locals := 24 } : Room).slots) (s₁.setTop (entryFrame m #[(.ref a), (.long id), (.ref ps), .null, (.long j), (.int ch)] 8))
  refine own_G.cast (show entryFrame m #[(.ref a), (.long id), (.ref ps), .null, (.long j), (.int ch)] 8 = mkF m 0 #[.val (.ref a), .val (.long id), .second, .val (.ref ps), .val .null, .val (.long j), .second, .val (.int ch)] [] from by first | (simp [entryFrame, mkF, argsToLocals, Value.category]; done) | rfl) ?_
  refine own_G.go (fun t_ k_ => XS.aloadN X0.here hx rfl (hb hby d_rm_dr0_0) rfl rfl k_) ?_
  show own_G _ _ _ _ (s₁.setTop (mkF m 1 #[.val (.ref a), .val (.long id), .second, .val (.ref ps), .val .null, .val (.long j), .second, .val (.int ch)] [(.ref a)]))
  obtain ⟨T_1, X_1, e_1, st_1⟩ := initO X0 hx hZ hown (own_w hw 36 rfl) (own_w hw 12 rfl) (own_w hw 13 rfl) e0 (g := (mkF m 1 #[.val (.ref a), .val (.long id), .second, .val (.ref ps), .val .null, .val (.long j), .second, .val (.int ch)] [(.ref a)])) rfl (by rw [hml]; rfl) rfl (hb hby d_rm_dr0_1) (by decide) (W := 0) (by show 2 * 0 + _ ≤ _; exact Nat.le_of_eq rfl) (by decide)
  refine own_G.go st_1 ?_
  show own_G _ _ _ _ (T_1.setTop (mkF m 4 #[.val (.ref a), .val (.long id), .second, .val (.ref ps), .val .null, .val (.long j), .second, .val (.int ch)] []))
  refine own_G.go (fun t_ k_ => XS.aloadN X_1.here hx rfl (hb hby d_rm_dr0_4) rfl rfl k_) ?_
  show own_G _ _ _ _ (T_1.setTop (mkF m 5 #[.val (.ref a), .val (.long id), .second, .val (.ref ps), .val .null, .val (.long j), .second, .val (.int ch)] [(.ref a)]))
  refine own_G.go (fun t_ k_ => XS.lloadN X_1.here hx rfl (hb hby d_rm_dr0_5) rfl k_) ?_
  show own_G _ _ _ _ (T_1.setTop (mkF m 6 #[.val (.ref a), .val (.long id), .second, .val (.ref ps), .val .null, .val (.long j), .second, .val (.int ch)] [(.long id), (.ref a)]))
  obtain ⟨T_2, h_2, X_2, e_2, W_2, st_2⟩ := putF X_1 hx hZ hown (host := "") (Or.inl (own_w hw 37 rfl)) Via.refl e_1 F_id E0 (Or.inr ⟨(own_w hw 38 rfl), rfl, hnm⟩) (own_w hw 31 rfl) (ty := .long) (by decide) rfl rfl (g := (mkF m 6 #[.val (.ref a), .val (.long id), .second, .val (.ref ps), .val .null, .val (.long j), .second, .val (.int ch)] [(.long id), (.ref a)])) rfl rfl (hb hby d_rm_dr0_6)
  refine own_G.go st_2 ?_
  have F_2 : Fld Z h_2 a "com/example/gristmill/gristmill/documents/DocumentRecord" "id" "J" (.long id) := F_id.same W_2
  have N_2 := Fr.snoc X_2 N0 g0
  show own_G _ _ _ _ (T_2.setTop (mkF m 9 #[.val (.ref a), .val (.long id), .second, .val (.ref ps), .val .null, .val (.long j), .second, .val (.int ch)] []))
  refine own_G.go (fun t_ k_ => XS.aloadN X_2.here hx rfl (hb hby d_rm_dr0_9) rfl rfl k_) ?_
  show own_G _ _ _ _ (T_2.setTop (mkF m 10 #[.val (.ref a), .val (.long id), .second, .val (.ref ps), .val .null, .val (.long j), .second, .val (.int ch)] [(.ref a)]))
  refine own_G.go (fun t_ k_ => XS.aloadN X_2.here hx rfl (hb hby d_rm_dr0_10) rfl rfl k_) ?_
  show own_G _ _ _ _ (T_2.setTop (mkF m 11 #[.val (.ref a), .val (.long id), .second, .val (.ref ps), .val .null, .val (.long j), .second, .val (.int ch)] [(.ref ps), (.ref a)]))
  obtain ⟨al_3, T_3, h_3, k_3, X_3, e_3, E_3, hS_3, hk_3, hZ_3, hown_3, st_3⟩ := ldcS X_2 hx hZ hown (own_w hw 39 rfl) hstr e_2 hS0 (Nat.le_trans (Nat.zero_le _) (Keep.of_wr W_2).1) (g := (mkF m 11 #[.val (.ref a), .val (.long id), .second, .val (.ref ps), .val .null, .val (.long j), .second, .val (.int ch)] [(.ref ps), (.ref a)])) rfl (hb hby d_rm_dr0_11) (n := 16) (by decide +kernel) (by decide) (by decide) (by decide)
  refine own_G.go st_3 ?_
  show own_G _ _ _ _ (T_3.setTop (mkF m 13 #[.val (.ref a), .val (.long id), .second, .val (.ref ps), .val .null, .val (.long j), .second, .val (.int ch)] [(.ref al_3), (.ref ps), (.ref a)]))
  obtain ⟨_, T_4, L_4, Q_4, X_4, st_4⟩ := own_callS X_3 hx hown_3 (mvT hZ_3 (own_w hw 42 rfl)) (mvT hZ_3 (own_w hw 43 rfl)) (mvT hZ_3 (own_w hw 44 rfl)) (mvT hZ_3 (own_w hw 45 rfl)) (by decide) (Q := (Qp (.ref ps) h_3)) (backOf (W := 1) (rm_rnn l Z a0 hw [] ps al_3 h_3 n0 (Nat.le_trans Z0 (Nat.le_trans (Keep.of_wr W_2).1 E_3.1)) ) hZ_3 (own_w hw 45 rfl) (own_w hw 44 rfl) (by decide) (by decide)) (g := (mkF m 13 #[.val (.ref a), .val (.long id), .second, .val (.ref ps), .val .null, .val (.long j), .second, .val (.int ch)] [(.ref al_3), (.ref ps), (.ref a)])) rfl (by rw [hml]; rfl) (argsL := [(.ref ps), (.ref al_3)]) (rest := [(.ref a)]) (lenOf pd_4 rfl) rfl (by show 2 * 0 + _ ≤ _; exact Nat.le_of_eq rfl) (hb hby d_rm_dr0_13) e_3 rfl (by decide) (by decide)
  obtain ⟨rfl, rfl, eh_4⟩ := Q_4
  refine own_G.via st_4 ?_
  have N_4 := Fr.app N_2 (Fr.nil n0)
  show own_G _ _ _ _ (T_4.setTop (mkF m 16 #[.val (.ref a), .val (.long id), .second, .val (.ref ps), .val .null, .val (.long j), .second, .val (.int ch)] [(.ref ps), (.ref a)]))
  have EP'_5 : Exa Z h_3 ps "java/lang/String" := ((EP.wr W_2).ext E_3)
  obtain ⟨T_6, X_6, e_6, st_6⟩ := castY X_4 hx hZ_3 hown_3 (own_w hw 46 rfl) eh_4 (Ins.self EP'_5) (g := (mkF m 16 #[.val (.ref a), .val (.long id), .second, .val (.ref ps), .val .null, .val (.long j), .second, .val (.int ch)] [(.ref ps), (.ref a)])) rfl rfl (hb hby d_rm_dr0_16)
  refine own_G.go st_6 ?_
  show own_G _ _ _ _ (T_6.setTop (mkF m 19 #[.val (.ref a), .val (.long id), .second, .val (.ref ps), .val .null, .val (.long j), .second, .val (.int ch)] [(.ref ps), (.ref a)]))
  have F_path'_7 : Fld Z h_3 a "com/example/gristmill/gristmill/documents/DocumentRecord" "path" "Ljava/lang/String;" .null := ((F_path.other W_2 (Or.inr (slot_ne (C := "com/example/gristmill/gristmill/documents/DocumentRecord") (Or.inr (own_w hw 48 rfl)) (Or.inr (own_w hw 38 rfl)) (by decide) (by decide : parseFieldDescriptor "Ljava/lang/String;" = some (.object "java/lang/String")) (by decide : parseFieldDescriptor "J" = some .long)))).ext E_3)
  have E0'_8 : Exa Z h_3 a "com/example/gristmill/gristmill/documents/DocumentRecord" := ((E0.wr W_2).ext E_3)
  obtain ⟨T_9, h_9, X_9, e_9, W_9, st_9⟩ := putF X_6 hx hZ_3 hown_3 (host := "") (Or.inl (own_w hw 47 rfl)) Via.refl e_6 F_path'_7 E0'_8 (Or.inr ⟨(own_w hw 48 rfl), rfl, hnm⟩) (own_w hw 31 rfl) (ty := (.object "java/lang/String")) (by decide) rfl rfl (g := (mkF m 19 #[.val (.ref a), .val (.long id), .second, .val (.ref ps), .val .null, .val (.long j), .second, .val (.int ch)] [(.ref ps), (.ref a)])) rfl rfl (hb hby d_rm_dr0_19)
  refine own_G.go st_9 ?_
  have F_9 : Fld Z h_9 a "com/example/gristmill/gristmill/documents/DocumentRecord" "path" "Ljava/lang/String;" (.ref ps) := F_path'_7.same W_9
  have N_9 := Fr.snoc X_9 N_4 g0
  show own_G _ _ _ _ (T_9.setTop (mkF m 22 #[.val (.ref a), .val (.long id), .second, .val (.ref ps), .val .null, .val (.long j), .second, .val (.int ch)] []))
  refine own_G.go (fun t_ k_ => XS.aloadN X_9.here hx rfl (hb hby d_rm_dr0_22) rfl rfl k_) ?_
  show own_G _ _ _ _ (T_9.setTop (mkF m 23 #[.val (.ref a), .val (.long id), .second, .val (.ref ps), .val .null, .val (.long j), .second, .val (.int ch)] [(.ref a)]))
  refine own_G.go (fun t_ k_ => XS.aload X_9.here hx rfl (hb hby d_rm_dr0_23) rfl rfl k_) ?_
  show own_G _ _ _ _ (T_9.setTop (mkF m 25 #[.val (.ref a), .val (.long id), .second, .val (.ref ps), .val .null, .val (.long j), .second, .val (.int ch)] [.null, (.ref a)]))
  have F_mediaType'_10 : Fld Z h_9 a "com/example/gristmill/gristmill/documents/DocumentRecord" "mediaType" "Ljava/lang/String;" .null := (((F_mediaType.other W_2 (Or.inr (slot_ne (C := "com/example/gristmill/gristmill/documents/DocumentRecord") (Or.inr (own_w hw 50 rfl)) (Or.inr (own_w hw 38 rfl)) (by decide) (by decide : parseFieldDescriptor "Ljava/lang/String;" = some (.object "java/lang/String")) (by decide : parseFieldDescriptor "J" = some .long)))).ext E_3).other W_9 (Or.inr (slot_ne (C := "com/example/gristmill/gristmill/documents/DocumentRecord") (Or.inr (own_w hw 50 rfl)) (Or.inr (own_w hw 48 rfl)) (by decide) (by decide : parseFieldDescriptor "Ljava/lang/String;" = some (.object "java/lang/String")) (by decide : parseFieldDescriptor "Ljava/lang/String;" = some (.object "java/lang/String")))))
  have E0'_11 : Exa Z h_9 a "com/example/gristmill/gristmill/documents/DocumentRecord" := (E0'_8.wr W_9)
  obtain ⟨T_12, h_12, X_12, e_12, W_12, st_12⟩ := putF X_9 hx hZ_3 hown_3 (host := "") (Or.inl (own_w hw 49 rfl)) Via.refl e_9 F_mediaType'_10 E0'_11 (Or.inr ⟨(own_w hw 50 rfl), rfl, hnm⟩) (own_w hw 31 rfl) (ty := (.object "java/lang/String")) (by decide) rfl rfl (g := (mkF m 25 #[.val (.ref a), .val (.long id), .second, .val (.ref ps), .val .null, .val (.long j), .second, .val (.int ch)] [.null, (.ref a)])) rfl rfl (hb hby d_rm_dr0_25)
  refine own_G.go st_12 ?_
  have F_12 : Fld Z h_12 a "com/example/gristmill/gristmill/documents/DocumentRecord" "mediaType" "Ljava/lang/String;" .null := F_mediaType'_10.same W_12
  have N_12 := Fr.snoc X_12 N_9 g0
  show own_G _ _ _ _ (T_12.setTop (mkF m 28 #[.val (.ref a), .val (.long id), .second, .val (.ref ps), .val .null, .val (.long j), .second, .val (.int ch)] []))
  refine own_G.go (fun t_ k_ => XS.aloadN X_12.here hx rfl (hb hby d_rm_dr0_28) rfl rfl k_) ?_
  show own_G _ _ _ _ (T_12.setTop (mkF m 29 #[.val (.ref a), .val (.long id), .second, .val (.ref ps), .val .null, .val (.long j), .second, .val (.int ch)] [(.ref a)]))
  refine own_G.go (fun t_ k_ => XS.lload X_12.here hx rfl (hb hby d_rm_dr0_29) rfl k_) ?_
  show own_G _ _ _ _ (T_12.setTop (mkF m 31 #[.val (.ref a), .val (.long id), .second, .val (.ref ps), .val .null, .val (.long j), .second, .val (.int ch)] [(.long j), (.ref a)]))
  have F_jobId'_13 : Fld Z h_12 a "com/example/gristmill/gristmill/documents/DocumentRecord" "jobId" "J" (.long (0 : Int64)) := ((((F_jobId.other W_2 (Or.inr (slot_ne (C := "com/example/gristmill/gristmill/documents/DocumentRecord") (Or.inr (own_w hw 52 rfl)) (Or.inr (own_w hw 38 rfl)) (by decide) (by decide : parseFieldDescriptor "J" = some .long) (by decide : parseFieldDescriptor "J" = some .long)))).ext E_3).other W_9 (Or.inr (slot_ne (C := "com/example/gristmill/gristmill/documents/DocumentRecord") (Or.inr (own_w hw 52 rfl)) (Or.inr (own_w hw 48 rfl)) (by decide) (by decide : parseFieldDescriptor "J" = some .long) (by decide : parseFieldDescriptor "Ljava/lang/String;" = some (.object "java/lang/String"))))).other W_12 (Or.inr (slot_ne (C := "com/example/gristmill/gristmill/documents/DocumentRecord") (Or.inr (own_w hw 52 rfl)) (Or.inr (own_w hw 50 rfl)) (by decide) (by decide : parseFieldDescriptor "J" = some .long) (by decide : parseFieldDescriptor "Ljava/lang/String;" = some (.object "java/lang/String")))))
  have E0'_14 : Exa Z h_12 a "com/example/gristmill/gristmill/documents/DocumentRecord" := (E0'_11.wr W_12)
  obtain ⟨T_15, h_15, X_15, e_15, W_15, st_15⟩ := putF X_12 hx hZ_3 hown_3 (host := "") (Or.inl (own_w hw 51 rfl)) Via.refl e_12 F_jobId'_13 E0'_14 (Or.inr ⟨(own_w hw 52 rfl), rfl, hnm⟩) (own_w hw 31 rfl) (ty := .long) (by decide) rfl rfl (g := (mkF m 31 #[.val (.ref a), .val (.long id), .second, .val (.ref ps), .val .null, .val (.long j), .second, .val (.int ch)] [(.long j), (.ref a)])) rfl rfl (hb hby d_rm_dr0_31)
  refine own_G.go st_15 ?_
  have F_15 : Fld Z h_15 a "com/example/gristmill/gristmill/documents/DocumentRecord" "jobId" "J" (.long j) := F_jobId'_13.same W_15
  have N_15 := Fr.snoc X_15 N_12 g0
  show own_G _ _ _ _ (T_15.setTop (mkF m 34 #[.val (.ref a), .val (.long id), .second, .val (.ref ps), .val .null, .val (.long j), .second, .val (.int ch)] []))
  refine own_G.go (fun t_ k_ => XS.aloadN X_15.here hx rfl (hb hby d_rm_dr0_34) rfl rfl k_) ?_
  show own_G _ _ _ _ (T_15.setTop (mkF m 35 #[.val (.ref a), .val (.long id), .second, .val (.ref ps), .val .null, .val (.long j), .second, .val (.int ch)] [(.ref a)]))
  refine own_G.go (fun t_ k_ => XS.iload X_15.here hx rfl (hb hby d_rm_dr0_35) rfl k_) ?_
  show own_G _ _ _ _ (T_15.setTop (mkF m 37 #[.val (.ref a), .val (.long id), .second, .val (.ref ps), .val .null, .val (.long j), .second, .val (.int ch)] [(.int ch), (.ref a)]))
  have F_characters'_16 : Fld Z h_15 a "com/example/gristmill/gristmill/documents/DocumentRecord" "characters" "I" (.int (0 : Int32)) := (((((F_characters.other W_2 (Or.inr (slot_ne (C := "com/example/gristmill/gristmill/documents/DocumentRecord") (Or.inr (own_w hw 54 rfl)) (Or.inr (own_w hw 38 rfl)) (by decide) (by decide : parseFieldDescriptor "I" = some .int) (by decide : parseFieldDescriptor "J" = some .long)))).ext E_3).other W_9 (Or.inr (slot_ne (C := "com/example/gristmill/gristmill/documents/DocumentRecord") (Or.inr (own_w hw 54 rfl)) (Or.inr (own_w hw 48 rfl)) (by decide) (by decide : parseFieldDescriptor "I" = some .int) (by decide : parseFieldDescriptor "Ljava/lang/String;" = some (.object "java/lang/String"))))).other W_12 (Or.inr (slot_ne (C := "com/example/gristmill/gristmill/documents/DocumentRecord") (Or.inr (own_w hw 54 rfl)) (Or.inr (own_w hw 50 rfl)) (by decide) (by decide : parseFieldDescriptor "I" = some .int) (by decide : parseFieldDescriptor "Ljava/lang/String;" = some (.object "java/lang/String"))))).other W_15 (Or.inr (slot_ne (C := "com/example/gristmill/gristmill/documents/DocumentRecord") (Or.inr (own_w hw 54 rfl)) (Or.inr (own_w hw 52 rfl)) (by decide) (by decide : parseFieldDescriptor "I" = some .int) (by decide : parseFieldDescriptor "J" = some .long))))
  have E0'_17 : Exa Z h_15 a "com/example/gristmill/gristmill/documents/DocumentRecord" := (E0'_14.wr W_15)
  obtain ⟨T_18, h_18, X_18, e_18, W_18, st_18⟩ := putF X_15 hx hZ_3 hown_3 (host := "") (Or.inl (own_w hw 53 rfl)) Via.refl e_15 F_characters'_16 E0'_17 (Or.inr ⟨(own_w hw 54 rfl), rfl, hnm⟩) (own_w hw 31 rfl) (ty := .int) (by decide) rfl rfl (g := (mkF m 37 #[.val (.ref a), .val (.long id), .second, .val (.ref ps), .val .null, .val (.long j), .second, .val (.int ch)] [(.int ch), (.ref a)])) rfl rfl (hb hby d_rm_dr0_37)
  refine own_G.go st_18 ?_
  have F_18 : Fld Z h_18 a "com/example/gristmill/gristmill/documents/DocumentRecord" "characters" "I" (.int ch) := F_characters'_16.same W_18
  have N_18 := Fr.snoc X_18 N_15 g0
  show own_G _ _ _ _ (T_18.setTop (mkF m 40 #[.val (.ref a), .val (.long id), .second, .val (.ref ps), .val .null, .val (.long j), .second, .val (.int ch)] []))
  have E0'_19 : Exa Z h_18 a "com/example/gristmill/gristmill/documents/DocumentRecord" := (E0'_17.wr W_18)
  have F_15'_20 : Fld Z h_18 a "com/example/gristmill/gristmill/documents/DocumentRecord" "jobId" "J" (.long j) := (F_15.other W_18 (Or.inr (slot_ne (C := "com/example/gristmill/gristmill/documents/DocumentRecord") (Or.inr (own_w hw 52 rfl)) (Or.inr (own_w hw 54 rfl)) (by decide) (by decide : parseFieldDescriptor "J" = some .long) (by decide : parseFieldDescriptor "I" = some .int))))
  exact own_G.endW X_18 hS_3 (Nat.le_trans hk_3 (Nat.le_trans (Nat.le_trans (Nat.le_trans (Keep.of_wr W_9).1 (Keep.of_wr W_12).1) (Keep.of_wr W_15).1) (Keep.of_wr W_18).1)) hlk (v := none) (fun _ => rfl) (fun fs hr => X_18.returnOut hx hrt (hb hby d_rm_dr0_40) hr) e_18 ⟨rfl, N_18, (((((((Keep.refl h0 [a]).wr W_2 (Or.inl (List.mem_of_getElem? (i := 0) rfl))).ext E_3).wr W_9 (Or.inl (List.mem_of_getElem? (i := 0) rfl))).wr W_12 (Or.inl (List.mem_of_getElem? (i := 0) rfl))).wr W_15 (Or.inl (List.mem_of_getElem? (i := 0) rfl))).wr W_18 (Or.inl (List.mem_of_getElem? (i := 0) rfl))), E0'_19, F_15'_20⟩ (by decide) (by decide)
theorem d_rm_dr1_0 : decode prog_7_method_1_code 0 = .ok (.aload_n 0, 1) := by decide +kernel
theorem d_rm_dr1_1 : decode prog_7_method_1_code 1 = .ok (.invokespecial 1, 3) := by decide +kernel
theorem d_rm_dr1_4 : decode prog_7_method_1_code 4 = .ok (.aload_n 0, 1) := by decide +kernel
theorem d_rm_dr1_5 : decode prog_7_method_1_code 5 = .ok (.lload_n 1, 1) := by decide +kernel
theorem d_rm_dr1_6 : decode prog_7_method_1_code 6 = .ok (.putfield 7, 3) := by decide +kernel
theorem d_rm_dr1_9 : decode prog_7_method_1_code 9 = .ok (.aload_n 0, 1) := by decide +kernel
theorem d_rm_dr1_10 : decode prog_7_method_1_code 10 = .ok (.aload_n 3, 1) := by decide +kernel
theorem d_rm_dr1_11 : decode prog_7_method_1_code 11 = .ok (.ldc 13, 2) := by decide +kernel
theorem d_rm_dr1_13 : decode prog_7_method_1_code 13 = .ok (.invokestatic 15, 3) := by decide +kernel
theorem d_rm_dr1_16 : decode prog_7_method_1_code 16 = .ok (.checkcast 21, 3) := by decide +kernel
theorem d_rm_dr1_19 : decode prog_7_method_1_code 19 = .ok (.putfield 23, 3) := by decide +kernel
theorem d_rm_dr1_22 : decode prog_7_method_1_code 22 = .ok (.aload_n 0, 1) := by decide +kernel
theorem d_rm_dr1_23 : decode prog_7_method_1_code 23 = .ok (.aload 4, 2) := by decide +kernel
theorem d_rm_dr1_25 : decode prog_7_method_1_code 25 = .ok (.putfield 26, 3) := by decide +kernel
theorem d_rm_dr1_28 : decode prog_7_method_1_code 28 = .ok (.aload_n 0, 1) := by decide +kernel
theorem d_rm_dr1_29 : decode prog_7_method_1_code 29 = .ok (.lload 5, 2) := by decide +kernel
theorem d_rm_dr1_31 : decode prog_7_method_1_code 31 = .ok (.putfield 29, 3) := by decide +kernel
theorem d_rm_dr1_34 : decode prog_7_method_1_code 34 = .ok (.aload_n 0, 1) := by decide +kernel
theorem d_rm_dr1_35 : decode prog_7_method_1_code 35 = .ok (.iload 7, 2) := by decide +kernel
theorem d_rm_dr1_37 : decode prog_7_method_1_code 37 = .ok (.putfield 32, 3) := by decide +kernel
theorem d_rm_dr1_40 : decode prog_7_method_1_code 40 = .ok (.return_, 1) := by decide +kernel
set_option maxRecDepth 65536 in
set_option maxHeartbeats 40000000 in
theorem rm_dr1 (l : Launch) (Z : State) (a0 : Array Value) (hw : ∀ d ∈ tables_1, d.before a0 Z = true) (ws : List Jvm.Cond) (a : Addr) (id : Int64) (ps ms : Addr) (j : Int64) (ch : Int32) (h0 : Heap) (n0 : Nat) (Z0 : n0 ≤ h0.size) (g0 : n0 ≤ a) (E0 : Exa Z h0 a "com/example/gristmill/gristmill/documents/DocumentRecord") (F_id : Fld Z h0 a "com/example/gristmill/gristmill/documents/DocumentRecord" "id" "J" (.long (0 : Int64))) (F_path : Fld Z h0 a "com/example/gristmill/gristmill/documents/DocumentRecord" "path" "Ljava/lang/String;" .null) (F_mediaType : Fld Z h0 a "com/example/gristmill/gristmill/documents/DocumentRecord" "mediaType" "Ljava/lang/String;" .null) (F_jobId : Fld Z h0 a "com/example/gristmill/gristmill/documents/DocumentRecord" "jobId" "J" (.long (0 : Int64))) (F_characters : Fld Z h0 a "com/example/gristmill/gristmill/documents/DocumentRecord" "characters" "I" (.int (0 : Int32))) (EP : Exa Z h0 ps "java/lang/String") :
    MetFree l (⟨"com/example/gristmill/gristmill/documents/DocumentRecord", "<init>", "(JLjava/lang/String;Ljava/lang/String;JI)V"⟩ : MethodName) (head1 (Jvm.Cond.code (⟨"com/example/gristmill/gristmill/documents/DocumentRecord", "<init>", "(JLjava/lang/String;Ljava/lang/String;JI)V"⟩ : MethodName) prog_7_method_1_code 8 none :: ws) ({ frames := 1, cells := 2, slots := 20, locals := 24 } : Room)) (fun a_ U => a_ = #[(.ref a), (.long id), (.ref ps), (.ref ms), (.long j), (.int ch)] ∧ Z.Warmed39 U.vm ∧ U.heap = h0) (fun _ _ _ _ _ => True) (fun _ U o U' => ∃ v L, o = .returned v ∧ Qdr Z a j h0 n0 v U'.heap L ∧ ReturnedEndW U o U' L ({ frames := 1, cells := 2, slots := 20, locals := 24 } : Room).cells ({ frames := 1, cells := 2, slots := 20, locals := 24 } : Room).slots) := by
  refine MetFree.of_bodySF (plainFor_of_name pn_2) hisR ?_
  intro p e s m args below meth c s₁ Bd hml0 hP hK
  obtain ⟨rfl, hZ, hh⟩ := hP
  have hx := Bd.exec
  have hby := Bd.bytes
  have hrt := Bd.returns
  have hlk : meth.locks = false := Bd.notSynchronized
  have hml : c.maxLocals = 8 := hml0
  have hown : s.vm.findClass "com/example/gristmill/gristmill/documents/DocumentRecord" = some m.cls := findClass_of_methodNamed Bd.named
  have hnm := (name_of_methodNamed Bd.named Bd.method).1
  have X0 : Stand p l e ({ frames := 1, cells := 2, slots := 20, locals := 24 } : Room) (s.setVm s.vm) m #[(.ref a), (.long id), (.ref ps), (.ref ms), (.long j), (.int ch)] below meth c s₁ [] 0 0 := Stand.of_body Bd
  have e0 : s₁.heap = h0 := by rw [← hh, Bd.state]; rfl
  have N0 := Fr.nil n0
  have hS0 : s.Since s.vm 0 := own_since s 0
  have hstr : ∀ d ∈ Bundle.stringAtoms, d.before a0 Z = true := fun d hd => hw d ((by decide +kernel : ∀ d ∈ Bundle.stringAtoms, d ∈ tables_1) d hd)
  show own_G p.tables e below (fun o t => ∃ v L, o = .returned v ∧ Qdr Z a j h0 n0 v t.heap L ∧ ReturnedEndW s o t L ({ frames := 1, cells := 2, slots := 20, locals := 24 } : Room).cells ({ frames := 1, cells := 2, slots := 20, locals := 24 } : Room).slots) (s₁.setTop (entryFrame m #[(.ref a), (.long id), (.ref ps), (.ref ms), (.long j), (.int ch)] 8))
  refine own_G.cast (show entryFrame m #[(.ref a), (.long id), (.ref ps), (.ref ms), (.long j), (.int ch)] 8 = mkF m 0 #[.val (.ref a), .val (.long id), .second, .val (.ref ps), .val (.ref ms), .val (.long j), .second, .val (.int ch)] [] from by first | (simp [entryFrame, mkF, argsToLocals, Value.category]; done) | rfl) ?_
  refine own_G.go (fun t_ k_ => XS.aloadN X0.here hx rfl (hb hby d_rm_dr1_0) rfl rfl k_) ?_
  show own_G _ _ _ _ (s₁.setTop (mkF m 1 #[.val (.ref a), .val (.long id), .second, .val (.ref ps), .val (.ref ms), .val (.long j), .second, .val (.int ch)] [(.ref a)]))
  obtain ⟨T_1, X_1, e_1, st_1⟩ := initO X0 hx hZ hown (own_w hw 36 rfl) (own_w hw 12 rfl) (own_w hw 13 rfl) e0 (g := (mkF m 1 #[.val (.ref a), .val (.long id), .second, .val (.ref ps), .val (.ref ms), .val (.long j), .second, .val (.int ch)] [(.ref a)])) rfl (by rw [hml]; rfl) rfl (hb hby d_rm_dr1_1) (by decide) (W := 0) (by show 2 * 0 + _ ≤ _; exact Nat.le_of_eq rfl) (by decide)
  refine own_G.go st_1 ?_
  show own_G _ _ _ _ (T_1.setTop (mkF m 4 #[.val (.ref a), .val (.long id), .second, .val (.ref ps), .val (.ref ms), .val (.long j), .second, .val (.int ch)] []))
  refine own_G.go (fun t_ k_ => XS.aloadN X_1.here hx rfl (hb hby d_rm_dr1_4) rfl rfl k_) ?_
  show own_G _ _ _ _ (T_1.setTop (mkF m 5 #[.val (.ref a), .val (.long id), .second, .val (.ref ps), .val (.ref ms), .val (.long j), .second, .val (.int ch)] [(.ref a)]))
  refine own_G.go (fun t_ k_ => XS.lloadN X_1.here hx rfl (hb hby d_rm_dr1_5) rfl k_) ?_
  show own_G _ _ _ _ (T_1.setTop (mkF m 6 #[.val (.ref a), .val (.long id), .second, .val (.ref ps), .val (.ref ms), .val (.long j), .second, .val (.int ch)] [(.long id), (.ref a)]))
  obtain ⟨T_2, h_2, X_2, e_2, W_2, st_2⟩ := putF X_1 hx hZ hown (host := "") (Or.inl (own_w hw 37 rfl)) Via.refl e_1 F_id E0 (Or.inr ⟨(own_w hw 38 rfl), rfl, hnm⟩) (own_w hw 31 rfl) (ty := .long) (by decide) rfl rfl (g := (mkF m 6 #[.val (.ref a), .val (.long id), .second, .val (.ref ps), .val (.ref ms), .val (.long j), .second, .val (.int ch)] [(.long id), (.ref a)])) rfl rfl (hb hby d_rm_dr1_6)
  refine own_G.go st_2 ?_
  have F_2 : Fld Z h_2 a "com/example/gristmill/gristmill/documents/DocumentRecord" "id" "J" (.long id) := F_id.same W_2
  have N_2 := Fr.snoc X_2 N0 g0
  show own_G _ _ _ _ (T_2.setTop (mkF m 9 #[.val (.ref a), .val (.long id), .second, .val (.ref ps), .val (.ref ms), .val (.long j), .second, .val (.int ch)] []))
  refine own_G.go (fun t_ k_ => XS.aloadN X_2.here hx rfl (hb hby d_rm_dr1_9) rfl rfl k_) ?_
  show own_G _ _ _ _ (T_2.setTop (mkF m 10 #[.val (.ref a), .val (.long id), .second, .val (.ref ps), .val (.ref ms), .val (.long j), .second, .val (.int ch)] [(.ref a)]))
  refine own_G.go (fun t_ k_ => XS.aloadN X_2.here hx rfl (hb hby d_rm_dr1_10) rfl rfl k_) ?_
  show own_G _ _ _ _ (T_2.setTop (mkF m 11 #[.val (.ref a), .val (.long id), .second, .val (.ref ps), .val (.ref ms), .val (.long j), .second, .val (.int ch)] [(.ref ps), (.ref a)]))
  obtain ⟨al_3, T_3, h_3, k_3, X_3, e_3, E_3, hS_3, hk_3, hZ_3, hown_3, st_3⟩ := ldcS X_2 hx hZ hown (own_w hw 39 rfl) hstr e_2 hS0 (Nat.le_trans (Nat.zero_le _) (Keep.of_wr W_2).1) (g := (mkF m 11 #[.val (.ref a), .val (.long id), .second, .val (.ref ps), .val (.ref ms), .val (.long j), .second, .val (.int ch)] [(.ref ps), (.ref a)])) rfl (hb hby d_rm_dr1_11) (n := 16) (by decide +kernel) (by decide) (by decide) (by decide)
  refine own_G.go st_3 ?_
  show own_G _ _ _ _ (T_3.setTop (mkF m 13 #[.val (.ref a), .val (.long id), .second, .val (.ref ps), .val (.ref ms), .val (.long j), .second, .val (.int ch)] [(.ref al_3), (.ref ps), (.ref a)]))
  obtain ⟨_, T_4, L_4, Q_4, X_4, st_4⟩ := own_callS X_3 hx hown_3 (mvT hZ_3 (own_w hw 42 rfl)) (mvT hZ_3 (own_w hw 43 rfl)) (mvT hZ_3 (own_w hw 44 rfl)) (mvT hZ_3 (own_w hw 45 rfl)) (by decide) (Q := (Qp (.ref ps) h_3)) (backOf (W := 1) (rm_rnn l Z a0 hw [] ps al_3 h_3 n0 (Nat.le_trans Z0 (Nat.le_trans (Keep.of_wr W_2).1 E_3.1)) ) hZ_3 (own_w hw 45 rfl) (own_w hw 44 rfl) (by decide) (by decide)) (g := (mkF m 13 #[.val (.ref a), .val (.long id), .second, .val (.ref ps), .val (.ref ms), .val (.long j), .second, .val (.int ch)] [(.ref al_3), (.ref ps), (.ref a)])) rfl (by rw [hml]; rfl) (argsL := [(.ref ps), (.ref al_3)]) (rest := [(.ref a)]) (lenOf pd_4 rfl) rfl (by show 2 * 0 + _ ≤ _; exact Nat.le_of_eq rfl) (hb hby d_rm_dr1_13) e_3 rfl (by decide) (by decide)
  obtain ⟨rfl, rfl, eh_4⟩ := Q_4
  refine own_G.via st_4 ?_
  have N_4 := Fr.app N_2 (Fr.nil n0)
  show own_G _ _ _ _ (T_4.setTop (mkF m 16 #[.val (.ref a), .val (.long id), .second, .val (.ref ps), .val (.ref ms), .val (.long j), .second, .val (.int ch)] [(.ref ps), (.ref a)]))
  have EP'_5 : Exa Z h_3 ps "java/lang/String" := ((EP.wr W_2).ext E_3)
  obtain ⟨T_6, X_6, e_6, st_6⟩ := castY X_4 hx hZ_3 hown_3 (own_w hw 46 rfl) eh_4 (Ins.self EP'_5) (g := (mkF m 16 #[.val (.ref a), .val (.long id), .second, .val (.ref ps), .val (.ref ms), .val (.long j), .second, .val (.int ch)] [(.ref ps), (.ref a)])) rfl rfl (hb hby d_rm_dr1_16)
  refine own_G.go st_6 ?_
  show own_G _ _ _ _ (T_6.setTop (mkF m 19 #[.val (.ref a), .val (.long id), .second, .val (.ref ps), .val (.ref ms), .val (.long j), .second, .val (.int ch)] [(.ref ps), (.ref a)]))
  have F_path'_7 : Fld Z h_3 a "com/example/gristmill/gristmill/documents/DocumentRecord" "path" "Ljava/lang/String;" .null := ((F_path.other W_2 (Or.inr (slot_ne (C := "com/example/gristmill/gristmill/documents/DocumentRecord") (Or.inr (own_w hw 48 rfl)) (Or.inr (own_w hw 38 rfl)) (by decide) (by decide : parseFieldDescriptor "Ljava/lang/String;" = some (.object "java/lang/String")) (by decide : parseFieldDescriptor "J" = some .long)))).ext E_3)
  have E0'_8 : Exa Z h_3 a "com/example/gristmill/gristmill/documents/DocumentRecord" := ((E0.wr W_2).ext E_3)
  obtain ⟨T_9, h_9, X_9, e_9, W_9, st_9⟩ := putF X_6 hx hZ_3 hown_3 (host := "") (Or.inl (own_w hw 47 rfl)) Via.refl e_6 F_path'_7 E0'_8 (Or.inr ⟨(own_w hw 48 rfl), rfl, hnm⟩) (own_w hw 31 rfl) (ty := (.object "java/lang/String")) (by decide) rfl rfl (g := (mkF m 19 #[.val (.ref a), .val (.long id), .second, .val (.ref ps), .val (.ref ms), .val (.long j), .second, .val (.int ch)] [(.ref ps), (.ref a)])) rfl rfl (hb hby d_rm_dr1_19)
  refine own_G.go st_9 ?_
  have F_9 : Fld Z h_9 a "com/example/gristmill/gristmill/documents/DocumentRecord" "path" "Ljava/lang/String;" (.ref ps) := F_path'_7.same W_9
  have N_9 := Fr.snoc X_9 N_4 g0
  show own_G _ _ _ _ (T_9.setTop (mkF m 22 #[.val (.ref a), .val (.long id), .second, .val (.ref ps), .val (.ref ms), .val (.long j), .second, .val (.int ch)] []))
  refine own_G.go (fun t_ k_ => XS.aloadN X_9.here hx rfl (hb hby d_rm_dr1_22) rfl rfl k_) ?_
  show own_G _ _ _ _ (T_9.setTop (mkF m 23 #[.val (.ref a), .val (.long id), .second, .val (.ref ps), .val (.ref ms), .val (.long j), .second, .val (.int ch)] [(.ref a)]))
  refine own_G.go (fun t_ k_ => XS.aload X_9.here hx rfl (hb hby d_rm_dr1_23) rfl rfl k_) ?_
  show own_G _ _ _ _ (T_9.setTop (mkF m 25 #[.val (.ref a), .val (.long id), .second, .val (.ref ps), .val (.ref ms), .val (.long j), .second, .val (.int ch)] [(.ref ms), (.ref a)]))
  have F_mediaType'_10 : Fld Z h_9 a "com/example/gristmill/gristmill/documents/DocumentRecord" "mediaType" "Ljava/lang/String;" .null := (((F_mediaType.other W_2 (Or.inr (slot_ne (C := "com/example/gristmill/gristmill/documents/DocumentRecord") (Or.inr (own_w hw 50 rfl)) (Or.inr (own_w hw 38 rfl)) (by decide) (by decide : parseFieldDescriptor "Ljava/lang/String;" = some (.object "java/lang/String")) (by decide : parseFieldDescriptor "J" = some .long)))).ext E_3).other W_9 (Or.inr (slot_ne (C := "com/example/gristmill/gristmill/documents/DocumentRecord") (Or.inr (own_w hw 50 rfl)) (Or.inr (own_w hw 48 rfl)) (by decide) (by decide : parseFieldDescriptor "Ljava/lang/String;" = some (.object "java/lang/String")) (by decide : parseFieldDescriptor "Ljava/lang/String;" = some (.object "java/lang/String")))))
  have E0'_11 : Exa Z h_9 a "com/example/gristmill/gristmill/documents/DocumentRecord" := (E0'_8.wr W_9)
  obtain ⟨T_12, h_12, X_12, e_12, W_12, st_12⟩ := putF X_9 hx hZ_3 hown_3 (host := "") (Or.inl (own_w hw 49 rfl)) Via.refl e_9 F_mediaType'_10 E0'_11 (Or.inr ⟨(own_w hw 50 rfl), rfl, hnm⟩) (own_w hw 31 rfl) (ty := (.object "java/lang/String")) (by decide) rfl rfl (g := (mkF m 25 #[.val (.ref a), .val (.long id), .second, .val (.ref ps), .val (.ref ms), .val (.long j), .second, .val (.int ch)] [(.ref ms), (.ref a)])) rfl rfl (hb hby d_rm_dr1_25)
  refine own_G.go st_12 ?_
  have F_12 : Fld Z h_12 a "com/example/gristmill/gristmill/documents/DocumentRecord" "mediaType" "Ljava/lang/String;" (.ref ms) := F_mediaType'_10.same W_12
  have N_12 := Fr.snoc X_12 N_9 g0
  show own_G _ _ _ _ (T_12.setTop (mkF m 28 #[.val (.ref a), .val (.long id), .second, .val (.ref ps), .val (.ref ms), .val (.long j), .second, .val (.int ch)] []))
  refine own_G.go (fun t_ k_ => XS.aloadN X_12.here hx rfl (hb hby d_rm_dr1_28) rfl rfl k_) ?_
  show own_G _ _ _ _ (T_12.setTop (mkF m 29 #[.val (.ref a), .val (.long id), .second, .val (.ref ps), .val (.ref ms), .val (.long j), .second, .val (.int ch)] [(.ref a)]))
  refine own_G.go (fun t_ k_ => XS.lload X_12.here hx rfl (hb hby d_rm_dr1_29) rfl k_) ?_
  show own_G _ _ _ _ (T_12.setTop (mkF m 31 #[.val (.ref a), .val (.long id), .second, .val (.ref ps), .val (.ref ms), .val (.long j), .second, .val (.int ch)] [(.long j), (.ref a)]))
  have F_jobId'_13 : Fld Z h_12 a "com/example/gristmill/gristmill/documents/DocumentRecord" "jobId" "J" (.long (0 : Int64)) := ((((F_jobId.other W_2 (Or.inr (slot_ne (C := "com/example/gristmill/gristmill/documents/DocumentRecord") (Or.inr (own_w hw 52 rfl)) (Or.inr (own_w hw 38 rfl)) (by decide) (by decide : parseFieldDescriptor "J" = some .long) (by decide : parseFieldDescriptor "J" = some .long)))).ext E_3).other W_9 (Or.inr (slot_ne (C := "com/example/gristmill/gristmill/documents/DocumentRecord") (Or.inr (own_w hw 52 rfl)) (Or.inr (own_w hw 48 rfl)) (by decide) (by decide : parseFieldDescriptor "J" = some .long) (by decide : parseFieldDescriptor "Ljava/lang/String;" = some (.object "java/lang/String"))))).other W_12 (Or.inr (slot_ne (C := "com/example/gristmill/gristmill/documents/DocumentRecord") (Or.inr (own_w hw 52 rfl)) (Or.inr (own_w hw 50 rfl)) (by decide) (by decide : parseFieldDescriptor "J" = some .long) (by decide : parseFieldDescriptor "Ljava/lang/String;" = some (.object "java/lang/String")))))
  have E0'_14 : Exa Z h_12 a "com/example/gristmill/gristmill/documents/DocumentRecord" := (E0'_11.wr W_12)
  obtain ⟨T_15, h_15, X_15, e_15, W_15, st_15⟩ := putF X_12 hx hZ_3 hown_3 (host := "") (Or.inl (own_w hw 51 rfl)) Via.refl e_12 F_jobId'_13 E0'_14 (Or.inr ⟨(own_w hw 52 rfl), rfl, hnm⟩) (own_w hw 31 rfl) (ty := .long) (by decide) rfl rfl (g := (mkF m 31 #[.val (.ref a), .val (.long id), .second, .val (.ref ps), .val (.ref ms), .val (.long j), .second, .val (.int ch)] [(.long j), (.ref a)])) rfl rfl (hb hby d_rm_dr1_31)
  refine own_G.go st_15 ?_
  have F_15 : Fld Z h_15 a "com/example/gristmill/gristmill/documents/DocumentRecord" "jobId" "J" (.long j) := F_jobId'_13.same W_15
  have N_15 := Fr.snoc X_15 N_12 g0
  show own_G _ _ _ _ (T_15.setTop (mkF m 34 #[.val (.ref a), .val (.long id), .second, .val (.ref ps), .val (.ref ms), .val (.long j), .second, .val (.int ch)] []))
  refine own_G.go (fun t_ k_ => XS.aloadN X_15.here hx rfl (hb hby d_rm_dr1_34) rfl rfl k_) ?_
  show own_G _ _ _ _ (T_15.setTop (mkF m 35 #[.val (.ref a), .val (.long id), .second, .val (.ref ps), .val (.ref ms), .val (.long j), .second, .val (.int ch)] [(.ref a)]))
  refine own_G.go (fun t_ k_ => XS.iload X_15.here hx rfl (hb hby d_rm_dr1_35) rfl k_) ?_
  show own_G _ _ _ _ (T_15.setTop (mkF m 37 #[.val (.ref a), .val (.long id), .second, .val (.ref ps), .val (.ref ms), .val (.long j), .second, .val (.int ch)] [(.int ch), (.ref a)]))
  have F_characters'_16 : Fld Z h_15 a "com/example/gristmill/gristmill/documents/DocumentRecord" "characters" "I" (.int (0 : Int32)) := (((((F_characters.other W_2 (Or.inr (slot_ne (C := "com/example/gristmill/gristmill/documents/DocumentRecord") (Or.inr (own_w hw 54 rfl)) (Or.inr (own_w hw 38 rfl)) (by decide) (by decide : parseFieldDescriptor "I" = some .int) (by decide : parseFieldDescriptor "J" = some .long)))).ext E_3).other W_9 (Or.inr (slot_ne (C := "com/example/gristmill/gristmill/documents/DocumentRecord") (Or.inr (own_w hw 54 rfl)) (Or.inr (own_w hw 48 rfl)) (by decide) (by decide : parseFieldDescriptor "I" = some .int) (by decide : parseFieldDescriptor "Ljava/lang/String;" = some (.object "java/lang/String"))))).other W_12 (Or.inr (slot_ne (C := "com/example/gristmill/gristmill/documents/DocumentRecord") (Or.inr (own_w hw 54 rfl)) (Or.inr (own_w hw 50 rfl)) (by decide) (by decide : parseFieldDescriptor "I" = some .int) (by decide : parseFieldDescriptor "Ljava/lang/String;" = some (.object "java/lang/String"))))).other W_15 (Or.inr (slot_ne (C := "com/example/gristmill/gristmill/documents/DocumentRecord") (Or.inr (own_w hw 54 rfl)) (Or.inr (own_w hw 52 rfl)) (by decide) (by decide : parseFieldDescriptor "I" = some .int) (by decide : parseFieldDescriptor "J" = some .long))))
  have E0'_17 : Exa Z h_15 a "com/example/gristmill/gristmill/documents/DocumentRecord" := (E0'_14.wr W_15)
  obtain ⟨T_18, h_18, X_18, e_18, W_18, st_18⟩ := putF X_15 hx hZ_3 hown_3 (host := "") (Or.inl (own_w hw 53 rfl)) Via.refl e_15 F_characters'_16 E0'_17 (Or.inr ⟨(own_w hw 54 rfl), rfl, hnm⟩) (own_w hw 31 rfl) (ty := .int) (by decide) rfl rfl (g := (mkF m 37 #[.val (.ref a), .val (.long id), .second, .val (.ref ps), .val (.ref ms), .val (.long j), .second, .val (.int ch)] [(.int ch), (.ref a)])) rfl rfl (hb hby d_rm_dr1_37)
  refine own_G.go st_18 ?_
  have F_18 : Fld Z h_18 a "com/example/gristmill/gristmill/documents/DocumentRecord" "characters" "I" (.int ch) := F_characters'_16.same W_18
  have N_18 := Fr.snoc X_18 N_15 g0
  show own_G _ _ _ _ (T_18.setTop (mkF m 40 #[.val (.ref a), .val (.long id), .second, .val (.ref ps), .val (.ref ms), .val (.long j), .second, .val (.int ch)] []))
  have E0'_19 : Exa Z h_18 a "com/example/gristmill/gristmill/documents/DocumentRecord" := (E0'_17.wr W_18)
  have F_15'_20 : Fld Z h_18 a "com/example/gristmill/gristmill/documents/DocumentRecord" "jobId" "J" (.long j) := (F_15.other W_18 (Or.inr (slot_ne (C := "com/example/gristmill/gristmill/documents/DocumentRecord") (Or.inr (own_w hw 52 rfl)) (Or.inr (own_w hw 54 rfl)) (by decide) (by decide : parseFieldDescriptor "J" = some .long) (by decide : parseFieldDescriptor "I" = some .int))))
  exact own_G.endW X_18 hS_3 (Nat.le_trans hk_3 (Nat.le_trans (Nat.le_trans (Nat.le_trans (Keep.of_wr W_9).1 (Keep.of_wr W_12).1) (Keep.of_wr W_15).1) (Keep.of_wr W_18).1)) hlk (v := none) (fun _ => rfl) (fun fs hr => X_18.returnOut hx hrt (hb hby d_rm_dr1_40) hr) e_18 ⟨rfl, N_18, (((((((Keep.refl h0 [a]).wr W_2 (Or.inl (List.mem_of_getElem? (i := 0) rfl))).ext E_3).wr W_9 (Or.inl (List.mem_of_getElem? (i := 0) rfl))).wr W_12 (Or.inl (List.mem_of_getElem? (i := 0) rfl))).wr W_15 (Or.inl (List.mem_of_getElem? (i := 0) rfl))).wr W_18 (Or.inl (List.mem_of_getElem? (i := 0) rfl))), E0'_19, F_15'_20⟩ (by decide) (by decide)
theorem pn_4 : plainName "java/lang/StringLatin1" = true := by first | (simp [plainName, overriddenIn]; done) | decide +kernel
theorem d_rm_can_0 : decode jdk_43_method_3_code 0 = .ok (.iload_n 0, 1) := by decide +kernel
theorem d_rm_can_1 : decode jdk_43_method_3_code 1 = .ok (.sipush 255, 3) := by decide +kernel
theorem d_rm_can_4 : decode jdk_43_method_3_code 4 = .ok (.if_icmp .gt 7, 3) := by decide +kernel
theorem d_rm_can_7 : decode jdk_43_method_3_code 7 = .ok (.iconst 1, 1) := by decide +kernel
theorem d_rm_can_8 : decode jdk_43_method_3_code 8 = .ok (.goto 4, 3) := by decide +kernel
theorem d_rm_can_12 : decode jdk_43_method_3_code 12 = .ok (.ireturn, 1) := by decide +kernel
set_option maxRecDepth 65536 in
set_option maxHeartbeats 40000000 in
theorem rm_can (l : Launch) (Z : State) (a0 : Array Value) (hw : ∀ d ∈ tables_1, d.before a0 Z = true) (ws : List Jvm.Cond) (ch : Int32) (h0 : Heap) (n0 : Nat) (Z0 : n0 ≤ h0.size) (hch : ¬ (255 : Int32) < ch) :
    MetFree l (⟨"java/lang/StringLatin1", "canEncode", "(C)Z"⟩ : MethodName) (head1 (Jvm.Cond.code (⟨"java/lang/StringLatin1", "canEncode", "(C)Z"⟩ : MethodName) jdk_43_method_3_code 1 (some .boolean) :: ws) ({ frames := 0, cells := 0, slots := 0, locals := 0 } : Room)) (fun a_ U => a_ = #[(.int ch)] ∧ Z.Warmed39 U.vm ∧ U.heap = h0) (fun _ _ _ _ _ => True) (fun _ U o U' => ∃ v L, o = .returned v ∧ Qp (.int (1 : Int32)) h0 v U'.heap L ∧ FrameEnd U o U' L ({ frames := 0, cells := 0, slots := 0, locals := 0 } : Room).cells ({ frames := 0, cells := 0, slots := 0, locals := 0 } : Room).slots) := by
  refine MetFree.of_bodySF (plainFor_of_name pn_4) hisR ?_
  intro p e s m args below meth c s₁ Bd hml0 hP hK
  obtain ⟨rfl, hZ, hh⟩ := hP
  have hx := Bd.exec
  have hby := Bd.bytes
  have hrt := Bd.returns
  have hlk : meth.locks = false := Bd.notSynchronized
  have hml : c.maxLocals = 1 := hml0
  have hown : s.vm.findClass "java/lang/StringLatin1" = some m.cls := findClass_of_methodNamed Bd.named
  have hnm := (name_of_methodNamed Bd.named Bd.method).1
  have X0 : Stand p l e ({ frames := 0, cells := 0, slots := 0, locals := 0 } : Room) s m #[(.int ch)] below meth c s₁ [] 0 0 := Stand.of_body Bd
  have e0 : s₁.heap = h0 := by rw [← hh, Bd.state]; rfl
  have N0 := Fr.nil n0
  show own_G p.tables e below (fun o t => ∃ v L, o = .returned v ∧ Qp (.int (1 : Int32)) h0 v t.heap L ∧ FrameEnd s o t L ({ frames := 0, cells := 0, slots := 0, locals := 0 } : Room).cells ({ frames := 0, cells := 0, slots := 0, locals := 0 } : Room).slots) (s₁.setTop (entryFrame m #[(.int ch)] 1))
  refine own_G.cast (show entryFrame m #[(.int ch)] 1 = mkF m 0 #[.val (.int ch)] [] from by first | (simp [entryFrame, mkF, argsToLocals, Value.category]; done) | rfl) ?_
  refine own_G.go (fun t_ k_ => XS.iloadN X0.here hx rfl (hb hby d_rm_can_0) rfl k_) ?_
  show own_G _ _ _ _ (s₁.setTop (mkF m 1 #[.val (.int ch)] [(.int ch)]))
  refine own_G.go (fun t_ k_ => XS.sipush X0.here hx rfl (hb hby d_rm_can_1) k_) ?_
  show own_G _ _ _ _ (s₁.setTop (mkF m 4 #[.val (.int ch)] [(.int (255 : Int32)), (.int ch)]))
  refine own_G.go (fun t_ k_ => XS.icmpNo X0.here hx rfl (hb hby d_rm_can_4) rfl (flt (hch : ¬ (255 : Int32) < ch)).2.2.1 k_) ?_
  show own_G _ _ _ _ (s₁.setTop (mkF m 7 #[.val (.int ch)] []))
  refine own_G.go (fun t_ k_ => XS.iconst X0.here hx rfl (hb hby d_rm_can_7) k_) ?_
  show own_G _ _ _ _ (s₁.setTop (mkF m 8 #[.val (.int ch)] [(.int (1 : Int32))]))
  refine own_G.go (fun t_ k_ => XS.goto X0.here hx rfl (pc0 := 8) (pc' := 12) rfl (hb hby d_rm_can_8) (by decide) (by decide) k_) ?_
  show own_G _ _ _ _ (s₁.setTop (mkF m 12 #[.val (.int ch)] [(.int (1 : Int32))]))
  exact own_G.end_ X0 hlk (v := (some (.int (1 : Int32)))) (fun h => by rw [hrt] at h; cases h) (fun fs hr => retN X0 hx (z := (1 : Int32)) (t := .boolean) hrt (by simp) (hb hby d_rm_can_12) hr) e0 ⟨rfl, rfl, rfl⟩ (by decide) (by decide)
def Qtob (Z : State) (h0 : Heap) (n0 : Nat) (v : Option Value) (h : Heap) (L : List Loc) : Prop := ∃ r : Addr, v = some (.ref r) ∧ Fr n0 L ∧ Keep h0 h [] ∧ h0.size ≤ r ∧ r < h.size
theorem d_rm_tob_0 : decode jdk_43_method_46_code 0 = .ok (.iconst 1, 1) := by decide +kernel
theorem d_rm_tob_1 : decode jdk_43_method_46_code 1 = .ok (.newarray .byte, 2) := by decide +kernel
theorem d_rm_tob_3 : decode jdk_43_method_46_code 3 = .ok (.dup, 1) := by decide +kernel
theorem d_rm_tob_4 : decode jdk_43_method_46_code 4 = .ok (.iconst 0, 1) := by decide +kernel
theorem d_rm_tob_5 : decode jdk_43_method_46_code 5 = .ok (.iload_n 0, 1) := by decide +kernel
theorem d_rm_tob_6 : decode jdk_43_method_46_code 6 = .ok (.i2b, 1) := by decide +kernel
theorem d_rm_tob_7 : decode jdk_43_method_46_code 7 = .ok (.bastore, 1) := by decide +kernel
theorem d_rm_tob_8 : decode jdk_43_method_46_code 8 = .ok (.areturn, 1) := by decide +kernel
set_option maxRecDepth 65536 in
set_option maxHeartbeats 40000000 in
theorem rm_tob (l : Launch) (Z : State) (a0 : Array Value) (hw : ∀ d ∈ tables_1, d.before a0 Z = true) (ws : List Jvm.Cond) (ch : Int32) (h0 : Heap) (n0 : Nat) (Z0 : n0 ≤ h0.size)  :
    MetFree l (⟨"java/lang/StringLatin1", "toBytes", "(C)[B"⟩ : MethodName) (head1 (Jvm.Cond.code (⟨"java/lang/StringLatin1", "toBytes", "(C)[B"⟩ : MethodName) jdk_43_method_46_code 1 (some (.array .byte)) :: ws) ({ frames := 0, cells := 1, slots := 1, locals := 0 } : Room)) (fun a_ U => a_ = #[(.int ch)] ∧ Z.Warmed39 U.vm ∧ U.heap = h0) (fun _ _ _ _ _ => True) (fun _ U o U' => ∃ v L, o = .returned v ∧ Qtob Z h0 n0 v U'.heap L ∧ FrameEnd U o U' L ({ frames := 0, cells := 1, slots := 1, locals := 0 } : Room).cells ({ frames := 0, cells := 1, slots := 1, locals := 0 } : Room).slots) := by
  refine MetFree.of_bodySF (plainFor_of_name pn_4) hisR ?_
  intro p e s m args below meth c s₁ Bd hml0 hP hK
  obtain ⟨rfl, hZ, hh⟩ := hP
  have hx := Bd.exec
  have hby := Bd.bytes
  have hrt := Bd.returns
  have hlk : meth.locks = false := Bd.notSynchronized
  have hml : c.maxLocals = 1 := hml0
  have hown : s.vm.findClass "java/lang/StringLatin1" = some m.cls := findClass_of_methodNamed Bd.named
  have hnm := (name_of_methodNamed Bd.named Bd.method).1
  have X0 : Stand p l e ({ frames := 0, cells := 1, slots := 1, locals := 0 } : Room) s m #[(.int ch)] below meth c s₁ [] 0 0 := Stand.of_body Bd
  have e0 : s₁.heap = h0 := by rw [← hh, Bd.state]; rfl
  have N0 := Fr.nil n0
  show own_G p.tables e below (fun o t => ∃ v L, o = .returned v ∧ Qtob Z h0 n0 v t.heap L ∧ FrameEnd s o t L ({ frames := 0, cells := 1, slots := 1, locals := 0 } : Room).cells ({ frames := 0, cells := 1, slots := 1, locals := 0 } : Room).slots) (s₁.setTop (entryFrame m #[(.int ch)] 1))
  refine own_G.cast (show entryFrame m #[(.int ch)] 1 = mkF m 0 #[.val (.int ch)] [] from by first | (simp [entryFrame, mkF, argsToLocals, Value.category]; done) | rfl) ?_
  refine own_G.go (fun t_ k_ => XS.iconst X0.here hx rfl (hb hby d_rm_tob_0) k_) ?_
  show own_G _ _ _ _ (s₁.setTop (mkF m 1 #[.val (.int ch)] [(.int (1 : Int32))]))
  obtain ⟨T_1, h_1, k_1, X_1, e_1, E_1, A_1, st_1⟩ := newP X0 hx hZ (own_w hw 19 rfl) e0 (g := (mkF m 1 #[.val (.int ch)] [(.int (1 : Int32))])) rfl (hb hby d_rm_tob_1) rfl (by decide : ¬ ((1 : Int32) < (0 : Int32))) (cap := 1) (by decide : ((1 : Int32)).toNatClampNeg ≤ 1) (by decide) (by decide) (by decide)
  obtain ⟨a_1, g_1⟩ : ∃ z, z = h0.size := ⟨_, rfl⟩
  rw [← g_1] at A_1 st_1
  refine own_G.go st_1 ?_
  have V_1 : Arv Z h_1 a_1 k_1 .byte (1 : Int32) ([(.int (0 : Int32))] : List Value) (.int (0 : Int32)) := (Arv.new A_1 (by decide : ¬ ((1 : Int32) < (0 : Int32)))).pad (pad_rep [] (.int (0 : Int32)) 1)
  show own_G _ _ _ _ (T_1.setTop (mkF m 3 #[.val (.int ch)] [(.ref a_1)]))
  refine own_G.go (fun t_ k_ => XS.dup X_1.here hx rfl (hb hby d_rm_tob_3) rfl rfl k_) ?_
  show own_G _ _ _ _ (T_1.setTop (mkF m 4 #[.val (.int ch)] [(.ref a_1), (.ref a_1)]))
  refine own_G.go (fun t_ k_ => XS.iconst X_1.here hx rfl (hb hby d_rm_tob_4) k_) ?_
  show own_G _ _ _ _ (T_1.setTop (mkF m 5 #[.val (.int ch)] [(.int (0 : Int32)), (.ref a_1), (.ref a_1)]))
  refine own_G.go (fun t_ k_ => XS.iloadN X_1.here hx rfl (hb hby d_rm_tob_5) rfl k_) ?_
  show own_G _ _ _ _ (T_1.setTop (mkF m 6 #[.val (.int ch)] [(.int ch), (.int (0 : Int32)), (.ref a_1), (.ref a_1)]))
  refine own_G.go (fun t_ k_ => XS.i2b X_1.here hx rfl (hb hby d_rm_tob_6) rfl k_) ?_
  show own_G _ _ _ _ (T_1.setTop (mkF m 7 #[.val (.int ch)] [(.int (ch).toInt8.toInt32), (.int (0 : Int32)), (.ref a_1), (.ref a_1)]))
  obtain ⟨T_2, h_2, X_2, e_2, W_2, V_2, st_2⟩ := own_stB X_1 hx hZ e_1 V_1 (j := (0 : Int32)) 0 (Nat.le_of_ble_eq_true rfl) (by decide) (by decide : ¬ ((0 : Int32) < (0 : Int32)) ∧ (0 : Int32) < (1 : Int32)) (g := (mkF m 7 #[.val (.int ch)] [(.int (ch).toInt8.toInt32), (.int (0 : Int32)), (.ref a_1), (.ref a_1)])) rfl rfl (hb hby d_rm_tob_7)
  refine own_G.go st_2 ?_
  have V_2q : Arv Z h_2 a_1 k_1 .byte (1 : Int32) ([(.int (nar .byte (ch).toInt8.toInt32))] : List Value) (.int (0 : Int32)) := V_2
  have g0_a_1 : n0 ≤ a_1 := Nat.le_trans Z0 (Nat.le_of_eq g_1.symm)
  have N_2 := Fr.snoc X_2 N0 g0_a_1
  show own_G _ _ _ _ (T_2.setTop (mkF m 8 #[.val (.int ch)] [(.ref a_1)]))
  exact own_G.end_ X_2 hlk (v := (some (.ref a_1))) (fun h => by rw [hrt] at h; cases h) (fun fs hr => retOut X_2 hx hrt rfl (Or.inr (Or.inr (Or.inr (Or.inr ⟨rfl, rfl, rfl⟩)))) (hb hby d_rm_tob_8) hr) e_2 ⟨a_1, rfl, N_2, (((Keep.refl h0 []).ext E_1).wr W_2 (Or.inr (Nat.le_of_eq g_1.symm))), (Nat.le_of_eq g_1.symm), V_2q.lt⟩ (by decide) (by decide)
def Qstr (Z : State) (a : Addr) (h0 : Heap) (n0 : Nat) (v : Option Value) (h : Heap) (L : List Loc) : Prop := v = none ∧ Fr n0 L ∧ Keep h0 h [a] ∧ Exa Z h a "java/lang/String"
theorem pn_5 : plainName "java/lang/String" = true := by first | (simp [plainName, overriddenIn]; done) | decide +kernel
theorem d_rm_sbb_0 : decode jdk_42_method_151_code 0 = .ok (.aload_n 0, 1) := by decide +kernel
theorem d_rm_sbb_1 : decode jdk_42_method_151_code 1 = .ok (.invokespecial 1, 3) := by decide +kernel
theorem d_rm_sbb_4 : decode jdk_42_method_151_code 4 = .ok (.aload_n 0, 1) := by decide +kernel
theorem d_rm_sbb_5 : decode jdk_42_method_151_code 5 = .ok (.aload_n 1, 1) := by decide +kernel
theorem d_rm_sbb_6 : decode jdk_42_method_151_code 6 = .ok (.putfield 9, 3) := by decide +kernel
theorem d_rm_sbb_9 : decode jdk_42_method_151_code 9 = .ok (.aload_n 0, 1) := by decide +kernel
theorem d_rm_sbb_10 : decode jdk_42_method_151_code 10 = .ok (.iload_n 2, 1) := by decide +kernel
theorem d_rm_sbb_11 : decode jdk_42_method_151_code 11 = .ok (.putfield 15, 3) := by decide +kernel
theorem d_rm_sbb_14 : decode jdk_42_method_151_code 14 = .ok (.return_, 1) := by decide +kernel
set_option maxRecDepth 65536 in
set_option maxHeartbeats 40000000 in
theorem rm_sbb (l : Launch) (Z : State) (a0 : Array Value) (hw : ∀ d ∈ tables_1, d.before a0 Z = true) (ws : List Jvm.Cond) (a b : Addr) (z : Int32) (h0 : Heap) (n0 : Nat) (Z0 : n0 ≤ h0.size) (g0 : n0 ≤ a) (E0 : Exa Z h0 a "java/lang/String") (F1 : Fld Z h0 a "java/lang/String" "value" "[B" .null) (F2 : Fld Z h0 a "java/lang/String" "coder" "B" (.int (0 : Int32))) :
    MetFree l (⟨"java/lang/String", "<init>", "([BB)V"⟩ : MethodName) (head1 (Jvm.Cond.code (⟨"java/lang/String", "<init>", "([BB)V"⟩ : MethodName) jdk_42_method_151_code 3 none :: ws) ({ frames := 1, cells := 0, slots := 0, locals := 12 } : Room)) (fun a_ U => a_ = #[(.ref a), (.ref b), (.int z)] ∧ Z.Warmed39 U.vm ∧ U.heap = h0) (fun _ _ _ _ _ => True) (fun _ U o U' => ∃ v L, o = .returned v ∧ Qstr Z a h0 n0 v U'.heap L ∧ FrameEnd U o U' L ({ frames := 1, cells := 0, slots := 0, locals := 12 } : Room).cells ({ frames := 1, cells := 0, slots := 0, locals := 12 } : Room).slots) := by
  refine MetFree.of_bodySF (plainFor_of_name pn_5) hisR ?_
  intro p e s m args below meth c s₁ Bd hml0 hP hK
  obtain ⟨rfl, hZ, hh⟩ := hP
  have hx := Bd.exec
  have hby := Bd.bytes
  have hrt := Bd.returns
  have hlk : meth.locks = false := Bd.notSynchronized
  have hml : c.maxLocals = 3 := hml0
  have hown : s.vm.findClass "java/lang/String" = some m.cls := findClass_of_methodNamed Bd.named
  have hnm := (name_of_methodNamed Bd.named Bd.method).1
  have X0 : Stand p l e ({ frames := 1, cells := 0, slots := 0, locals := 12 } : Room) s m #[(.ref a), (.ref b), (.int z)] below meth c s₁ [] 0 0 := Stand.of_body Bd
  have e0 : s₁.heap = h0 := by rw [← hh, Bd.state]; rfl
  have N0 := Fr.nil n0
  show own_G p.tables e below (fun o t => ∃ v L, o = .returned v ∧ Qstr Z a h0 n0 v t.heap L ∧ FrameEnd s o t L ({ frames := 1, cells := 0, slots := 0, locals := 12 } : Room).cells ({ frames := 1, cells := 0, slots := 0, locals := 12 } : Room).slots) (s₁.setTop (entryFrame m #[(.ref a), (.ref b), (.int z)] 3))
  refine own_G.cast (show entryFrame m #[(.ref a), (.ref b), (.int z)] 3 = mkF m 0 #[.val (.ref a), .val (.ref b), .val (.int z)] [] from by first | (simp [entryFrame, mkF, argsToLocals, Value.category]; done) | rfl) ?_
  refine own_G.go (fun t_ k_ => XS.aloadN X0.here hx rfl (hb hby d_rm_sbb_0) rfl rfl k_) ?_
  show own_G _ _ _ _ (s₁.setTop (mkF m 1 #[.val (.ref a), .val (.ref b), .val (.int z)] [(.ref a)]))
  obtain ⟨T_1, X_1, e_1, st_1⟩ := initO X0 hx hZ hown (own_w hw 11 rfl) (own_w hw 12 rfl) (own_w hw 13 rfl) e0 (g := (mkF m 1 #[.val (.ref a), .val (.ref b), .val (.int z)] [(.ref a)])) rfl (by rw [hml]; rfl) rfl (hb hby d_rm_sbb_1) (by decide) (W := 0) (by show 2 * 0 + _ ≤ _; exact Nat.le_of_eq rfl) (by decide)
  refine own_G.go st_1 ?_
  show own_G _ _ _ _ (T_1.setTop (mkF m 4 #[.val (.ref a), .val (.ref b), .val (.int z)] []))
  refine own_G.go (fun t_ k_ => XS.aloadN X_1.here hx rfl (hb hby d_rm_sbb_4) rfl rfl k_) ?_
  show own_G _ _ _ _ (T_1.setTop (mkF m 5 #[.val (.ref a), .val (.ref b), .val (.int z)] [(.ref a)]))
  refine own_G.go (fun t_ k_ => XS.aloadN X_1.here hx rfl (hb hby d_rm_sbb_5) rfl rfl k_) ?_
  show own_G _ _ _ _ (T_1.setTop (mkF m 6 #[.val (.ref a), .val (.ref b), .val (.int z)] [(.ref b), (.ref a)]))
  obtain ⟨T_2, h_2, X_2, e_2, W_2, st_2⟩ := putF X_1 hx hZ hown (host := "") (Or.inl (own_w hw 28 rfl)) Via.refl e_1 F1 E0 (Or.inr ⟨(own_w hw 29 rfl), rfl, hnm⟩) (own_w hw 2 rfl) (ty := (.array .byte)) (by decide) rfl rfl (g := (mkF m 6 #[.val (.ref a), .val (.ref b), .val (.int z)] [(.ref b), (.ref a)])) rfl rfl (hb hby d_rm_sbb_6)
  refine own_G.go st_2 ?_
  have F_2 : Fld Z h_2 a "java/lang/String" "value" "[B" (.ref b) := F1.same W_2
  have N_2 := Fr.snoc X_2 N0 g0
  show own_G _ _ _ _ (T_2.setTop (mkF m 9 #[.val (.ref a), .val (.ref b), .val (.int z)] []))
  refine own_G.go (fun t_ k_ => XS.aloadN X_2.here hx rfl (hb hby d_rm_sbb_9) rfl rfl k_) ?_
  show own_G _ _ _ _ (T_2.setTop (mkF m 10 #[.val (.ref a), .val (.ref b), .val (.int z)] [(.ref a)]))
  refine own_G.go (fun t_ k_ => XS.iloadN X_2.here hx rfl (hb hby d_rm_sbb_10) rfl k_) ?_
  show own_G _ _ _ _ (T_2.setTop (mkF m 11 #[.val (.ref a), .val (.ref b), .val (.int z)] [(.int z), (.ref a)]))
  have F2'_3 : Fld Z h_2 a "java/lang/String" "coder" "B" (.int (0 : Int32)) := (F2.other W_2 (Or.inr (slot_ne (C := "java/lang/String") (Or.inr (own_w hw 27 rfl)) (Or.inr (own_w hw 29 rfl)) (by decide) (by decide : parseFieldDescriptor "B" = some .byte) (by decide : parseFieldDescriptor "[B" = some (.array .byte)))))
  have E0'_4 : Exa Z h_2 a "java/lang/String" := (E0.wr W_2)
  obtain ⟨T_5, h_5, X_5, e_5, W_5, st_5⟩ := putFN X_2 hx hZ hown (own_w hw 26 rfl) Via.refl e_2 F2'_3 E0'_4 (Or.inr ⟨(own_w hw 27 rfl), rfl, hnm⟩) (own_w hw 2 rfl) (ty := .byte) (v' := (.int (nar .byte z))) (by decide) rfl (fits_nar_byte _) (g := (mkF m 11 #[.val (.ref a), .val (.ref b), .val (.int z)] [(.int z), (.ref a)])) rfl rfl (hb hby d_rm_sbb_11)
  refine own_G.go st_5 ?_
  have F_5 : Fld Z h_5 a "java/lang/String" "coder" "B" (.int (nar .byte z)) := F2'_3.same W_5
  have N_5 := Fr.snoc X_5 N_2 g0
  show own_G _ _ _ _ (T_5.setTop (mkF m 14 #[.val (.ref a), .val (.ref b), .val (.int z)] []))
  have E0'_6 : Exa Z h_5 a "java/lang/String" := (E0'_4.wr W_5)
  exact own_G.end_ X_5 hlk (v := none) (fun _ => rfl) (fun fs hr => X_5.returnOut hx hrt (hb hby d_rm_sbb_14) hr) e_5 ⟨rfl, N_5, (((Keep.refl h0 [a]).wr W_2 (Or.inl (List.mem_of_getElem? (i := 0) rfl))).wr W_5 (Or.inl (List.mem_of_getElem? (i := 0) rfl))), E0'_6⟩ (by decide) (by decide)
def Qvo (Z : State) (h0 : Heap) (n0 : Nat) (v : Option Value) (h : Heap) (L : List Loc) : Prop := ∃ r : Addr, v = some (.ref r) ∧ Fr n0 L ∧ Keep h0 h [] ∧ h0.size ≤ r ∧ Exa Z h r "java/lang/String"
theorem pd_5 : parseMethodDescriptor "(C)Z" = some ⟨[.char], some .boolean⟩ := by decide +kernel
theorem pd_6 : parseMethodDescriptor "(C)[B" = some ⟨[.char], some (.array .byte)⟩ := by decide +kernel
theorem pd_7 : parseMethodDescriptor "([BB)V" = some ⟨[(.array .byte), .byte], none⟩ := by decide +kernel
theorem d_rm_vo_0 : decode jdk_42_method_139_code 0 = .ok (.getstatic 38, 3) := by decide +kernel
theorem d_rm_vo_3 : decode jdk_42_method_139_code 3 = .ok (.ifCond .eq 23, 3) := by decide +kernel
theorem d_rm_vo_6 : decode jdk_42_method_139_code 6 = .ok (.iload_n 0, 1) := by decide +kernel
theorem d_rm_vo_7 : decode jdk_42_method_139_code 7 = .ok (.invokestatic 1015, 3) := by decide +kernel
theorem d_rm_vo_10 : decode jdk_42_method_139_code 10 = .ok (.ifCond .eq 16, 3) := by decide +kernel
theorem d_rm_vo_13 : decode jdk_42_method_139_code 13 = .ok (.new 10, 3) := by decide +kernel
theorem d_rm_vo_16 : decode jdk_42_method_139_code 16 = .ok (.dup, 1) := by decide +kernel
theorem d_rm_vo_17 : decode jdk_42_method_139_code 17 = .ok (.iload_n 0, 1) := by decide +kernel
theorem d_rm_vo_18 : decode jdk_42_method_139_code 18 = .ok (.invokestatic 1018, 3) := by decide +kernel
theorem d_rm_vo_21 : decode jdk_42_method_139_code 21 = .ok (.iconst 0, 1) := by decide +kernel
theorem d_rm_vo_22 : decode jdk_42_method_139_code 22 = .ok (.invokespecial 209, 3) := by decide +kernel
theorem d_rm_vo_25 : decode jdk_42_method_139_code 25 = .ok (.areturn, 1) := by decide +kernel
set_option maxRecDepth 65536 in
set_option maxHeartbeats 40000000 in
theorem rm_vo (l : Launch) (Z : State) (a0 : Array Value) (hw : ∀ d ∈ tables_1, d.before a0 Z = true) (ws : List Jvm.Cond) (ch : Int32) (zc : Int32) (h0 : Heap) (n0 : Nat) (Z0 : n0 ≤ h0.size) (hch : ¬ (255 : Int32) < ch) (O2 : Sta Z Z.heap "java/lang/String" "COMPACT_STRINGS" "Z" (.int zc)) (P5 : ¬ (zc = (0 : Int32))) (X00 : Old Z n0 h0) :
    MetFree l (⟨"java/lang/String", "valueOf", "(C)Ljava/lang/String;"⟩ : MethodName) (head1 (Jvm.Cond.code (⟨"java/lang/String", "valueOf", "(C)Ljava/lang/String;"⟩ : MethodName) jdk_42_method_139_code 1 (some (.object "java/lang/String")) :: ws) ({ frames := 2, cells := 2, slots := 5, locals := 30 } : Room)) (fun a_ U => a_ = #[(.int ch)] ∧ Z.Warmed39 U.vm ∧ U.heap = h0) (fun _ _ _ _ _ => True) (fun _ U o U' => ∃ v L, o = .returned v ∧ Qvo Z h0 n0 v U'.heap L ∧ FrameEnd U o U' L ({ frames := 2, cells := 2, slots := 5, locals := 30 } : Room).cells ({ frames := 2, cells := 2, slots := 5, locals := 30 } : Room).slots) := by
  refine MetFree.of_bodySF (plainFor_of_name pn_5) hisR ?_
  intro p e s m args below meth c s₁ Bd hml0 hP hK
  obtain ⟨rfl, hZ, hh⟩ := hP
  have hx := Bd.exec
  have hby := Bd.bytes
  have hrt := Bd.returns
  have hlk : meth.locks = false := Bd.notSynchronized
  have hml : c.maxLocals = 1 := hml0
  have hown : s.vm.findClass "java/lang/String" = some m.cls := findClass_of_methodNamed Bd.named
  have hnm := (name_of_methodNamed Bd.named Bd.method).1
  have X0 : Stand p l e ({ frames := 2, cells := 2, slots := 5, locals := 30 } : Room) s m #[(.int ch)] below meth c s₁ [] 0 0 := Stand.of_body Bd
  have e0 : s₁.heap = h0 := by rw [← hh, Bd.state]; rfl
  have N0 := Fr.nil n0
  show own_G p.tables e below (fun o t => ∃ v L, o = .returned v ∧ Qvo Z h0 n0 v t.heap L ∧ FrameEnd s o t L ({ frames := 2, cells := 2, slots := 5, locals := 30 } : Room).cells ({ frames := 2, cells := 2, slots := 5, locals := 30 } : Room).slots) (s₁.setTop (entryFrame m #[(.int ch)] 1))
  refine own_G.cast (show entryFrame m #[(.int ch)] 1 = mkF m 0 #[.val (.int ch)] [] from by first | (simp [entryFrame, mkF, argsToLocals, Value.category]; done) | rfl) ?_
  obtain ⟨T_1, X_1, e_1, st_1⟩ := getS2 X0 hx hZ hown (host := "") (Or.inl (own_w hw 14 rfl)) Via.refl e0 (O2.ext X00.2) (g := (mkF m 0 #[.val (.int ch)] [])) rfl (hb hby d_rm_vo_0)
  refine own_G.go st_1 ?_
  show own_G _ _ _ _ (T_1.setTop (mkF m 3 #[.val (.int ch)] [(.int zc)]))
  refine own_G.go (fun t_ k_ => XS.ifNo X_1.here hx rfl (hb hby d_rm_vo_3) rfl ((if0 _ _).trans (feq (P5 : ¬ zc = (0 : Int32))).1) k_) ?_
  show own_G _ _ _ _ (T_1.setTop (mkF m 6 #[.val (.int ch)] []))
  refine own_G.go (fun t_ k_ => XS.iloadN X_1.here hx rfl (hb hby d_rm_vo_6) rfl k_) ?_
  show own_G _ _ _ _ (T_1.setTop (mkF m 7 #[.val (.int ch)] [(.int ch)]))
  obtain ⟨_, T_2, L_2, Q_2, X_2, st_2⟩ := own_callS X_1 hx hown (mvT hZ (own_w hw 88 rfl)) (mvT hZ (own_w hw 89 rfl)) (mvT hZ (own_w hw 90 rfl)) (mvT hZ (own_w hw 91 rfl)) (by decide) (Q := (Qp (.int (1 : Int32)) h0)) (backOf (W := 0) (rm_can l Z a0 hw [] ch h0 n0 Z0 hch) hZ (own_w hw 91 rfl) (own_w hw 90 rfl) (by decide) (by decide)) (g := (mkF m 7 #[.val (.int ch)] [(.int ch)])) rfl (by rw [hml]; rfl) (argsL := [(.int ch)]) (rest := []) (lenOf pd_5 rfl) rfl (by show 2 * 0 + _ ≤ _; exact Nat.le_of_eq rfl) (hb hby d_rm_vo_7) e_1 rfl (by decide) (by decide)
  obtain ⟨rfl, rfl, eh_2⟩ := Q_2
  refine own_G.via st_2 ?_
  have N_2 := Fr.app N0 (Fr.nil n0)
  show own_G _ _ _ _ (T_2.setTop (mkF m 10 #[.val (.int ch)] [(.int (1 : Int32))]))
  refine own_G.go (fun t_ k_ => XS.ifNo X_2.here hx rfl (hb hby d_rm_vo_10) rfl ((if0 _ _).trans (feq (by decide : ¬ ((1 : Int32) = (0 : Int32)))).1) k_) ?_
  show own_G _ _ _ _ (T_2.setTop (mkF m 13 #[.val (.int ch)] []))
  obtain ⟨T_3, h_3, X_3, e_3, E_3, A_3, D_3, -, st_3⟩ := newO X_2 hx hZ hown (own_w hw 92 rfl) (own_w hw 2 rfl) (own_w hw 3 rfl) eh_2 (g := (mkF m 13 #[.val (.int ch)] [])) rfl (hb hby d_rm_vo_13) (by decide) (by decide)
  obtain ⟨a_3, g_3⟩ : ∃ z, z = h0.size := ⟨_, rfl⟩
  rw [← g_3] at A_3 D_3 st_3
  refine own_G.go st_3 ?_
  have F_3_coder : Fld Z h_3 a_3 "java/lang/String" "coder" "B" (.int (0 : Int32)) := D_3 (Or.inr (own_w hw 27 rfl)) (ty := .byte) (by decide)
  have F_3_value : Fld Z h_3 a_3 "java/lang/String" "value" "[B" .null := D_3 (Or.inr (own_w hw 29 rfl)) (ty := (.array .byte)) (by decide)
  show own_G _ _ _ _ (T_3.setTop (mkF m 16 #[.val (.int ch)] [(.ref a_3)]))
  refine own_G.go (fun t_ k_ => XS.dup X_3.here hx rfl (hb hby d_rm_vo_16) rfl rfl k_) ?_
  show own_G _ _ _ _ (T_3.setTop (mkF m 17 #[.val (.int ch)] [(.ref a_3), (.ref a_3)]))
  refine own_G.go (fun t_ k_ => XS.iloadN X_3.here hx rfl (hb hby d_rm_vo_17) rfl k_) ?_
  show own_G _ _ _ _ (T_3.setTop (mkF m 18 #[.val (.int ch)] [(.int ch), (.ref a_3), (.ref a_3)]))
  obtain ⟨_, T_4, L_4, Q_4, X_4, st_4⟩ := own_callS X_3 hx hown (mvT hZ (own_w hw 93 rfl)) (mvT hZ (own_w hw 94 rfl)) (mvT hZ (own_w hw 90 rfl)) (mvT hZ (own_w hw 95 rfl)) (by decide) (Q := (Qtob Z h_3 n0)) (backOf (W := 2) (rm_tob l Z a0 hw [] ch h_3 n0 (Nat.le_trans Z0 E_3.1) ) hZ (own_w hw 95 rfl) (own_w hw 90 rfl) (by decide) (by decide)) (g := (mkF m 18 #[.val (.int ch)] [(.int ch), (.ref a_3), (.ref a_3)])) rfl (by rw [hml]; rfl) (argsL := [(.int ch)]) (rest := [(.ref a_3), (.ref a_3)]) (lenOf pd_6 rfl) rfl (by show 2 * 0 + _ ≤ _; exact Nat.le_of_eq rfl) (hb hby d_rm_vo_18) e_3 rfl (by decide) (by decide)
  obtain ⟨r_4, rfl, Nq_4, K_4, lo_4, lt_4⟩ := Q_4
  refine own_G.via st_4 ?_
  have N_4 := Fr.app N_2 Nq_4
  show own_G _ _ _ _ (T_4.setTop (mkF m 21 #[.val (.int ch)] [(.ref r_4), (.ref a_3), (.ref a_3)]))
  refine own_G.go (fun t_ k_ => XS.iconst X_4.here hx rfl (hb hby d_rm_vo_21) k_) ?_
  show own_G _ _ _ _ (T_4.setTop (mkF m 22 #[.val (.int ch)] [(.int (0 : Int32)), (.ref r_4), (.ref a_3), (.ref a_3)]))
  have A_3'_5 : Exa Z T_4.heap a_3 "java/lang/String" := (A_3.keep K_4)
  have F_3_value'_6 : Fld Z T_4.heap a_3 "java/lang/String" "value" "[B" .null := (F_3_value.keep K_4 nin0)
  have F_3_coder'_7 : Fld Z T_4.heap a_3 "java/lang/String" "coder" "B" (.int (0 : Int32)) := (F_3_coder.keep K_4 nin0)
  have g0_a_3 : n0 ≤ a_3 := Nat.le_trans Z0 (Nat.le_of_eq g_3.symm)
  obtain ⟨_, T_8, L_8, Q_8, X_8, st_8⟩ := own_callI X_4 hx rfl hown (mvT hZ (own_w hw 96 rfl)) (mvT hZ (own_w hw 97 rfl)) (mvT hZ (own_w hw 98 rfl)) (by decide) (Q := (Qstr Z a_3 T_4.heap n0)) (backOf (W := 1) (rm_sbb l Z a0 hw [] a_3 r_4 (0 : Int32) T_4.heap n0 (Nat.le_trans Z0 (Nat.le_trans E_3.1 K_4.1)) g0_a_3 A_3'_5 F_3_value'_6 F_3_coder'_7) hZ (own_w hw 98 rfl) (own_w hw 3 rfl) (by decide) (by decide)) (a := a_3) (g := (mkF m 22 #[.val (.int ch)] [(.int (0 : Int32)), (.ref r_4), (.ref a_3), (.ref a_3)])) rfl (by rw [hml]; rfl) (argsL := [(.ref r_4), (.int (0 : Int32))]) (rest := [(.ref a_3)]) (lenOf pd_7 rfl) rfl (by show 2 * 0 + _ ≤ _; exact Nat.le_of_eq rfl) (hb hby d_rm_vo_22) rfl rfl (by decide) (by decide)
  obtain ⟨rfl, Nq_8, K_8, Ex_8⟩ := Q_8
  refine own_G.via st_8 ?_
  have N_8 := Fr.app N_4 Nq_8
  show own_G _ _ _ _ (T_8.setTop (mkF m 25 #[.val (.int ch)] [(.ref a_3)]))
  exact own_G.end_ X_8 hlk (v := (some (.ref a_3))) (fun h => by rw [hrt] at h; cases h) (fun fs hr => retOut X_8 hx hrt rfl (Or.inr (Or.inr (Or.inr (Or.inr ⟨rfl, rfl, rfl⟩)))) (hb hby d_rm_vo_25) hr) rfl ⟨a_3, rfl, N_8, ((((Keep.refl h0 []).ext E_3).trans K_4 all0).trans K_8 (allS (Or.inr (Nat.le_of_eq g_3.symm)) all0)), (Nat.le_of_eq g_3.symm), Ex_8⟩ (by decide) (by decide)
def Qlaw (n0 : Nat) (v : Option Value) (h : Heap) (L : List Loc) : Prop := v = some (.int 1) ∧ Fr n0 L
theorem pn_6 : plainName "com/example/gristmill/gristmill/documents/DocumentRecordJobIdPinLaw" = true := by first | (simp [plainName, overriddenIn]; done) | decide +kernel
theorem pd_8 : parseMethodDescriptor "([C)V" = some ⟨[(.array .char)], none⟩ := by decide +kernel
theorem pd_9 : parseMethodDescriptor "(JLjava/lang/String;Ljava/lang/String;JI)V" = some ⟨[.long, (.object "java/lang/String"), (.object "java/lang/String"), .long, .int], none⟩ := by decide +kernel
theorem pd_10 : parseMethodDescriptor "()Z" = some ⟨[], some .boolean⟩ := by decide +kernel
theorem pd_11 : parseMethodDescriptor "()J" = some ⟨[], some .long⟩ := by decide +kernel
theorem pd_12 : parseMethodDescriptor "(C)Ljava/lang/String;" = some ⟨[.char], some (.object "java/lang/String")⟩ := by decide +kernel
set_option maxRecDepth 65536 in
set_option maxHeartbeats 40000000 in
theorem rm_law (l : Launch) (Z : State) (a0 : Array Value) (hw : ∀ d ∈ tables_1, d.before a0 Z = true) (ws : List Jvm.Cond) (p0 p1 : Int64) (p2 p3 p4 : Int32) (zc : Int32) (em : Addr) (h0 : Heap) (n0 : Nat) (Z0 : n0 ≤ h0.size) (O2 : Sta Z Z.heap "java/lang/String" "COMPACT_STRINGS" "Z" (.int zc)) (P5 : ¬ (zc = (0 : Int32))) (X00 : Old Z n0 h0) (OE : Sta Z Z.heap "java/util/OptionalLong" "EMPTY" "Ljava/util/OptionalLong;" (.ref em)) (EE : Exa Z Z.heap em "java/util/OptionalLong") (EP : Fld Z Z.heap em "java/util/OptionalLong" "isPresent" "Z" (.int (0 : Int32))) :
    MetFree l x (head1 (Jvm.Cond.code x code maxLocals ret :: ws) room_1) (fun a_ U => a_ = #[(.long p0), (.long p1), (.int p2), (.int p3), (.int p4)] ∧ Z.Warmed39 U.vm ∧ U.heap = h0) (fun _ _ _ _ _ => True) (fun _ U o U' => ∃ v L, o = .returned v ∧ Qlaw n0 v U'.heap L ∧ ReturnedEndW U o U' L room_1.cells room_1.slots) := by
  refine MetFree.of_bodySF (plainFor_of_name pn_6) hisR ?_
  intro p e s m args below meth c s₁ Bd hml0 hP hK
  obtain ⟨rfl, hZ, hh⟩ := hP
  have hx := Bd.exec
  have hby := Bd.bytes
  have hrt := Bd.returns
  have hlk : meth.locks = false := Bd.notSynchronized
  have hml : c.maxLocals = 14 := hml0
  have hown : s.vm.findClass "com/example/gristmill/gristmill/documents/DocumentRecordJobIdPinLaw" = some m.cls := findClass_of_methodNamed Bd.named
  have hnm := (name_of_methodNamed Bd.named Bd.method).1
  have X0 : Stand p l e room_1 (s.setVm s.vm) m #[(.long p0), (.long p1), (.int p2), (.int p3), (.int p4)] below meth c s₁ [] 0 0 := Stand.of_body Bd
  have e0 : s₁.heap = h0 := by rw [← hh, Bd.state]; rfl
  have N0 := Fr.nil n0
  have hS0 : s.Since s.vm 0 := own_since s 0
  have hstr : ∀ d ∈ Bundle.stringAtoms, d.before a0 Z = true := fun d hd => hw d ((by decide +kernel : ∀ d ∈ Bundle.stringAtoms, d ∈ tables_1) d hd)
  show own_G p.tables e below (fun o t => ∃ v L, o = .returned v ∧ Qlaw n0 v t.heap L ∧ ReturnedEndW s o t L room_1.cells room_1.slots) (s₁.setTop (entryFrame m #[(.long p0), (.long p1), (.int p2), (.int p3), (.int p4)] maxLocals))
  refine own_G.cast (show entryFrame m #[(.long p0), (.long p1), (.int p2), (.int p3), (.int p4)] maxLocals = mkF m 0 #[.val (.long p0), .second, .val (.long p1), .second, .val (.int p2), .val (.int p3), .val (.int p4), .unset, .unset, .unset, .unset, .unset, .unset, .unset] [] from by first | (simp [entryFrame, mkF, argsToLocals, Value.category, maxLocals]; done) | rfl) ?_
  have hws : ∀ d ∈ StrChars.Road.words, d.before a0 Z = true := fun d hd => hw d ((by decide +kernel : ∀ d ∈ StrChars.Road.words, d ∈ tables_1) d hd)
  have EM := EE.ext X00.2
  have EMP := EP.ext X00.2
  refine own_G.go (fun t_ k_ => XS.iload X0.here hx rfl (hb hby at_0) rfl k_) ?_
  show own_G _ _ _ _ (s₁.setTop (mkF m 2 #[.val (.long p0), .second, .val (.long p1), .second, .val (.int p2), .val (.int p3), .val (.int p4), .unset, .unset, .unset, .unset, .unset, .unset, .unset] [(.int p4)]))
  refine own_G.go (fun t_ k_ => XS.iconst X0.here hx rfl (hb hby at_2) k_) ?_
  show own_G _ _ _ _ (s₁.setTop (mkF m 3 #[.val (.long p0), .second, .val (.long p1), .second, .val (.int p2), .val (.int p3), .val (.int p4), .unset, .unset, .unset, .unset, .unset, .unset, .unset] [(.int (2 : Int32)), (.int p4)]))
  refine own_G.go (fun t_ k_ => XS.iand X0.here hx rfl (hb hby at_3) rfl k_) ?_
  show own_G _ _ _ _ (s₁.setTop (mkF m 4 #[.val (.long p0), .second, .val (.long p1), .second, .val (.int p2), .val (.int p3), .val (.int p4), .unset, .unset, .unset, .unset, .unset, .unset, .unset] [(.int (p4 &&& (2 : Int32)))]))
  by_cases hf2 : (p4 &&& (2 : Int32)) = (0 : Int32)
  · refine own_G.go (fun t_ k_ => XS.ifYes X0.here hx rfl (pc0 := 4) (pc' := 11) rfl (hb hby at_4) rfl ((if0 _ _).trans (teq hf2).1) (by decide) (by decide) k_) ?_
    show own_G _ _ _ _ (s₁.setTop (mkF m 11 #[.val (.long p0), .second, .val (.long p1), .second, .val (.int p2), .val (.int p3), .val (.int p4), .unset, .unset, .unset, .unset, .unset, .unset, .unset] []))
    refine own_G.go (fun t_ k_ => XS.lloadN X0.here hx rfl (hb hby at_11) rfl k_) ?_
    show own_G _ _ _ _ (s₁.setTop (mkF m 12 #[.val (.long p0), .second, .val (.long p1), .second, .val (.int p2), .val (.int p3), .val (.int p4), .unset, .unset, .unset, .unset, .unset, .unset, .unset] [(.long p1)]))
    refine own_G.go (fun t_ k_ => XS.lstore X0.here hx rfl (hb hby at_12) rfl (l' := #[.val (.long p0), .second, .val (.long p1), .second, .val (.int p2), .val (.int p3), .val (.int p4), .val (.long p1), .second, .unset, .unset, .unset, .unset, .unset]) rfl k_) ?_
    show own_G _ _ _ _ (s₁.setTop (mkF m 14 #[.val (.long p0), .second, .val (.long p1), .second, .val (.int p2), .val (.int p3), .val (.int p4), .val (.long p1), .second, .unset, .unset, .unset, .unset, .unset] []))
    refine own_G.go (fun t_ k_ => XS.iconst X0.here hx rfl (hb hby at_14) k_) ?_
    show own_G _ _ _ _ (s₁.setTop (mkF m 15 #[.val (.long p0), .second, .val (.long p1), .second, .val (.int p2), .val (.int p3), .val (.int p4), .val (.long p1), .second, .unset, .unset, .unset, .unset, .unset] [(.int (1 : Int32))]))
    obtain ⟨T_1, h_1, k_1, X_1, e_1, E_1, A_1, st_1⟩ := newP X0 hx hZ (own_w hw 0 rfl) e0 (g := (mkF m 15 #[.val (.long p0), .second, .val (.long p1), .second, .val (.int p2), .val (.int p3), .val (.int p4), .val (.long p1), .second, .unset, .unset, .unset, .unset, .unset] [(.int (1 : Int32))])) rfl (hb hby at_15) rfl (by decide : ¬ ((1 : Int32) < (0 : Int32))) (cap := 1) (by decide : ((1 : Int32)).toNatClampNeg ≤ 1) (by decide) (by decide) (by decide)
    obtain ⟨a_1, g_1⟩ : ∃ z, z = h0.size := ⟨_, rfl⟩
    rw [← g_1] at A_1 st_1
    refine own_G.go st_1 ?_
    have V_1 : Arv Z h_1 a_1 k_1 .char (1 : Int32) ([(.int (0 : Int32))] : List Value) (.int (0 : Int32)) := (Arv.new A_1 (by decide : ¬ ((1 : Int32) < (0 : Int32)))).pad (pad_rep [] (.int (0 : Int32)) 1)
    show own_G _ _ _ _ (T_1.setTop (mkF m 17 #[.val (.long p0), .second, .val (.long p1), .second, .val (.int p2), .val (.int p3), .val (.int p4), .val (.long p1), .second, .unset, .unset, .unset, .unset, .unset] [(.ref a_1)]))
    refine own_G.go (fun t_ k_ => XS.astore X_1.here hx rfl (hb hby at_17) rfl rfl (l' := #[.val (.long p0), .second, .val (.long p1), .second, .val (.int p2), .val (.int p3), .val (.int p4), .val (.long p1), .second, .val (.ref a_1), .unset, .unset, .unset, .unset]) rfl k_) ?_
    show own_G _ _ _ _ (T_1.setTop (mkF m 19 #[.val (.long p0), .second, .val (.long p1), .second, .val (.int p2), .val (.int p3), .val (.int p4), .val (.long p1), .second, .val (.ref a_1), .unset, .unset, .unset, .unset] []))
    refine own_G.go (fun t_ k_ => XS.aload X_1.here hx rfl (hb hby at_19) rfl rfl k_) ?_
    show own_G _ _ _ _ (T_1.setTop (mkF m 21 #[.val (.long p0), .second, .val (.long p1), .second, .val (.int p2), .val (.int p3), .val (.int p4), .val (.long p1), .second, .val (.ref a_1), .unset, .unset, .unset, .unset] [(.ref a_1)]))
    refine own_G.go (fun t_ k_ => XS.iconst X_1.here hx rfl (hb hby at_21) k_) ?_
    show own_G _ _ _ _ (T_1.setTop (mkF m 22 #[.val (.long p0), .second, .val (.long p1), .second, .val (.int p2), .val (.int p3), .val (.int p4), .val (.long p1), .second, .val (.ref a_1), .unset, .unset, .unset, .unset] [(.int (0 : Int32)), (.ref a_1)]))
    refine own_G.go (fun t_ k_ => XS.iload X_1.here hx rfl (hb hby at_22) rfl k_) ?_
    show own_G _ _ _ _ (T_1.setTop (mkF m 24 #[.val (.long p0), .second, .val (.long p1), .second, .val (.int p2), .val (.int p3), .val (.int p4), .val (.long p1), .second, .val (.ref a_1), .unset, .unset, .unset, .unset] [(.int p3), (.int (0 : Int32)), (.ref a_1)]))
    refine own_G.go (fun t_ k_ => XS.sipush X_1.here hx rfl (hb hby at_24) k_) ?_
    show own_G _ _ _ _ (T_1.setTop (mkF m 27 #[.val (.long p0), .second, .val (.long p1), .second, .val (.int p2), .val (.int p3), .val (.int p4), .val (.long p1), .second, .val (.ref a_1), .unset, .unset, .unset, .unset] [(.int (255 : Int32)), (.int p3), (.int (0 : Int32)), (.ref a_1)]))
    refine own_G.go (fun t_ k_ => XS.iand X_1.here hx rfl (hb hby at_27) rfl k_) ?_
    show own_G _ _ _ _ (T_1.setTop (mkF m 28 #[.val (.long p0), .second, .val (.long p1), .second, .val (.int p2), .val (.int p3), .val (.int p4), .val (.long p1), .second, .val (.ref a_1), .unset, .unset, .unset, .unset] [(.int (p3 &&& (255 : Int32))), (.int (0 : Int32)), (.ref a_1)]))
    refine own_G.go (fun t_ k_ => XS.i2c X_1.here hx rfl (hb hby at_28) rfl k_) ?_
    show own_G _ _ _ _ (T_1.setTop (mkF m 29 #[.val (.long p0), .second, .val (.long p1), .second, .val (.int p2), .val (.int p3), .val (.int p4), .val (.long p1), .second, .val (.ref a_1), .unset, .unset, .unset, .unset] [(.int (own_c (p3 &&& (255 : Int32)))), (.int (0 : Int32)), (.ref a_1)]))
    obtain ⟨T_2, h_2, X_2, e_2, W_2, V_2, st_2⟩ := own_stC X_1 hx hZ e_1 V_1 (j := (0 : Int32)) 0 (Nat.le_of_ble_eq_true rfl) (by decide) (by decide : ¬ ((0 : Int32) < (0 : Int32)) ∧ (0 : Int32) < (1 : Int32)) (g := (mkF m 29 #[.val (.long p0), .second, .val (.long p1), .second, .val (.int p2), .val (.int p3), .val (.int p4), .val (.long p1), .second, .val (.ref a_1), .unset, .unset, .unset, .unset] [(.int (own_c (p3 &&& (255 : Int32)))), (.int (0 : Int32)), (.ref a_1)])) rfl rfl (hb hby at_29)
    refine own_G.go st_2 ?_
    have V_2q : Arv Z h_2 a_1 k_1 .char (1 : Int32) ([(.int (nar .char (own_c (p3 &&& (255 : Int32)))))] : List Value) (.int (0 : Int32)) := V_2
    have g0_a_1 : n0 ≤ a_1 := Nat.le_trans Z0 (Nat.le_of_eq g_1.symm)
    have N_2 := Fr.snoc X_2 N0 g0_a_1
    show own_G _ _ _ _ (T_2.setTop (mkF m 30 #[.val (.long p0), .second, .val (.long p1), .second, .val (.int p2), .val (.int p3), .val (.int p4), .val (.long p1), .second, .val (.ref a_1), .unset, .unset, .unset, .unset] []))
    obtain ⟨T_3, h_3, X_3, e_3, E_3, A_3, D_3, -, st_3⟩ := newO X_2 hx hZ hown (own_w hw 1 rfl) (own_w hw 2 rfl) (own_w hw 3 rfl) e_2 (g := (mkF m 30 #[.val (.long p0), .second, .val (.long p1), .second, .val (.int p2), .val (.int p3), .val (.int p4), .val (.long p1), .second, .val (.ref a_1), .unset, .unset, .unset, .unset] [])) rfl (hb hby at_30) (by decide) (by decide)
    obtain ⟨a_3, g_3⟩ : ∃ z, z = h_2.size := ⟨_, rfl⟩
    rw [← g_3] at A_3 D_3 st_3
    refine own_G.go st_3 ?_
    have F_3_coder : Fld Z h_3 a_3 "java/lang/String" "coder" "B" (.int (0 : Int32)) := D_3 (Or.inr (own_w hw 27 rfl)) (ty := .byte) (by decide)
    have F_3_value : Fld Z h_3 a_3 "java/lang/String" "value" "[B" .null := D_3 (Or.inr (own_w hw 29 rfl)) (ty := (.array .byte)) (by decide)
    show own_G _ _ _ _ (T_3.setTop (mkF m 33 #[.val (.long p0), .second, .val (.long p1), .second, .val (.int p2), .val (.int p3), .val (.int p4), .val (.long p1), .second, .val (.ref a_1), .unset, .unset, .unset, .unset] [(.ref a_3)]))
    refine own_G.go (fun t_ k_ => XS.dup X_3.here hx rfl (hb hby at_33) rfl rfl k_) ?_
    show own_G _ _ _ _ (T_3.setTop (mkF m 34 #[.val (.long p0), .second, .val (.long p1), .second, .val (.int p2), .val (.int p3), .val (.int p4), .val (.long p1), .second, .val (.ref a_1), .unset, .unset, .unset, .unset] [(.ref a_3), (.ref a_3)]))
    refine own_G.go (fun t_ k_ => XS.aload X_3.here hx rfl (hb hby at_34) rfl rfl k_) ?_
    show own_G _ _ _ _ (T_3.setTop (mkF m 36 #[.val (.long p0), .second, .val (.long p1), .second, .val (.int p2), .val (.int p3), .val (.int p4), .val (.long p1), .second, .val (.ref a_1), .unset, .unset, .unset, .unset] [(.ref a_1), (.ref a_3), (.ref a_3)]))
    have V_2q'_4 : Arv Z h_3 a_1 k_1 .char (1 : Int32) ([(.int (nar .char (own_c (p3 &&& (255 : Int32)))))] : List Value) (.int (0 : Int32)) := (V_2q.ext E_3)
    have hp : ∀ c ∈ ([(nar .char (own_c (p3 &&& (255 : Int32))))] : List Int32), ¬ c < 0 ∧ ¬ (255 : Int32) < c := fun c hc => by rw [List.mem_singleton] at hc; subst hc; exact own_nc _
    have g0_a_3 : n0 ≤ a_3 := Nat.le_trans (Nat.le_trans Z0 (Nat.le_trans E_1.1 (Keep.of_wr W_2).1)) (Nat.le_of_eq g_3.symm)
    have Z_5s : n0 ≤ h_3.size := (Nat.le_trans Z0 (Nat.le_trans (Nat.le_trans E_1.1 (Keep.of_wr W_2).1) E_3.1))
    have O_6d : Old Z n0 h_3 := (((X00.ext E_1).wr W_2 g0_a_1).ext E_3)
    obtain ⟨_, T_7, L_7, Q_7, X_7, st_7⟩ := own_callI X_3 hx rfl hown (mvT hZ (own_w hw 4 rfl)) (mvT hZ (own_w hw 5 rfl)) (mvT hZ (own_w hw 6 rfl)) (by decide) (Q := (StrChars.Road.QV Z a_3 (1 : Int32) (([(nar .char (own_c (p3 &&& (255 : Int32))))] : List Int32).map (fun c => c.toInt8.toInt32)) h_3 n0)) (StrChars.Road.backV (W := 1) hZ hws (kI := 4) (own_w hw 2 rfl) (cs := ([(nar .char (own_c (p3 &&& (255 : Int32))))] : List Int32)) (bs := ([(nar .char (own_c (p3 &&& (255 : Int32))))] : List Int32).map (fun c => c.toInt8.toInt32)) (n := 1) g0_a_3 Z_5s A_3 F_3_value F_3_coder V_2q'_4 (O2.ext O_6d.2) P5 rfl rfl (by decide) (by decide) hp rfl (by decide) (by decide)) (a := a_3) (g := (mkF m 36 #[.val (.long p0), .second, .val (.long p1), .second, .val (.int p2), .val (.int p3), .val (.int p4), .val (.long p1), .second, .val (.ref a_1), .unset, .unset, .unset, .unset] [(.ref a_1), (.ref a_3), (.ref a_3)])) rfl (by rw [hml]; rfl) (argsL := [(.ref a_1)]) (rest := [(.ref a_3)]) (lenOf pd_8 rfl) rfl (by show 2 * 0 + _ ≤ _; exact Nat.le_of_eq rfl) (hb hby at_36) e_3 rfl (by decide) (by decide)
    obtain ⟨rfl, Nq_7, K_7, Ex_7, -, -⟩ := Q_7
    refine own_G.via st_7 ?_
    have N_7 := Fr.app N_2 Nq_7
    show own_G _ _ _ _ (T_7.setTop (mkF m 39 #[.val (.long p0), .second, .val (.long p1), .second, .val (.int p2), .val (.int p3), .val (.int p4), .val (.long p1), .second, .val (.ref a_1), .unset, .unset, .unset, .unset] [(.ref a_3)]))
    refine own_G.go (fun t_ k_ => XS.astore X_7.here hx rfl (hb hby at_39) rfl rfl (l' := #[.val (.long p0), .second, .val (.long p1), .second, .val (.int p2), .val (.int p3), .val (.int p4), .val (.long p1), .second, .val (.ref a_1), .val (.ref a_3), .unset, .unset, .unset]) rfl k_) ?_
    show own_G _ _ _ _ (T_7.setTop (mkF m 41 #[.val (.long p0), .second, .val (.long p1), .second, .val (.int p2), .val (.int p3), .val (.int p4), .val (.long p1), .second, .val (.ref a_1), .val (.ref a_3), .unset, .unset, .unset] []))
    refine own_G.go (fun t_ k_ => XS.aconstNull X_7.here hx rfl (hb hby at_41) k_) ?_
    show own_G _ _ _ _ (T_7.setTop (mkF m 42 #[.val (.long p0), .second, .val (.long p1), .second, .val (.int p2), .val (.int p3), .val (.int p4), .val (.long p1), .second, .val (.ref a_1), .val (.ref a_3), .unset, .unset, .unset] [.null]))
    refine own_G.go (fun t_ k_ => XS.astore X_7.here hx rfl (hb hby at_42) rfl rfl (l' := #[.val (.long p0), .second, .val (.long p1), .second, .val (.int p2), .val (.int p3), .val (.int p4), .val (.long p1), .second, .val (.ref a_1), .val (.ref a_3), .val .null, .unset, .unset]) rfl k_) ?_
    show own_G _ _ _ _ (T_7.setTop (mkF m 44 #[.val (.long p0), .second, .val (.long p1), .second, .val (.int p2), .val (.int p3), .val (.int p4), .val (.long p1), .second, .val (.ref a_1), .val (.ref a_3), .val .null, .unset, .unset] []))
    refine own_G.go (fun t_ k_ => XS.iload X_7.here hx rfl (hb hby at_44) rfl k_) ?_
    show own_G _ _ _ _ (T_7.setTop (mkF m 46 #[.val (.long p0), .second, .val (.long p1), .second, .val (.int p2), .val (.int p3), .val (.int p4), .val (.long p1), .second, .val (.ref a_1), .val (.ref a_3), .val .null, .unset, .unset] [(.int p4)]))
    refine own_G.go (fun t_ k_ => XS.iconst X_7.here hx rfl (hb hby at_46) k_) ?_
    show own_G _ _ _ _ (T_7.setTop (mkF m 47 #[.val (.long p0), .second, .val (.long p1), .second, .val (.int p2), .val (.int p3), .val (.int p4), .val (.long p1), .second, .val (.ref a_1), .val (.ref a_3), .val .null, .unset, .unset] [(.int (1 : Int32)), (.int p4)]))
    refine own_G.go (fun t_ k_ => XS.iand X_7.here hx rfl (hb hby at_47) rfl k_) ?_
    show own_G _ _ _ _ (T_7.setTop (mkF m 48 #[.val (.long p0), .second, .val (.long p1), .second, .val (.int p2), .val (.int p3), .val (.int p4), .val (.long p1), .second, .val (.ref a_1), .val (.ref a_3), .val .null, .unset, .unset] [(.int (p4 &&& (1 : Int32)))]))
    by_cases hf1 : (p4 &&& (1 : Int32)) = (0 : Int32)
    · refine own_G.go (fun t_ k_ => XS.ifYes X_7.here hx rfl (pc0 := 48) (pc' := 66) rfl (hb hby at_48) rfl ((if0 _ _).trans (teq hf1).1) (by decide) (by decide) k_) ?_
      show own_G _ _ _ _ (T_7.setTop (mkF m 66 #[.val (.long p0), .second, .val (.long p1), .second, .val (.int p2), .val (.int p3), .val (.int p4), .val (.long p1), .second, .val (.ref a_1), .val (.ref a_3), .val .null, .unset, .unset] []))
      obtain ⟨T_8, h_8, X_8, e_8, E_8, A_8, D_8, -, st_8⟩ := newO X_7 hx hZ hown (own_w hw 30 rfl) (own_w hw 31 rfl) (own_w hw 32 rfl) rfl (g := (mkF m 66 #[.val (.long p0), .second, .val (.long p1), .second, .val (.int p2), .val (.int p3), .val (.int p4), .val (.long p1), .second, .val (.ref a_1), .val (.ref a_3), .val .null, .unset, .unset] [])) rfl (hb hby at_66) (by decide) (by decide)
      obtain ⟨a_8, g_8⟩ : ∃ z, z = T_7.heap.size := ⟨_, rfl⟩
      rw [← g_8] at A_8 D_8 st_8
      refine own_G.go st_8 ?_
      have F_8_id : Fld Z h_8 a_8 "com/example/gristmill/gristmill/documents/DocumentRecord" "id" "J" (.long (0 : Int64)) := D_8 (Or.inr (own_w hw 38 rfl)) (ty := .long) (by decide)
      have F_8_path : Fld Z h_8 a_8 "com/example/gristmill/gristmill/documents/DocumentRecord" "path" "Ljava/lang/String;" .null := D_8 (Or.inr (own_w hw 48 rfl)) (ty := (.object "java/lang/String")) (by decide)
      have F_8_mediaType : Fld Z h_8 a_8 "com/example/gristmill/gristmill/documents/DocumentRecord" "mediaType" "Ljava/lang/String;" .null := D_8 (Or.inr (own_w hw 50 rfl)) (ty := (.object "java/lang/String")) (by decide)
      have F_8_jobId : Fld Z h_8 a_8 "com/example/gristmill/gristmill/documents/DocumentRecord" "jobId" "J" (.long (0 : Int64)) := D_8 (Or.inr (own_w hw 52 rfl)) (ty := .long) (by decide)
      have F_8_characters : Fld Z h_8 a_8 "com/example/gristmill/gristmill/documents/DocumentRecord" "characters" "I" (.int (0 : Int32)) := D_8 (Or.inr (own_w hw 54 rfl)) (ty := .int) (by decide)
      show own_G _ _ _ _ (T_8.setTop (mkF m 69 #[.val (.long p0), .second, .val (.long p1), .second, .val (.int p2), .val (.int p3), .val (.int p4), .val (.long p1), .second, .val (.ref a_1), .val (.ref a_3), .val .null, .unset, .unset] [(.ref a_8)]))
      refine own_G.go (fun t_ k_ => XS.dup X_8.here hx rfl (hb hby at_69) rfl rfl k_) ?_
      show own_G _ _ _ _ (T_8.setTop (mkF m 70 #[.val (.long p0), .second, .val (.long p1), .second, .val (.int p2), .val (.int p3), .val (.int p4), .val (.long p1), .second, .val (.ref a_1), .val (.ref a_3), .val .null, .unset, .unset] [(.ref a_8), (.ref a_8)]))
      refine own_G.go (fun t_ k_ => XS.lloadN X_8.here hx rfl (hb hby at_70) rfl k_) ?_
      show own_G _ _ _ _ (T_8.setTop (mkF m 71 #[.val (.long p0), .second, .val (.long p1), .second, .val (.int p2), .val (.int p3), .val (.int p4), .val (.long p1), .second, .val (.ref a_1), .val (.ref a_3), .val .null, .unset, .unset] [(.long p0), (.ref a_8), (.ref a_8)]))
      refine own_G.go (fun t_ k_ => XS.aload X_8.here hx rfl (hb hby at_71) rfl rfl k_) ?_
      show own_G _ _ _ _ (T_8.setTop (mkF m 73 #[.val (.long p0), .second, .val (.long p1), .second, .val (.int p2), .val (.int p3), .val (.int p4), .val (.long p1), .second, .val (.ref a_1), .val (.ref a_3), .val .null, .unset, .unset] [(.ref a_3), (.long p0), (.ref a_8), (.ref a_8)]))
      refine own_G.go (fun t_ k_ => XS.aload X_8.here hx rfl (hb hby at_73) rfl rfl k_) ?_
      show own_G _ _ _ _ (T_8.setTop (mkF m 75 #[.val (.long p0), .second, .val (.long p1), .second, .val (.int p2), .val (.int p3), .val (.int p4), .val (.long p1), .second, .val (.ref a_1), .val (.ref a_3), .val .null, .unset, .unset] [.null, (.ref a_3), (.long p0), (.ref a_8), (.ref a_8)]))
      refine own_G.go (fun t_ k_ => XS.lload X_8.here hx rfl (hb hby at_75) rfl k_) ?_
      show own_G _ _ _ _ (T_8.setTop (mkF m 77 #[.val (.long p0), .second, .val (.long p1), .second, .val (.int p2), .val (.int p3), .val (.int p4), .val (.long p1), .second, .val (.ref a_1), .val (.ref a_3), .val .null, .unset, .unset] [(.long p1), .null, (.ref a_3), (.long p0), (.ref a_8), (.ref a_8)]))
      refine own_G.go (fun t_ k_ => XS.iload X_8.here hx rfl (hb hby at_77) rfl k_) ?_
      show own_G _ _ _ _ (T_8.setTop (mkF m 79 #[.val (.long p0), .second, .val (.long p1), .second, .val (.int p2), .val (.int p3), .val (.int p4), .val (.long p1), .second, .val (.ref a_1), .val (.ref a_3), .val .null, .unset, .unset] [(.int p2), (.long p1), .null, (.ref a_3), (.long p0), (.ref a_8), (.ref a_8)]))
      have g0_a_8 : n0 ≤ a_8 := Nat.le_trans (Nat.le_trans Z_5s K_7.1) (Nat.le_of_eq g_8.symm)
      have Ex_7'_9 : Exa Z h_8 a_3 "java/lang/String" := (Ex_7.ext E_8)
      obtain ⟨_, T_10, L_10, Q_10, X_10, hS_10, hZ_10, hown_10, st_10⟩ := own_callIW X_8 hx hS0 (Nat.le_trans (Nat.zero_le _) (Nat.le_trans (Nat.le_trans (Nat.le_trans (Nat.le_trans E_1.1 (Keep.of_wr W_2).1) E_3.1) K_7.1) E_8.1)) hZ rfl hown (mvT hZ (own_w hw 33 rfl)) (mvT hZ (own_w hw 34 rfl)) (mvT hZ (own_w hw 35 rfl)) (by decide) (Q := (fun v (U : State) L => Qdr Z a_8 p1 h_8 n0 v U.heap L)) (own_backS (backOfS (W := 1) (rm_dr0 l Z a0 hw [] a_8 p0 a_3 p1 p2 h_8 n0 (Nat.le_trans Z_5s (Nat.le_trans K_7.1 E_8.1)) g0_a_8 A_8 F_8_id F_8_path F_8_mediaType F_8_jobId F_8_characters Ex_7'_9) hZ (own_w hw 35 rfl) (own_w hw 32 rfl) (by decide) (by decide))) (a := a_8) (g := (mkF m 79 #[.val (.long p0), .second, .val (.long p1), .second, .val (.int p2), .val (.int p3), .val (.int p4), .val (.long p1), .second, .val (.ref a_1), .val (.ref a_3), .val .null, .unset, .unset] [(.int p2), (.long p1), .null, (.ref a_3), (.long p0), (.ref a_8), (.ref a_8)])) rfl (by rw [hml]; rfl) (argsL := [(.long p0), (.ref a_3), .null, (.long p1), (.int p2)]) (rest := [(.ref a_8)]) (lenOf pd_9 rfl) rfl (by show 2 * 0 + _ ≤ _; exact Nat.le_of_eq rfl) (hb hby at_79) e_8 rfl (by decide) (by decide)
      obtain ⟨rfl, Nq_10, K_10, Ex_10, Fj_10⟩ := Q_10
      refine own_G.via st_10 ?_
      have N_10 := Fr.app N_7 Nq_10
      show own_G _ _ _ _ (T_10.setTop (mkF m 82 #[.val (.long p0), .second, .val (.long p1), .second, .val (.int p2), .val (.int p3), .val (.int p4), .val (.long p1), .second, .val (.ref a_1), .val (.ref a_3), .val .null, .unset, .unset] [(.ref a_8)]))
      refine own_G.go (fun t_ k_ => XS.astore X_10.here hx rfl (hb hby at_82) rfl rfl (l' := #[.val (.long p0), .second, .val (.long p1), .second, .val (.int p2), .val (.int p3), .val (.int p4), .val (.long p1), .second, .val (.ref a_1), .val (.ref a_3), .val .null, .val (.ref a_8), .unset]) rfl k_) ?_
      show own_G _ _ _ _ (T_10.setTop (mkF m 84 #[.val (.long p0), .second, .val (.long p1), .second, .val (.int p2), .val (.int p3), .val (.int p4), .val (.long p1), .second, .val (.ref a_1), .val (.ref a_3), .val .null, .val (.ref a_8), .unset] []))
      refine own_G.go (fun t_ k_ => XS.aload X_10.here hx rfl (hb hby at_84) rfl rfl k_) ?_
      show own_G _ _ _ _ (T_10.setTop (mkF m 86 #[.val (.long p0), .second, .val (.long p1), .second, .val (.int p2), .val (.int p3), .val (.int p4), .val (.long p1), .second, .val (.ref a_1), .val (.ref a_3), .val .null, .val (.ref a_8), .unset] [(.ref a_8)]))
      by_cases hj : p1 = (0 : Int64)
      · have O_11d : Old Z n0 T_10.heap := (((O_6d.keep K_7 (allS g0_a_3 all0)).ext E_8).keep K_10 (allS g0_a_8 all0))
        obtain ⟨cq_12, kq_12, q_12a, q_12b, q_12c⟩ := isOf hZ_10 rfl Ex_10
        obtain ⟨_, T_12, L_12, Q_12, X_12, st_12⟩ := own_callV X_10 hx (z := (⟨"com/example/gristmill/gristmill/documents/DocumentRecord", "jobId", "()Ljava/util/OptionalLong;"⟩ : MethodName)) hown_10 (mvT hZ_10 (own_w hw 55 rfl)) (mvT hZ_10 (own_w hw 56 rfl)) (notFace_of_selects (args := #[]) (mvT hZ_10 (own_w hw 58 rfl))) (mvT hZ_10 (own_w hw 58 rfl)) (mvT hZ_10 (own_w hw 57 rfl)) (by decide) (Q := (Qp (.ref em) T_10.heap)) (backOf (W := 0) (rm_job0 l Z a0 hw [] a_8 em T_10.heap n0 (Nat.le_trans Z_5s (Nat.le_trans (Nat.le_trans K_7.1 E_8.1) K_10.1)) (hj ▸ Fj_10) OE O_11d) hZ_10 (own_w hw 59 rfl) (own_w hw 32 rfl) (by decide) (by decide)) q_12a q_12c (g := (mkF m 86 #[.val (.long p0), .second, .val (.long p1), .second, .val (.int p2), .val (.int p3), .val (.int p4), .val (.long p1), .second, .val (.ref a_1), .val (.ref a_3), .val .null, .val (.ref a_8), .unset] [(.ref a_8)])) rfl (by rw [hml]; rfl) (argsL := []) (rest := []) (lenOf pd_3 rfl) rfl (by show 2 * 0 + _ ≤ _; exact Nat.le_of_eq rfl) (hb hby at_86) rfl rfl (by decide) (by decide)
        obtain ⟨rfl, rfl, eh_12⟩ := Q_12
        refine own_G.via st_12 ?_
        have N_12 := Fr.app N_10 (Fr.nil n0)
        show own_G _ _ _ _ (T_12.setTop (mkF m 89 #[.val (.long p0), .second, .val (.long p1), .second, .val (.int p2), .val (.int p3), .val (.int p4), .val (.long p1), .second, .val (.ref a_1), .val (.ref a_3), .val .null, .val (.ref a_8), .unset] [(.ref em)]))
        refine own_G.go (fun t_ k_ => XS.astore X_12.here hx rfl (hb hby at_89) rfl rfl (l' := #[.val (.long p0), .second, .val (.long p1), .second, .val (.int p2), .val (.int p3), .val (.int p4), .val (.long p1), .second, .val (.ref a_1), .val (.ref a_3), .val .null, .val (.ref a_8), .val (.ref em)]) rfl k_) ?_
        show own_G _ _ _ _ (T_12.setTop (mkF m 91 #[.val (.long p0), .second, .val (.long p1), .second, .val (.int p2), .val (.int p3), .val (.int p4), .val (.long p1), .second, .val (.ref a_1), .val (.ref a_3), .val .null, .val (.ref a_8), .val (.ref em)] []))
        refine own_G.go (fun t_ k_ => XS.lload X_12.here hx rfl (hb hby at_91) rfl k_) ?_
        show own_G _ _ _ _ (T_12.setTop (mkF m 93 #[.val (.long p0), .second, .val (.long p1), .second, .val (.int p2), .val (.int p3), .val (.int p4), .val (.long p1), .second, .val (.ref a_1), .val (.ref a_3), .val .null, .val (.ref a_8), .val (.ref em)] [(.long p1)]))
        refine own_G.go (fun t_ k_ => XS.lconst X_12.here hx rfl (hb hby at_93) k_) ?_
        show own_G _ _ _ _ (T_12.setTop (mkF m 94 #[.val (.long p0), .second, .val (.long p1), .second, .val (.int p2), .val (.int p3), .val (.int p4), .val (.long p1), .second, .val (.ref a_1), .val (.ref a_3), .val .null, .val (.ref a_8), .val (.ref em)] [(.long (0 : Int64)), (.long p1)]))
        refine own_G.go (fun t_ k_ => XS.lcmp X_12.here hx rfl (hb hby at_94) rfl k_) ?_
        show own_G _ _ _ _ (T_12.setTop (mkF m 95 #[.val (.long p0), .second, .val (.long p1), .second, .val (.int p2), .val (.int p3), .val (.int p4), .val (.long p1), .second, .val (.ref a_1), .val (.ref a_3), .val .null, .val (.ref a_8), .val (.ref em)] [(.int (lcmpW p1 (0 : Int64)))]))
        refine own_G.go (fun t_ k_ => XS.ifNo X_12.here hx rfl (hb hby at_95) rfl ((if0 _ _).trans (teq ((lw_eq _ _).mpr hj : (lcmpW p1 (0 : Int64)) = (0 : Int32))).2) k_) ?_
        show own_G _ _ _ _ (T_12.setTop (mkF m 98 #[.val (.long p0), .second, .val (.long p1), .second, .val (.int p2), .val (.int p3), .val (.int p4), .val (.long p1), .second, .val (.ref a_1), .val (.ref a_3), .val .null, .val (.ref a_8), .val (.ref em)] []))
        refine own_G.go (fun t_ k_ => XS.aload X_12.here hx rfl (hb hby at_98) rfl rfl k_) ?_
        show own_G _ _ _ _ (T_12.setTop (mkF m 100 #[.val (.long p0), .second, .val (.long p1), .second, .val (.int p2), .val (.int p3), .val (.int p4), .val (.long p1), .second, .val (.ref a_1), .val (.ref a_3), .val .null, .val (.ref a_8), .val (.ref em)] [(.ref em)]))
        have EMP'_13 : Fld Z T_10.heap em "java/util/OptionalLong" "isPresent" "Z" (.int (0 : Int32)) := ((((((EMP.ext E_1).other W_2 (Or.inl (Nat.ne_of_lt (Nat.lt_of_lt_of_le EM.lt (Nat.le_of_eq g_1.symm))))).ext E_3).keep K_7 (ninS (Nat.ne_of_lt (Nat.lt_of_lt_of_le (Nat.lt_of_lt_of_le EM.lt (Nat.le_trans E_1.1 (Keep.of_wr W_2).1)) (Nat.le_of_eq g_3.symm))) nin0)).ext E_8).keep K_10 (ninS (Nat.ne_of_lt (Nat.lt_of_lt_of_le (Nat.lt_of_lt_of_le EM.lt (Nat.le_trans (Nat.le_trans (Nat.le_trans E_1.1 (Keep.of_wr W_2).1) E_3.1) K_7.1)) (Nat.le_of_eq g_8.symm))) nin0))
        have EM'_15 : Exa Z T_10.heap em "java/util/OptionalLong" := ((((((EM.ext E_1).wr W_2).ext E_3).keep K_7).ext E_8).keep K_10)
        obtain ⟨cq_14, kq_14, q_14a, q_14b, q_14c⟩ := isOf hZ_10 eh_12 EM'_15
        obtain ⟨_, T_14, L_14, Q_14, X_14, st_14⟩ := own_callV X_12 hx (z := (⟨"java/util/OptionalLong", "isPresent", "()Z"⟩ : MethodName)) hown_10 (mvT hZ_10 (own_w hw 75 rfl)) (mvT hZ_10 (own_w hw 76 rfl)) (notFace_of_selects (args := #[]) (mvT hZ_10 (own_w hw 78 rfl))) (mvT hZ_10 (own_w hw 78 rfl)) (mvT hZ_10 (own_w hw 77 rfl)) (by decide) (Q := (Qp (.int (nar .boolean (0 : Int32))) T_10.heap)) (backOf (W := 0) (rm_isp l Z a0 hw [] em (0 : Int32) T_10.heap n0 (Nat.le_trans Z_5s (Nat.le_trans (Nat.le_trans K_7.1 E_8.1) K_10.1)) EMP'_13) hZ_10 (own_w hw 79 rfl) (own_w hw 62 rfl) (by decide) (by decide)) q_14a q_14c (g := (mkF m 100 #[.val (.long p0), .second, .val (.long p1), .second, .val (.int p2), .val (.int p3), .val (.int p4), .val (.long p1), .second, .val (.ref a_1), .val (.ref a_3), .val .null, .val (.ref a_8), .val (.ref em)] [(.ref em)])) rfl (by rw [hml]; rfl) (argsL := []) (rest := []) (lenOf pd_10 rfl) rfl (by show 2 * 0 + _ ≤ _; exact Nat.le_of_eq rfl) (hb hby at_100) eh_12 rfl (by decide) (by decide)
        obtain ⟨rfl, rfl, eh_14⟩ := Q_14
        refine own_G.via st_14 ?_
        have N_14 := Fr.app N_12 (Fr.nil n0)
        show own_G _ _ _ _ (T_14.setTop (mkF m 103 #[.val (.long p0), .second, .val (.long p1), .second, .val (.int p2), .val (.int p3), .val (.int p4), .val (.long p1), .second, .val (.ref a_1), .val (.ref a_3), .val .null, .val (.ref a_8), .val (.ref em)] [(.int (0 : Int32))]))
        refine own_G.go (fun t_ k_ => XS.ifNo X_14.here hx rfl (hb hby at_103) rfl ((if0 _ _).trans (teq (by decide : (0 : Int32) = (0 : Int32))).2) k_) ?_
        show own_G _ _ _ _ (T_14.setTop (mkF m 106 #[.val (.long p0), .second, .val (.long p1), .second, .val (.int p2), .val (.int p3), .val (.int p4), .val (.long p1), .second, .val (.ref a_1), .val (.ref a_3), .val .null, .val (.ref a_8), .val (.ref em)] []))
        refine own_G.go (fun t_ k_ => XS.iconst X_14.here hx rfl (hb hby at_106) k_) ?_
        show own_G _ _ _ _ (T_14.setTop (mkF m 107 #[.val (.long p0), .second, .val (.long p1), .second, .val (.int p2), .val (.int p3), .val (.int p4), .val (.long p1), .second, .val (.ref a_1), .val (.ref a_3), .val .null, .val (.ref a_8), .val (.ref em)] [(.int (1 : Int32))]))
        refine own_G.go (fun t_ k_ => XS.goto X_14.here hx rfl (pc0 := 107) (pc' := 111) rfl (hb hby at_107) (by decide) (by decide) k_) ?_
        show own_G _ _ _ _ (T_14.setTop (mkF m 111 #[.val (.long p0), .second, .val (.long p1), .second, .val (.int p2), .val (.int p3), .val (.int p4), .val (.long p1), .second, .val (.ref a_1), .val (.ref a_3), .val .null, .val (.ref a_8), .val (.ref em)] [(.int (1 : Int32))]))
        exact own_G.endW X_14 hS_10 (Nat.le_refl _) hlk (v := (some (.int (1 : Int32)))) (fun h => by rw [hrt] at h; cases h) (fun fs hr => retN X_14 hx (z := (1 : Int32)) (t := .boolean) hrt (by simp) (hb hby at_111) hr) eh_14 ⟨rfl, N_14⟩ (by decide) (by decide)
      · obtain ⟨cq_16, kq_16, q_16a, q_16b, q_16c⟩ := isOf hZ_10 rfl Ex_10
        obtain ⟨_, T_16, L_16, Q_16, X_16, st_16⟩ := own_callV X_10 hx (z := (⟨"com/example/gristmill/gristmill/documents/DocumentRecord", "jobId", "()Ljava/util/OptionalLong;"⟩ : MethodName)) hown_10 (mvT hZ_10 (own_w hw 55 rfl)) (mvT hZ_10 (own_w hw 56 rfl)) (notFace_of_selects (args := #[]) (mvT hZ_10 (own_w hw 58 rfl))) (mvT hZ_10 (own_w hw 58 rfl)) (mvT hZ_10 (own_w hw 57 rfl)) (by decide) (Q := (Qolof Z p1 T_10.heap n0)) (backOf (W := 0) (rm_job1 l Z a0 hw [] a_8 p1 T_10.heap n0 (Nat.le_trans Z_5s (Nat.le_trans (Nat.le_trans K_7.1 E_8.1) K_10.1)) Fj_10 hj) hZ_10 (own_w hw 59 rfl) (own_w hw 32 rfl) (by decide) (by decide)) q_16a q_16c (g := (mkF m 86 #[.val (.long p0), .second, .val (.long p1), .second, .val (.int p2), .val (.int p3), .val (.int p4), .val (.long p1), .second, .val (.ref a_1), .val (.ref a_3), .val .null, .val (.ref a_8), .unset] [(.ref a_8)])) rfl (by rw [hml]; rfl) (argsL := []) (rest := []) (lenOf pd_3 rfl) rfl (by show 2 * 0 + _ ≤ _; exact Nat.le_of_eq rfl) (hb hby at_86) rfl rfl (by decide) (by decide)
        obtain ⟨r_16, rfl, Nq_16, K_16, lo_16, Ex_16, Fp_16, Fv_16⟩ := Q_16
        refine own_G.via st_16 ?_
        have N_16 := Fr.app N_10 Nq_16
        show own_G _ _ _ _ (T_16.setTop (mkF m 89 #[.val (.long p0), .second, .val (.long p1), .second, .val (.int p2), .val (.int p3), .val (.int p4), .val (.long p1), .second, .val (.ref a_1), .val (.ref a_3), .val .null, .val (.ref a_8), .unset] [(.ref r_16)]))
        refine own_G.go (fun t_ k_ => XS.astore X_16.here hx rfl (hb hby at_89) rfl rfl (l' := #[.val (.long p0), .second, .val (.long p1), .second, .val (.int p2), .val (.int p3), .val (.int p4), .val (.long p1), .second, .val (.ref a_1), .val (.ref a_3), .val .null, .val (.ref a_8), .val (.ref r_16)]) rfl k_) ?_
        show own_G _ _ _ _ (T_16.setTop (mkF m 91 #[.val (.long p0), .second, .val (.long p1), .second, .val (.int p2), .val (.int p3), .val (.int p4), .val (.long p1), .second, .val (.ref a_1), .val (.ref a_3), .val .null, .val (.ref a_8), .val (.ref r_16)] []))
        refine own_G.go (fun t_ k_ => XS.lload X_16.here hx rfl (hb hby at_91) rfl k_) ?_
        show own_G _ _ _ _ (T_16.setTop (mkF m 93 #[.val (.long p0), .second, .val (.long p1), .second, .val (.int p2), .val (.int p3), .val (.int p4), .val (.long p1), .second, .val (.ref a_1), .val (.ref a_3), .val .null, .val (.ref a_8), .val (.ref r_16)] [(.long p1)]))
        refine own_G.go (fun t_ k_ => XS.lconst X_16.here hx rfl (hb hby at_93) k_) ?_
        show own_G _ _ _ _ (T_16.setTop (mkF m 94 #[.val (.long p0), .second, .val (.long p1), .second, .val (.int p2), .val (.int p3), .val (.int p4), .val (.long p1), .second, .val (.ref a_1), .val (.ref a_3), .val .null, .val (.ref a_8), .val (.ref r_16)] [(.long (0 : Int64)), (.long p1)]))
        refine own_G.go (fun t_ k_ => XS.lcmp X_16.here hx rfl (hb hby at_94) rfl k_) ?_
        show own_G _ _ _ _ (T_16.setTop (mkF m 95 #[.val (.long p0), .second, .val (.long p1), .second, .val (.int p2), .val (.int p3), .val (.int p4), .val (.long p1), .second, .val (.ref a_1), .val (.ref a_3), .val .null, .val (.ref a_8), .val (.ref r_16)] [(.int (lcmpW p1 (0 : Int64)))]))
        refine own_G.go (fun t_ k_ => XS.ifYes X_16.here hx rfl (pc0 := 95) (pc' := 112) rfl (hb hby at_95) rfl ((if0 _ _).trans (feq (fun q => hj ((lw_eq _ _).mp q) : ¬ (lcmpW p1 (0 : Int64)) = (0 : Int32))).2) (by decide) (by decide) k_) ?_
        show own_G _ _ _ _ (T_16.setTop (mkF m 112 #[.val (.long p0), .second, .val (.long p1), .second, .val (.int p2), .val (.int p3), .val (.int p4), .val (.long p1), .second, .val (.ref a_1), .val (.ref a_3), .val .null, .val (.ref a_8), .val (.ref r_16)] []))
        refine own_G.go (fun t_ k_ => XS.aload X_16.here hx rfl (hb hby at_112) rfl rfl k_) ?_
        show own_G _ _ _ _ (T_16.setTop (mkF m 114 #[.val (.long p0), .second, .val (.long p1), .second, .val (.int p2), .val (.int p3), .val (.int p4), .val (.long p1), .second, .val (.ref a_1), .val (.ref a_3), .val .null, .val (.ref a_8), .val (.ref r_16)] [(.ref r_16)]))
        obtain ⟨cq_17, kq_17, q_17a, q_17b, q_17c⟩ := isOf hZ_10 rfl Ex_16
        obtain ⟨_, T_17, L_17, Q_17, X_17, st_17⟩ := own_callV X_16 hx (z := (⟨"java/util/OptionalLong", "isPresent", "()Z"⟩ : MethodName)) hown_10 (mvT hZ_10 (own_w hw 75 rfl)) (mvT hZ_10 (own_w hw 76 rfl)) (notFace_of_selects (args := #[]) (mvT hZ_10 (own_w hw 78 rfl))) (mvT hZ_10 (own_w hw 78 rfl)) (mvT hZ_10 (own_w hw 77 rfl)) (by decide) (Q := (Qp (.int (nar .boolean (1 : Int32))) T_16.heap)) (backOf (W := 0) (rm_isp l Z a0 hw [] r_16 (1 : Int32) T_16.heap n0 (Nat.le_trans Z_5s (Nat.le_trans (Nat.le_trans (Nat.le_trans K_7.1 E_8.1) K_10.1) K_16.1)) Fp_16) hZ_10 (own_w hw 79 rfl) (own_w hw 62 rfl) (by decide) (by decide)) q_17a q_17c (g := (mkF m 114 #[.val (.long p0), .second, .val (.long p1), .second, .val (.int p2), .val (.int p3), .val (.int p4), .val (.long p1), .second, .val (.ref a_1), .val (.ref a_3), .val .null, .val (.ref a_8), .val (.ref r_16)] [(.ref r_16)])) rfl (by rw [hml]; rfl) (argsL := []) (rest := []) (lenOf pd_10 rfl) rfl (by show 2 * 0 + _ ≤ _; exact Nat.le_of_eq rfl) (hb hby at_114) rfl rfl (by decide) (by decide)
        obtain ⟨rfl, rfl, eh_17⟩ := Q_17
        refine own_G.via st_17 ?_
        have N_17 := Fr.app N_16 (Fr.nil n0)
        show own_G _ _ _ _ (T_17.setTop (mkF m 117 #[.val (.long p0), .second, .val (.long p1), .second, .val (.int p2), .val (.int p3), .val (.int p4), .val (.long p1), .second, .val (.ref a_1), .val (.ref a_3), .val .null, .val (.ref a_8), .val (.ref r_16)] [(.int (1 : Int32))]))
        refine own_G.go (fun t_ k_ => XS.ifNo X_17.here hx rfl (hb hby at_117) rfl ((if0 _ _).trans (feq (by decide : ¬ ((1 : Int32) = (0 : Int32)))).1) k_) ?_
        show own_G _ _ _ _ (T_17.setTop (mkF m 120 #[.val (.long p0), .second, .val (.long p1), .second, .val (.int p2), .val (.int p3), .val (.int p4), .val (.long p1), .second, .val (.ref a_1), .val (.ref a_3), .val .null, .val (.ref a_8), .val (.ref r_16)] []))
        refine own_G.go (fun t_ k_ => XS.aload X_17.here hx rfl (hb hby at_120) rfl rfl k_) ?_
        show own_G _ _ _ _ (T_17.setTop (mkF m 122 #[.val (.long p0), .second, .val (.long p1), .second, .val (.int p2), .val (.int p3), .val (.int p4), .val (.long p1), .second, .val (.ref a_1), .val (.ref a_3), .val .null, .val (.ref a_8), .val (.ref r_16)] [(.ref r_16)]))
        obtain ⟨cq_18, kq_18, q_18a, q_18b, q_18c⟩ := isOf hZ_10 eh_17 Ex_16
        obtain ⟨_, T_18, L_18, Q_18, X_18, st_18⟩ := own_callV X_17 hx (z := (⟨"java/util/OptionalLong", "getAsLong", "()J"⟩ : MethodName)) hown_10 (mvT hZ_10 (own_w hw 80 rfl)) (mvT hZ_10 (own_w hw 81 rfl)) (notFace_of_selects (args := #[]) (mvT hZ_10 (own_w hw 83 rfl))) (mvT hZ_10 (own_w hw 83 rfl)) (mvT hZ_10 (own_w hw 82 rfl)) (by decide) (Q := (Qp (.long p1) T_16.heap)) (backOf (W := 0) (rm_gal l Z a0 hw [] r_16 p1 T_16.heap n0 (Nat.le_trans Z_5s (Nat.le_trans (Nat.le_trans (Nat.le_trans K_7.1 E_8.1) K_10.1) K_16.1)) Fp_16 Fv_16) hZ_10 (own_w hw 84 rfl) (own_w hw 62 rfl) (by decide) (by decide)) q_18a q_18c (g := (mkF m 122 #[.val (.long p0), .second, .val (.long p1), .second, .val (.int p2), .val (.int p3), .val (.int p4), .val (.long p1), .second, .val (.ref a_1), .val (.ref a_3), .val .null, .val (.ref a_8), .val (.ref r_16)] [(.ref r_16)])) rfl (by rw [hml]; rfl) (argsL := []) (rest := []) (lenOf pd_11 rfl) rfl (by show 2 * 0 + _ ≤ _; exact Nat.le_of_eq rfl) (hb hby at_122) eh_17 rfl (by decide) (by decide)
        obtain ⟨rfl, rfl, eh_18⟩ := Q_18
        refine own_G.via st_18 ?_
        have N_18 := Fr.app N_17 (Fr.nil n0)
        show own_G _ _ _ _ (T_18.setTop (mkF m 125 #[.val (.long p0), .second, .val (.long p1), .second, .val (.int p2), .val (.int p3), .val (.int p4), .val (.long p1), .second, .val (.ref a_1), .val (.ref a_3), .val .null, .val (.ref a_8), .val (.ref r_16)] [(.long p1)]))
        refine own_G.go (fun t_ k_ => XS.lload X_18.here hx rfl (hb hby at_125) rfl k_) ?_
        show own_G _ _ _ _ (T_18.setTop (mkF m 127 #[.val (.long p0), .second, .val (.long p1), .second, .val (.int p2), .val (.int p3), .val (.int p4), .val (.long p1), .second, .val (.ref a_1), .val (.ref a_3), .val .null, .val (.ref a_8), .val (.ref r_16)] [(.long p1), (.long p1)]))
        refine own_G.go (fun t_ k_ => XS.lcmp X_18.here hx rfl (hb hby at_127) rfl k_) ?_
        show own_G _ _ _ _ (T_18.setTop (mkF m 128 #[.val (.long p0), .second, .val (.long p1), .second, .val (.int p2), .val (.int p3), .val (.int p4), .val (.long p1), .second, .val (.ref a_1), .val (.ref a_3), .val .null, .val (.ref a_8), .val (.ref r_16)] [(.int (lcmpW p1 p1))]))
        refine own_G.go (fun t_ k_ => XS.ifNo X_18.here hx rfl (hb hby at_128) rfl ((if0 _ _).trans (teq ((lw_eq _ _).mpr rfl : (lcmpW p1 p1) = (0 : Int32))).2) k_) ?_
        show own_G _ _ _ _ (T_18.setTop (mkF m 131 #[.val (.long p0), .second, .val (.long p1), .second, .val (.int p2), .val (.int p3), .val (.int p4), .val (.long p1), .second, .val (.ref a_1), .val (.ref a_3), .val .null, .val (.ref a_8), .val (.ref r_16)] []))
        refine own_G.go (fun t_ k_ => XS.iconst X_18.here hx rfl (hb hby at_131) k_) ?_
        show own_G _ _ _ _ (T_18.setTop (mkF m 132 #[.val (.long p0), .second, .val (.long p1), .second, .val (.int p2), .val (.int p3), .val (.int p4), .val (.long p1), .second, .val (.ref a_1), .val (.ref a_3), .val .null, .val (.ref a_8), .val (.ref r_16)] [(.int (1 : Int32))]))
        refine own_G.go (fun t_ k_ => XS.goto X_18.here hx rfl (pc0 := 132) (pc' := 136) rfl (hb hby at_132) (by decide) (by decide) k_) ?_
        show own_G _ _ _ _ (T_18.setTop (mkF m 136 #[.val (.long p0), .second, .val (.long p1), .second, .val (.int p2), .val (.int p3), .val (.int p4), .val (.long p1), .second, .val (.ref a_1), .val (.ref a_3), .val .null, .val (.ref a_8), .val (.ref r_16)] [(.int (1 : Int32))]))
        exact own_G.endW X_18 hS_10 (Nat.le_trans (Nat.le_refl _) K_16.1) hlk (v := (some (.int (1 : Int32)))) (fun h => by rw [hrt] at h; cases h) (fun fs hr => retN X_18 hx (z := (1 : Int32)) (t := .boolean) hrt (by simp) (hb hby at_136) hr) eh_18 ⟨rfl, N_18⟩ (by decide) (by decide)
    · refine own_G.go (fun t_ k_ => XS.ifNo X_7.here hx rfl (hb hby at_48) rfl ((if0 _ _).trans (feq hf1).1) k_) ?_
      show own_G _ _ _ _ (T_7.setTop (mkF m 51 #[.val (.long p0), .second, .val (.long p1), .second, .val (.int p2), .val (.int p3), .val (.int p4), .val (.long p1), .second, .val (.ref a_1), .val (.ref a_3), .val .null, .unset, .unset] []))
      refine own_G.go (fun t_ k_ => XS.iload X_7.here hx rfl (hb hby at_51) rfl k_) ?_
      show own_G _ _ _ _ (T_7.setTop (mkF m 53 #[.val (.long p0), .second, .val (.long p1), .second, .val (.int p2), .val (.int p3), .val (.int p4), .val (.long p1), .second, .val (.ref a_1), .val (.ref a_3), .val .null, .unset, .unset] [(.int p3)]))
      refine own_G.go (fun t_ k_ => XS.bipush X_7.here hx rfl (hb hby at_53) k_) ?_
      show own_G _ _ _ _ (T_7.setTop (mkF m 55 #[.val (.long p0), .second, .val (.long p1), .second, .val (.int p2), .val (.int p3), .val (.int p4), .val (.long p1), .second, .val (.ref a_1), .val (.ref a_3), .val .null, .unset, .unset] [(.int (8 : Int32)), (.int p3)]))
      refine own_G.go (fun t_ k_ => XS.iushr X_7.here hx rfl (hb hby at_55) rfl k_) ?_
      show own_G _ _ _ _ (T_7.setTop (mkF m 56 #[.val (.long p0), .second, .val (.long p1), .second, .val (.int p2), .val (.int p3), .val (.int p4), .val (.long p1), .second, .val (.ref a_1), .val (.ref a_3), .val .null, .unset, .unset] [(.int (Jvm.Free.XT.ushr p3 (8 : Int32)))]))
      refine own_G.go (fun t_ k_ => XS.sipush X_7.here hx rfl (hb hby at_56) k_) ?_
      show own_G _ _ _ _ (T_7.setTop (mkF m 59 #[.val (.long p0), .second, .val (.long p1), .second, .val (.int p2), .val (.int p3), .val (.int p4), .val (.long p1), .second, .val (.ref a_1), .val (.ref a_3), .val .null, .unset, .unset] [(.int (255 : Int32)), (.int (Jvm.Free.XT.ushr p3 (8 : Int32)))]))
      refine own_G.go (fun t_ k_ => XS.iand X_7.here hx rfl (hb hby at_59) rfl k_) ?_
      show own_G _ _ _ _ (T_7.setTop (mkF m 60 #[.val (.long p0), .second, .val (.long p1), .second, .val (.int p2), .val (.int p3), .val (.int p4), .val (.long p1), .second, .val (.ref a_1), .val (.ref a_3), .val .null, .unset, .unset] [(.int ((Jvm.Free.XT.ushr p3 (8 : Int32)) &&& (255 : Int32)))]))
      refine own_G.go (fun t_ k_ => XS.i2c X_7.here hx rfl (hb hby at_60) rfl k_) ?_
      show own_G _ _ _ _ (T_7.setTop (mkF m 61 #[.val (.long p0), .second, .val (.long p1), .second, .val (.int p2), .val (.int p3), .val (.int p4), .val (.long p1), .second, .val (.ref a_1), .val (.ref a_3), .val .null, .unset, .unset] [(.int (own_c ((Jvm.Free.XT.ushr p3 (8 : Int32)) &&& (255 : Int32))))]))
      have O_19d : Old Z n0 T_7.heap := (O_6d.keep K_7 (allS g0_a_3 all0))
      obtain ⟨_, T_20, L_20, Q_20, X_20, st_20⟩ := own_callS X_7 hx hown (mvT hZ (own_w hw 85 rfl)) (mvT hZ (own_w hw 86 rfl)) (mvT hZ (own_w hw 3 rfl)) (mvT hZ (own_w hw 87 rfl)) (by decide) (Q := (Qvo Z T_7.heap n0)) (backOf (W := 0) (rm_vo l Z a0 hw [] (own_c ((Jvm.Free.XT.ushr p3 (8 : Int32)) &&& (255 : Int32))) zc T_7.heap n0 (Nat.le_trans Z_5s K_7.1) (own_n255 _) O2 P5 O_19d) hZ (own_w hw 87 rfl) (own_w hw 3 rfl) (by decide) (by decide)) (g := (mkF m 61 #[.val (.long p0), .second, .val (.long p1), .second, .val (.int p2), .val (.int p3), .val (.int p4), .val (.long p1), .second, .val (.ref a_1), .val (.ref a_3), .val .null, .unset, .unset] [(.int (own_c ((Jvm.Free.XT.ushr p3 (8 : Int32)) &&& (255 : Int32))))])) rfl (by rw [hml]; rfl) (argsL := [(.int (own_c ((Jvm.Free.XT.ushr p3 (8 : Int32)) &&& (255 : Int32))))]) (rest := []) (lenOf pd_12 rfl) rfl (by show 2 * 0 + _ ≤ _; exact Nat.le_of_eq rfl) (hb hby at_61) rfl rfl (by decide) (by decide)
      obtain ⟨r_20, rfl, Nq_20, K_20, lo_20, Ex_20⟩ := Q_20
      refine own_G.via st_20 ?_
      have N_20 := Fr.app N_7 Nq_20
      show own_G _ _ _ _ (T_20.setTop (mkF m 64 #[.val (.long p0), .second, .val (.long p1), .second, .val (.int p2), .val (.int p3), .val (.int p4), .val (.long p1), .second, .val (.ref a_1), .val (.ref a_3), .val .null, .unset, .unset] [(.ref r_20)]))
      refine own_G.go (fun t_ k_ => XS.astore X_20.here hx rfl (hb hby at_64) rfl rfl (l' := #[.val (.long p0), .second, .val (.long p1), .second, .val (.int p2), .val (.int p3), .val (.int p4), .val (.long p1), .second, .val (.ref a_1), .val (.ref a_3), .val (.ref r_20), .unset, .unset]) rfl k_) ?_
      show own_G _ _ _ _ (T_20.setTop (mkF m 66 #[.val (.long p0), .second, .val (.long p1), .second, .val (.int p2), .val (.int p3), .val (.int p4), .val (.long p1), .second, .val (.ref a_1), .val (.ref a_3), .val (.ref r_20), .unset, .unset] []))
      obtain ⟨T_21, h_21, X_21, e_21, E_21, A_21, D_21, -, st_21⟩ := newO X_20 hx hZ hown (own_w hw 30 rfl) (own_w hw 31 rfl) (own_w hw 32 rfl) rfl (g := (mkF m 66 #[.val (.long p0), .second, .val (.long p1), .second, .val (.int p2), .val (.int p3), .val (.int p4), .val (.long p1), .second, .val (.ref a_1), .val (.ref a_3), .val (.ref r_20), .unset, .unset] [])) rfl (hb hby at_66) (by decide) (by decide)
      obtain ⟨a_21, g_21⟩ : ∃ z, z = T_20.heap.size := ⟨_, rfl⟩
      rw [← g_21] at A_21 D_21 st_21
      refine own_G.go st_21 ?_
      have F_21_id : Fld Z h_21 a_21 "com/example/gristmill/gristmill/documents/DocumentRecord" "id" "J" (.long (0 : Int64)) := D_21 (Or.inr (own_w hw 38 rfl)) (ty := .long) (by decide)
      have F_21_path : Fld Z h_21 a_21 "com/example/gristmill/gristmill/documents/DocumentRecord" "path" "Ljava/lang/String;" .null := D_21 (Or.inr (own_w hw 48 rfl)) (ty := (.object "java/lang/String")) (by decide)
      have F_21_mediaType : Fld Z h_21 a_21 "com/example/gristmill/gristmill/documents/DocumentRecord" "mediaType" "Ljava/lang/String;" .null := D_21 (Or.inr (own_w hw 50 rfl)) (ty := (.object "java/lang/String")) (by decide)
      have F_21_jobId : Fld Z h_21 a_21 "com/example/gristmill/gristmill/documents/DocumentRecord" "jobId" "J" (.long (0 : Int64)) := D_21 (Or.inr (own_w hw 52 rfl)) (ty := .long) (by decide)
      have F_21_characters : Fld Z h_21 a_21 "com/example/gristmill/gristmill/documents/DocumentRecord" "characters" "I" (.int (0 : Int32)) := D_21 (Or.inr (own_w hw 54 rfl)) (ty := .int) (by decide)
      show own_G _ _ _ _ (T_21.setTop (mkF m 69 #[.val (.long p0), .second, .val (.long p1), .second, .val (.int p2), .val (.int p3), .val (.int p4), .val (.long p1), .second, .val (.ref a_1), .val (.ref a_3), .val (.ref r_20), .unset, .unset] [(.ref a_21)]))
      refine own_G.go (fun t_ k_ => XS.dup X_21.here hx rfl (hb hby at_69) rfl rfl k_) ?_
      show own_G _ _ _ _ (T_21.setTop (mkF m 70 #[.val (.long p0), .second, .val (.long p1), .second, .val (.int p2), .val (.int p3), .val (.int p4), .val (.long p1), .second, .val (.ref a_1), .val (.ref a_3), .val (.ref r_20), .unset, .unset] [(.ref a_21), (.ref a_21)]))
      refine own_G.go (fun t_ k_ => XS.lloadN X_21.here hx rfl (hb hby at_70) rfl k_) ?_
      show own_G _ _ _ _ (T_21.setTop (mkF m 71 #[.val (.long p0), .second, .val (.long p1), .second, .val (.int p2), .val (.int p3), .val (.int p4), .val (.long p1), .second, .val (.ref a_1), .val (.ref a_3), .val (.ref r_20), .unset, .unset] [(.long p0), (.ref a_21), (.ref a_21)]))
      refine own_G.go (fun t_ k_ => XS.aload X_21.here hx rfl (hb hby at_71) rfl rfl k_) ?_
      show own_G _ _ _ _ (T_21.setTop (mkF m 73 #[.val (.long p0), .second, .val (.long p1), .second, .val (.int p2), .val (.int p3), .val (.int p4), .val (.long p1), .second, .val (.ref a_1), .val (.ref a_3), .val (.ref r_20), .unset, .unset] [(.ref a_3), (.long p0), (.ref a_21), (.ref a_21)]))
      refine own_G.go (fun t_ k_ => XS.aload X_21.here hx rfl (hb hby at_73) rfl rfl k_) ?_
      show own_G _ _ _ _ (T_21.setTop (mkF m 75 #[.val (.long p0), .second, .val (.long p1), .second, .val (.int p2), .val (.int p3), .val (.int p4), .val (.long p1), .second, .val (.ref a_1), .val (.ref a_3), .val (.ref r_20), .unset, .unset] [(.ref r_20), (.ref a_3), (.long p0), (.ref a_21), (.ref a_21)]))
      refine own_G.go (fun t_ k_ => XS.lload X_21.here hx rfl (hb hby at_75) rfl k_) ?_
      show own_G _ _ _ _ (T_21.setTop (mkF m 77 #[.val (.long p0), .second, .val (.long p1), .second, .val (.int p2), .val (.int p3), .val (.int p4), .val (.long p1), .second, .val (.ref a_1), .val (.ref a_3), .val (.ref r_20), .unset, .unset] [(.long p1), (.ref r_20), (.ref a_3), (.long p0), (.ref a_21), (.ref a_21)]))
      refine own_G.go (fun t_ k_ => XS.iload X_21.here hx rfl (hb hby at_77) rfl k_) ?_
      show own_G _ _ _ _ (T_21.setTop (mkF m 79 #[.val (.long p0), .second, .val (.long p1), .second, .val (.int p2), .val (.int p3), .val (.int p4), .val (.long p1), .second, .val (.ref a_1), .val (.ref a_3), .val (.ref r_20), .unset, .unset] [(.int p2), (.long p1), (.ref r_20), (.ref a_3), (.long p0), (.ref a_21), (.ref a_21)]))
      have g0_a_21 : n0 ≤ a_21 := Nat.le_trans (Nat.le_trans Z_5s (Nat.le_trans K_7.1 K_20.1)) (Nat.le_of_eq g_21.symm)
      have Ex_7'_22 : Exa Z h_21 a_3 "java/lang/String" := ((Ex_7.keep K_20).ext E_21)
      obtain ⟨_, T_23, L_23, Q_23, X_23, hS_23, hZ_23, hown_23, st_23⟩ := own_callIW X_21 hx hS0 (Nat.le_trans (Nat.zero_le _) (Nat.le_trans (Nat.le_trans (Nat.le_trans (Nat.le_trans (Nat.le_trans E_1.1 (Keep.of_wr W_2).1) E_3.1) K_7.1) K_20.1) E_21.1)) hZ rfl hown (mvT hZ (own_w hw 33 rfl)) (mvT hZ (own_w hw 34 rfl)) (mvT hZ (own_w hw 35 rfl)) (by decide) (Q := (fun v (U : State) L => Qdr Z a_21 p1 h_21 n0 v U.heap L)) (own_backS (backOfS (W := 1) (rm_dr1 l Z a0 hw [] a_21 p0 a_3 r_20 p1 p2 h_21 n0 (Nat.le_trans Z_5s (Nat.le_trans (Nat.le_trans K_7.1 K_20.1) E_21.1)) g0_a_21 A_21 F_21_id F_21_path F_21_mediaType F_21_jobId F_21_characters Ex_7'_22) hZ (own_w hw 35 rfl) (own_w hw 32 rfl) (by decide) (by decide))) (a := a_21) (g := (mkF m 79 #[.val (.long p0), .second, .val (.long p1), .second, .val (.int p2), .val (.int p3), .val (.int p4), .val (.long p1), .second, .val (.ref a_1), .val (.ref a_3), .val (.ref r_20), .unset, .unset] [(.int p2), (.long p1), (.ref r_20), (.ref a_3), (.long p0), (.ref a_21), (.ref a_21)])) rfl (by rw [hml]; rfl) (argsL := [(.long p0), (.ref a_3), (.ref r_20), (.long p1), (.int p2)]) (rest := [(.ref a_21)]) (lenOf pd_9 rfl) rfl (by show 2 * 0 + _ ≤ _; exact Nat.le_of_eq rfl) (hb hby at_79) e_21 rfl (by decide) (by decide)
      obtain ⟨rfl, Nq_23, K_23, Ex_23, Fj_23⟩ := Q_23
      refine own_G.via st_23 ?_
      have N_23 := Fr.app N_20 Nq_23
      show own_G _ _ _ _ (T_23.setTop (mkF m 82 #[.val (.long p0), .second, .val (.long p1), .second, .val (.int p2), .val (.int p3), .val (.int p4), .val (.long p1), .second, .val (.ref a_1), .val (.ref a_3), .val (.ref r_20), .unset, .unset] [(.ref a_21)]))
      refine own_G.go (fun t_ k_ => XS.astore X_23.here hx rfl (hb hby at_82) rfl rfl (l' := #[.val (.long p0), .second, .val (.long p1), .second, .val (.int p2), .val (.int p3), .val (.int p4), .val (.long p1), .second, .val (.ref a_1), .val (.ref a_3), .val (.ref r_20), .val (.ref a_21), .unset]) rfl k_) ?_
      show own_G _ _ _ _ (T_23.setTop (mkF m 84 #[.val (.long p0), .second, .val (.long p1), .second, .val (.int p2), .val (.int p3), .val (.int p4), .val (.long p1), .second, .val (.ref a_1), .val (.ref a_3), .val (.ref r_20), .val (.ref a_21), .unset] []))
      refine own_G.go (fun t_ k_ => XS.aload X_23.here hx rfl (hb hby at_84) rfl rfl k_) ?_
      show own_G _ _ _ _ (T_23.setTop (mkF m 86 #[.val (.long p0), .second, .val (.long p1), .second, .val (.int p2), .val (.int p3), .val (.int p4), .val (.long p1), .second, .val (.ref a_1), .val (.ref a_3), .val (.ref r_20), .val (.ref a_21), .unset] [(.ref a_21)]))
      by_cases hj : p1 = (0 : Int64)
      · have O_24d : Old Z n0 T_23.heap := (((O_19d.keep K_20 all0).ext E_21).keep K_23 (allS g0_a_21 all0))
        obtain ⟨cq_25, kq_25, q_25a, q_25b, q_25c⟩ := isOf hZ_23 rfl Ex_23
        obtain ⟨_, T_25, L_25, Q_25, X_25, st_25⟩ := own_callV X_23 hx (z := (⟨"com/example/gristmill/gristmill/documents/DocumentRecord", "jobId", "()Ljava/util/OptionalLong;"⟩ : MethodName)) hown_23 (mvT hZ_23 (own_w hw 55 rfl)) (mvT hZ_23 (own_w hw 56 rfl)) (notFace_of_selects (args := #[]) (mvT hZ_23 (own_w hw 58 rfl))) (mvT hZ_23 (own_w hw 58 rfl)) (mvT hZ_23 (own_w hw 57 rfl)) (by decide) (Q := (Qp (.ref em) T_23.heap)) (backOf (W := 0) (rm_job0 l Z a0 hw [] a_21 em T_23.heap n0 (Nat.le_trans Z_5s (Nat.le_trans (Nat.le_trans (Nat.le_trans K_7.1 K_20.1) E_21.1) K_23.1)) (hj ▸ Fj_23) OE O_24d) hZ_23 (own_w hw 59 rfl) (own_w hw 32 rfl) (by decide) (by decide)) q_25a q_25c (g := (mkF m 86 #[.val (.long p0), .second, .val (.long p1), .second, .val (.int p2), .val (.int p3), .val (.int p4), .val (.long p1), .second, .val (.ref a_1), .val (.ref a_3), .val (.ref r_20), .val (.ref a_21), .unset] [(.ref a_21)])) rfl (by rw [hml]; rfl) (argsL := []) (rest := []) (lenOf pd_3 rfl) rfl (by show 2 * 0 + _ ≤ _; exact Nat.le_of_eq rfl) (hb hby at_86) rfl rfl (by decide) (by decide)
        obtain ⟨rfl, rfl, eh_25⟩ := Q_25
        refine own_G.via st_25 ?_
        have N_25 := Fr.app N_23 (Fr.nil n0)
        show own_G _ _ _ _ (T_25.setTop (mkF m 89 #[.val (.long p0), .second, .val (.long p1), .second, .val (.int p2), .val (.int p3), .val (.int p4), .val (.long p1), .second, .val (.ref a_1), .val (.ref a_3), .val (.ref r_20), .val (.ref a_21), .unset] [(.ref em)]))
        refine own_G.go (fun t_ k_ => XS.astore X_25.here hx rfl (hb hby at_89) rfl rfl (l' := #[.val (.long p0), .second, .val (.long p1), .second, .val (.int p2), .val (.int p3), .val (.int p4), .val (.long p1), .second, .val (.ref a_1), .val (.ref a_3), .val (.ref r_20), .val (.ref a_21), .val (.ref em)]) rfl k_) ?_
        show own_G _ _ _ _ (T_25.setTop (mkF m 91 #[.val (.long p0), .second, .val (.long p1), .second, .val (.int p2), .val (.int p3), .val (.int p4), .val (.long p1), .second, .val (.ref a_1), .val (.ref a_3), .val (.ref r_20), .val (.ref a_21), .val (.ref em)] []))
        refine own_G.go (fun t_ k_ => XS.lload X_25.here hx rfl (hb hby at_91) rfl k_) ?_
        show own_G _ _ _ _ (T_25.setTop (mkF m 93 #[.val (.long p0), .second, .val (.long p1), .second, .val (.int p2), .val (.int p3), .val (.int p4), .val (.long p1), .second, .val (.ref a_1), .val (.ref a_3), .val (.ref r_20), .val (.ref a_21), .val (.ref em)] [(.long p1)]))
        refine own_G.go (fun t_ k_ => XS.lconst X_25.here hx rfl (hb hby at_93) k_) ?_
        show own_G _ _ _ _ (T_25.setTop (mkF m 94 #[.val (.long p0), .second, .val (.long p1), .second, .val (.int p2), .val (.int p3), .val (.int p4), .val (.long p1), .second, .val (.ref a_1), .val (.ref a_3), .val (.ref r_20), .val (.ref a_21), .val (.ref em)] [(.long (0 : Int64)), (.long p1)]))
        refine own_G.go (fun t_ k_ => XS.lcmp X_25.here hx rfl (hb hby at_94) rfl k_) ?_
        show own_G _ _ _ _ (T_25.setTop (mkF m 95 #[.val (.long p0), .second, .val (.long p1), .second, .val (.int p2), .val (.int p3), .val (.int p4), .val (.long p1), .second, .val (.ref a_1), .val (.ref a_3), .val (.ref r_20), .val (.ref a_21), .val (.ref em)] [(.int (lcmpW p1 (0 : Int64)))]))
        refine own_G.go (fun t_ k_ => XS.ifNo X_25.here hx rfl (hb hby at_95) rfl ((if0 _ _).trans (teq ((lw_eq _ _).mpr hj : (lcmpW p1 (0 : Int64)) = (0 : Int32))).2) k_) ?_
        show own_G _ _ _ _ (T_25.setTop (mkF m 98 #[.val (.long p0), .second, .val (.long p1), .second, .val (.int p2), .val (.int p3), .val (.int p4), .val (.long p1), .second, .val (.ref a_1), .val (.ref a_3), .val (.ref r_20), .val (.ref a_21), .val (.ref em)] []))
        refine own_G.go (fun t_ k_ => XS.aload X_25.here hx rfl (hb hby at_98) rfl rfl k_) ?_
        show own_G _ _ _ _ (T_25.setTop (mkF m 100 #[.val (.long p0), .second, .val (.long p1), .second, .val (.int p2), .val (.int p3), .val (.int p4), .val (.long p1), .second, .val (.ref a_1), .val (.ref a_3), .val (.ref r_20), .val (.ref a_21), .val (.ref em)] [(.ref em)]))
        have EMP'_26 : Fld Z T_23.heap em "java/util/OptionalLong" "isPresent" "Z" (.int (0 : Int32)) := (((((((EMP.ext E_1).other W_2 (Or.inl (Nat.ne_of_lt (Nat.lt_of_lt_of_le EM.lt (Nat.le_of_eq g_1.symm))))).ext E_3).keep K_7 (ninS (Nat.ne_of_lt (Nat.lt_of_lt_of_le (Nat.lt_of_lt_of_le EM.lt (Nat.le_trans E_1.1 (Keep.of_wr W_2).1)) (Nat.le_of_eq g_3.symm))) nin0)).keep K_20 nin0).ext E_21).keep K_23 (ninS (Nat.ne_of_lt (Nat.lt_of_lt_of_le (Nat.lt_of_lt_of_le EM.lt (Nat.le_trans (Nat.le_trans (Nat.le_trans (Nat.le_trans E_1.1 (Keep.of_wr W_2).1) E_3.1) K_7.1) K_20.1)) (Nat.le_of_eq g_21.symm))) nin0))
        have EM'_28 : Exa Z T_23.heap em "java/util/OptionalLong" := (((((((EM.ext E_1).wr W_2).ext E_3).keep K_7).keep K_20).ext E_21).keep K_23)
        obtain ⟨cq_27, kq_27, q_27a, q_27b, q_27c⟩ := isOf hZ_23 eh_25 EM'_28
        obtain ⟨_, T_27, L_27, Q_27, X_27, st_27⟩ := own_callV X_25 hx (z := (⟨"java/util/OptionalLong", "isPresent", "()Z"⟩ : MethodName)) hown_23 (mvT hZ_23 (own_w hw 75 rfl)) (mvT hZ_23 (own_w hw 76 rfl)) (notFace_of_selects (args := #[]) (mvT hZ_23 (own_w hw 78 rfl))) (mvT hZ_23 (own_w hw 78 rfl)) (mvT hZ_23 (own_w hw 77 rfl)) (by decide) (Q := (Qp (.int (nar .boolean (0 : Int32))) T_23.heap)) (backOf (W := 0) (rm_isp l Z a0 hw [] em (0 : Int32) T_23.heap n0 (Nat.le_trans Z_5s (Nat.le_trans (Nat.le_trans (Nat.le_trans K_7.1 K_20.1) E_21.1) K_23.1)) EMP'_26) hZ_23 (own_w hw 79 rfl) (own_w hw 62 rfl) (by decide) (by decide)) q_27a q_27c (g := (mkF m 100 #[.val (.long p0), .second, .val (.long p1), .second, .val (.int p2), .val (.int p3), .val (.int p4), .val (.long p1), .second, .val (.ref a_1), .val (.ref a_3), .val (.ref r_20), .val (.ref a_21), .val (.ref em)] [(.ref em)])) rfl (by rw [hml]; rfl) (argsL := []) (rest := []) (lenOf pd_10 rfl) rfl (by show 2 * 0 + _ ≤ _; exact Nat.le_of_eq rfl) (hb hby at_100) eh_25 rfl (by decide) (by decide)
        obtain ⟨rfl, rfl, eh_27⟩ := Q_27
        refine own_G.via st_27 ?_
        have N_27 := Fr.app N_25 (Fr.nil n0)
        show own_G _ _ _ _ (T_27.setTop (mkF m 103 #[.val (.long p0), .second, .val (.long p1), .second, .val (.int p2), .val (.int p3), .val (.int p4), .val (.long p1), .second, .val (.ref a_1), .val (.ref a_3), .val (.ref r_20), .val (.ref a_21), .val (.ref em)] [(.int (0 : Int32))]))
        refine own_G.go (fun t_ k_ => XS.ifNo X_27.here hx rfl (hb hby at_103) rfl ((if0 _ _).trans (teq (by decide : (0 : Int32) = (0 : Int32))).2) k_) ?_
        show own_G _ _ _ _ (T_27.setTop (mkF m 106 #[.val (.long p0), .second, .val (.long p1), .second, .val (.int p2), .val (.int p3), .val (.int p4), .val (.long p1), .second, .val (.ref a_1), .val (.ref a_3), .val (.ref r_20), .val (.ref a_21), .val (.ref em)] []))
        refine own_G.go (fun t_ k_ => XS.iconst X_27.here hx rfl (hb hby at_106) k_) ?_
        show own_G _ _ _ _ (T_27.setTop (mkF m 107 #[.val (.long p0), .second, .val (.long p1), .second, .val (.int p2), .val (.int p3), .val (.int p4), .val (.long p1), .second, .val (.ref a_1), .val (.ref a_3), .val (.ref r_20), .val (.ref a_21), .val (.ref em)] [(.int (1 : Int32))]))
        refine own_G.go (fun t_ k_ => XS.goto X_27.here hx rfl (pc0 := 107) (pc' := 111) rfl (hb hby at_107) (by decide) (by decide) k_) ?_
        show own_G _ _ _ _ (T_27.setTop (mkF m 111 #[.val (.long p0), .second, .val (.long p1), .second, .val (.int p2), .val (.int p3), .val (.int p4), .val (.long p1), .second, .val (.ref a_1), .val (.ref a_3), .val (.ref r_20), .val (.ref a_21), .val (.ref em)] [(.int (1 : Int32))]))
        exact own_G.endW X_27 hS_23 (Nat.le_refl _) hlk (v := (some (.int (1 : Int32)))) (fun h => by rw [hrt] at h; cases h) (fun fs hr => retN X_27 hx (z := (1 : Int32)) (t := .boolean) hrt (by simp) (hb hby at_111) hr) eh_27 ⟨rfl, N_27⟩ (by decide) (by decide)
      · obtain ⟨cq_29, kq_29, q_29a, q_29b, q_29c⟩ := isOf hZ_23 rfl Ex_23
        obtain ⟨_, T_29, L_29, Q_29, X_29, st_29⟩ := own_callV X_23 hx (z := (⟨"com/example/gristmill/gristmill/documents/DocumentRecord", "jobId", "()Ljava/util/OptionalLong;"⟩ : MethodName)) hown_23 (mvT hZ_23 (own_w hw 55 rfl)) (mvT hZ_23 (own_w hw 56 rfl)) (notFace_of_selects (args := #[]) (mvT hZ_23 (own_w hw 58 rfl))) (mvT hZ_23 (own_w hw 58 rfl)) (mvT hZ_23 (own_w hw 57 rfl)) (by decide) (Q := (Qolof Z p1 T_23.heap n0)) (backOf (W := 0) (rm_job1 l Z a0 hw [] a_21 p1 T_23.heap n0 (Nat.le_trans Z_5s (Nat.le_trans (Nat.le_trans (Nat.le_trans K_7.1 K_20.1) E_21.1) K_23.1)) Fj_23 hj) hZ_23 (own_w hw 59 rfl) (own_w hw 32 rfl) (by decide) (by decide)) q_29a q_29c (g := (mkF m 86 #[.val (.long p0), .second, .val (.long p1), .second, .val (.int p2), .val (.int p3), .val (.int p4), .val (.long p1), .second, .val (.ref a_1), .val (.ref a_3), .val (.ref r_20), .val (.ref a_21), .unset] [(.ref a_21)])) rfl (by rw [hml]; rfl) (argsL := []) (rest := []) (lenOf pd_3 rfl) rfl (by show 2 * 0 + _ ≤ _; exact Nat.le_of_eq rfl) (hb hby at_86) rfl rfl (by decide) (by decide)
        obtain ⟨r_29, rfl, Nq_29, K_29, lo_29, Ex_29, Fp_29, Fv_29⟩ := Q_29
        refine own_G.via st_29 ?_
        have N_29 := Fr.app N_23 Nq_29
        show own_G _ _ _ _ (T_29.setTop (mkF m 89 #[.val (.long p0), .second, .val (.long p1), .second, .val (.int p2), .val (.int p3), .val (.int p4), .val (.long p1), .second, .val (.ref a_1), .val (.ref a_3), .val (.ref r_20), .val (.ref a_21), .unset] [(.ref r_29)]))
        refine own_G.go (fun t_ k_ => XS.astore X_29.here hx rfl (hb hby at_89) rfl rfl (l' := #[.val (.long p0), .second, .val (.long p1), .second, .val (.int p2), .val (.int p3), .val (.int p4), .val (.long p1), .second, .val (.ref a_1), .val (.ref a_3), .val (.ref r_20), .val (.ref a_21), .val (.ref r_29)]) rfl k_) ?_
        show own_G _ _ _ _ (T_29.setTop (mkF m 91 #[.val (.long p0), .second, .val (.long p1), .second, .val (.int p2), .val (.int p3), .val (.int p4), .val (.long p1), .second, .val (.ref a_1), .val (.ref a_3), .val (.ref r_20), .val (.ref a_21), .val (.ref r_29)] []))
        refine own_G.go (fun t_ k_ => XS.lload X_29.here hx rfl (hb hby at_91) rfl k_) ?_
        show own_G _ _ _ _ (T_29.setTop (mkF m 93 #[.val (.long p0), .second, .val (.long p1), .second, .val (.int p2), .val (.int p3), .val (.int p4), .val (.long p1), .second, .val (.ref a_1), .val (.ref a_3), .val (.ref r_20), .val (.ref a_21), .val (.ref r_29)] [(.long p1)]))
        refine own_G.go (fun t_ k_ => XS.lconst X_29.here hx rfl (hb hby at_93) k_) ?_
        show own_G _ _ _ _ (T_29.setTop (mkF m 94 #[.val (.long p0), .second, .val (.long p1), .second, .val (.int p2), .val (.int p3), .val (.int p4), .val (.long p1), .second, .val (.ref a_1), .val (.ref a_3), .val (.ref r_20), .val (.ref a_21), .val (.ref r_29)] [(.long (0 : Int64)), (.long p1)]))
        refine own_G.go (fun t_ k_ => XS.lcmp X_29.here hx rfl (hb hby at_94) rfl k_) ?_
        show own_G _ _ _ _ (T_29.setTop (mkF m 95 #[.val (.long p0), .second, .val (.long p1), .second, .val (.int p2), .val (.int p3), .val (.int p4), .val (.long p1), .second, .val (.ref a_1), .val (.ref a_3), .val (.ref r_20), .val (.ref a_21), .val (.ref r_29)] [(.int (lcmpW p1 (0 : Int64)))]))
        refine own_G.go (fun t_ k_ => XS.ifYes X_29.here hx rfl (pc0 := 95) (pc' := 112) rfl (hb hby at_95) rfl ((if0 _ _).trans (feq (fun q => hj ((lw_eq _ _).mp q) : ¬ (lcmpW p1 (0 : Int64)) = (0 : Int32))).2) (by decide) (by decide) k_) ?_
        show own_G _ _ _ _ (T_29.setTop (mkF m 112 #[.val (.long p0), .second, .val (.long p1), .second, .val (.int p2), .val (.int p3), .val (.int p4), .val (.long p1), .second, .val (.ref a_1), .val (.ref a_3), .val (.ref r_20), .val (.ref a_21), .val (.ref r_29)] []))
        refine own_G.go (fun t_ k_ => XS.aload X_29.here hx rfl (hb hby at_112) rfl rfl k_) ?_
        show own_G _ _ _ _ (T_29.setTop (mkF m 114 #[.val (.long p0), .second, .val (.long p1), .second, .val (.int p2), .val (.int p3), .val (.int p4), .val (.long p1), .second, .val (.ref a_1), .val (.ref a_3), .val (.ref r_20), .val (.ref a_21), .val (.ref r_29)] [(.ref r_29)]))
        obtain ⟨cq_30, kq_30, q_30a, q_30b, q_30c⟩ := isOf hZ_23 rfl Ex_29
        obtain ⟨_, T_30, L_30, Q_30, X_30, st_30⟩ := own_callV X_29 hx (z := (⟨"java/util/OptionalLong", "isPresent", "()Z"⟩ : MethodName)) hown_23 (mvT hZ_23 (own_w hw 75 rfl)) (mvT hZ_23 (own_w hw 76 rfl)) (notFace_of_selects (args := #[]) (mvT hZ_23 (own_w hw 78 rfl))) (mvT hZ_23 (own_w hw 78 rfl)) (mvT hZ_23 (own_w hw 77 rfl)) (by decide) (Q := (Qp (.int (nar .boolean (1 : Int32))) T_29.heap)) (backOf (W := 0) (rm_isp l Z a0 hw [] r_29 (1 : Int32) T_29.heap n0 (Nat.le_trans Z_5s (Nat.le_trans (Nat.le_trans (Nat.le_trans (Nat.le_trans K_7.1 K_20.1) E_21.1) K_23.1) K_29.1)) Fp_29) hZ_23 (own_w hw 79 rfl) (own_w hw 62 rfl) (by decide) (by decide)) q_30a q_30c (g := (mkF m 114 #[.val (.long p0), .second, .val (.long p1), .second, .val (.int p2), .val (.int p3), .val (.int p4), .val (.long p1), .second, .val (.ref a_1), .val (.ref a_3), .val (.ref r_20), .val (.ref a_21), .val (.ref r_29)] [(.ref r_29)])) rfl (by rw [hml]; rfl) (argsL := []) (rest := []) (lenOf pd_10 rfl) rfl (by show 2 * 0 + _ ≤ _; exact Nat.le_of_eq rfl) (hb hby at_114) rfl rfl (by decide) (by decide)
        obtain ⟨rfl, rfl, eh_30⟩ := Q_30
        refine own_G.via st_30 ?_
        have N_30 := Fr.app N_29 (Fr.nil n0)
        show own_G _ _ _ _ (T_30.setTop (mkF m 117 #[.val (.long p0), .second, .val (.long p1), .second, .val (.int p2), .val (.int p3), .val (.int p4), .val (.long p1), .second, .val (.ref a_1), .val (.ref a_3), .val (.ref r_20), .val (.ref a_21), .val (.ref r_29)] [(.int (1 : Int32))]))
        refine own_G.go (fun t_ k_ => XS.ifNo X_30.here hx rfl (hb hby at_117) rfl ((if0 _ _).trans (feq (by decide : ¬ ((1 : Int32) = (0 : Int32)))).1) k_) ?_
        show own_G _ _ _ _ (T_30.setTop (mkF m 120 #[.val (.long p0), .second, .val (.long p1), .second, .val (.int p2), .val (.int p3), .val (.int p4), .val (.long p1), .second, .val (.ref a_1), .val (.ref a_3), .val (.ref r_20), .val (.ref a_21), .val (.ref r_29)] []))
        refine own_G.go (fun t_ k_ => XS.aload X_30.here hx rfl (hb hby at_120) rfl rfl k_) ?_
        show own_G _ _ _ _ (T_30.setTop (mkF m 122 #[.val (.long p0), .second, .val (.long p1), .second, .val (.int p2), .val (.int p3), .val (.int p4), .val (.long p1), .second, .val (.ref a_1), .val (.ref a_3), .val (.ref r_20), .val (.ref a_21), .val (.ref r_29)] [(.ref r_29)]))
        obtain ⟨cq_31, kq_31, q_31a, q_31b, q_31c⟩ := isOf hZ_23 eh_30 Ex_29
        obtain ⟨_, T_31, L_31, Q_31, X_31, st_31⟩ := own_callV X_30 hx (z := (⟨"java/util/OptionalLong", "getAsLong", "()J"⟩ : MethodName)) hown_23 (mvT hZ_23 (own_w hw 80 rfl)) (mvT hZ_23 (own_w hw 81 rfl)) (notFace_of_selects (args := #[]) (mvT hZ_23 (own_w hw 83 rfl))) (mvT hZ_23 (own_w hw 83 rfl)) (mvT hZ_23 (own_w hw 82 rfl)) (by decide) (Q := (Qp (.long p1) T_29.heap)) (backOf (W := 0) (rm_gal l Z a0 hw [] r_29 p1 T_29.heap n0 (Nat.le_trans Z_5s (Nat.le_trans (Nat.le_trans (Nat.le_trans (Nat.le_trans K_7.1 K_20.1) E_21.1) K_23.1) K_29.1)) Fp_29 Fv_29) hZ_23 (own_w hw 84 rfl) (own_w hw 62 rfl) (by decide) (by decide)) q_31a q_31c (g := (mkF m 122 #[.val (.long p0), .second, .val (.long p1), .second, .val (.int p2), .val (.int p3), .val (.int p4), .val (.long p1), .second, .val (.ref a_1), .val (.ref a_3), .val (.ref r_20), .val (.ref a_21), .val (.ref r_29)] [(.ref r_29)])) rfl (by rw [hml]; rfl) (argsL := []) (rest := []) (lenOf pd_11 rfl) rfl (by show 2 * 0 + _ ≤ _; exact Nat.le_of_eq rfl) (hb hby at_122) eh_30 rfl (by decide) (by decide)
        obtain ⟨rfl, rfl, eh_31⟩ := Q_31
        refine own_G.via st_31 ?_
        have N_31 := Fr.app N_30 (Fr.nil n0)
        show own_G _ _ _ _ (T_31.setTop (mkF m 125 #[.val (.long p0), .second, .val (.long p1), .second, .val (.int p2), .val (.int p3), .val (.int p4), .val (.long p1), .second, .val (.ref a_1), .val (.ref a_3), .val (.ref r_20), .val (.ref a_21), .val (.ref r_29)] [(.long p1)]))
        refine own_G.go (fun t_ k_ => XS.lload X_31.here hx rfl (hb hby at_125) rfl k_) ?_
        show own_G _ _ _ _ (T_31.setTop (mkF m 127 #[.val (.long p0), .second, .val (.long p1), .second, .val (.int p2), .val (.int p3), .val (.int p4), .val (.long p1), .second, .val (.ref a_1), .val (.ref a_3), .val (.ref r_20), .val (.ref a_21), .val (.ref r_29)] [(.long p1), (.long p1)]))
        refine own_G.go (fun t_ k_ => XS.lcmp X_31.here hx rfl (hb hby at_127) rfl k_) ?_
        show own_G _ _ _ _ (T_31.setTop (mkF m 128 #[.val (.long p0), .second, .val (.long p1), .second, .val (.int p2), .val (.int p3), .val (.int p4), .val (.long p1), .second, .val (.ref a_1), .val (.ref a_3), .val (.ref r_20), .val (.ref a_21), .val (.ref r_29)] [(.int (lcmpW p1 p1))]))
        refine own_G.go (fun t_ k_ => XS.ifNo X_31.here hx rfl (hb hby at_128) rfl ((if0 _ _).trans (teq ((lw_eq _ _).mpr rfl : (lcmpW p1 p1) = (0 : Int32))).2) k_) ?_
        show own_G _ _ _ _ (T_31.setTop (mkF m 131 #[.val (.long p0), .second, .val (.long p1), .second, .val (.int p2), .val (.int p3), .val (.int p4), .val (.long p1), .second, .val (.ref a_1), .val (.ref a_3), .val (.ref r_20), .val (.ref a_21), .val (.ref r_29)] []))
        refine own_G.go (fun t_ k_ => XS.iconst X_31.here hx rfl (hb hby at_131) k_) ?_
        show own_G _ _ _ _ (T_31.setTop (mkF m 132 #[.val (.long p0), .second, .val (.long p1), .second, .val (.int p2), .val (.int p3), .val (.int p4), .val (.long p1), .second, .val (.ref a_1), .val (.ref a_3), .val (.ref r_20), .val (.ref a_21), .val (.ref r_29)] [(.int (1 : Int32))]))
        refine own_G.go (fun t_ k_ => XS.goto X_31.here hx rfl (pc0 := 132) (pc' := 136) rfl (hb hby at_132) (by decide) (by decide) k_) ?_
        show own_G _ _ _ _ (T_31.setTop (mkF m 136 #[.val (.long p0), .second, .val (.long p1), .second, .val (.int p2), .val (.int p3), .val (.int p4), .val (.long p1), .second, .val (.ref a_1), .val (.ref a_3), .val (.ref r_20), .val (.ref a_21), .val (.ref r_29)] [(.int (1 : Int32))]))
        exact own_G.endW X_31 hS_23 (Nat.le_trans (Nat.le_refl _) K_29.1) hlk (v := (some (.int (1 : Int32)))) (fun h => by rw [hrt] at h; cases h) (fun fs hr => retN X_31 hx (z := (1 : Int32)) (t := .boolean) hrt (by simp) (hb hby at_136) hr) eh_31 ⟨rfl, N_31⟩ (by decide) (by decide)
  · refine own_G.go (fun t_ k_ => XS.ifNo X0.here hx rfl (hb hby at_4) rfl ((if0 _ _).trans (feq hf2).1) k_) ?_
    show own_G _ _ _ _ (s₁.setTop (mkF m 7 #[.val (.long p0), .second, .val (.long p1), .second, .val (.int p2), .val (.int p3), .val (.int p4), .unset, .unset, .unset, .unset, .unset, .unset, .unset] []))
    refine own_G.go (fun t_ k_ => XS.lconst X0.here hx rfl (hb hby at_7) k_) ?_
    show own_G _ _ _ _ (s₁.setTop (mkF m 8 #[.val (.long p0), .second, .val (.long p1), .second, .val (.int p2), .val (.int p3), .val (.int p4), .unset, .unset, .unset, .unset, .unset, .unset, .unset] [(.long (0 : Int64))]))
    refine own_G.go (fun t_ k_ => XS.goto X0.here hx rfl (pc0 := 8) (pc' := 12) rfl (hb hby at_8) (by decide) (by decide) k_) ?_
    show own_G _ _ _ _ (s₁.setTop (mkF m 12 #[.val (.long p0), .second, .val (.long p1), .second, .val (.int p2), .val (.int p3), .val (.int p4), .unset, .unset, .unset, .unset, .unset, .unset, .unset] [(.long (0 : Int64))]))
    refine own_G.go (fun t_ k_ => XS.lstore X0.here hx rfl (hb hby at_12) rfl (l' := #[.val (.long p0), .second, .val (.long p1), .second, .val (.int p2), .val (.int p3), .val (.int p4), .val (.long (0 : Int64)), .second, .unset, .unset, .unset, .unset, .unset]) rfl k_) ?_
    show own_G _ _ _ _ (s₁.setTop (mkF m 14 #[.val (.long p0), .second, .val (.long p1), .second, .val (.int p2), .val (.int p3), .val (.int p4), .val (.long (0 : Int64)), .second, .unset, .unset, .unset, .unset, .unset] []))
    refine own_G.go (fun t_ k_ => XS.iconst X0.here hx rfl (hb hby at_14) k_) ?_
    show own_G _ _ _ _ (s₁.setTop (mkF m 15 #[.val (.long p0), .second, .val (.long p1), .second, .val (.int p2), .val (.int p3), .val (.int p4), .val (.long (0 : Int64)), .second, .unset, .unset, .unset, .unset, .unset] [(.int (1 : Int32))]))
    obtain ⟨T_32, h_32, k_32, X_32, e_32, E_32, A_32, st_32⟩ := newP X0 hx hZ (own_w hw 0 rfl) e0 (g := (mkF m 15 #[.val (.long p0), .second, .val (.long p1), .second, .val (.int p2), .val (.int p3), .val (.int p4), .val (.long (0 : Int64)), .second, .unset, .unset, .unset, .unset, .unset] [(.int (1 : Int32))])) rfl (hb hby at_15) rfl (by decide : ¬ ((1 : Int32) < (0 : Int32))) (cap := 1) (by decide : ((1 : Int32)).toNatClampNeg ≤ 1) (by decide) (by decide) (by decide)
    obtain ⟨a_32, g_32⟩ : ∃ z, z = h0.size := ⟨_, rfl⟩
    rw [← g_32] at A_32 st_32
    refine own_G.go st_32 ?_
    have V_32 : Arv Z h_32 a_32 k_32 .char (1 : Int32) ([(.int (0 : Int32))] : List Value) (.int (0 : Int32)) := (Arv.new A_32 (by decide : ¬ ((1 : Int32) < (0 : Int32)))).pad (pad_rep [] (.int (0 : Int32)) 1)
    show own_G _ _ _ _ (T_32.setTop (mkF m 17 #[.val (.long p0), .second, .val (.long p1), .second, .val (.int p2), .val (.int p3), .val (.int p4), .val (.long (0 : Int64)), .second, .unset, .unset, .unset, .unset, .unset] [(.ref a_32)]))
    refine own_G.go (fun t_ k_ => XS.astore X_32.here hx rfl (hb hby at_17) rfl rfl (l' := #[.val (.long p0), .second, .val (.long p1), .second, .val (.int p2), .val (.int p3), .val (.int p4), .val (.long (0 : Int64)), .second, .val (.ref a_32), .unset, .unset, .unset, .unset]) rfl k_) ?_
    show own_G _ _ _ _ (T_32.setTop (mkF m 19 #[.val (.long p0), .second, .val (.long p1), .second, .val (.int p2), .val (.int p3), .val (.int p4), .val (.long (0 : Int64)), .second, .val (.ref a_32), .unset, .unset, .unset, .unset] []))
    refine own_G.go (fun t_ k_ => XS.aload X_32.here hx rfl (hb hby at_19) rfl rfl k_) ?_
    show own_G _ _ _ _ (T_32.setTop (mkF m 21 #[.val (.long p0), .second, .val (.long p1), .second, .val (.int p2), .val (.int p3), .val (.int p4), .val (.long (0 : Int64)), .second, .val (.ref a_32), .unset, .unset, .unset, .unset] [(.ref a_32)]))
    refine own_G.go (fun t_ k_ => XS.iconst X_32.here hx rfl (hb hby at_21) k_) ?_
    show own_G _ _ _ _ (T_32.setTop (mkF m 22 #[.val (.long p0), .second, .val (.long p1), .second, .val (.int p2), .val (.int p3), .val (.int p4), .val (.long (0 : Int64)), .second, .val (.ref a_32), .unset, .unset, .unset, .unset] [(.int (0 : Int32)), (.ref a_32)]))
    refine own_G.go (fun t_ k_ => XS.iload X_32.here hx rfl (hb hby at_22) rfl k_) ?_
    show own_G _ _ _ _ (T_32.setTop (mkF m 24 #[.val (.long p0), .second, .val (.long p1), .second, .val (.int p2), .val (.int p3), .val (.int p4), .val (.long (0 : Int64)), .second, .val (.ref a_32), .unset, .unset, .unset, .unset] [(.int p3), (.int (0 : Int32)), (.ref a_32)]))
    refine own_G.go (fun t_ k_ => XS.sipush X_32.here hx rfl (hb hby at_24) k_) ?_
    show own_G _ _ _ _ (T_32.setTop (mkF m 27 #[.val (.long p0), .second, .val (.long p1), .second, .val (.int p2), .val (.int p3), .val (.int p4), .val (.long (0 : Int64)), .second, .val (.ref a_32), .unset, .unset, .unset, .unset] [(.int (255 : Int32)), (.int p3), (.int (0 : Int32)), (.ref a_32)]))
    refine own_G.go (fun t_ k_ => XS.iand X_32.here hx rfl (hb hby at_27) rfl k_) ?_
    show own_G _ _ _ _ (T_32.setTop (mkF m 28 #[.val (.long p0), .second, .val (.long p1), .second, .val (.int p2), .val (.int p3), .val (.int p4), .val (.long (0 : Int64)), .second, .val (.ref a_32), .unset, .unset, .unset, .unset] [(.int (p3 &&& (255 : Int32))), (.int (0 : Int32)), (.ref a_32)]))
    refine own_G.go (fun t_ k_ => XS.i2c X_32.here hx rfl (hb hby at_28) rfl k_) ?_
    show own_G _ _ _ _ (T_32.setTop (mkF m 29 #[.val (.long p0), .second, .val (.long p1), .second, .val (.int p2), .val (.int p3), .val (.int p4), .val (.long (0 : Int64)), .second, .val (.ref a_32), .unset, .unset, .unset, .unset] [(.int (own_c (p3 &&& (255 : Int32)))), (.int (0 : Int32)), (.ref a_32)]))
    obtain ⟨T_33, h_33, X_33, e_33, W_33, V_33, st_33⟩ := own_stC X_32 hx hZ e_32 V_32 (j := (0 : Int32)) 0 (Nat.le_of_ble_eq_true rfl) (by decide) (by decide : ¬ ((0 : Int32) < (0 : Int32)) ∧ (0 : Int32) < (1 : Int32)) (g := (mkF m 29 #[.val (.long p0), .second, .val (.long p1), .second, .val (.int p2), .val (.int p3), .val (.int p4), .val (.long (0 : Int64)), .second, .val (.ref a_32), .unset, .unset, .unset, .unset] [(.int (own_c (p3 &&& (255 : Int32)))), (.int (0 : Int32)), (.ref a_32)])) rfl rfl (hb hby at_29)
    refine own_G.go st_33 ?_
    have V_33q : Arv Z h_33 a_32 k_32 .char (1 : Int32) ([(.int (nar .char (own_c (p3 &&& (255 : Int32)))))] : List Value) (.int (0 : Int32)) := V_33
    have g0_a_32 : n0 ≤ a_32 := Nat.le_trans Z0 (Nat.le_of_eq g_32.symm)
    have N_33 := Fr.snoc X_33 N0 g0_a_32
    show own_G _ _ _ _ (T_33.setTop (mkF m 30 #[.val (.long p0), .second, .val (.long p1), .second, .val (.int p2), .val (.int p3), .val (.int p4), .val (.long (0 : Int64)), .second, .val (.ref a_32), .unset, .unset, .unset, .unset] []))
    obtain ⟨T_34, h_34, X_34, e_34, E_34, A_34, D_34, -, st_34⟩ := newO X_33 hx hZ hown (own_w hw 1 rfl) (own_w hw 2 rfl) (own_w hw 3 rfl) e_33 (g := (mkF m 30 #[.val (.long p0), .second, .val (.long p1), .second, .val (.int p2), .val (.int p3), .val (.int p4), .val (.long (0 : Int64)), .second, .val (.ref a_32), .unset, .unset, .unset, .unset] [])) rfl (hb hby at_30) (by decide) (by decide)
    obtain ⟨a_34, g_34⟩ : ∃ z, z = h_33.size := ⟨_, rfl⟩
    rw [← g_34] at A_34 D_34 st_34
    refine own_G.go st_34 ?_
    have F_34_coder : Fld Z h_34 a_34 "java/lang/String" "coder" "B" (.int (0 : Int32)) := D_34 (Or.inr (own_w hw 27 rfl)) (ty := .byte) (by decide)
    have F_34_value : Fld Z h_34 a_34 "java/lang/String" "value" "[B" .null := D_34 (Or.inr (own_w hw 29 rfl)) (ty := (.array .byte)) (by decide)
    show own_G _ _ _ _ (T_34.setTop (mkF m 33 #[.val (.long p0), .second, .val (.long p1), .second, .val (.int p2), .val (.int p3), .val (.int p4), .val (.long (0 : Int64)), .second, .val (.ref a_32), .unset, .unset, .unset, .unset] [(.ref a_34)]))
    refine own_G.go (fun t_ k_ => XS.dup X_34.here hx rfl (hb hby at_33) rfl rfl k_) ?_
    show own_G _ _ _ _ (T_34.setTop (mkF m 34 #[.val (.long p0), .second, .val (.long p1), .second, .val (.int p2), .val (.int p3), .val (.int p4), .val (.long (0 : Int64)), .second, .val (.ref a_32), .unset, .unset, .unset, .unset] [(.ref a_34), (.ref a_34)]))
    refine own_G.go (fun t_ k_ => XS.aload X_34.here hx rfl (hb hby at_34) rfl rfl k_) ?_
    show own_G _ _ _ _ (T_34.setTop (mkF m 36 #[.val (.long p0), .second, .val (.long p1), .second, .val (.int p2), .val (.int p3), .val (.int p4), .val (.long (0 : Int64)), .second, .val (.ref a_32), .unset, .unset, .unset, .unset] [(.ref a_32), (.ref a_34), (.ref a_34)]))
    have V_33q'_35 : Arv Z h_34 a_32 k_32 .char (1 : Int32) ([(.int (nar .char (own_c (p3 &&& (255 : Int32)))))] : List Value) (.int (0 : Int32)) := (V_33q.ext E_34)
    have hp : ∀ c ∈ ([(nar .char (own_c (p3 &&& (255 : Int32))))] : List Int32), ¬ c < 0 ∧ ¬ (255 : Int32) < c := fun c hc => by rw [List.mem_singleton] at hc; subst hc; exact own_nc _
    have g0_a_34 : n0 ≤ a_34 := Nat.le_trans (Nat.le_trans Z0 (Nat.le_trans E_32.1 (Keep.of_wr W_33).1)) (Nat.le_of_eq g_34.symm)
    have Z_36s : n0 ≤ h_34.size := (Nat.le_trans Z0 (Nat.le_trans (Nat.le_trans E_32.1 (Keep.of_wr W_33).1) E_34.1))
    have O_37d : Old Z n0 h_34 := (((X00.ext E_32).wr W_33 g0_a_32).ext E_34)
    obtain ⟨_, T_38, L_38, Q_38, X_38, st_38⟩ := own_callI X_34 hx rfl hown (mvT hZ (own_w hw 4 rfl)) (mvT hZ (own_w hw 5 rfl)) (mvT hZ (own_w hw 6 rfl)) (by decide) (Q := (StrChars.Road.QV Z a_34 (1 : Int32) (([(nar .char (own_c (p3 &&& (255 : Int32))))] : List Int32).map (fun c => c.toInt8.toInt32)) h_34 n0)) (StrChars.Road.backV (W := 1) hZ hws (kI := 4) (own_w hw 2 rfl) (cs := ([(nar .char (own_c (p3 &&& (255 : Int32))))] : List Int32)) (bs := ([(nar .char (own_c (p3 &&& (255 : Int32))))] : List Int32).map (fun c => c.toInt8.toInt32)) (n := 1) g0_a_34 Z_36s A_34 F_34_value F_34_coder V_33q'_35 (O2.ext O_37d.2) P5 rfl rfl (by decide) (by decide) hp rfl (by decide) (by decide)) (a := a_34) (g := (mkF m 36 #[.val (.long p0), .second, .val (.long p1), .second, .val (.int p2), .val (.int p3), .val (.int p4), .val (.long (0 : Int64)), .second, .val (.ref a_32), .unset, .unset, .unset, .unset] [(.ref a_32), (.ref a_34), (.ref a_34)])) rfl (by rw [hml]; rfl) (argsL := [(.ref a_32)]) (rest := [(.ref a_34)]) (lenOf pd_8 rfl) rfl (by show 2 * 0 + _ ≤ _; exact Nat.le_of_eq rfl) (hb hby at_36) e_34 rfl (by decide) (by decide)
    obtain ⟨rfl, Nq_38, K_38, Ex_38, -, -⟩ := Q_38
    refine own_G.via st_38 ?_
    have N_38 := Fr.app N_33 Nq_38
    show own_G _ _ _ _ (T_38.setTop (mkF m 39 #[.val (.long p0), .second, .val (.long p1), .second, .val (.int p2), .val (.int p3), .val (.int p4), .val (.long (0 : Int64)), .second, .val (.ref a_32), .unset, .unset, .unset, .unset] [(.ref a_34)]))
    refine own_G.go (fun t_ k_ => XS.astore X_38.here hx rfl (hb hby at_39) rfl rfl (l' := #[.val (.long p0), .second, .val (.long p1), .second, .val (.int p2), .val (.int p3), .val (.int p4), .val (.long (0 : Int64)), .second, .val (.ref a_32), .val (.ref a_34), .unset, .unset, .unset]) rfl k_) ?_
    show own_G _ _ _ _ (T_38.setTop (mkF m 41 #[.val (.long p0), .second, .val (.long p1), .second, .val (.int p2), .val (.int p3), .val (.int p4), .val (.long (0 : Int64)), .second, .val (.ref a_32), .val (.ref a_34), .unset, .unset, .unset] []))
    refine own_G.go (fun t_ k_ => XS.aconstNull X_38.here hx rfl (hb hby at_41) k_) ?_
    show own_G _ _ _ _ (T_38.setTop (mkF m 42 #[.val (.long p0), .second, .val (.long p1), .second, .val (.int p2), .val (.int p3), .val (.int p4), .val (.long (0 : Int64)), .second, .val (.ref a_32), .val (.ref a_34), .unset, .unset, .unset] [.null]))
    refine own_G.go (fun t_ k_ => XS.astore X_38.here hx rfl (hb hby at_42) rfl rfl (l' := #[.val (.long p0), .second, .val (.long p1), .second, .val (.int p2), .val (.int p3), .val (.int p4), .val (.long (0 : Int64)), .second, .val (.ref a_32), .val (.ref a_34), .val .null, .unset, .unset]) rfl k_) ?_
    show own_G _ _ _ _ (T_38.setTop (mkF m 44 #[.val (.long p0), .second, .val (.long p1), .second, .val (.int p2), .val (.int p3), .val (.int p4), .val (.long (0 : Int64)), .second, .val (.ref a_32), .val (.ref a_34), .val .null, .unset, .unset] []))
    refine own_G.go (fun t_ k_ => XS.iload X_38.here hx rfl (hb hby at_44) rfl k_) ?_
    show own_G _ _ _ _ (T_38.setTop (mkF m 46 #[.val (.long p0), .second, .val (.long p1), .second, .val (.int p2), .val (.int p3), .val (.int p4), .val (.long (0 : Int64)), .second, .val (.ref a_32), .val (.ref a_34), .val .null, .unset, .unset] [(.int p4)]))
    refine own_G.go (fun t_ k_ => XS.iconst X_38.here hx rfl (hb hby at_46) k_) ?_
    show own_G _ _ _ _ (T_38.setTop (mkF m 47 #[.val (.long p0), .second, .val (.long p1), .second, .val (.int p2), .val (.int p3), .val (.int p4), .val (.long (0 : Int64)), .second, .val (.ref a_32), .val (.ref a_34), .val .null, .unset, .unset] [(.int (1 : Int32)), (.int p4)]))
    refine own_G.go (fun t_ k_ => XS.iand X_38.here hx rfl (hb hby at_47) rfl k_) ?_
    show own_G _ _ _ _ (T_38.setTop (mkF m 48 #[.val (.long p0), .second, .val (.long p1), .second, .val (.int p2), .val (.int p3), .val (.int p4), .val (.long (0 : Int64)), .second, .val (.ref a_32), .val (.ref a_34), .val .null, .unset, .unset] [(.int (p4 &&& (1 : Int32)))]))
    by_cases hf1 : (p4 &&& (1 : Int32)) = (0 : Int32)
    · refine own_G.go (fun t_ k_ => XS.ifYes X_38.here hx rfl (pc0 := 48) (pc' := 66) rfl (hb hby at_48) rfl ((if0 _ _).trans (teq hf1).1) (by decide) (by decide) k_) ?_
      show own_G _ _ _ _ (T_38.setTop (mkF m 66 #[.val (.long p0), .second, .val (.long p1), .second, .val (.int p2), .val (.int p3), .val (.int p4), .val (.long (0 : Int64)), .second, .val (.ref a_32), .val (.ref a_34), .val .null, .unset, .unset] []))
      obtain ⟨T_39, h_39, X_39, e_39, E_39, A_39, D_39, -, st_39⟩ := newO X_38 hx hZ hown (own_w hw 30 rfl) (own_w hw 31 rfl) (own_w hw 32 rfl) rfl (g := (mkF m 66 #[.val (.long p0), .second, .val (.long p1), .second, .val (.int p2), .val (.int p3), .val (.int p4), .val (.long (0 : Int64)), .second, .val (.ref a_32), .val (.ref a_34), .val .null, .unset, .unset] [])) rfl (hb hby at_66) (by decide) (by decide)
      obtain ⟨a_39, g_39⟩ : ∃ z, z = T_38.heap.size := ⟨_, rfl⟩
      rw [← g_39] at A_39 D_39 st_39
      refine own_G.go st_39 ?_
      have F_39_id : Fld Z h_39 a_39 "com/example/gristmill/gristmill/documents/DocumentRecord" "id" "J" (.long (0 : Int64)) := D_39 (Or.inr (own_w hw 38 rfl)) (ty := .long) (by decide)
      have F_39_path : Fld Z h_39 a_39 "com/example/gristmill/gristmill/documents/DocumentRecord" "path" "Ljava/lang/String;" .null := D_39 (Or.inr (own_w hw 48 rfl)) (ty := (.object "java/lang/String")) (by decide)
      have F_39_mediaType : Fld Z h_39 a_39 "com/example/gristmill/gristmill/documents/DocumentRecord" "mediaType" "Ljava/lang/String;" .null := D_39 (Or.inr (own_w hw 50 rfl)) (ty := (.object "java/lang/String")) (by decide)
      have F_39_jobId : Fld Z h_39 a_39 "com/example/gristmill/gristmill/documents/DocumentRecord" "jobId" "J" (.long (0 : Int64)) := D_39 (Or.inr (own_w hw 52 rfl)) (ty := .long) (by decide)
      have F_39_characters : Fld Z h_39 a_39 "com/example/gristmill/gristmill/documents/DocumentRecord" "characters" "I" (.int (0 : Int32)) := D_39 (Or.inr (own_w hw 54 rfl)) (ty := .int) (by decide)
      show own_G _ _ _ _ (T_39.setTop (mkF m 69 #[.val (.long p0), .second, .val (.long p1), .second, .val (.int p2), .val (.int p3), .val (.int p4), .val (.long (0 : Int64)), .second, .val (.ref a_32), .val (.ref a_34), .val .null, .unset, .unset] [(.ref a_39)]))
      refine own_G.go (fun t_ k_ => XS.dup X_39.here hx rfl (hb hby at_69) rfl rfl k_) ?_
      show own_G _ _ _ _ (T_39.setTop (mkF m 70 #[.val (.long p0), .second, .val (.long p1), .second, .val (.int p2), .val (.int p3), .val (.int p4), .val (.long (0 : Int64)), .second, .val (.ref a_32), .val (.ref a_34), .val .null, .unset, .unset] [(.ref a_39), (.ref a_39)]))
      refine own_G.go (fun t_ k_ => XS.lloadN X_39.here hx rfl (hb hby at_70) rfl k_) ?_
      show own_G _ _ _ _ (T_39.setTop (mkF m 71 #[.val (.long p0), .second, .val (.long p1), .second, .val (.int p2), .val (.int p3), .val (.int p4), .val (.long (0 : Int64)), .second, .val (.ref a_32), .val (.ref a_34), .val .null, .unset, .unset] [(.long p0), (.ref a_39), (.ref a_39)]))
      refine own_G.go (fun t_ k_ => XS.aload X_39.here hx rfl (hb hby at_71) rfl rfl k_) ?_
      show own_G _ _ _ _ (T_39.setTop (mkF m 73 #[.val (.long p0), .second, .val (.long p1), .second, .val (.int p2), .val (.int p3), .val (.int p4), .val (.long (0 : Int64)), .second, .val (.ref a_32), .val (.ref a_34), .val .null, .unset, .unset] [(.ref a_34), (.long p0), (.ref a_39), (.ref a_39)]))
      refine own_G.go (fun t_ k_ => XS.aload X_39.here hx rfl (hb hby at_73) rfl rfl k_) ?_
      show own_G _ _ _ _ (T_39.setTop (mkF m 75 #[.val (.long p0), .second, .val (.long p1), .second, .val (.int p2), .val (.int p3), .val (.int p4), .val (.long (0 : Int64)), .second, .val (.ref a_32), .val (.ref a_34), .val .null, .unset, .unset] [.null, (.ref a_34), (.long p0), (.ref a_39), (.ref a_39)]))
      refine own_G.go (fun t_ k_ => XS.lload X_39.here hx rfl (hb hby at_75) rfl k_) ?_
      show own_G _ _ _ _ (T_39.setTop (mkF m 77 #[.val (.long p0), .second, .val (.long p1), .second, .val (.int p2), .val (.int p3), .val (.int p4), .val (.long (0 : Int64)), .second, .val (.ref a_32), .val (.ref a_34), .val .null, .unset, .unset] [(.long (0 : Int64)), .null, (.ref a_34), (.long p0), (.ref a_39), (.ref a_39)]))
      refine own_G.go (fun t_ k_ => XS.iload X_39.here hx rfl (hb hby at_77) rfl k_) ?_
      show own_G _ _ _ _ (T_39.setTop (mkF m 79 #[.val (.long p0), .second, .val (.long p1), .second, .val (.int p2), .val (.int p3), .val (.int p4), .val (.long (0 : Int64)), .second, .val (.ref a_32), .val (.ref a_34), .val .null, .unset, .unset] [(.int p2), (.long (0 : Int64)), .null, (.ref a_34), (.long p0), (.ref a_39), (.ref a_39)]))
      have g0_a_39 : n0 ≤ a_39 := Nat.le_trans (Nat.le_trans Z_36s K_38.1) (Nat.le_of_eq g_39.symm)
      have Ex_38'_40 : Exa Z h_39 a_34 "java/lang/String" := (Ex_38.ext E_39)
      obtain ⟨_, T_41, L_41, Q_41, X_41, hS_41, hZ_41, hown_41, st_41⟩ := own_callIW X_39 hx hS0 (Nat.le_trans (Nat.zero_le _) (Nat.le_trans (Nat.le_trans (Nat.le_trans (Nat.le_trans E_32.1 (Keep.of_wr W_33).1) E_34.1) K_38.1) E_39.1)) hZ rfl hown (mvT hZ (own_w hw 33 rfl)) (mvT hZ (own_w hw 34 rfl)) (mvT hZ (own_w hw 35 rfl)) (by decide) (Q := (fun v (U : State) L => Qdr Z a_39 (0 : Int64) h_39 n0 v U.heap L)) (own_backS (backOfS (W := 1) (rm_dr0 l Z a0 hw [] a_39 p0 a_34 (0 : Int64) p2 h_39 n0 (Nat.le_trans Z_36s (Nat.le_trans K_38.1 E_39.1)) g0_a_39 A_39 F_39_id F_39_path F_39_mediaType F_39_jobId F_39_characters Ex_38'_40) hZ (own_w hw 35 rfl) (own_w hw 32 rfl) (by decide) (by decide))) (a := a_39) (g := (mkF m 79 #[.val (.long p0), .second, .val (.long p1), .second, .val (.int p2), .val (.int p3), .val (.int p4), .val (.long (0 : Int64)), .second, .val (.ref a_32), .val (.ref a_34), .val .null, .unset, .unset] [(.int p2), (.long (0 : Int64)), .null, (.ref a_34), (.long p0), (.ref a_39), (.ref a_39)])) rfl (by rw [hml]; rfl) (argsL := [(.long p0), (.ref a_34), .null, (.long (0 : Int64)), (.int p2)]) (rest := [(.ref a_39)]) (lenOf pd_9 rfl) rfl (by show 2 * 0 + _ ≤ _; exact Nat.le_of_eq rfl) (hb hby at_79) e_39 rfl (by decide) (by decide)
      obtain ⟨rfl, Nq_41, K_41, Ex_41, Fj_41⟩ := Q_41
      refine own_G.via st_41 ?_
      have N_41 := Fr.app N_38 Nq_41
      show own_G _ _ _ _ (T_41.setTop (mkF m 82 #[.val (.long p0), .second, .val (.long p1), .second, .val (.int p2), .val (.int p3), .val (.int p4), .val (.long (0 : Int64)), .second, .val (.ref a_32), .val (.ref a_34), .val .null, .unset, .unset] [(.ref a_39)]))
      refine own_G.go (fun t_ k_ => XS.astore X_41.here hx rfl (hb hby at_82) rfl rfl (l' := #[.val (.long p0), .second, .val (.long p1), .second, .val (.int p2), .val (.int p3), .val (.int p4), .val (.long (0 : Int64)), .second, .val (.ref a_32), .val (.ref a_34), .val .null, .val (.ref a_39), .unset]) rfl k_) ?_
      show own_G _ _ _ _ (T_41.setTop (mkF m 84 #[.val (.long p0), .second, .val (.long p1), .second, .val (.int p2), .val (.int p3), .val (.int p4), .val (.long (0 : Int64)), .second, .val (.ref a_32), .val (.ref a_34), .val .null, .val (.ref a_39), .unset] []))
      refine own_G.go (fun t_ k_ => XS.aload X_41.here hx rfl (hb hby at_84) rfl rfl k_) ?_
      show own_G _ _ _ _ (T_41.setTop (mkF m 86 #[.val (.long p0), .second, .val (.long p1), .second, .val (.int p2), .val (.int p3), .val (.int p4), .val (.long (0 : Int64)), .second, .val (.ref a_32), .val (.ref a_34), .val .null, .val (.ref a_39), .unset] [(.ref a_39)]))
      have O_42d : Old Z n0 T_41.heap := (((O_37d.keep K_38 (allS g0_a_34 all0)).ext E_39).keep K_41 (allS g0_a_39 all0))
      obtain ⟨cq_43, kq_43, q_43a, q_43b, q_43c⟩ := isOf hZ_41 rfl Ex_41
      obtain ⟨_, T_43, L_43, Q_43, X_43, st_43⟩ := own_callV X_41 hx (z := (⟨"com/example/gristmill/gristmill/documents/DocumentRecord", "jobId", "()Ljava/util/OptionalLong;"⟩ : MethodName)) hown_41 (mvT hZ_41 (own_w hw 55 rfl)) (mvT hZ_41 (own_w hw 56 rfl)) (notFace_of_selects (args := #[]) (mvT hZ_41 (own_w hw 58 rfl))) (mvT hZ_41 (own_w hw 58 rfl)) (mvT hZ_41 (own_w hw 57 rfl)) (by decide) (Q := (Qp (.ref em) T_41.heap)) (backOf (W := 0) (rm_job0 l Z a0 hw [] a_39 em T_41.heap n0 (Nat.le_trans Z_36s (Nat.le_trans (Nat.le_trans K_38.1 E_39.1) K_41.1)) Fj_41 OE O_42d) hZ_41 (own_w hw 59 rfl) (own_w hw 32 rfl) (by decide) (by decide)) q_43a q_43c (g := (mkF m 86 #[.val (.long p0), .second, .val (.long p1), .second, .val (.int p2), .val (.int p3), .val (.int p4), .val (.long (0 : Int64)), .second, .val (.ref a_32), .val (.ref a_34), .val .null, .val (.ref a_39), .unset] [(.ref a_39)])) rfl (by rw [hml]; rfl) (argsL := []) (rest := []) (lenOf pd_3 rfl) rfl (by show 2 * 0 + _ ≤ _; exact Nat.le_of_eq rfl) (hb hby at_86) rfl rfl (by decide) (by decide)
      obtain ⟨rfl, rfl, eh_43⟩ := Q_43
      refine own_G.via st_43 ?_
      have N_43 := Fr.app N_41 (Fr.nil n0)
      show own_G _ _ _ _ (T_43.setTop (mkF m 89 #[.val (.long p0), .second, .val (.long p1), .second, .val (.int p2), .val (.int p3), .val (.int p4), .val (.long (0 : Int64)), .second, .val (.ref a_32), .val (.ref a_34), .val .null, .val (.ref a_39), .unset] [(.ref em)]))
      refine own_G.go (fun t_ k_ => XS.astore X_43.here hx rfl (hb hby at_89) rfl rfl (l' := #[.val (.long p0), .second, .val (.long p1), .second, .val (.int p2), .val (.int p3), .val (.int p4), .val (.long (0 : Int64)), .second, .val (.ref a_32), .val (.ref a_34), .val .null, .val (.ref a_39), .val (.ref em)]) rfl k_) ?_
      show own_G _ _ _ _ (T_43.setTop (mkF m 91 #[.val (.long p0), .second, .val (.long p1), .second, .val (.int p2), .val (.int p3), .val (.int p4), .val (.long (0 : Int64)), .second, .val (.ref a_32), .val (.ref a_34), .val .null, .val (.ref a_39), .val (.ref em)] []))
      refine own_G.go (fun t_ k_ => XS.lload X_43.here hx rfl (hb hby at_91) rfl k_) ?_
      show own_G _ _ _ _ (T_43.setTop (mkF m 93 #[.val (.long p0), .second, .val (.long p1), .second, .val (.int p2), .val (.int p3), .val (.int p4), .val (.long (0 : Int64)), .second, .val (.ref a_32), .val (.ref a_34), .val .null, .val (.ref a_39), .val (.ref em)] [(.long (0 : Int64))]))
      refine own_G.go (fun t_ k_ => XS.lconst X_43.here hx rfl (hb hby at_93) k_) ?_
      show own_G _ _ _ _ (T_43.setTop (mkF m 94 #[.val (.long p0), .second, .val (.long p1), .second, .val (.int p2), .val (.int p3), .val (.int p4), .val (.long (0 : Int64)), .second, .val (.ref a_32), .val (.ref a_34), .val .null, .val (.ref a_39), .val (.ref em)] [(.long (0 : Int64)), (.long (0 : Int64))]))
      refine own_G.go (fun t_ k_ => XS.lcmp X_43.here hx rfl (hb hby at_94) rfl k_) ?_
      show own_G _ _ _ _ (T_43.setTop (mkF m 95 #[.val (.long p0), .second, .val (.long p1), .second, .val (.int p2), .val (.int p3), .val (.int p4), .val (.long (0 : Int64)), .second, .val (.ref a_32), .val (.ref a_34), .val .null, .val (.ref a_39), .val (.ref em)] [(.int (lcmpW (0 : Int64) (0 : Int64)))]))
      refine own_G.go (fun t_ k_ => XS.ifNo X_43.here hx rfl (hb hby at_95) rfl ((if0 _ _).trans (teq (by decide : (lcmpW (0 : Int64) (0 : Int64)) = (0 : Int32))).2) k_) ?_
      show own_G _ _ _ _ (T_43.setTop (mkF m 98 #[.val (.long p0), .second, .val (.long p1), .second, .val (.int p2), .val (.int p3), .val (.int p4), .val (.long (0 : Int64)), .second, .val (.ref a_32), .val (.ref a_34), .val .null, .val (.ref a_39), .val (.ref em)] []))
      refine own_G.go (fun t_ k_ => XS.aload X_43.here hx rfl (hb hby at_98) rfl rfl k_) ?_
      show own_G _ _ _ _ (T_43.setTop (mkF m 100 #[.val (.long p0), .second, .val (.long p1), .second, .val (.int p2), .val (.int p3), .val (.int p4), .val (.long (0 : Int64)), .second, .val (.ref a_32), .val (.ref a_34), .val .null, .val (.ref a_39), .val (.ref em)] [(.ref em)]))
      have EMP'_44 : Fld Z T_41.heap em "java/util/OptionalLong" "isPresent" "Z" (.int (0 : Int32)) := ((((((EMP.ext E_32).other W_33 (Or.inl (Nat.ne_of_lt (Nat.lt_of_lt_of_le EM.lt (Nat.le_of_eq g_32.symm))))).ext E_34).keep K_38 (ninS (Nat.ne_of_lt (Nat.lt_of_lt_of_le (Nat.lt_of_lt_of_le EM.lt (Nat.le_trans E_32.1 (Keep.of_wr W_33).1)) (Nat.le_of_eq g_34.symm))) nin0)).ext E_39).keep K_41 (ninS (Nat.ne_of_lt (Nat.lt_of_lt_of_le (Nat.lt_of_lt_of_le EM.lt (Nat.le_trans (Nat.le_trans (Nat.le_trans E_32.1 (Keep.of_wr W_33).1) E_34.1) K_38.1)) (Nat.le_of_eq g_39.symm))) nin0))
      have EM'_46 : Exa Z T_41.heap em "java/util/OptionalLong" := ((((((EM.ext E_32).wr W_33).ext E_34).keep K_38).ext E_39).keep K_41)
      obtain ⟨cq_45, kq_45, q_45a, q_45b, q_45c⟩ := isOf hZ_41 eh_43 EM'_46
      obtain ⟨_, T_45, L_45, Q_45, X_45, st_45⟩ := own_callV X_43 hx (z := (⟨"java/util/OptionalLong", "isPresent", "()Z"⟩ : MethodName)) hown_41 (mvT hZ_41 (own_w hw 75 rfl)) (mvT hZ_41 (own_w hw 76 rfl)) (notFace_of_selects (args := #[]) (mvT hZ_41 (own_w hw 78 rfl))) (mvT hZ_41 (own_w hw 78 rfl)) (mvT hZ_41 (own_w hw 77 rfl)) (by decide) (Q := (Qp (.int (nar .boolean (0 : Int32))) T_41.heap)) (backOf (W := 0) (rm_isp l Z a0 hw [] em (0 : Int32) T_41.heap n0 (Nat.le_trans Z_36s (Nat.le_trans (Nat.le_trans K_38.1 E_39.1) K_41.1)) EMP'_44) hZ_41 (own_w hw 79 rfl) (own_w hw 62 rfl) (by decide) (by decide)) q_45a q_45c (g := (mkF m 100 #[.val (.long p0), .second, .val (.long p1), .second, .val (.int p2), .val (.int p3), .val (.int p4), .val (.long (0 : Int64)), .second, .val (.ref a_32), .val (.ref a_34), .val .null, .val (.ref a_39), .val (.ref em)] [(.ref em)])) rfl (by rw [hml]; rfl) (argsL := []) (rest := []) (lenOf pd_10 rfl) rfl (by show 2 * 0 + _ ≤ _; exact Nat.le_of_eq rfl) (hb hby at_100) eh_43 rfl (by decide) (by decide)
      obtain ⟨rfl, rfl, eh_45⟩ := Q_45
      refine own_G.via st_45 ?_
      have N_45 := Fr.app N_43 (Fr.nil n0)
      show own_G _ _ _ _ (T_45.setTop (mkF m 103 #[.val (.long p0), .second, .val (.long p1), .second, .val (.int p2), .val (.int p3), .val (.int p4), .val (.long (0 : Int64)), .second, .val (.ref a_32), .val (.ref a_34), .val .null, .val (.ref a_39), .val (.ref em)] [(.int (0 : Int32))]))
      refine own_G.go (fun t_ k_ => XS.ifNo X_45.here hx rfl (hb hby at_103) rfl ((if0 _ _).trans (teq (by decide : (0 : Int32) = (0 : Int32))).2) k_) ?_
      show own_G _ _ _ _ (T_45.setTop (mkF m 106 #[.val (.long p0), .second, .val (.long p1), .second, .val (.int p2), .val (.int p3), .val (.int p4), .val (.long (0 : Int64)), .second, .val (.ref a_32), .val (.ref a_34), .val .null, .val (.ref a_39), .val (.ref em)] []))
      refine own_G.go (fun t_ k_ => XS.iconst X_45.here hx rfl (hb hby at_106) k_) ?_
      show own_G _ _ _ _ (T_45.setTop (mkF m 107 #[.val (.long p0), .second, .val (.long p1), .second, .val (.int p2), .val (.int p3), .val (.int p4), .val (.long (0 : Int64)), .second, .val (.ref a_32), .val (.ref a_34), .val .null, .val (.ref a_39), .val (.ref em)] [(.int (1 : Int32))]))
      refine own_G.go (fun t_ k_ => XS.goto X_45.here hx rfl (pc0 := 107) (pc' := 111) rfl (hb hby at_107) (by decide) (by decide) k_) ?_
      show own_G _ _ _ _ (T_45.setTop (mkF m 111 #[.val (.long p0), .second, .val (.long p1), .second, .val (.int p2), .val (.int p3), .val (.int p4), .val (.long (0 : Int64)), .second, .val (.ref a_32), .val (.ref a_34), .val .null, .val (.ref a_39), .val (.ref em)] [(.int (1 : Int32))]))
      exact own_G.endW X_45 hS_41 (Nat.le_refl _) hlk (v := (some (.int (1 : Int32)))) (fun h => by rw [hrt] at h; cases h) (fun fs hr => retN X_45 hx (z := (1 : Int32)) (t := .boolean) hrt (by simp) (hb hby at_111) hr) eh_45 ⟨rfl, N_45⟩ (by decide) (by decide)
    · refine own_G.go (fun t_ k_ => XS.ifNo X_38.here hx rfl (hb hby at_48) rfl ((if0 _ _).trans (feq hf1).1) k_) ?_
      show own_G _ _ _ _ (T_38.setTop (mkF m 51 #[.val (.long p0), .second, .val (.long p1), .second, .val (.int p2), .val (.int p3), .val (.int p4), .val (.long (0 : Int64)), .second, .val (.ref a_32), .val (.ref a_34), .val .null, .unset, .unset] []))
      refine own_G.go (fun t_ k_ => XS.iload X_38.here hx rfl (hb hby at_51) rfl k_) ?_
      show own_G _ _ _ _ (T_38.setTop (mkF m 53 #[.val (.long p0), .second, .val (.long p1), .second, .val (.int p2), .val (.int p3), .val (.int p4), .val (.long (0 : Int64)), .second, .val (.ref a_32), .val (.ref a_34), .val .null, .unset, .unset] [(.int p3)]))
      refine own_G.go (fun t_ k_ => XS.bipush X_38.here hx rfl (hb hby at_53) k_) ?_
      show own_G _ _ _ _ (T_38.setTop (mkF m 55 #[.val (.long p0), .second, .val (.long p1), .second, .val (.int p2), .val (.int p3), .val (.int p4), .val (.long (0 : Int64)), .second, .val (.ref a_32), .val (.ref a_34), .val .null, .unset, .unset] [(.int (8 : Int32)), (.int p3)]))
      refine own_G.go (fun t_ k_ => XS.iushr X_38.here hx rfl (hb hby at_55) rfl k_) ?_
      show own_G _ _ _ _ (T_38.setTop (mkF m 56 #[.val (.long p0), .second, .val (.long p1), .second, .val (.int p2), .val (.int p3), .val (.int p4), .val (.long (0 : Int64)), .second, .val (.ref a_32), .val (.ref a_34), .val .null, .unset, .unset] [(.int (Jvm.Free.XT.ushr p3 (8 : Int32)))]))
      refine own_G.go (fun t_ k_ => XS.sipush X_38.here hx rfl (hb hby at_56) k_) ?_
      show own_G _ _ _ _ (T_38.setTop (mkF m 59 #[.val (.long p0), .second, .val (.long p1), .second, .val (.int p2), .val (.int p3), .val (.int p4), .val (.long (0 : Int64)), .second, .val (.ref a_32), .val (.ref a_34), .val .null, .unset, .unset] [(.int (255 : Int32)), (.int (Jvm.Free.XT.ushr p3 (8 : Int32)))]))
      refine own_G.go (fun t_ k_ => XS.iand X_38.here hx rfl (hb hby at_59) rfl k_) ?_
      show own_G _ _ _ _ (T_38.setTop (mkF m 60 #[.val (.long p0), .second, .val (.long p1), .second, .val (.int p2), .val (.int p3), .val (.int p4), .val (.long (0 : Int64)), .second, .val (.ref a_32), .val (.ref a_34), .val .null, .unset, .unset] [(.int ((Jvm.Free.XT.ushr p3 (8 : Int32)) &&& (255 : Int32)))]))
      refine own_G.go (fun t_ k_ => XS.i2c X_38.here hx rfl (hb hby at_60) rfl k_) ?_
      show own_G _ _ _ _ (T_38.setTop (mkF m 61 #[.val (.long p0), .second, .val (.long p1), .second, .val (.int p2), .val (.int p3), .val (.int p4), .val (.long (0 : Int64)), .second, .val (.ref a_32), .val (.ref a_34), .val .null, .unset, .unset] [(.int (own_c ((Jvm.Free.XT.ushr p3 (8 : Int32)) &&& (255 : Int32))))]))
      have O_47d : Old Z n0 T_38.heap := (O_37d.keep K_38 (allS g0_a_34 all0))
      obtain ⟨_, T_48, L_48, Q_48, X_48, st_48⟩ := own_callS X_38 hx hown (mvT hZ (own_w hw 85 rfl)) (mvT hZ (own_w hw 86 rfl)) (mvT hZ (own_w hw 3 rfl)) (mvT hZ (own_w hw 87 rfl)) (by decide) (Q := (Qvo Z T_38.heap n0)) (backOf (W := 0) (rm_vo l Z a0 hw [] (own_c ((Jvm.Free.XT.ushr p3 (8 : Int32)) &&& (255 : Int32))) zc T_38.heap n0 (Nat.le_trans Z_36s K_38.1) (own_n255 _) O2 P5 O_47d) hZ (own_w hw 87 rfl) (own_w hw 3 rfl) (by decide) (by decide)) (g := (mkF m 61 #[.val (.long p0), .second, .val (.long p1), .second, .val (.int p2), .val (.int p3), .val (.int p4), .val (.long (0 : Int64)), .second, .val (.ref a_32), .val (.ref a_34), .val .null, .unset, .unset] [(.int (own_c ((Jvm.Free.XT.ushr p3 (8 : Int32)) &&& (255 : Int32))))])) rfl (by rw [hml]; rfl) (argsL := [(.int (own_c ((Jvm.Free.XT.ushr p3 (8 : Int32)) &&& (255 : Int32))))]) (rest := []) (lenOf pd_12 rfl) rfl (by show 2 * 0 + _ ≤ _; exact Nat.le_of_eq rfl) (hb hby at_61) rfl rfl (by decide) (by decide)
      obtain ⟨r_48, rfl, Nq_48, K_48, lo_48, Ex_48⟩ := Q_48
      refine own_G.via st_48 ?_
      have N_48 := Fr.app N_38 Nq_48
      show own_G _ _ _ _ (T_48.setTop (mkF m 64 #[.val (.long p0), .second, .val (.long p1), .second, .val (.int p2), .val (.int p3), .val (.int p4), .val (.long (0 : Int64)), .second, .val (.ref a_32), .val (.ref a_34), .val .null, .unset, .unset] [(.ref r_48)]))
      refine own_G.go (fun t_ k_ => XS.astore X_48.here hx rfl (hb hby at_64) rfl rfl (l' := #[.val (.long p0), .second, .val (.long p1), .second, .val (.int p2), .val (.int p3), .val (.int p4), .val (.long (0 : Int64)), .second, .val (.ref a_32), .val (.ref a_34), .val (.ref r_48), .unset, .unset]) rfl k_) ?_
      show own_G _ _ _ _ (T_48.setTop (mkF m 66 #[.val (.long p0), .second, .val (.long p1), .second, .val (.int p2), .val (.int p3), .val (.int p4), .val (.long (0 : Int64)), .second, .val (.ref a_32), .val (.ref a_34), .val (.ref r_48), .unset, .unset] []))
      obtain ⟨T_49, h_49, X_49, e_49, E_49, A_49, D_49, -, st_49⟩ := newO X_48 hx hZ hown (own_w hw 30 rfl) (own_w hw 31 rfl) (own_w hw 32 rfl) rfl (g := (mkF m 66 #[.val (.long p0), .second, .val (.long p1), .second, .val (.int p2), .val (.int p3), .val (.int p4), .val (.long (0 : Int64)), .second, .val (.ref a_32), .val (.ref a_34), .val (.ref r_48), .unset, .unset] [])) rfl (hb hby at_66) (by decide) (by decide)
      obtain ⟨a_49, g_49⟩ : ∃ z, z = T_48.heap.size := ⟨_, rfl⟩
      rw [← g_49] at A_49 D_49 st_49
      refine own_G.go st_49 ?_
      have F_49_id : Fld Z h_49 a_49 "com/example/gristmill/gristmill/documents/DocumentRecord" "id" "J" (.long (0 : Int64)) := D_49 (Or.inr (own_w hw 38 rfl)) (ty := .long) (by decide)
      have F_49_path : Fld Z h_49 a_49 "com/example/gristmill/gristmill/documents/DocumentRecord" "path" "Ljava/lang/String;" .null := D_49 (Or.inr (own_w hw 48 rfl)) (ty := (.object "java/lang/String")) (by decide)
      have F_49_mediaType : Fld Z h_49 a_49 "com/example/gristmill/gristmill/documents/DocumentRecord" "mediaType" "Ljava/lang/String;" .null := D_49 (Or.inr (own_w hw 50 rfl)) (ty := (.object "java/lang/String")) (by decide)
      have F_49_jobId : Fld Z h_49 a_49 "com/example/gristmill/gristmill/documents/DocumentRecord" "jobId" "J" (.long (0 : Int64)) := D_49 (Or.inr (own_w hw 52 rfl)) (ty := .long) (by decide)
      have F_49_characters : Fld Z h_49 a_49 "com/example/gristmill/gristmill/documents/DocumentRecord" "characters" "I" (.int (0 : Int32)) := D_49 (Or.inr (own_w hw 54 rfl)) (ty := .int) (by decide)
      show own_G _ _ _ _ (T_49.setTop (mkF m 69 #[.val (.long p0), .second, .val (.long p1), .second, .val (.int p2), .val (.int p3), .val (.int p4), .val (.long (0 : Int64)), .second, .val (.ref a_32), .val (.ref a_34), .val (.ref r_48), .unset, .unset] [(.ref a_49)]))
      refine own_G.go (fun t_ k_ => XS.dup X_49.here hx rfl (hb hby at_69) rfl rfl k_) ?_
      show own_G _ _ _ _ (T_49.setTop (mkF m 70 #[.val (.long p0), .second, .val (.long p1), .second, .val (.int p2), .val (.int p3), .val (.int p4), .val (.long (0 : Int64)), .second, .val (.ref a_32), .val (.ref a_34), .val (.ref r_48), .unset, .unset] [(.ref a_49), (.ref a_49)]))
      refine own_G.go (fun t_ k_ => XS.lloadN X_49.here hx rfl (hb hby at_70) rfl k_) ?_
      show own_G _ _ _ _ (T_49.setTop (mkF m 71 #[.val (.long p0), .second, .val (.long p1), .second, .val (.int p2), .val (.int p3), .val (.int p4), .val (.long (0 : Int64)), .second, .val (.ref a_32), .val (.ref a_34), .val (.ref r_48), .unset, .unset] [(.long p0), (.ref a_49), (.ref a_49)]))
      refine own_G.go (fun t_ k_ => XS.aload X_49.here hx rfl (hb hby at_71) rfl rfl k_) ?_
      show own_G _ _ _ _ (T_49.setTop (mkF m 73 #[.val (.long p0), .second, .val (.long p1), .second, .val (.int p2), .val (.int p3), .val (.int p4), .val (.long (0 : Int64)), .second, .val (.ref a_32), .val (.ref a_34), .val (.ref r_48), .unset, .unset] [(.ref a_34), (.long p0), (.ref a_49), (.ref a_49)]))
      refine own_G.go (fun t_ k_ => XS.aload X_49.here hx rfl (hb hby at_73) rfl rfl k_) ?_
      show own_G _ _ _ _ (T_49.setTop (mkF m 75 #[.val (.long p0), .second, .val (.long p1), .second, .val (.int p2), .val (.int p3), .val (.int p4), .val (.long (0 : Int64)), .second, .val (.ref a_32), .val (.ref a_34), .val (.ref r_48), .unset, .unset] [(.ref r_48), (.ref a_34), (.long p0), (.ref a_49), (.ref a_49)]))
      refine own_G.go (fun t_ k_ => XS.lload X_49.here hx rfl (hb hby at_75) rfl k_) ?_
      show own_G _ _ _ _ (T_49.setTop (mkF m 77 #[.val (.long p0), .second, .val (.long p1), .second, .val (.int p2), .val (.int p3), .val (.int p4), .val (.long (0 : Int64)), .second, .val (.ref a_32), .val (.ref a_34), .val (.ref r_48), .unset, .unset] [(.long (0 : Int64)), (.ref r_48), (.ref a_34), (.long p0), (.ref a_49), (.ref a_49)]))
      refine own_G.go (fun t_ k_ => XS.iload X_49.here hx rfl (hb hby at_77) rfl k_) ?_
      show own_G _ _ _ _ (T_49.setTop (mkF m 79 #[.val (.long p0), .second, .val (.long p1), .second, .val (.int p2), .val (.int p3), .val (.int p4), .val (.long (0 : Int64)), .second, .val (.ref a_32), .val (.ref a_34), .val (.ref r_48), .unset, .unset] [(.int p2), (.long (0 : Int64)), (.ref r_48), (.ref a_34), (.long p0), (.ref a_49), (.ref a_49)]))
      have g0_a_49 : n0 ≤ a_49 := Nat.le_trans (Nat.le_trans Z_36s (Nat.le_trans K_38.1 K_48.1)) (Nat.le_of_eq g_49.symm)
      have Ex_38'_50 : Exa Z h_49 a_34 "java/lang/String" := ((Ex_38.keep K_48).ext E_49)
      obtain ⟨_, T_51, L_51, Q_51, X_51, hS_51, hZ_51, hown_51, st_51⟩ := own_callIW X_49 hx hS0 (Nat.le_trans (Nat.zero_le _) (Nat.le_trans (Nat.le_trans (Nat.le_trans (Nat.le_trans (Nat.le_trans E_32.1 (Keep.of_wr W_33).1) E_34.1) K_38.1) K_48.1) E_49.1)) hZ rfl hown (mvT hZ (own_w hw 33 rfl)) (mvT hZ (own_w hw 34 rfl)) (mvT hZ (own_w hw 35 rfl)) (by decide) (Q := (fun v (U : State) L => Qdr Z a_49 (0 : Int64) h_49 n0 v U.heap L)) (own_backS (backOfS (W := 1) (rm_dr1 l Z a0 hw [] a_49 p0 a_34 r_48 (0 : Int64) p2 h_49 n0 (Nat.le_trans Z_36s (Nat.le_trans (Nat.le_trans K_38.1 K_48.1) E_49.1)) g0_a_49 A_49 F_49_id F_49_path F_49_mediaType F_49_jobId F_49_characters Ex_38'_50) hZ (own_w hw 35 rfl) (own_w hw 32 rfl) (by decide) (by decide))) (a := a_49) (g := (mkF m 79 #[.val (.long p0), .second, .val (.long p1), .second, .val (.int p2), .val (.int p3), .val (.int p4), .val (.long (0 : Int64)), .second, .val (.ref a_32), .val (.ref a_34), .val (.ref r_48), .unset, .unset] [(.int p2), (.long (0 : Int64)), (.ref r_48), (.ref a_34), (.long p0), (.ref a_49), (.ref a_49)])) rfl (by rw [hml]; rfl) (argsL := [(.long p0), (.ref a_34), (.ref r_48), (.long (0 : Int64)), (.int p2)]) (rest := [(.ref a_49)]) (lenOf pd_9 rfl) rfl (by show 2 * 0 + _ ≤ _; exact Nat.le_of_eq rfl) (hb hby at_79) e_49 rfl (by decide) (by decide)
      obtain ⟨rfl, Nq_51, K_51, Ex_51, Fj_51⟩ := Q_51
      refine own_G.via st_51 ?_
      have N_51 := Fr.app N_48 Nq_51
      show own_G _ _ _ _ (T_51.setTop (mkF m 82 #[.val (.long p0), .second, .val (.long p1), .second, .val (.int p2), .val (.int p3), .val (.int p4), .val (.long (0 : Int64)), .second, .val (.ref a_32), .val (.ref a_34), .val (.ref r_48), .unset, .unset] [(.ref a_49)]))
      refine own_G.go (fun t_ k_ => XS.astore X_51.here hx rfl (hb hby at_82) rfl rfl (l' := #[.val (.long p0), .second, .val (.long p1), .second, .val (.int p2), .val (.int p3), .val (.int p4), .val (.long (0 : Int64)), .second, .val (.ref a_32), .val (.ref a_34), .val (.ref r_48), .val (.ref a_49), .unset]) rfl k_) ?_
      show own_G _ _ _ _ (T_51.setTop (mkF m 84 #[.val (.long p0), .second, .val (.long p1), .second, .val (.int p2), .val (.int p3), .val (.int p4), .val (.long (0 : Int64)), .second, .val (.ref a_32), .val (.ref a_34), .val (.ref r_48), .val (.ref a_49), .unset] []))
      refine own_G.go (fun t_ k_ => XS.aload X_51.here hx rfl (hb hby at_84) rfl rfl k_) ?_
      show own_G _ _ _ _ (T_51.setTop (mkF m 86 #[.val (.long p0), .second, .val (.long p1), .second, .val (.int p2), .val (.int p3), .val (.int p4), .val (.long (0 : Int64)), .second, .val (.ref a_32), .val (.ref a_34), .val (.ref r_48), .val (.ref a_49), .unset] [(.ref a_49)]))
      have O_52d : Old Z n0 T_51.heap := (((O_47d.keep K_48 all0).ext E_49).keep K_51 (allS g0_a_49 all0))
      obtain ⟨cq_53, kq_53, q_53a, q_53b, q_53c⟩ := isOf hZ_51 rfl Ex_51
      obtain ⟨_, T_53, L_53, Q_53, X_53, st_53⟩ := own_callV X_51 hx (z := (⟨"com/example/gristmill/gristmill/documents/DocumentRecord", "jobId", "()Ljava/util/OptionalLong;"⟩ : MethodName)) hown_51 (mvT hZ_51 (own_w hw 55 rfl)) (mvT hZ_51 (own_w hw 56 rfl)) (notFace_of_selects (args := #[]) (mvT hZ_51 (own_w hw 58 rfl))) (mvT hZ_51 (own_w hw 58 rfl)) (mvT hZ_51 (own_w hw 57 rfl)) (by decide) (Q := (Qp (.ref em) T_51.heap)) (backOf (W := 0) (rm_job0 l Z a0 hw [] a_49 em T_51.heap n0 (Nat.le_trans Z_36s (Nat.le_trans (Nat.le_trans (Nat.le_trans K_38.1 K_48.1) E_49.1) K_51.1)) Fj_51 OE O_52d) hZ_51 (own_w hw 59 rfl) (own_w hw 32 rfl) (by decide) (by decide)) q_53a q_53c (g := (mkF m 86 #[.val (.long p0), .second, .val (.long p1), .second, .val (.int p2), .val (.int p3), .val (.int p4), .val (.long (0 : Int64)), .second, .val (.ref a_32), .val (.ref a_34), .val (.ref r_48), .val (.ref a_49), .unset] [(.ref a_49)])) rfl (by rw [hml]; rfl) (argsL := []) (rest := []) (lenOf pd_3 rfl) rfl (by show 2 * 0 + _ ≤ _; exact Nat.le_of_eq rfl) (hb hby at_86) rfl rfl (by decide) (by decide)
      obtain ⟨rfl, rfl, eh_53⟩ := Q_53
      refine own_G.via st_53 ?_
      have N_53 := Fr.app N_51 (Fr.nil n0)
      show own_G _ _ _ _ (T_53.setTop (mkF m 89 #[.val (.long p0), .second, .val (.long p1), .second, .val (.int p2), .val (.int p3), .val (.int p4), .val (.long (0 : Int64)), .second, .val (.ref a_32), .val (.ref a_34), .val (.ref r_48), .val (.ref a_49), .unset] [(.ref em)]))
      refine own_G.go (fun t_ k_ => XS.astore X_53.here hx rfl (hb hby at_89) rfl rfl (l' := #[.val (.long p0), .second, .val (.long p1), .second, .val (.int p2), .val (.int p3), .val (.int p4), .val (.long (0 : Int64)), .second, .val (.ref a_32), .val (.ref a_34), .val (.ref r_48), .val (.ref a_49), .val (.ref em)]) rfl k_) ?_
      show own_G _ _ _ _ (T_53.setTop (mkF m 91 #[.val (.long p0), .second, .val (.long p1), .second, .val (.int p2), .val (.int p3), .val (.int p4), .val (.long (0 : Int64)), .second, .val (.ref a_32), .val (.ref a_34), .val (.ref r_48), .val (.ref a_49), .val (.ref em)] []))
      refine own_G.go (fun t_ k_ => XS.lload X_53.here hx rfl (hb hby at_91) rfl k_) ?_
      show own_G _ _ _ _ (T_53.setTop (mkF m 93 #[.val (.long p0), .second, .val (.long p1), .second, .val (.int p2), .val (.int p3), .val (.int p4), .val (.long (0 : Int64)), .second, .val (.ref a_32), .val (.ref a_34), .val (.ref r_48), .val (.ref a_49), .val (.ref em)] [(.long (0 : Int64))]))
      refine own_G.go (fun t_ k_ => XS.lconst X_53.here hx rfl (hb hby at_93) k_) ?_
      show own_G _ _ _ _ (T_53.setTop (mkF m 94 #[.val (.long p0), .second, .val (.long p1), .second, .val (.int p2), .val (.int p3), .val (.int p4), .val (.long (0 : Int64)), .second, .val (.ref a_32), .val (.ref a_34), .val (.ref r_48), .val (.ref a_49), .val (.ref em)] [(.long (0 : Int64)), (.long (0 : Int64))]))
      refine own_G.go (fun t_ k_ => XS.lcmp X_53.here hx rfl (hb hby at_94) rfl k_) ?_
      show own_G _ _ _ _ (T_53.setTop (mkF m 95 #[.val (.long p0), .second, .val (.long p1), .second, .val (.int p2), .val (.int p3), .val (.int p4), .val (.long (0 : Int64)), .second, .val (.ref a_32), .val (.ref a_34), .val (.ref r_48), .val (.ref a_49), .val (.ref em)] [(.int (lcmpW (0 : Int64) (0 : Int64)))]))
      refine own_G.go (fun t_ k_ => XS.ifNo X_53.here hx rfl (hb hby at_95) rfl ((if0 _ _).trans (teq (by decide : (lcmpW (0 : Int64) (0 : Int64)) = (0 : Int32))).2) k_) ?_
      show own_G _ _ _ _ (T_53.setTop (mkF m 98 #[.val (.long p0), .second, .val (.long p1), .second, .val (.int p2), .val (.int p3), .val (.int p4), .val (.long (0 : Int64)), .second, .val (.ref a_32), .val (.ref a_34), .val (.ref r_48), .val (.ref a_49), .val (.ref em)] []))
      refine own_G.go (fun t_ k_ => XS.aload X_53.here hx rfl (hb hby at_98) rfl rfl k_) ?_
      show own_G _ _ _ _ (T_53.setTop (mkF m 100 #[.val (.long p0), .second, .val (.long p1), .second, .val (.int p2), .val (.int p3), .val (.int p4), .val (.long (0 : Int64)), .second, .val (.ref a_32), .val (.ref a_34), .val (.ref r_48), .val (.ref a_49), .val (.ref em)] [(.ref em)]))
      have EMP'_54 : Fld Z T_51.heap em "java/util/OptionalLong" "isPresent" "Z" (.int (0 : Int32)) := (((((((EMP.ext E_32).other W_33 (Or.inl (Nat.ne_of_lt (Nat.lt_of_lt_of_le EM.lt (Nat.le_of_eq g_32.symm))))).ext E_34).keep K_38 (ninS (Nat.ne_of_lt (Nat.lt_of_lt_of_le (Nat.lt_of_lt_of_le EM.lt (Nat.le_trans E_32.1 (Keep.of_wr W_33).1)) (Nat.le_of_eq g_34.symm))) nin0)).keep K_48 nin0).ext E_49).keep K_51 (ninS (Nat.ne_of_lt (Nat.lt_of_lt_of_le (Nat.lt_of_lt_of_le EM.lt (Nat.le_trans (Nat.le_trans (Nat.le_trans (Nat.le_trans E_32.1 (Keep.of_wr W_33).1) E_34.1) K_38.1) K_48.1)) (Nat.le_of_eq g_49.symm))) nin0))
      have EM'_56 : Exa Z T_51.heap em "java/util/OptionalLong" := (((((((EM.ext E_32).wr W_33).ext E_34).keep K_38).keep K_48).ext E_49).keep K_51)
      obtain ⟨cq_55, kq_55, q_55a, q_55b, q_55c⟩ := isOf hZ_51 eh_53 EM'_56
      obtain ⟨_, T_55, L_55, Q_55, X_55, st_55⟩ := own_callV X_53 hx (z := (⟨"java/util/OptionalLong", "isPresent", "()Z"⟩ : MethodName)) hown_51 (mvT hZ_51 (own_w hw 75 rfl)) (mvT hZ_51 (own_w hw 76 rfl)) (notFace_of_selects (args := #[]) (mvT hZ_51 (own_w hw 78 rfl))) (mvT hZ_51 (own_w hw 78 rfl)) (mvT hZ_51 (own_w hw 77 rfl)) (by decide) (Q := (Qp (.int (nar .boolean (0 : Int32))) T_51.heap)) (backOf (W := 0) (rm_isp l Z a0 hw [] em (0 : Int32) T_51.heap n0 (Nat.le_trans Z_36s (Nat.le_trans (Nat.le_trans (Nat.le_trans K_38.1 K_48.1) E_49.1) K_51.1)) EMP'_54) hZ_51 (own_w hw 79 rfl) (own_w hw 62 rfl) (by decide) (by decide)) q_55a q_55c (g := (mkF m 100 #[.val (.long p0), .second, .val (.long p1), .second, .val (.int p2), .val (.int p3), .val (.int p4), .val (.long (0 : Int64)), .second, .val (.ref a_32), .val (.ref a_34), .val (.ref r_48), .val (.ref a_49), .val (.ref em)] [(.ref em)])) rfl (by rw [hml]; rfl) (argsL := []) (rest := []) (lenOf pd_10 rfl) rfl (by show 2 * 0 + _ ≤ _; exact Nat.le_of_eq rfl) (hb hby at_100) eh_53 rfl (by decide) (by decide)
      obtain ⟨rfl, rfl, eh_55⟩ := Q_55
      refine own_G.via st_55 ?_
      have N_55 := Fr.app N_53 (Fr.nil n0)
      show own_G _ _ _ _ (T_55.setTop (mkF m 103 #[.val (.long p0), .second, .val (.long p1), .second, .val (.int p2), .val (.int p3), .val (.int p4), .val (.long (0 : Int64)), .second, .val (.ref a_32), .val (.ref a_34), .val (.ref r_48), .val (.ref a_49), .val (.ref em)] [(.int (0 : Int32))]))
      refine own_G.go (fun t_ k_ => XS.ifNo X_55.here hx rfl (hb hby at_103) rfl ((if0 _ _).trans (teq (by decide : (0 : Int32) = (0 : Int32))).2) k_) ?_
      show own_G _ _ _ _ (T_55.setTop (mkF m 106 #[.val (.long p0), .second, .val (.long p1), .second, .val (.int p2), .val (.int p3), .val (.int p4), .val (.long (0 : Int64)), .second, .val (.ref a_32), .val (.ref a_34), .val (.ref r_48), .val (.ref a_49), .val (.ref em)] []))
      refine own_G.go (fun t_ k_ => XS.iconst X_55.here hx rfl (hb hby at_106) k_) ?_
      show own_G _ _ _ _ (T_55.setTop (mkF m 107 #[.val (.long p0), .second, .val (.long p1), .second, .val (.int p2), .val (.int p3), .val (.int p4), .val (.long (0 : Int64)), .second, .val (.ref a_32), .val (.ref a_34), .val (.ref r_48), .val (.ref a_49), .val (.ref em)] [(.int (1 : Int32))]))
      refine own_G.go (fun t_ k_ => XS.goto X_55.here hx rfl (pc0 := 107) (pc' := 111) rfl (hb hby at_107) (by decide) (by decide) k_) ?_
      show own_G _ _ _ _ (T_55.setTop (mkF m 111 #[.val (.long p0), .second, .val (.long p1), .second, .val (.int p2), .val (.int p3), .val (.int p4), .val (.long (0 : Int64)), .second, .val (.ref a_32), .val (.ref a_34), .val (.ref r_48), .val (.ref a_49), .val (.ref em)] [(.int (1 : Int32))]))
      exact own_G.endW X_55 hS_51 (Nat.le_refl _) hlk (v := (some (.int (1 : Int32)))) (fun h => by rw [hrt] at h; cases h) (fun fs hr => retN X_55 hx (z := (1 : Int32)) (t := .boolean) hrt (by simp) (hb hby at_111) hr) eh_55 ⟨rfl, N_55⟩ (by decide) (by decide)
set_option maxRecDepth 65536 in
set_option maxHeartbeats 40000000 in
theorem comes_1 {Post : Tables → Env → Array Value → State → Outcome → State → Prop} (hpost : ∀ tb e args s v u, (limb_1_1.after args s (.returned v) u = true ∧ limb_1_2.after args s (.returned v) u = true ∧ True) → ReturnedEndW s (.returned v) u (Jvm.fieldLocs frame_1_writes args s ++ Jvm.arrayLocs frame_1_arrays args s ++ Jvm.staticLocs frame_1_statics s) 24 1152 → Post tb e args s (.returned v) u) :
    ArmFor flags0 classFile x code maxLocals ret World_1 tables_1 room_1 Calls_1 rest_1 Pre_1 Post := by
  intro l hfl _ _ p e ha hc hk s m args below hf hA hF happ hP
  obtain ⟨hcalls, hrest, hpre⟩ := hP
  obtain ⟨-, -, -, hnamed, -, -, -, hat⟩ := (Spec.applies_iff hf).mp happ
  obtain ⟨hg, hn⟩ := and_e (Cond.before_iff.mp (show (Jvm.Cond.and given_1 narrow_1).before args s = true from hpre))
  obtain ⟨hcnt, hr_0⟩ := and_e hg
  obtain ⟨ha_0, hr_1⟩ := and_e hr_0
  obtain ⟨ha_1, hr_2⟩ := and_e hr_1
  obtain ⟨ha_2, hr_3⟩ := and_e hr_2
  obtain ⟨ha_3, hr_4⟩ := and_e hr_3
  obtain ⟨w0, w1, w2, w3, w4, rfl⟩ : ∃ w0 w1 w2 w3 w4 : Value, args = #[w0, w1, w2, w3, w4] := by
    have hs : args.size = 5 := by simpa [Cond.value, given_1] using hcnt
    obtain ⟨L⟩ := args
    match L, hs with
    | [w0, w1, w2, w3, w4], _ => exact ⟨w0, w1, w2, w3, w4, rfl⟩
  have hw := fun d (hd : d ∈ tables_1) => atoms_spec (ws := Jvm.Cond.code x code maxLocals ret :: tables_1) hat d (List.mem_cons_of_mem _ hd)
  have hfit : Fit s := fun {y c} hc i hi => by
    obtain ⟨ha, rfl⟩ := Array.getElem?_eq_some_iff.mp hc
    have q := List.all_eq_true.mp ((Array.all_eq_true_iff_forall_mem.mp hF) _ (Array.getElem_mem ha)) i (List.mem_range.mpr hi)
    simpa [Array.getElem?_eq_getElem hi] using q
  obtain ⟨i0, ei0⟩ := isL_v ha_0
  obtain rfl : w0 = (.long i0) := Option.some.inj ei0
  obtain ⟨i1, ei1⟩ := isL_v ha_1
  obtain rfl : w1 = (.long i1) := Option.some.inj ei1
  obtain ⟨i2, ei2⟩ := is_v ha_2
  obtain rfl : w2 = (.int i2) := Option.some.inj ei2
  obtain ⟨i3, ei3⟩ := is_v ha_3
  obtain rfl : w3 = (.int i3) := Option.some.inj ei3
  obtain ⟨i4, ei4⟩ := is_v hr_4
  obtain rfl : w4 = (.int i4) := Option.some.inj ei4
  obtain ⟨hsets, hown0⟩ := atoms_of _ (rest_1_c_eq ▸ (show rest_1_c.before _ s = true from hrest))
  have n3 := not_v (Cond.before_iff.mp (hsets _ (List.mem_of_getElem? (i := 2) rfl)))
  obtain ⟨zc, ezc⟩ := is_v (Cond.before_iff.mp (hsets _ (List.mem_of_getElem? (i := 1) rfl)))
  have S2 : Sta s s.heap "java/lang/String" "COMPACT_STRINGS" "Z" (.int zc) := Sta.start ezc (Or.inl (hsets _ (List.mem_of_getElem? (i := 0) rfl)))
  have P5 : ¬ (zc = (0 : Int32)) := gotF (Cond.eq_ints ezc (Term.int_eval (0))) n3
  have hex := hsets _ (List.mem_of_getElem? (i := 11) rfl)
  obtain ⟨em, -, -, -, eem, -⟩ := Cond.exactly_spec hex
  have EE : Exa s s.heap em "java/util/OptionalLong" := Exa.start eem (Cond.before_iff.mp hex)
  have OE : Sta s s.heap "java/util/OptionalLong" "EMPTY" "Ljava/util/OptionalLong;" (.ref em) := Sta.start eem (Or.inl (hsets _ (List.mem_of_getElem? (i := 10) rfl)))
  have hfi := Cond.eq_int (hsets _ (List.mem_of_getElem? (i := 12) rfl)) rfl
  have EP : Fld s s.heap em "java/util/OptionalLong" "isPresent" "Z" (.int (0 : Int32)) := Fld.start (own_fld hfi eem)
  obtain ⟨n, o, h1, h2, h3, _, L, rfl, ⟨rfl, N⟩, hq⟩ := rm_law l s _ hw tables_1 i0 i1 i2 i3 i4 zc em s.heap s.heap.size (Nat.le_refl _) S2 P5 (Old.start s) OE EE EP p e ha hc hk s m _ below hf ((Spec.applies_iff_loose hf).mp happ).1 ⟨rfl, State.Warmed39.refl s, rfl⟩ trivial
  refine ⟨n, _, h1, h2, h3, hpost _ _ _ _ _ _ ⟨Cond.after_iff.mpr rfl, Cond.after_iff.mpr (eq_i res_at (Term.int_eval (1)) rfl), trivial⟩ ⟨hq.1, hq.2.1, hq.2.2.1, (hq.2.2.2.sift fun y hy => Or.inr (N y hy)).mono (by decide) (by decide)⟩⟩
theorem main_1_1 : Claimed_1_1 := comes_1 fun _ _ _ _ _ _ h hF => ⟨h.1, hF⟩
theorem main_1_2 : Claimed_1_2 := comes_1 fun _ _ _ _ _ _ h hF => ⟨h.2.1, hF⟩
end Jvm.Pilot.@@N@@
namespace Jvm.Pilot.@@N@@
open Jvm Jvm.ClassFile Sem Op Lib Jvm.Free Jvm.Stand Jvm.Pilot.@@N@@.Jvm.D
/-! MADE BY PROGRAM (witnessworld.py) out of the Statement's table words and the real class files: 22 classes; the members and pool entries that the words name. The judged class is class 1, her method 1. -/
namespace start1
open Jvm.ClassFile
def u (s : String) : CpInfo := .utf8 (stringToUtf16 s)
/-- a pool by its gaps: so many unusable entries, then the entry; so many at the end -/
def gap : Nat → List CpInfo → List CpInfo
  | 0, r => r
  | n + 1, r => .unusable :: gap n r
def poolList (es : List (Nat × CpInfo)) (last : Nat) : List CpInfo := es.foldr (fun e r => gap e.1 (e.2 :: r)) (gap last [])
def pool (es : List (Nat × CpInfo)) (last : Nat) : Array CpInfo := ⟨poolList es last⟩
def fileOf (pool : Array CpInfo) (this : Nat) (attrs : Array Attribute := #[]) (ms : Array MethodInfo := #[]) (fl : Nat := 33) (sup : Nat := 0) (ifs : Array Nat := #[]) (fds : Array FieldInfo := #[]) : ClassFile where
  minorVersion := 0
  majorVersion := 65
  constantPool := pool
  accessFlags := fl
  thisClass := this
  superClass := sup
  interfaces := ifs
  fields := fds
  methods := ms
  attributes := attrs
def plain (name : String) (sup : Option ClassId) : Class where
  name := name
  kind := .ordinary
  loader := none
  accessFlags := 33
  super := sup
  interfaces := #[]
  cf := none
  fields := #[]
  methods := #[]
  instanceTypes := #[]
  staticTypes := #[]
  resolved := #[]
  callSites := []
  init := .initialized
  statics := none
  mirror := none

def pool0 : Array CpInfo := pool [(5, u "<init>"), (0, u "()V"), (1, .class_ 10), (1, u "java/lang/Object")] 113

def k0c0 : Code := { maxStack := 0, maxLocals := 1, code := object_method_1_code, exceptionTable := #[], attributes := #[] }
def k0m0 : Method := { name := "<init>", desc := "()V", sig := { parameters := [], returnType := none }, accessFlags := 1, code := some k0c0 }
/-- java/lang/Object -/
def k0 : Class := { plain "java/lang/Object" none with
  accessFlags := 33
  interfaces := #[]
  cf := some (fileOf pool0 8 #[] #[{ accessFlags := 1, nameIndex := 5, descriptorIndex := 6, attributes := #[] }] 33 0 #[] #[])
  fields := #[]
  methods := #[k0m0]
  instanceTypes := #[]
  staticTypes := #[]
  resolved := Array.replicate 124 none
  statics := none }

def pool1 : Array CpInfo := pool [(2, .class_ 4), (1, u "java/lang/Object"), (0, u "<init>"), (0, u "()V"), (0, .class_ 8), (0, u "java/lang/String"), (0, .methodref 7 10), (0, .nameAndType 5 11), (0, u "([C)V"), (0, .methodref 7 13), (0, .nameAndType 14 15), (0, u "valueOf"), (0, u "(C)Ljava/lang/String;"), (0, .class_ 17), (0, u "com/example/gristmill/gristmill/documents/DocumentRecord"), (0, .methodref 16 19), (0, .nameAndType 5 20), (0, u "(JLjava/lang/String;Ljava/lang/String;JI)V"), (0, .methodref 16 22), (0, .nameAndType 23 24), (0, u "jobId"), (0, u "()Ljava/util/OptionalLong;"), (0, .methodref 26 27), (0, .class_ 28), (0, .nameAndType 29 30), (0, u "java/util/OptionalLong"), (0, u "isPresent"), (0, u "()Z"), (0, .methodref 26 32), (0, .nameAndType 33 34), (0, u "getAsLong"), (0, u "()J"), (0, .class_ 36), (0, u "com/example/gristmill/gristmill/documents/DocumentRecordJobIdPinLaw"), (2, u "law"), (0, u "(JJIII)Z")] 5

def k1m0 : Method := { name := "<init>", desc := "()V", sig := { parameters := [], returnType := none }, accessFlags := 1, code := none }
def k1c1 : Code := { maxStack := 9, maxLocals := 14, code := code, exceptionTable := #[], attributes := #[] }
def k1m1 : Method := { name := "law", desc := "(JJIII)Z", sig := { parameters := [.long, .long, .int, .int, .int], returnType := some .boolean }, accessFlags := 9, code := some k1c1 }
/-- com/example/gristmill/gristmill/documents/DocumentRecordJobIdPinLaw -/
def k1 : Class := { plain "com/example/gristmill/gristmill/documents/DocumentRecordJobIdPinLaw" (some 0) with
  accessFlags := 49
  interfaces := #[]
  cf := some (fileOf pool1 35 #[] #[{ accessFlags := 1, nameIndex := 5, descriptorIndex := 6, attributes := #[] }, { accessFlags := 9, nameIndex := 39, descriptorIndex := 40, attributes := #[] }] 49 2 #[] #[])
  fields := #[]
  methods := #[k1m0, k1m1]
  instanceTypes := #[]
  staticTypes := #[]
  resolved := Array.replicate 46 none
  statics := none }

def pool2 : Array CpInfo := pool [(1, .class_ 2), (0, u "java/io/Serializable"), (0, .class_ 4), (0, u "java/lang/Object")] 2

/-- java/io/Serializable -/
def k2 : Class := { plain "java/io/Serializable" (some 0) with
  accessFlags := 1537
  interfaces := #[]
  cf := some (fileOf pool2 1 #[] #[] 1537 3 #[] #[])
  fields := #[]
  methods := #[]
  instanceTypes := #[]
  staticTypes := #[]
  resolved := Array.replicate 7 none
  statics := none }

def pool3 : Array CpInfo := pool [(1, .class_ 2), (0, u "java/lang/Comparable"), (0, .class_ 4), (0, u "java/lang/Object")] 7

/-- java/lang/Comparable -/
def k3 : Class := { plain "java/lang/Comparable" (some 0) with
  accessFlags := 1537
  interfaces := #[]
  cf := some (fileOf pool3 1 #[] #[] 1537 3 #[] #[])
  fields := #[]
  methods := #[]
  instanceTypes := #[]
  staticTypes := #[]
  resolved := Array.replicate 12 none
  statics := none }

def pool4 : Array CpInfo := pool [(2, .class_ 4), (1, u "java/lang/CharSequence"), (42, .class_ 48), (0, u "java/lang/CharSequence$1CodePointIterator"), (10, .class_ 60), (0, u "java/lang/CharSequence$1CharIterator"), (5, .class_ 67), (0, u "java/lang/Object")] 63

/-- java/lang/CharSequence -/
def k4 : Class := { plain "java/lang/CharSequence" (some 0) with
  accessFlags := 1537
  interfaces := #[]
  cf := some (fileOf pool4 2 #[.nestMembers #[47, 59]] #[] 1537 66 #[] #[])
  fields := #[]
  methods := #[]
  instanceTypes := #[]
  staticTypes := #[]
  resolved := Array.replicate 131 none
  statics := none }

def pool5 : Array CpInfo := pool [(1, .class_ 2), (0, u "java/lang/constant/Constable"), (0, .class_ 4), (0, u "java/lang/Object")] 6

/-- java/lang/constant/Constable -/
def k5 : Class := { plain "java/lang/constant/Constable" (some 0) with
  accessFlags := 1537
  interfaces := #[]
  cf := some (fileOf pool5 1 #[] #[] 1537 3 #[] #[])
  fields := #[]
  methods := #[]
  instanceTypes := #[]
  staticTypes := #[]
  resolved := Array.replicate 11 none
  statics := none }

def pool6 : Array CpInfo := pool [(1, .class_ 2), (0, u "java/lang/constant/ConstantDesc"), (0, .class_ 4), (0, u "java/lang/Object")] 32

/-- java/lang/constant/ConstantDesc -/
def k6 : Class := { plain "java/lang/constant/ConstantDesc" (some 0) with
  accessFlags := 1537
  interfaces := #[]
  cf := some (fileOf pool6 1 #[] #[] 1537 3 #[] #[])
  fields := #[]
  methods := #[]
  instanceTypes := #[]
  staticTypes := #[]
  resolved := Array.replicate 37 none
  statics := none }

def pool7 : Array CpInfo := pool [(1, .methodref 2 3), (0, .class_ 4), (0, .nameAndType 5 6), (0, u "java/lang/Object"), (0, u "<init>"), (0, u "()V"), (2, .fieldref 10 11), (0, .class_ 12), (0, .nameAndType 13 14), (0, u "java/lang/String"), (0, u "value"), (0, u "[B"), (0, .fieldref 10 16), (0, .nameAndType 17 18), (0, u "coder"), (0, u "B"), (2, u "hash"), (0, u "I"), (2, u "hashIsZero"), (0, u "Z"), (0, .methodref 10 28), (0, .nameAndType 5 29), (0, u "([CIILjava/lang/Void;)V"), (8, .fieldref 10 39), (0, .nameAndType 40 26), (0, u "COMPACT_STRINGS"), (1, .class_ 44), (1, u "java/lang/StringUTF16"), (0, u "compress"), (1, .methodref 42 48), (0, .nameAndType 49 50), (0, u "coderFromArrayLen"), (0, u "([BI)B"), (2, u "toBytes"), (53, .class_ 109), (1, u "java/lang/StringLatin1"), (67, .methodref 42 178), (0, .nameAndType 45 179), (0, u "([CII)[B"), (29, .methodref 10 210), (0, .nameAndType 5 211), (0, u "([BB)V"), (157, u "(C)Z"), (205, .class_ 576), (0, u "java/lang/CharSequence"), (22, u "CASE_INSENSITIVE_ORDER"), (0, u "Ljava/util/Comparator;"), (181, u "valueOf"), (0, u "(C)Ljava/lang/String;"), (226, u "([C)V"), (4, .methodref 107 1016), (0, .nameAndType 1017 369), (0, u "canEncode"), (0, .methodref 107 1019), (0, .nameAndType 53 1020), (0, u "(C)[B"), (80, u "serialPersistentFields"), (0, u "[Ljava/io/ObjectStreamField;"), (0, .class_ 1104), (0, u "java/lang/String$CaseInsensitiveComparator"), (1, .class_ 1107), (0, u "java/io/Serializable"), (0, .class_ 1109), (0, u "java/lang/Comparable"), (0, .class_ 1111), (0, u "java/lang/constant/Constable"), (0, .class_ 1113), (0, u "java/lang/constant/ConstantDesc"), (2, u "serialVersionUID"), (0, u "J"), (3, u "REPL"), (0, u "C"), (2, u "LATIN1"), (1, u "UTF16")] 323

def k7m0 : Method := { name := "<init>", desc := "()V", sig := { parameters := [], returnType := none }, accessFlags := 1, code := none }
def k7c1 : Code := { maxStack := 5, maxLocals := 2, code := jdk_42_method_3_code, exceptionTable := #[], attributes := #[] }
def k7m1 : Method := { name := "<init>", desc := "([C)V", sig := { parameters := [(.array .char)], returnType := none }, accessFlags := 1, code := some k7c1 }
def k7c2 : Code := { maxStack := 4, maxLocals := 1, code := jdk_42_method_139_code, exceptionTable := #[], attributes := #[] }
def k7m2 : Method := { name := "valueOf", desc := "(C)Ljava/lang/String;", sig := { parameters := [.char], returnType := some (.object "java/lang/String") }, accessFlags := 9, code := some k7c2 }
def k7c3 : Code := { maxStack := 4, maxLocals := 6, code := jdk_42_method_149_code, exceptionTable := #[], attributes := #[] }
def k7m3 : Method := { name := "<init>", desc := "([CIILjava/lang/Void;)V", sig := { parameters := [(.array .char), .int, .int, (.object "java/lang/Void")], returnType := none }, accessFlags := 2, code := some k7c3 }
def k7c4 : Code := { maxStack := 2, maxLocals := 3, code := jdk_42_method_151_code, exceptionTable := #[], attributes := #[] }
def k7m4 : Method := { name := "<init>", desc := "([BB)V", sig := { parameters := [(.array .byte), .byte], returnType := none }, accessFlags := 0, code := some k7c4 }
/-- java/lang/String -/
def k7 : Class := { plain "java/lang/String" (some 0) with
  accessFlags := 49
  interfaces := #[2, 3, 4, 5, 6]
  cf := some (fileOf pool7 10 #[.nestMembers #[1103]] #[{ accessFlags := 1, nameIndex := 5, descriptorIndex := 6, attributes := #[] }, { accessFlags := 1, nameIndex := 5, descriptorIndex := 1010, attributes := #[] }, { accessFlags := 9, nameIndex := 782, descriptorIndex := 783, attributes := #[] }, { accessFlags := 2, nameIndex := 5, descriptorIndex := 29, attributes := #[] }, { accessFlags := 0, nameIndex := 5, descriptorIndex := 211, attributes := #[] }] 49 2 #[1106, 1108, 575, 1110, 1112] #[{ accessFlags := 18, nameIndex := 13, descriptorIndex := 14, attributes := #[] }, { accessFlags := 18, nameIndex := 17, descriptorIndex := 18, attributes := #[] }, { accessFlags := 2, nameIndex := 21, descriptorIndex := 22, attributes := #[] }, { accessFlags := 2, nameIndex := 25, descriptorIndex := 26, attributes := #[] }, { accessFlags := 26, nameIndex := 1116, descriptorIndex := 1117, attributes := #[] }, { accessFlags := 24, nameIndex := 40, descriptorIndex := 26, attributes := #[] }, { accessFlags := 26, nameIndex := 1101, descriptorIndex := 1102, attributes := #[] }, { accessFlags := 26, nameIndex := 1121, descriptorIndex := 1122, attributes := #[] }, { accessFlags := 25, nameIndex := 599, descriptorIndex := 600, attributes := #[] }, { accessFlags := 24, nameIndex := 1125, descriptorIndex := 18, attributes := #[] }, { accessFlags := 24, nameIndex := 1127, descriptorIndex := 18, attributes := #[] }])
  fields := #[{ name := "value", type := (.array .byte), accessFlags := 18, slot := 0, constantValue := 0 }, { name := "coder", type := .byte, accessFlags := 18, slot := 1, constantValue := 0 }, { name := "hash", type := .int, accessFlags := 2, slot := 2, constantValue := 0 }, { name := "hashIsZero", type := .boolean, accessFlags := 2, slot := 3, constantValue := 0 }, { name := "serialVersionUID", type := .long, accessFlags := 26, slot := 0, constantValue := 0 }, { name := "COMPACT_STRINGS", type := .boolean, accessFlags := 24, slot := 1, constantValue := 0 }, { name := "serialPersistentFields", type := (.array (.object "java/io/ObjectStreamField")), accessFlags := 26, slot := 2, constantValue := 0 }, { name := "REPL", type := .char, accessFlags := 26, slot := 3, constantValue := 0 }, { name := "CASE_INSENSITIVE_ORDER", type := (.object "java/util/Comparator"), accessFlags := 25, slot := 4, constantValue := 0 }, { name := "LATIN1", type := .byte, accessFlags := 24, slot := 5, constantValue := 0 }, { name := "UTF16", type := .byte, accessFlags := 24, slot := 6, constantValue := 0 }]
  methods := #[k7m0, k7m1, k7m2, k7m3, k7m4]
  instanceTypes := #[(.array .byte), .byte, .int, .boolean]
  staticTypes := #[.long, .boolean, (.array (.object "java/io/ObjectStreamField")), .char, (.object "java/util/Comparator"), .byte, .byte]
  resolved := Array.replicate 1451 none
  statics := some 0 }

def pool8 : Array CpInfo := pool [(6, .class_ 8), (1, u "java/lang/Object"), (0, u "<init>"), (0, u "()V"), (1, .class_ 14), (1, u "java/lang/StringUTF16"), (31, u "$assertionsDisabled"), (0, u "Z"), (13, u "HI_BYTE_SHIFT"), (0, u "I"), (2, u "LO_BYTE_SHIFT"), (49, .methodref 12 116), (0, .nameAndType 117 118), (0, u "compress"), (0, u "([CI[BII)I"), (3, u "([CII)[B"), (138, u "coderFromArrayLen"), (0, u "([BI)B"), (106, .class_ 371), (1, u "java/lang/StringUTF16$LinesSpliterator"), (58, u "MAX_LENGTH"), (196, .class_ 628), (0, u "java/lang/StringUTF16$CodePointsSpliterator"), (0, .class_ 630), (0, u "java/lang/StringUTF16$CharsSpliterator")] 4

def k8m0 : Method := { name := "<init>", desc := "()V", sig := { parameters := [], returnType := none }, accessFlags := 0, code := none }
def k8c1 : Code := { maxStack := 2, maxLocals := 2, code := jdk_52_method_15_code, exceptionTable := #[], attributes := #[] }
def k8m1 : Method := { name := "coderFromArrayLen", desc := "([BI)B", sig := { parameters := [(.array .byte), .int], returnType := some .byte }, accessFlags := 8, code := some k8c1 }
def k8c2 : Code := { maxStack := 5, maxLocals := 6, code := jdk_52_method_16_code, exceptionTable := #[], attributes := #[] }
def k8m2 : Method := { name := "compress", desc := "([CII)[B", sig := { parameters := [(.array .char), .int, .int], returnType := some (.array .byte) }, accessFlags := 9, code := some k8c2 }
def k8c3 : Code := { maxStack := 3, maxLocals := 7, code := jdk_52_method_21_code, exceptionTable := #[], attributes := #[] }
def k8m3 : Method := { name := "compress", desc := "([CI[BII)I", sig := { parameters := [(.array .char), .int, (.array .byte), .int, .int], returnType := some .int }, accessFlags := 9, code := some k8c3 }
/-- java/lang/StringUTF16 -/
def k8 : Class := { plain "java/lang/StringUTF16" (some 0) with
  accessFlags := 48
  interfaces := #[]
  cf := some (fileOf pool8 12 #[.nestMembers #[627, 629, 369]] #[{ accessFlags := 0, nameIndex := 9, descriptorIndex := 10, attributes := #[] }, { accessFlags := 8, nameIndex := 261, descriptorIndex := 262, attributes := #[] }, { accessFlags := 9, nameIndex := 117, descriptorIndex := 122, attributes := #[] }, { accessFlags := 9, nameIndex := 117, descriptorIndex := 118, attributes := #[] }] 48 6 #[] #[{ accessFlags := 26, nameIndex := 61, descriptorIndex := 62, attributes := #[] }, { accessFlags := 26, nameIndex := 65, descriptorIndex := 62, attributes := #[] }, { accessFlags := 24, nameIndex := 430, descriptorIndex := 62, attributes := #[] }, { accessFlags := 4120, nameIndex := 46, descriptorIndex := 47, attributes := #[] }])
  fields := #[{ name := "HI_BYTE_SHIFT", type := .int, accessFlags := 26, slot := 0, constantValue := 0 }, { name := "LO_BYTE_SHIFT", type := .int, accessFlags := 26, slot := 1, constantValue := 0 }, { name := "MAX_LENGTH", type := .int, accessFlags := 24, slot := 2, constantValue := 0 }, { name := "$assertionsDisabled", type := .boolean, accessFlags := 4120, slot := 3, constantValue := 0 }]
  methods := #[k8m0, k8m1, k8m2, k8m3]
  instanceTypes := #[]
  staticTypes := #[.int, .int, .int, .boolean]
  resolved := Array.replicate 635 none
  statics := none }

def pool9 : Array CpInfo := pool [(1, .methodref 2 3), (0, .class_ 4), (0, .nameAndType 5 6), (0, u "java/lang/Object"), (0, u "<init>"), (0, u "()V"), (0, .fieldref 8 9), (0, .class_ 10), (0, .nameAndType 11 12), (0, u "com/example/gristmill/gristmill/documents/DocumentRecord"), (0, u "id"), (0, u "J"), (0, .string 14), (0, u "path"), (0, .methodref 16 17), (0, .class_ 18), (0, .nameAndType 19 20), (0, u "java/util/Objects"), (0, u "requireNonNull"), (0, u "(Ljava/lang/Object;Ljava/lang/String;)Ljava/lang/Object;"), (0, .class_ 22), (0, u "java/lang/String"), (0, .fieldref 8 24), (0, .nameAndType 14 25), (0, u "Ljava/lang/String;"), (0, .fieldref 8 27), (0, .nameAndType 28 25), (0, u "mediaType"), (0, .fieldref 8 30), (0, .nameAndType 31 12), (0, u "jobId"), (0, .fieldref 8 33), (0, .nameAndType 34 35), (0, u "characters"), (0, u "I"), (6, .methodref 43 44), (0, .class_ 45), (0, .nameAndType 46 47), (0, u "java/util/OptionalLong"), (0, u "empty"), (0, u "()Ljava/util/OptionalLong;"), (0, .methodref 43 49), (0, .nameAndType 50 51), (0, u "of"), (0, u "(J)Ljava/util/OptionalLong;"), (0, u "(JLjava/lang/String;Ljava/lang/String;JI)V")] 11

def k9c0 : Code := { maxStack := 3, maxLocals := 8, code := prog_7_method_1_code, exceptionTable := #[], attributes := #[] }
def k9m0 : Method := { name := "<init>", desc := "(JLjava/lang/String;Ljava/lang/String;JI)V", sig := { parameters := [.long, (.object "java/lang/String"), (.object "java/lang/String"), .long, .int], returnType := none }, accessFlags := 0, code := some k9c0 }
def k9c1 : Code := { maxStack := 4, maxLocals := 1, code := prog_7_method_5_code, exceptionTable := #[], attributes := #[] }
def k9m1 : Method := { name := "jobId", desc := "()Ljava/util/OptionalLong;", sig := { parameters := [], returnType := some (.object "java/util/OptionalLong") }, accessFlags := 1, code := some k9c1 }
/-- com/example/gristmill/gristmill/documents/DocumentRecord -/
def k9 : Class := { plain "com/example/gristmill/gristmill/documents/DocumentRecord" (some 0) with
  accessFlags := 49
  interfaces := #[]
  cf := some (fileOf pool9 8 #[] #[{ accessFlags := 0, nameIndex := 5, descriptorIndex := 52, attributes := #[] }, { accessFlags := 1, nameIndex := 31, descriptorIndex := 47, attributes := #[] }] 49 2 #[] #[{ accessFlags := 18, nameIndex := 11, descriptorIndex := 12, attributes := #[] }, { accessFlags := 18, nameIndex := 14, descriptorIndex := 25, attributes := #[] }, { accessFlags := 18, nameIndex := 28, descriptorIndex := 25, attributes := #[] }, { accessFlags := 18, nameIndex := 31, descriptorIndex := 12, attributes := #[] }, { accessFlags := 18, nameIndex := 34, descriptorIndex := 35, attributes := #[] }])
  fields := #[{ name := "id", type := .long, accessFlags := 18, slot := 0, constantValue := 0 }, { name := "path", type := (.object "java/lang/String"), accessFlags := 18, slot := 1, constantValue := 0 }, { name := "mediaType", type := (.object "java/lang/String"), accessFlags := 18, slot := 2, constantValue := 0 }, { name := "jobId", type := .long, accessFlags := 18, slot := 3, constantValue := 0 }, { name := "characters", type := .int, accessFlags := 18, slot := 4, constantValue := 0 }]
  methods := #[k9m0, k9m1]
  instanceTypes := #[.long, (.object "java/lang/String"), (.object "java/lang/String"), .long, .int]
  staticTypes := #[]
  resolved := Array.replicate 64 none
  statics := none }

def pool10 : Array CpInfo := pool [(2, .class_ 4), (1, u "java/lang/Object"), (0, u "<init>"), (0, u "()V"), (35, .class_ 44), (1, u "java/util/Objects"), (0, u "requireNonNull"), (48, u "(Ljava/lang/Object;Ljava/lang/String;)Ljava/lang/Object;")] 89

def k10m0 : Method := { name := "<init>", desc := "()V", sig := { parameters := [], returnType := none }, accessFlags := 2, code := none }
def k10c1 : Code := { maxStack := 3, maxLocals := 2, code := jdk_31_method_11_code, exceptionTable := #[], attributes := #[] }
def k10m1 : Method := { name := "requireNonNull", desc := "(Ljava/lang/Object;Ljava/lang/String;)Ljava/lang/Object;", sig := { parameters := [(.object "java/lang/Object"), (.object "java/lang/String")], returnType := some (.object "java/lang/Object") }, accessFlags := 9, code := some k10c1 }
/-- java/util/Objects -/
def k10 : Class := { plain "java/util/Objects" (some 0) with
  accessFlags := 49
  interfaces := #[]
  cf := some (fileOf pool10 42 #[] #[{ accessFlags := 2, nameIndex := 5, descriptorIndex := 6, attributes := #[] }, { accessFlags := 9, nameIndex := 45, descriptorIndex := 94, attributes := #[] }] 49 2 #[] #[])
  fields := #[]
  methods := #[k10m0, k10m1]
  instanceTypes := #[]
  staticTypes := #[]
  resolved := Array.replicate 184 none
  statics := none }

def pool11 : Array CpInfo := pool [(1, .methodref 2 3), (0, .class_ 4), (0, .nameAndType 5 6), (0, u "java/lang/Object"), (0, u "<init>"), (0, u "()V"), (0, .fieldref 8 9), (0, .class_ 10), (0, .nameAndType 11 12), (0, u "java/util/OptionalLong"), (0, u "isPresent"), (0, u "Z"), (0, .fieldref 8 14), (0, .nameAndType 15 16), (0, u "value"), (0, u "J"), (0, .fieldref 8 18), (0, .nameAndType 19 20), (0, u "EMPTY"), (0, u "Ljava/util/OptionalLong;"), (0, .methodref 8 22), (0, .nameAndType 5 23), (0, u "(J)V"), (21, u "of"), (3, u "empty"), (5, u "getAsLong"), (0, u "()J"), (39, u "()Ljava/util/OptionalLong;"), (0, u "(J)Ljava/util/OptionalLong;"), (1, u "()Z")] 38

def k11m0 : Method := { name := "<init>", desc := "()V", sig := { parameters := [], returnType := none }, accessFlags := 2, code := none }
def k11c1 : Code := { maxStack := 1, maxLocals := 0, code := jdk_2650_method_2_code, exceptionTable := #[], attributes := #[] }
def k11m1 : Method := { name := "empty", desc := "()Ljava/util/OptionalLong;", sig := { parameters := [], returnType := some (.object "java/util/OptionalLong") }, accessFlags := 9, code := some k11c1 }
def k11c2 : Code := { maxStack := 3, maxLocals := 3, code := jdk_2650_method_3_code, exceptionTable := #[], attributes := #[] }
def k11m2 : Method := { name := "<init>", desc := "(J)V", sig := { parameters := [.long], returnType := none }, accessFlags := 2, code := some k11c2 }
def k11c3 : Code := { maxStack := 4, maxLocals := 2, code := jdk_2650_method_4_code, exceptionTable := #[], attributes := #[] }
def k11m3 : Method := { name := "of", desc := "(J)Ljava/util/OptionalLong;", sig := { parameters := [.long], returnType := some (.object "java/util/OptionalLong") }, accessFlags := 9, code := some k11c3 }
def k11c4 : Code := { maxStack := 3, maxLocals := 1, code := jdk_2650_method_5_code, exceptionTable := #[], attributes := #[] }
def k11m4 : Method := { name := "getAsLong", desc := "()J", sig := { parameters := [], returnType := some .long }, accessFlags := 1, code := some k11c4 }
def k11c5 : Code := { maxStack := 1, maxLocals := 1, code := jdk_2650_method_6_code, exceptionTable := #[], attributes := #[] }
def k11m5 : Method := { name := "isPresent", desc := "()Z", sig := { parameters := [], returnType := some .boolean }, accessFlags := 1, code := some k11c5 }
/-- java/util/OptionalLong -/
def k11 : Class := { plain "java/util/OptionalLong" (some 0) with
  accessFlags := 49
  interfaces := #[]
  cf := some (fileOf pool11 8 #[] #[{ accessFlags := 2, nameIndex := 5, descriptorIndex := 6, attributes := #[] }, { accessFlags := 9, nameIndex := 49, descriptorIndex := 96, attributes := #[] }, { accessFlags := 2, nameIndex := 5, descriptorIndex := 23, attributes := #[] }, { accessFlags := 9, nameIndex := 45, descriptorIndex := 97, attributes := #[] }, { accessFlags := 1, nameIndex := 55, descriptorIndex := 56, attributes := #[] }, { accessFlags := 1, nameIndex := 11, descriptorIndex := 99, attributes := #[] }] 49 2 #[] #[{ accessFlags := 26, nameIndex := 19, descriptorIndex := 20, attributes := #[] }, { accessFlags := 18, nameIndex := 11, descriptorIndex := 12, attributes := #[] }, { accessFlags := 18, nameIndex := 15, descriptorIndex := 16, attributes := #[] }])
  fields := #[{ name := "EMPTY", type := (.object "java/util/OptionalLong"), accessFlags := 26, slot := 0, constantValue := 0 }, { name := "isPresent", type := .boolean, accessFlags := 18, slot := 0, constantValue := 0 }, { name := "value", type := .long, accessFlags := 18, slot := 1, constantValue := 0 }]
  methods := #[k11m0, k11m1, k11m2, k11m3, k11m4, k11m5]
  instanceTypes := #[.boolean, .long]
  staticTypes := #[(.object "java/util/OptionalLong")]
  resolved := Array.replicate 138 none
  statics := some 1 }

def pool12 : Array CpInfo := pool [(4, .class_ 6), (1, u "java/lang/Object"), (0, u "<init>"), (0, u "()V"), (5, .class_ 16), (1, u "java/lang/StringLatin1"), (73, u "canEncode"), (14, u "(C)Z"), (15, u "$assertionsDisabled"), (0, u "Z"), (98, .class_ 223), (1, u "java/lang/StringLatin1$LinesSpliterator"), (156, u "toBytes"), (1, u "(C)[B"), (7, .class_ 391), (0, u "java/lang/StringLatin1$CharsSpliterator")] 3

def k12m0 : Method := { name := "<init>", desc := "()V", sig := { parameters := [], returnType := none }, accessFlags := 0, code := none }
def k12c1 : Code := { maxStack := 2, maxLocals := 1, code := jdk_43_method_3_code, exceptionTable := #[], attributes := #[] }
def k12m1 : Method := { name := "canEncode", desc := "(C)Z", sig := { parameters := [.char], returnType := some .boolean }, accessFlags := 9, code := some k12c1 }
def k12c2 : Code := { maxStack := 4, maxLocals := 1, code := jdk_43_method_46_code, exceptionTable := #[], attributes := #[] }
def k12m2 : Method := { name := "toBytes", desc := "(C)[B", sig := { parameters := [.char], returnType := some (.array .byte) }, accessFlags := 9, code := some k12c2 }
/-- java/lang/StringLatin1 -/
def k12 : Class := { plain "java/lang/StringLatin1" (some 0) with
  accessFlags := 48
  interfaces := #[]
  cf := some (fileOf pool12 14 #[.nestMembers #[390, 221]] #[{ accessFlags := 0, nameIndex := 7, descriptorIndex := 8, attributes := #[] }, { accessFlags := 9, nameIndex := 90, descriptorIndex := 105, attributes := #[] }, { accessFlags := 9, nameIndex := 380, descriptorIndex := 382, attributes := #[] }] 48 4 #[] #[{ accessFlags := 4120, nameIndex := 121, descriptorIndex := 122, attributes := #[] }])
  fields := #[{ name := "$assertionsDisabled", type := .boolean, accessFlags := 4120, slot := 0, constantValue := 0 }]
  methods := #[k12m0, k12m1, k12m2]
  instanceTypes := #[]
  staticTypes := #[.boolean]
  resolved := Array.replicate 395 none
  statics := none }

def pool13 : Array CpInfo := pool [(2, .class_ 4), (1, u "java/lang/Object"), (0, u "<init>"), (0, u "()V"), (17, .class_ 26), (1, u "jdk/internal/util/Preconditions"), (28, .class_ 56), (0, u "jdk/internal/util/Preconditions$4"), (57, .class_ 115), (0, u "jdk/internal/util/Preconditions$1"), (7, u "SIOOBE_FORMATTER"), (0, u "Ljava/util/function/BiFunction;"), (0, .class_ 126), (0, u "jdk/internal/util/Preconditions$2"), (3, u "AIOOBE_FORMATTER"), (0, .class_ 132), (0, u "jdk/internal/util/Preconditions$3"), (3, u "IOOBE_FORMATTER")] 57

def k13m0 : Method := { name := "<init>", desc := "()V", sig := { parameters := [], returnType := none }, accessFlags := 1, code := none }
/-- jdk/internal/util/Preconditions -/
def k13 : Class := { plain "jdk/internal/util/Preconditions" (some 0) with
  accessFlags := 33
  interfaces := #[]
  cf := some (fileOf pool13 24 #[.nestMembers #[55, 131, 125, 114]] #[{ accessFlags := 1, nameIndex := 5, descriptorIndex := 6, attributes := #[] }] 33 2 #[] #[{ accessFlags := 25, nameIndex := 123, descriptorIndex := 124, attributes := #[] }, { accessFlags := 25, nameIndex := 130, descriptorIndex := 124, attributes := #[] }, { accessFlags := 25, nameIndex := 136, descriptorIndex := 124, attributes := #[] }])
  fields := #[{ name := "SIOOBE_FORMATTER", type := (.object "java/util/function/BiFunction"), accessFlags := 25, slot := 0, constantValue := 0 }, { name := "AIOOBE_FORMATTER", type := (.object "java/util/function/BiFunction"), accessFlags := 25, slot := 1, constantValue := 0 }, { name := "IOOBE_FORMATTER", type := (.object "java/util/function/BiFunction"), accessFlags := 25, slot := 2, constantValue := 0 }]
  methods := #[k13m0]
  instanceTypes := #[]
  staticTypes := #[(.object "java/util/function/BiFunction"), (.object "java/util/function/BiFunction"), (.object "java/util/function/BiFunction")]
  resolved := Array.replicate 194 none
  statics := some 2 }

def pool14 : Array CpInfo := pool [(9, u "<init>"), (6, .class_ 18), (1, u "java/lang/Object"), (0, u "()V"), (1, .class_ 23), (1, u "jdk/internal/util/ArraysSupport"), (0, u "LOG2_ARRAY_LONG_INDEX_SCALE"), (0, u "I"), (2, u "U"), (0, u "Ljdk/internal/misc/Unsafe;"), (8, u "BIG_ENDIAN"), (0, u "Z"), (8, u "LOG2_BYTE_BIT_SIZE"), (4, u "LOG2_ARRAY_INT_INDEX_SCALE"), (54, u "JLA"), (0, u "Ljdk/internal/access/JavaLangAccess;"), (11, u "LOG2_ARRAY_BOOLEAN_INDEX_SCALE"), (9, u "LOG2_ARRAY_BYTE_INDEX_SCALE"), (5, u "LOG2_ARRAY_CHAR_INDEX_SCALE"), (5, u "LOG2_ARRAY_SHORT_INDEX_SCALE"), (18, u "LOG2_ARRAY_FLOAT_INDEX_SCALE"), (24, u "LOG2_ARRAY_DOUBLE_INDEX_SCALE"), (89, u "T_BOOLEAN"), (2, u "T_CHAR"), (1, u "T_FLOAT"), (1, u "T_DOUBLE"), (1, u "T_BYTE"), (1, u "T_SHORT"), (1, u "T_INT"), (1, u "T_LONG"), (1, u "SOFT_MAX_ARRAY_LENGTH")] 83

def k14m0 : Method := { name := "<init>", desc := "()V", sig := { parameters := [], returnType := none }, accessFlags := 2, code := none }
/-- jdk/internal/util/ArraysSupport -/
def k14 : Class := { plain "jdk/internal/util/ArraysSupport" (some 0) with
  accessFlags := 33
  interfaces := #[]
  cf := some (fileOf pool14 21 #[] #[{ accessFlags := 2, nameIndex := 9, descriptorIndex := 19, attributes := #[] }] 33 16 #[] #[{ accessFlags := 24, nameIndex := 28, descriptorIndex := 29, attributes := #[] }, { accessFlags := 26, nameIndex := 38, descriptorIndex := 39, attributes := #[] }, { accessFlags := 25, nameIndex := 121, descriptorIndex := 25, attributes := #[] }, { accessFlags := 25, nameIndex := 131, descriptorIndex := 25, attributes := #[] }, { accessFlags := 25, nameIndex := 137, descriptorIndex := 25, attributes := #[] }, { accessFlags := 25, nameIndex := 143, descriptorIndex := 25, attributes := #[] }, { accessFlags := 25, nameIndex := 53, descriptorIndex := 25, attributes := #[] }, { accessFlags := 25, nameIndex := 24, descriptorIndex := 25, attributes := #[] }, { accessFlags := 25, nameIndex := 162, descriptorIndex := 25, attributes := #[] }, { accessFlags := 25, nameIndex := 187, descriptorIndex := 25, attributes := #[] }, { accessFlags := 26, nameIndex := 48, descriptorIndex := 25, attributes := #[] }, { accessFlags := 25, nameIndex := 277, descriptorIndex := 25, attributes := #[] }, { accessFlags := 25, nameIndex := 280, descriptorIndex := 25, attributes := #[] }, { accessFlags := 25, nameIndex := 282, descriptorIndex := 25, attributes := #[] }, { accessFlags := 25, nameIndex := 284, descriptorIndex := 25, attributes := #[] }, { accessFlags := 25, nameIndex := 286, descriptorIndex := 25, attributes := #[] }, { accessFlags := 25, nameIndex := 288, descriptorIndex := 25, attributes := #[] }, { accessFlags := 25, nameIndex := 290, descriptorIndex := 25, attributes := #[] }, { accessFlags := 25, nameIndex := 292, descriptorIndex := 25, attributes := #[] }, { accessFlags := 26, nameIndex := 108, descriptorIndex := 109, attributes := #[] }, { accessFlags := 25, nameIndex := 294, descriptorIndex := 25, attributes := #[] }])
  fields := #[{ name := "U", type := (.object "jdk/internal/misc/Unsafe"), accessFlags := 24, slot := 0, constantValue := 0 }, { name := "BIG_ENDIAN", type := .boolean, accessFlags := 26, slot := 1, constantValue := 0 }, { name := "LOG2_ARRAY_BOOLEAN_INDEX_SCALE", type := .int, accessFlags := 25, slot := 2, constantValue := 0 }, { name := "LOG2_ARRAY_BYTE_INDEX_SCALE", type := .int, accessFlags := 25, slot := 3, constantValue := 0 }, { name := "LOG2_ARRAY_CHAR_INDEX_SCALE", type := .int, accessFlags := 25, slot := 4, constantValue := 0 }, { name := "LOG2_ARRAY_SHORT_INDEX_SCALE", type := .int, accessFlags := 25, slot := 5, constantValue := 0 }, { name := "LOG2_ARRAY_INT_INDEX_SCALE", type := .int, accessFlags := 25, slot := 6, constantValue := 0 }, { name := "LOG2_ARRAY_LONG_INDEX_SCALE", type := .int, accessFlags := 25, slot := 7, constantValue := 0 }, { name := "LOG2_ARRAY_FLOAT_INDEX_SCALE", type := .int, accessFlags := 25, slot := 8, constantValue := 0 }, { name := "LOG2_ARRAY_DOUBLE_INDEX_SCALE", type := .int, accessFlags := 25, slot := 9, constantValue := 0 }, { name := "LOG2_BYTE_BIT_SIZE", type := .int, accessFlags := 26, slot := 10, constantValue := 0 }, { name := "T_BOOLEAN", type := .int, accessFlags := 25, slot := 11, constantValue := 0 }, { name := "T_CHAR", type := .int, accessFlags := 25, slot := 12, constantValue := 0 }, { name := "T_FLOAT", type := .int, accessFlags := 25, slot := 13, constantValue := 0 }, { name := "T_DOUBLE", type := .int, accessFlags := 25, slot := 14, constantValue := 0 }, { name := "T_BYTE", type := .int, accessFlags := 25, slot := 15, constantValue := 0 }, { name := "T_SHORT", type := .int, accessFlags := 25, slot := 16, constantValue := 0 }, { name := "T_INT", type := .int, accessFlags := 25, slot := 17, constantValue := 0 }, { name := "T_LONG", type := .int, accessFlags := 25, slot := 18, constantValue := 0 }, { name := "JLA", type := (.object "jdk/internal/access/JavaLangAccess"), accessFlags := 26, slot := 19, constantValue := 0 }, { name := "SOFT_MAX_ARRAY_LENGTH", type := .int, accessFlags := 25, slot := 20, constantValue := 0 }]
  methods := #[k14m0]
  instanceTypes := #[]
  staticTypes := #[(.object "jdk/internal/misc/Unsafe"), .boolean, .int, .int, .int, .int, .int, .int, .int, .int, .int, .int, .int, .int, .int, .int, .int, .int, .int, (.object "jdk/internal/access/JavaLangAccess"), .int]
  resolved := Array.replicate 378 none
  statics := none }

def pool15 : Array CpInfo := pool [(1, u "java/lang/Cloneable"), (0, .class_ 1), (0, u "java/lang/Object"), (0, .class_ 3)] 3

/-- java/lang/Cloneable -/
def k15 : Class := { plain "java/lang/Cloneable" (some 0) with
  accessFlags := 1537
  interfaces := #[]
  cf := some (fileOf pool15 2 #[] #[] 1537 4 #[] #[])
  fields := #[]
  methods := #[]
  instanceTypes := #[]
  staticTypes := #[]
  resolved := Array.replicate 8 none
  statics := none }

/-- the primitive byte -/
def k16 : Class := { plain "byte" none with kind := .primitive 'B', accessFlags := 0x411 }
/-- [B -/
def k17 : Class := { plain "[B" (some 0) with kind := .array 16 .byte, interfaces := #[15, 2], accessFlags := 1041 }

/-- the primitive char -/
def k18 : Class := { plain "char" none with kind := .primitive 'C', accessFlags := 0x411 }
/-- [C -/
def k19 : Class := { plain "[C" (some 0) with kind := .array 18 .char, interfaces := #[15, 2], accessFlags := 1041 }

/-- the primitive int -/
def k20 : Class := { plain "int" none with kind := .primitive 'I', accessFlags := 0x411 }
/-- [I -/
def k21 : Class := { plain "[I" (some 0) with kind := .array 20 .int, interfaces := #[15, 2], accessFlags := 1041 }

def heap : Heap := #[{ cls := 7, slots := #[.long 0, .int 1, .null, .int 0, .null, .int 0, .int 0], vm := .statics 7 },
  { cls := 11, slots := #[.ref 3], vm := .statics 11 },
  { cls := 13, slots := #[.null, .null, .null], vm := .statics 13 },
  { cls := 11, slots := #[.int 0, .long 0], vm := .none }]
def classes : Array Class := #[k0, k1, k2, k3, k4, k5, k6, k7, k8, k9, k10, k11, k12, k13, k14, k15, k16, k17, k18, k19, k20, k21]
def interned : List (Array UInt16 × Addr) := []
def slotsUsed : Nat := 13
def theMethod : MethodId := ⟨1, 1⟩
def args0 : Array Value := #[.long 5, .long 7, .int 3, .int 4, .int 5]
def aboutOver (below : List Frame) : State where
  vm := { classes := classes, interned := interned.toArray }
  heap := heap
  slotsUsed := slotsUsed
  threads := #[{ frames := .invoking theMethod args0 :: below }]
def below0 : List Frame := [.native { method := ⟨0, 0⟩, args := #[] }]
def about1 : State := aboutOver below0
def p0 : Program := .bare "" "" ""
def e0 : Env := launch0.env 0 0 0
theorem w_frames : about1.frames = Frame.invoking theMethod args0 :: below0 := rfl
set_option maxRecDepth 65536 in
theorem w_args : argsFit about1.vm theMethod args0 = true := by decide +kernel
set_option maxRecDepth 65536 in
theorem w_heap : heapFits about1 = true := by decide +kernel
set_option maxRecDepth 65536 in
theorem w_runnable : about1.curStatus? = some .runnable := by decide +kernel
set_option maxRecDepth 65536 in
theorem w_alone : about1.alone = true := by decide +kernel
set_option maxRecDepth 65536 in
theorem w_named : about1.methodNamed? x = some theMethod := by decide +kernel
set_option maxRecDepth 65536 in
theorem w_hears : about1.hears theMethod below0 = true := by decide +kernel
set_option maxRecDepth 65536 in
theorem w_ripe : about1.ripe theMethod args0 below0 = true := by decide +kernel
theorem w_running : about1.status = .running := rfl
set_option maxRecDepth 65536 in
theorem w_room : about1.hasRoom e0.platform room_1 = true :=
  launch0.hasRoom_least _ room_1 (by decide +kernel) (by decide +kernel) (by decide +kernel) (by decide +kernel) (by decide +kernel) (by decide +kernel)
theorem allAtoms_all (ts : List Jvm.Cond) (a : Array Jvm.Value) (st : Jvm.State) : (allAtoms ts).before a st = ts.all (fun c => c.before a st) := by
  induction ts with
  | nil => rfl
  | cons c t ih =>
    show (Jvm.Cond.and c (allAtoms t)).before a st = _
    rw [Jvm.Cond.before_and, ih, List.all_cons]
def words1 : List Jvm.Cond := Jvm.Cond.code x code maxLocals ret :: tables_1
/-- a 'code' word, met by the world's own term for the bytes: nothing is compared byte by byte -/
theorem code_word {y : MethodName} {bytes : ByteArray} {mx : Nat} {rt : Option FieldType} {a : Array Value} {s : State} {m : MethodId} {meth : Method} {c : Code} (h1 : s.methodNamed? y = some m) (h2 : s.vm.method? m = some meth) (h3 : meth.code = some c) (h4 : c.code = bytes)
    (h5 : (c.maxLocals == mx && c.exceptionTable.isEmpty && decide (c.maxStack ≤ mostOperands) && decide (meth.sig.returnType = rt) && !meth.locks && decide (parseMethodDescriptor y.desc = some meth.sig)) = true) : (Jvm.Cond.code y bytes mx rt).before a s = true := by
  simp only [Bool.and_eq_true, beq_iff_eq, Bool.not_eq_true', decide_eq_true_eq] at h5
  obtain ⟨⟨⟨⟨⟨g1, g2⟩, g3⟩, g4⟩, g5⟩, g6⟩ := h5
  simp [Cond.before, Cond.holds, Cond.value, h1, h2, h3, h4, g1, g2, g3, g4, g5, g6]
def isCode : Jvm.Cond → Bool
  | .code _ _ _ _ => true
  | _ => false
theorem all_split {L : List Jvm.Cond} {P : Jvm.Cond → Bool} (h1 : L.all (fun c => isCode c || P c) = true) (h2 : ∀ c ∈ L.filter isCode, P c = true) : L.all P = true := by
  refine List.all_eq_true.mpr fun c hc => ?_
  have h := List.all_eq_true.mp h1 c hc
  rcases Bool.eq_false_or_eq_true (isCode c) with hi | hi
  · exact h2 c (List.mem_filter.mpr ⟨hc, hi⟩)
  · simpa [hi] using h
set_option maxRecDepth 65536 in
theorem w_c0 : (Jvm.Cond.code x code maxLocals ret).before args0 about1 = true := code_word (m := ⟨1, 1⟩) (meth := k1m1) (c := k1c1) (by decide +kernel) rfl rfl rfl (by decide +kernel)
set_option maxRecDepth 65536 in
theorem w_c1 : (Jvm.Cond.code ({ cls := "java/lang/String", name := "<init>", desc := "([C)V" } : Jvm.MethodName) jdk_42_method_3_code (2 : Nat) (Option.none : Option Jvm.ClassFile.FieldType)).before args0 about1 = true := code_word (m := ⟨7, 1⟩) (meth := k7m1) (c := k7c1) (by decide +kernel) rfl rfl rfl (by decide +kernel)
set_option maxRecDepth 65536 in
theorem w_c2 : (Jvm.Cond.code ({ cls := "java/lang/String", name := "<init>", desc := "([CIILjava/lang/Void;)V" } : Jvm.MethodName) jdk_42_method_149_code (6 : Nat) (Option.none : Option Jvm.ClassFile.FieldType)).before args0 about1 = true := code_word (m := ⟨7, 3⟩) (meth := k7m3) (c := k7c3) (by decide +kernel) rfl rfl rfl (by decide +kernel)
set_option maxRecDepth 65536 in
theorem w_c3 : (Jvm.Cond.code ({ cls := "java/lang/Object", name := "<init>", desc := "()V" } : Jvm.MethodName) object_method_1_code (1 : Nat) (Option.none : Option Jvm.ClassFile.FieldType)).before args0 about1 = true := code_word (m := ⟨0, 0⟩) (meth := k0m0) (c := k0c0) (by decide +kernel) rfl rfl rfl (by decide +kernel)
set_option maxRecDepth 65536 in
theorem w_c4 : (Jvm.Cond.code ({ cls := "java/lang/StringUTF16", name := "compress", desc := "([CII)[B" } : Jvm.MethodName) jdk_52_method_16_code (6 : Nat) (Option.some (Jvm.ClassFile.FieldType.array Jvm.ClassFile.FieldType.byte))).before args0 about1 = true := code_word (m := ⟨8, 2⟩) (meth := k8m2) (c := k8c2) (by decide +kernel) rfl rfl rfl (by decide +kernel)
set_option maxRecDepth 65536 in
theorem w_c5 : (Jvm.Cond.code ({ cls := "java/lang/StringUTF16", name := "compress", desc := "([CI[BII)I" } : Jvm.MethodName) jdk_52_method_21_code (7 : Nat) (Option.some Jvm.ClassFile.FieldType.int)).before args0 about1 = true := code_word (m := ⟨8, 3⟩) (meth := k8m3) (c := k8c3) (by decide +kernel) rfl rfl rfl (by decide +kernel)
set_option maxRecDepth 65536 in
theorem w_c6 : (Jvm.Cond.code ({ cls := "java/lang/StringUTF16", name := "coderFromArrayLen", desc := "([BI)B" } : Jvm.MethodName) jdk_52_method_15_code (2 : Nat) (Option.some Jvm.ClassFile.FieldType.byte)).before args0 about1 = true := code_word (m := ⟨8, 1⟩) (meth := k8m1) (c := k8c1) (by decide +kernel) rfl rfl rfl (by decide +kernel)
set_option maxRecDepth 65536 in
theorem w_c7 : (Jvm.Cond.code ({ cls := "com/example/gristmill/gristmill/documents/DocumentRecord", name := "<init>", desc := "(JLjava/lang/String;Ljava/lang/String;JI)V" } : Jvm.MethodName) prog_7_method_1_code (8 : Nat) (Option.none : Option Jvm.ClassFile.FieldType)).before args0 about1 = true := code_word (m := ⟨9, 0⟩) (meth := k9m0) (c := k9c0) (by decide +kernel) rfl rfl rfl (by decide +kernel)
set_option maxRecDepth 65536 in
theorem w_c8 : (Jvm.Cond.code ({ cls := "java/util/Objects", name := "requireNonNull", desc := "(Ljava/lang/Object;Ljava/lang/String;)Ljava/lang/Object;" } : Jvm.MethodName) jdk_31_method_11_code (2 : Nat) (Option.some (Jvm.ClassFile.FieldType.object "java/lang/Object"))).before args0 about1 = true := code_word (m := ⟨10, 1⟩) (meth := k10m1) (c := k10c1) (by decide +kernel) rfl rfl rfl (by decide +kernel)
set_option maxRecDepth 65536 in
theorem w_c9 : (Jvm.Cond.code ({ cls := "com/example/gristmill/gristmill/documents/DocumentRecord", name := "jobId", desc := "()Ljava/util/OptionalLong;" } : Jvm.MethodName) prog_7_method_5_code (1 : Nat) (Option.some (Jvm.ClassFile.FieldType.object "java/util/OptionalLong"))).before args0 about1 = true := code_word (m := ⟨9, 1⟩) (meth := k9m1) (c := k9c1) (by decide +kernel) rfl rfl rfl (by decide +kernel)
set_option maxRecDepth 65536 in
theorem w_c10 : (Jvm.Cond.code ({ cls := "java/util/OptionalLong", name := "of", desc := "(J)Ljava/util/OptionalLong;" } : Jvm.MethodName) jdk_2650_method_4_code (2 : Nat) (Option.some (Jvm.ClassFile.FieldType.object "java/util/OptionalLong"))).before args0 about1 = true := code_word (m := ⟨11, 3⟩) (meth := k11m3) (c := k11c3) (by decide +kernel) rfl rfl rfl (by decide +kernel)
set_option maxRecDepth 65536 in
theorem w_c11 : (Jvm.Cond.code ({ cls := "java/util/OptionalLong", name := "<init>", desc := "(J)V" } : Jvm.MethodName) jdk_2650_method_3_code (3 : Nat) (Option.none : Option Jvm.ClassFile.FieldType)).before args0 about1 = true := code_word (m := ⟨11, 2⟩) (meth := k11m2) (c := k11c2) (by decide +kernel) rfl rfl rfl (by decide +kernel)
set_option maxRecDepth 65536 in
theorem w_c12 : (Jvm.Cond.code ({ cls := "java/util/OptionalLong", name := "isPresent", desc := "()Z" } : Jvm.MethodName) jdk_2650_method_6_code (1 : Nat) (Option.some Jvm.ClassFile.FieldType.boolean)).before args0 about1 = true := code_word (m := ⟨11, 5⟩) (meth := k11m5) (c := k11c5) (by decide +kernel) rfl rfl rfl (by decide +kernel)
set_option maxRecDepth 65536 in
theorem w_c13 : (Jvm.Cond.code ({ cls := "java/util/OptionalLong", name := "getAsLong", desc := "()J" } : Jvm.MethodName) jdk_2650_method_5_code (1 : Nat) (Option.some Jvm.ClassFile.FieldType.long)).before args0 about1 = true := code_word (m := ⟨11, 4⟩) (meth := k11m4) (c := k11c4) (by decide +kernel) rfl rfl rfl (by decide +kernel)
set_option maxRecDepth 65536 in
theorem w_c14 : (Jvm.Cond.code ({ cls := "java/lang/String", name := "valueOf", desc := "(C)Ljava/lang/String;" } : Jvm.MethodName) jdk_42_method_139_code (1 : Nat) (Option.some (Jvm.ClassFile.FieldType.object "java/lang/String"))).before args0 about1 = true := code_word (m := ⟨7, 2⟩) (meth := k7m2) (c := k7c2) (by decide +kernel) rfl rfl rfl (by decide +kernel)
set_option maxRecDepth 65536 in
theorem w_c15 : (Jvm.Cond.code ({ cls := "java/lang/StringLatin1", name := "canEncode", desc := "(C)Z" } : Jvm.MethodName) jdk_43_method_3_code (1 : Nat) (Option.some Jvm.ClassFile.FieldType.boolean)).before args0 about1 = true := code_word (m := ⟨12, 1⟩) (meth := k12m1) (c := k12c1) (by decide +kernel) rfl rfl rfl (by decide +kernel)
set_option maxRecDepth 65536 in
theorem w_c16 : (Jvm.Cond.code ({ cls := "java/lang/StringLatin1", name := "toBytes", desc := "(C)[B" } : Jvm.MethodName) jdk_43_method_46_code (1 : Nat) (Option.some (Jvm.ClassFile.FieldType.array Jvm.ClassFile.FieldType.byte))).before args0 about1 = true := code_word (m := ⟨12, 2⟩) (meth := k12m2) (c := k12c2) (by decide +kernel) rfl rfl rfl (by decide +kernel)
set_option maxRecDepth 65536 in
theorem w_c17 : (Jvm.Cond.code ({ cls := "java/lang/String", name := "<init>", desc := "([BB)V" } : Jvm.MethodName) jdk_42_method_151_code (3 : Nat) (Option.none : Option Jvm.ClassFile.FieldType)).before args0 about1 = true := code_word (m := ⟨7, 4⟩) (meth := k7m4) (c := k7c4) (by decide +kernel) rfl rfl rfl (by decide +kernel)
set_option maxRecDepth 65536 in
theorem w_c18 : (Jvm.Cond.code ({ cls := "java/util/OptionalLong", name := "empty", desc := "()Ljava/util/OptionalLong;" } : Jvm.MethodName) jdk_2650_method_2_code (0 : Nat) (Option.some (Jvm.ClassFile.FieldType.object "java/util/OptionalLong"))).before args0 about1 = true := code_word (m := ⟨11, 1⟩) (meth := k11m1) (c := k11c1) (by decide +kernel) rfl rfl rfl (by decide +kernel)
def codes1 : List Jvm.Cond := [Jvm.Cond.code x code maxLocals ret, Jvm.Cond.code ({ cls := "java/lang/String", name := "<init>", desc := "([C)V" } : Jvm.MethodName) jdk_42_method_3_code (2 : Nat) (Option.none : Option Jvm.ClassFile.FieldType), Jvm.Cond.code ({ cls := "java/lang/String", name := "<init>", desc := "([CIILjava/lang/Void;)V" } : Jvm.MethodName) jdk_42_method_149_code (6 : Nat) (Option.none : Option Jvm.ClassFile.FieldType), Jvm.Cond.code ({ cls := "java/lang/Object", name := "<init>", desc := "()V" } : Jvm.MethodName) object_method_1_code (1 : Nat) (Option.none : Option Jvm.ClassFile.FieldType), Jvm.Cond.code ({ cls := "java/lang/StringUTF16", name := "compress", desc := "([CII)[B" } : Jvm.MethodName) jdk_52_method_16_code (6 : Nat) (Option.some (Jvm.ClassFile.FieldType.array Jvm.ClassFile.FieldType.byte)), Jvm.Cond.code ({ cls := "java/lang/StringUTF16", name := "compress", desc := "([CI[BII)I" } : Jvm.MethodName) jdk_52_method_21_code (7 : Nat) (Option.some Jvm.ClassFile.FieldType.int), Jvm.Cond.code ({ cls := "java/lang/StringUTF16", name := "coderFromArrayLen", desc := "([BI)B" } : Jvm.MethodName) jdk_52_method_15_code (2 : Nat) (Option.some Jvm.ClassFile.FieldType.byte), Jvm.Cond.code ({ cls := "com/example/gristmill/gristmill/documents/DocumentRecord", name := "<init>", desc := "(JLjava/lang/String;Ljava/lang/String;JI)V" } : Jvm.MethodName) prog_7_method_1_code (8 : Nat) (Option.none : Option Jvm.ClassFile.FieldType), Jvm.Cond.code ({ cls := "java/util/Objects", name := "requireNonNull", desc := "(Ljava/lang/Object;Ljava/lang/String;)Ljava/lang/Object;" } : Jvm.MethodName) jdk_31_method_11_code (2 : Nat) (Option.some (Jvm.ClassFile.FieldType.object "java/lang/Object")), Jvm.Cond.code ({ cls := "com/example/gristmill/gristmill/documents/DocumentRecord", name := "jobId", desc := "()Ljava/util/OptionalLong;" } : Jvm.MethodName) prog_7_method_5_code (1 : Nat) (Option.some (Jvm.ClassFile.FieldType.object "java/util/OptionalLong")), Jvm.Cond.code ({ cls := "java/util/OptionalLong", name := "of", desc := "(J)Ljava/util/OptionalLong;" } : Jvm.MethodName) jdk_2650_method_4_code (2 : Nat) (Option.some (Jvm.ClassFile.FieldType.object "java/util/OptionalLong")), Jvm.Cond.code ({ cls := "java/util/OptionalLong", name := "<init>", desc := "(J)V" } : Jvm.MethodName) jdk_2650_method_3_code (3 : Nat) (Option.none : Option Jvm.ClassFile.FieldType), Jvm.Cond.code ({ cls := "java/util/OptionalLong", name := "isPresent", desc := "()Z" } : Jvm.MethodName) jdk_2650_method_6_code (1 : Nat) (Option.some Jvm.ClassFile.FieldType.boolean), Jvm.Cond.code ({ cls := "java/util/OptionalLong", name := "getAsLong", desc := "()J" } : Jvm.MethodName) jdk_2650_method_5_code (1 : Nat) (Option.some Jvm.ClassFile.FieldType.long), Jvm.Cond.code ({ cls := "java/lang/String", name := "valueOf", desc := "(C)Ljava/lang/String;" } : Jvm.MethodName) jdk_42_method_139_code (1 : Nat) (Option.some (Jvm.ClassFile.FieldType.object "java/lang/String")), Jvm.Cond.code ({ cls := "java/lang/StringLatin1", name := "canEncode", desc := "(C)Z" } : Jvm.MethodName) jdk_43_method_3_code (1 : Nat) (Option.some Jvm.ClassFile.FieldType.boolean), Jvm.Cond.code ({ cls := "java/lang/StringLatin1", name := "toBytes", desc := "(C)[B" } : Jvm.MethodName) jdk_43_method_46_code (1 : Nat) (Option.some (Jvm.ClassFile.FieldType.array Jvm.ClassFile.FieldType.byte)), Jvm.Cond.code ({ cls := "java/lang/String", name := "<init>", desc := "([BB)V" } : Jvm.MethodName) jdk_42_method_151_code (3 : Nat) (Option.none : Option Jvm.ClassFile.FieldType), Jvm.Cond.code ({ cls := "java/util/OptionalLong", name := "empty", desc := "()Ljava/util/OptionalLong;" } : Jvm.MethodName) jdk_2650_method_2_code (0 : Nat) (Option.some (Jvm.ClassFile.FieldType.object "java/util/OptionalLong"))]
set_option maxRecDepth 65536 in
theorem codes_eq : words1.filter isCode = codes1 := rfl
theorem w_codes : ∀ c ∈ words1.filter isCode, c.before args0 about1 = true := by
  rw [codes_eq]
  intro c hc
  simp only [codes1, List.mem_cons, List.not_mem_nil, or_false] at hc
  rcases hc with rfl | rfl | rfl | rfl | rfl | rfl | rfl | rfl | rfl | rfl | rfl | rfl | rfl | rfl | rfl | rfl | rfl | rfl | rfl
  · exact w_c0
  · exact w_c1
  · exact w_c2
  · exact w_c3
  · exact w_c4
  · exact w_c5
  · exact w_c6
  · exact w_c7
  · exact w_c8
  · exact w_c9
  · exact w_c10
  · exact w_c11
  · exact w_c12
  · exact w_c13
  · exact w_c14
  · exact w_c15
  · exact w_c16
  · exact w_c17
  · exact w_c18
set_option maxRecDepth 65536 in
theorem w_t1 : (words1.take 24).all (fun c => isCode c || c.before args0 about1) = true := by decide +kernel
set_option maxRecDepth 65536 in
theorem w_t2 : ((words1.drop 24).take 24).all (fun c => isCode c || c.before args0 about1) = true := by decide +kernel
set_option maxRecDepth 65536 in
theorem w_t3 : (((words1.drop 24).drop 24).take 24).all (fun c => isCode c || c.before args0 about1) = true := by decide +kernel
set_option maxRecDepth 65536 in
theorem w_t4 : ((((words1.drop 24).drop 24).drop 24).take 24).all (fun c => isCode c || c.before args0 about1) = true := by decide +kernel
set_option maxRecDepth 65536 in
theorem w_t5 : ((((words1.drop 24).drop 24).drop 24).drop 24).all (fun c => isCode c || c.before args0 about1) = true := by decide +kernel
theorem w_tables : (allAtoms (Jvm.Cond.code x code maxLocals ret :: tables_1)).before args0 about1 = true := by
  rw [allAtoms_all]
  show words1.all (fun c => c.before args0 about1) = true
  refine all_split ?_ w_codes
  rw [← List.take_append_drop 24 words1, List.all_append, w_t1, ← List.take_append_drop 24 (words1.drop 24), List.all_append, w_t2, ← List.take_append_drop 24 ((words1.drop 24).drop 24), List.all_append, w_t3, ← List.take_append_drop 24 (((words1.drop 24).drop 24).drop 24), List.all_append, w_t4, w_t5]
  rfl
set_option maxRecDepth 65536 in
theorem w_rest : rest_1_c.before args0 about1 = true := by decide +kernel
set_option maxRecDepth 65536 in
theorem w_case : (Jvm.Cond.and given_1 narrow_1).before args0 about1 = true := by decide +kernel
theorem w_applies : (headSpec (Jvm.Cond.code x code maxLocals ret :: tables_1) room_1).applies x e0.platform about1 = true :=
  (Spec.applies_iff w_frames).mpr ⟨w_running, w_runnable, w_alone, w_named, w_hears, w_ripe, w_room, w_tables⟩
theorem atStart : AtStart classFile x code maxLocals ret World_1 tables_1 room_1 Calls_1 rest_1 Pre_1 launch0 p0 e0 about1 theMethod args0 below0 :=
  ⟨lists_1, trivial, launch0.admits_env _ _ _, launch0.least_env, fairChoices_fair.cas, fairChoices_fair.clock, w_frames, w_args, w_heap, w_applies, trivial, w_rest, w_case⟩
end start1
theorem witness_1 : WitnessClaimed_1 := ⟨start1.p0, start1.e0, start1.about1, start1.theMethod, start1.args0, start1.below0, start1.atStart⟩
end Jvm.Pilot.@@N@@
