import JvmDerived
import JvmDerived.Pilot.@@N@@Statement
import JvmDerived.Pilot.@@N@@Code
set_option linter.unusedVariables false
set_option linter.unusedSimpArgs false
/- laws to paste: Road.backV, Road.chN, Road.codOf (cut by pick.py; bodies as the Statement names them) -/
namespace Jvm.Pilot.@@N@@
namespace StrChars
open Jvm Sem ClassFile Op Lib Jvm.Stand Jvm.Free.XT Jvm.Free.ALB Jvm.Free.JM Jvm.Free
open Jvm.Lib.Cold (StaticIs)
/-- a char array whose places are chars -/
def Ch (a : Addr) (A : Cell) (U : State) : Prop := Arr .char a A U ∧ Typed .char A
theorem Ch.mv {a : Addr} {A : Cell} {U U' : State} (h : Ch a A U) (hal : U.vm.Alike U'.vm) (hh : U'.heap = U.heap) : Ch a A U' := ⟨h.1.mv hal hh, h.2⟩
theorem Ch.keep {a : Addr} {A : Cell} {U U' : State} (h : Ch a A U) (hal : U.vm.Alike U'.vm) (hk : U'.heap[a]? = some A) : Ch a A U' := ⟨h.1.keep hal hk, h.2⟩
/-- what place i of a char[]'s cell holds -/
def cv (A : Cell) (i : Nat) : Int32 := match A.slots[i]? with | some (.int x) => x | _ => 0
theorem Ch.get {a : Addr} {A : Cell} {U : State} (h : Ch a A U) {i : Nat} (hi : i < A.slots.size) : A.slots[i]? = some (.int (cv A i)) := by
  have e := Array.getElem?_eq_getElem hi
  have f := h.2 i _ e
  unfold cv; rw [e]
  generalize A.slots[i] = v at f
  cases v <;> simp [fits] at f ⊢
/-- the byte that i2b leaves of a char -/
def lo8 (x : Int32) : Int32 := x.toInt8.toInt32
theorem fits_lo8 (y : Int32) : fits .byte (.int (lo8 y)) = true := by
  have h1 := y.toInt8.le_toInt
  have h2 := y.toInt8.toInt_lt
  simp only [lo8, fits, Bool.and_eq_true, decide_eq_true_eq, Int32.le_iff_toInt_le, Int8.toInt_toInt32, show (-128 : Int32).toInt = -128 from by decide, show (127 : Int32).toInt = 127 from by decide]
  omega
/-- A' is A but that each place j of lo .. hi - 1 holds f j -/
def Laid (A A' : Cell) (lo hi : Nat) (f : Nat → Value) : Prop := A'.cls = A.cls ∧ A'.vm = A.vm ∧ A'.slots.size = A.slots.size ∧ ∀ i, A'.slots[i]? = if lo ≤ i ∧ i < hi then some (f i) else A.slots[i]?
theorem Laid.zero (A : Cell) (lo : Nat) (f : Nat → Value) : Laid A A lo (lo + 0) f := ⟨rfl, rfl, rfl, fun i => by rw [if_neg (by omega)]⟩
theorem Laid.step {A Ak : Cell} {lo k : Nat} {f : Nat → Value} {v : Value} (h : Laid A Ak lo k f) (hlo : lo ≤ k) (hk : k < Ak.slots.size) (hv : v = f k) : Laid A (Ak.setSlot k v) lo (k + 1) f := by
  refine ⟨h.1, h.2.1, by simpa [Cell.setSlot] using h.2.2.1, fun i => ?_⟩
  by_cases e : k = i
  · subst e; rw [Cell.slots_setSlot_self v hk, if_pos (by omega), hv]
  · rw [Cell.slots_setSlot_ne v e, h.2.2.2 i]
    by_cases q : lo ≤ i ∧ i < k
    · rw [if_pos q, if_pos (by omega)]
    · rw [if_neg q, if_neg (by omega)]
def U16 : String := "java/lang/StringUTF16"
namespace Cmp5
def yN : MethodName := ⟨"java/lang/StringUTF16", "compress", "([CI[BII)I"⟩
abbrev yB : ByteArray := jdk_52_method_21_code
theorem d0 : decode yB 0 = .ok (.iconst 0, 1) := by decide +kernel
theorem d1 : decode yB 1 = .ok (.istore 5, 2) := by decide +kernel
theorem d3 : decode yB 3 = .ok (.iload 5, 2) := by decide +kernel
theorem d5 : decode yB 5 = .ok (.iload 4, 2) := by decide +kernel
theorem d7 : decode yB 7 = .ok (.if_icmp (.ge) 37, 3) := by decide +kernel
theorem d10 : decode yB 10 = .ok (.aload_n 0, 1) := by decide +kernel
theorem d11 : decode yB 11 = .ok (.iload_n 1, 1) := by decide +kernel
theorem d12 : decode yB 12 = .ok (.caload, 1) := by decide +kernel
theorem d13 : decode yB 13 = .ok (.istore 6, 2) := by decide +kernel
theorem d15 : decode yB 15 = .ok (.iload 6, 2) := by decide +kernel
theorem d17 : decode yB 17 = .ok (.sipush 255, 3) := by decide +kernel
theorem d20 : decode yB 20 = .ok (.if_icmp (.le) 6, 3) := by decide +kernel
theorem d26 : decode yB 26 = .ok (.aload_n 2, 1) := by decide +kernel
theorem d27 : decode yB 27 = .ok (.iload_n 3, 1) := by decide +kernel
theorem d28 : decode yB 28 = .ok (.iload 6, 2) := by decide +kernel
theorem d30 : decode yB 30 = .ok (.i2b, 1) := by decide +kernel
theorem d31 : decode yB 31 = .ok (.bastore, 1) := by decide +kernel
theorem d32 : decode yB 32 = .ok (.iinc 1 1, 3) := by decide +kernel
theorem d35 : decode yB 35 = .ok (.iinc 3 1, 3) := by decide +kernel
theorem d38 : decode yB 38 = .ok (.iinc 5 1, 3) := by decide +kernel
theorem d41 : decode yB 41 = .ok (.goto (-38), 3) := by decide +kernel
theorem d44 : decode yB 44 = .ok (.iload 4, 2) := by decide +kernel
theorem d46 : decode yB 46 = .ok (.ireturn, 1) := by decide +kernel
def site : List Cond := []
def tab : Cond := tabOf yN yB 7 (some .int) site
def P (b : Addr) (A : Cell) (d : Addr) (B : Cell) (o q len : Nat) (args : Array Value) (s : State) : Prop := args = #[.ref b, .int (Int32.ofNat o), .ref d, .int (Int32.ofNat q), .int (Int32.ofNat len)] ∧ Ch b A s ∧ Arr .byte d B s ∧ b ≠ d ∧ o + len ≤ A.slots.size ∧ q + len ≤ B.slots.size ∧ ∀ i, i < len → ¬ 255 < cv A (o + i)
def E (b : Addr) (A : Cell) (d : Addr) (B : Cell) (o q len : Nat) (r : Option Value) (s u : State) : Prop := r = some (.int (Int32.ofNat len)) ∧ ∃ B', Put d B' s u ∧ Laid B B' q (q + len) (fun j => Value.int (lo8 (cv A (o + (j - q)))))
/-- no char of the range above 255: len; the places written hold each char's low byte -/
theorem law (l : Launch) (b : Addr) (A : Cell) (d : Addr) (B : Cell) (o q len : Nat) : Law l yN 5 5 0 0 yB 7 (some .int) site (P b A d B o q len) (E b A d B o q len) (copyLocs d q len) 0 0 := by
  refine Law.of_walk (plainFor_of_name (by decide +kernel)) (by decide +kernel) (by decide +kernel) (by decide) (fun _ _ h => by rw [h.1]; rfl) (fun _ U U' hal hh h => ⟨h.1, h.2.1.mv hal hh, h.2.2.1.mv hal hh, h.2.2.2⟩) (fun r U U' V V' h1 hal h2 h => ⟨h.1, h.2.elim fun B' q => ⟨B', q.1.mv h1 h2, q.2⟩⟩) ?_
  intro p e s m args below meth c s₁ X0 hexec hbytes hml hret hlk hnm hown hh0 W hP
  obtain ⟨rfl, hA, hB, hne, l1, l2, hp⟩ := hP
  have c1 : Steps p.tables e below (s₁.setTop (entryFrame m #[.ref b, .int (Int32.ofNat o), .ref d, .int (Int32.ofNat q), .int (Int32.ofNat len)] 7)) (s₁.setTop (mkF m 0 #[.val (.ref b), .val (.int (Int32.ofNat o)), .val (.ref d), .val (.int (Int32.ofNat q)), .val (.int (Int32.ofNat len)), .unset, .unset] [])) := entry rfl
  have hA0 := hA.1.mv X0.warmed.alike hh0
  have hB0 := hB.mv X0.warmed.alike hh0
  have a31 := hA.1.2.2.2
  have c2 : Steps p.tables e below (s₁.setTop (entryFrame m #[.ref b, .int (Int32.ofNat o), .ref d, .int (Int32.ofNat q), .int (Int32.ofNat len)] 7)) (s₁.setTop (mkF m 3 #[.val (.ref b), .val (.int (Int32.ofNat o)), .val (.ref d), .val (.int (Int32.ofNat q)), .val (.int (Int32.ofNat len)), .val (.int 0), .unset] [])) := c1.trans (by
    refine iconstV X0.here hexec rfl 0 (hb hbytes d0) (by decide) ?_
    refine XS.istore X0.here hexec rfl (hb hbytes d1) rfl rfl ?_
    exact Steps.refl _)
  have loop : ∀ (r i : Nat), i + r = len → ∀ (z : Slot), (z = .unset ∨ ∃ w, z = .val w ∧ w.category = 1) → ∀ (Tl : State) (Bk : Cell), Stand p l e { frames := 0, locals := 0, cells := 0, slots := 0 } s m #[.ref b, .int (Int32.ofNat o), .ref d, .int (Int32.ofNat q), .int (Int32.ofNat len)] below meth c Tl ([] ++ copyLocs d q i) 0 0 → Put d Bk s₁ Tl → Laid B Bk q (q + i) (fun j => Value.int (lo8 (cv A (o + (j - q))))) →
      Steps p.tables e below (s₁.setTop (entryFrame m #[.ref b, .int (Int32.ofNat o), .ref d, .int (Int32.ofNat q), .int (Int32.ofNat len)] 7)) (Tl.setTop (mkF m 3 #[.val (.ref b), .val (.int (Int32.ofNat (o + i))), .val (.ref d), .val (.int (Int32.ofNat (q + i))), .val (.int (Int32.ofNat len)), .val (.int (Int32.ofNat i)), z] [])) → ∃ (T' : State) (B' : Cell) (z' : Slot), Stand p l e { frames := 0, locals := 0, cells := 0, slots := 0 } s m #[.ref b, .int (Int32.ofNat o), .ref d, .int (Int32.ofNat q), .int (Int32.ofNat len)] below meth c T' ([] ++ copyLocs d q len) 0 0 ∧ Put d B' s₁ T' ∧ Laid B B' q (q + len) (fun j => Value.int (lo8 (cv A (o + (j - q))))) ∧
      Steps p.tables e below (s₁.setTop (entryFrame m #[.ref b, .int (Int32.ofNat o), .ref d, .int (Int32.ofNat q), .int (Int32.ofNat len)] 7)) (T'.setTop (mkF m 3 #[.val (.ref b), .val (.int (Int32.ofNat (o + len))), .val (.ref d), .val (.int (Int32.ofNat (q + len))), .val (.int (Int32.ofNat len)), .val (.int (Int32.ofNat len)), z'] [])) := by
    intro r
    induction r with
    | zero =>
      intro i hi z hz Tl Bk Xl pl fl cl
      have hil : i = len := by omega
      rw [hil] at Xl fl cl
      exact ⟨Tl, Bk, z, Xl, pl, fl, cl⟩
    | succ r ih =>
      intro i hi z hz Tl Bk Xl pl fl cl
      have all := X0.warmed.alike.symm.trans Xl.warmed.alike
      have hAl := hA0.keep all (pl.other hne hA0.1)
      have hBk := hB0.like all pl.1 fl.1 fl.2.1 fl.2.2.1
      have hlt : q + i < Bk.slots.size := by rw [fl.2.2.1]; omega
      have c3 : Steps p.tables e below (s₁.setTop (entryFrame m #[.ref b, .int (Int32.ofNat o), .ref d, .int (Int32.ofNat q), .int (Int32.ofNat len)] 7)) (Tl.setTop (mkF m 12 #[.val (.ref b), .val (.int (Int32.ofNat (o + i))), .val (.ref d), .val (.int (Int32.ofNat (q + i))), .val (.int (Int32.ofNat len)), .val (.int (Int32.ofNat i)), z] [.int (Int32.ofNat (o + i)), .ref b])) := cl.trans (by
        refine XS.iload Xl.here hexec rfl (hb hbytes d3) rfl ?_
        refine XS.iload Xl.here hexec rfl (hb hbytes d5) rfl ?_
        refine XS.icmpNo Xl.here hexec rfl (hb hbytes d7) rfl (ii_ge_f (lt32 (by omega) (by omega))) ?_
        refine XS.aloadN Xl.here hexec rfl (hb hbytes d10) rfl rfl ?_
        refine XS.iloadN Xl.here hexec rfl (hb hbytes d11) rfl ?_
        exact Steps.refl _)
      have c4 : Steps p.tables e below (s₁.setTop (entryFrame m #[.ref b, .int (Int32.ofNat o), .ref d, .int (Int32.ofNat q), .int (Int32.ofNat len)] 7)) (Tl.setTop (mkF m 13 #[.val (.ref b), .val (.int (Int32.ofNat (o + i))), .val (.ref d), .val (.int (Int32.ofNat (q + i))), .val (.int (Int32.ofNat len)), .val (.int (Int32.ofNat i)), z] [.int (cv A (o + i))])) := c3.trans (by
        refine Xl.aget hexec hAl rfl (hA.get (i := o + i) (by omega)) rfl rfl (hb hbytes d12) ?_
        exact Steps.refl _)
      have c5 : Steps p.tables e below (s₁.setTop (entryFrame m #[.ref b, .int (Int32.ofNat o), .ref d, .int (Int32.ofNat q), .int (Int32.ofNat len)] 7)) (Tl.setTop (mkF m 15 #[.val (.ref b), .val (.int (Int32.ofNat (o + i))), .val (.ref d), .val (.int (Int32.ofNat (q + i))), .val (.int (Int32.ofNat len)), .val (.int (Int32.ofNat i)), .val (.int (cv A (o + i)))] [])) := c4.trans (by
        refine XS.istoreS Xl.here hexec rfl (hb hbytes d13) rfl rfl hz ?_
        exact Steps.refl _)
      have c6 : Steps p.tables e below (s₁.setTop (entryFrame m #[.ref b, .int (Int32.ofNat o), .ref d, .int (Int32.ofNat q), .int (Int32.ofNat len)] 7)) (Tl.setTop (mkF m 31 #[.val (.ref b), .val (.int (Int32.ofNat (o + i))), .val (.ref d), .val (.int (Int32.ofNat (q + i))), .val (.int (Int32.ofNat len)), .val (.int (Int32.ofNat i)), .val (.int (cv A (o + i)))] [.int (lo8 (cv A (o + i))), .int (Int32.ofNat (q + i)), .ref d])) := c5.trans (by
        refine XS.iload Xl.here hexec rfl (hb hbytes d15) rfl ?_
        refine sipushV Xl.here hexec rfl 255 (hb hbytes d17) (by decide) ?_
        refine XS.icmpYes Xl.here hexec rfl (pc0 := 20) rfl (hb hbytes d20) rfl (ii_le_t (hp i (by omega))) (by decide) rfl ?_
        refine XS.aloadN Xl.here hexec rfl (hb hbytes d26) rfl rfl ?_
        refine XS.iloadN Xl.here hexec rfl (hb hbytes d27) rfl ?_
        refine XS.iload Xl.here hexec rfl (hb hbytes d28) rfl ?_
        refine i2b Xl.here hexec rfl (hb hbytes d30) rfl ?_
        exact Steps.refl _)
      obtain ⟨T7, X7, p7, st7⟩ := Xl.aput hexec hBk rfl hlt rfl (fits_lo8 (cv A (o + i))) (g := (mkF m 31 #[.val (.ref b), .val (.int (Int32.ofNat (o + i))), .val (.ref d), .val (.int (Int32.ofNat (q + i))), .val (.int (Int32.ofNat len)), .val (.int (Int32.ofNat i)), .val (.int (cv A (o + i)))] [.int (lo8 (cv A (o + i))), .int (Int32.ofNat (q + i)), .ref d])) rfl (rest := []) rfl (hb hbytes d31)
      have c8 : Steps p.tables e below (s₁.setTop (entryFrame m #[.ref b, .int (Int32.ofNat o), .ref d, .int (Int32.ofNat q), .int (Int32.ofNat len)] 7)) (T7.setTop (mkF m 32 #[.val (.ref b), .val (.int (Int32.ofNat (o + i))), .val (.ref d), .val (.int (Int32.ofNat (q + i))), .val (.int (Int32.ofNat len)), .val (.int (Int32.ofNat i)), .val (.int (cv A (o + i)))] [])) := c6.trans (st7 _ (Steps.refl _))
      have c9 : Steps p.tables e below (s₁.setTop (entryFrame m #[.ref b, .int (Int32.ofNat o), .ref d, .int (Int32.ofNat q), .int (Int32.ofNat len)] 7)) (T7.setTop (mkF m 3 #[.val (.ref b), .val (.int (Int32.ofNat (o + i) + 1)), .val (.ref d), .val (.int (Int32.ofNat (q + i) + 1)), .val (.int (Int32.ofNat len)), .val (.int (Int32.ofNat i + 1)), .val (.int (cv A (o + i)))] [])) := c8.trans (by
        refine iincV X7.here hexec rfl 1 (hb hbytes d32) (by decide) rfl rfl ?_
        refine iincV X7.here hexec rfl 1 (hb hbytes d35) (by decide) rfl rfl ?_
        refine iincV X7.here hexec rfl 1 (hb hbytes d38) (by decide) rfl rfl ?_
        refine XS.goto X7.here hexec rfl (pc0 := 41) rfl (hb hbytes d41) (by decide) rfl ?_
        exact Steps.refl _)
      have c10 : Steps p.tables e below (s₁.setTop (entryFrame m #[.ref b, .int (Int32.ofNat o), .ref d, .int (Int32.ofNat q), .int (Int32.ofNat len)] 7)) (T7.setTop (mkF m 3 #[.val (.ref b), .val (.int (Int32.ofNat (o + (i + 1)))), .val (.ref d), .val (.int (Int32.ofNat (q + (i + 1)))), .val (.int (Int32.ofNat len)), .val (.int (Int32.ofNat (i + 1))), .val (.int (cv A (o + i)))] [])) := by
        have := c9
        rw [succ32, succ32, succ32] at this
        exact this
      exact ih (i + 1) (by omega) _ (Or.inr ⟨_, rfl, rfl⟩) T7 _ (by rw [copyLocs_step, ← List.append_assoc]; exact X7) (pl.trans p7) (fl.step (by omega) hlt (by simp)) c10
  obtain ⟨T9, B9, z9, X9, p9, f9, g9⟩ := loop len 0 (by omega) .unset (Or.inl rfl) s₁ B (by simpa [copyLocs] using X0) ⟨hB0.1, fun _ _ => rfl, rfl⟩ (Laid.zero _ _ _) c2
  have c11 : Steps p.tables e below (s₁.setTop (entryFrame m #[.ref b, .int (Int32.ofNat o), .ref d, .int (Int32.ofNat q), .int (Int32.ofNat len)] 7)) (T9.setTop (mkF m 46 #[.val (.ref b), .val (.int (Int32.ofNat (o + len))), .val (.ref d), .val (.int (Int32.ofNat (q + len))), .val (.int (Int32.ofNat len)), .val (.int (Int32.ofNat len)), z9] [.int (Int32.ofNat len)])) := g9.trans (by
    refine XS.iload X9.here hexec rfl (hb hbytes d3) rfl ?_
    refine XS.iload X9.here hexec rfl (hb hbytes d5) rfl ?_
    refine XS.icmpYes X9.here hexec rfl (pc0 := 7) rfl (hb hbytes d7) rfl (ii_ge_t (nlt32 (by omega) (Nat.le_refl _))) (by decide) rfl ?_
    refine XS.iload X9.here hexec rfl (hb hbytes d44) rfl ?_
    exact Steps.refl _)
  exact ⟨T9, some (.int (Int32.ofNat len)), _, _, _, X9, by simp, rfl, rfl, (fun h => by cases h), ⟨rfl, B9, p9.from hh0, f9⟩, fun fs hl => c11.trans (X9.ireturnOut hexec hret rfl (Or.inl rfl) (hb hbytes d46) hl)⟩
end Cmp5
namespace Cmp3
def yN : MethodName := ⟨"java/lang/StringUTF16", "compress", "([CII)[B"⟩
abbrev yB : ByteArray := jdk_52_method_16_code
theorem d0 : decode yB 0 = .ok (.iload_n 2, 1) := by decide +kernel
theorem d1 : decode yB 1 = .ok (.newarray .byte, 2) := by decide +kernel
theorem d3 : decode yB 3 = .ok (.astore_n 3, 1) := by decide +kernel
theorem d4 : decode yB 4 = .ok (.aload_n 0, 1) := by decide +kernel
theorem d5 : decode yB 5 = .ok (.iload_n 1, 1) := by decide +kernel
theorem d6 : decode yB 6 = .ok (.aload_n 3, 1) := by decide +kernel
theorem d7 : decode yB 7 = .ok (.iconst 0, 1) := by decide +kernel
theorem d8 : decode yB 8 = .ok (.iload_n 2, 1) := by decide +kernel
theorem d9 : decode yB 9 = .ok (.invokestatic 115, 3) := by decide +kernel
theorem d12 : decode yB 12 = .ok (.istore 4, 2) := by decide +kernel
theorem d14 : decode yB 14 = .ok (.iload 4, 2) := by decide +kernel
theorem d16 : decode yB 16 = .ok (.iload_n 2, 1) := by decide +kernel
theorem d17 : decode yB 17 = .ok (.if_icmp (.eq) 40, 3) := by decide +kernel
theorem d57 : decode yB 57 = .ok (.aload_n 3, 1) := by decide +kernel
theorem d58 : decode yB 58 = .ok (.areturn, 1) := by decide +kernel
def site : List Cond := [.arrayClass .byte, Cmp5.tab] ++ staticW U16 115 Cmp5.yN
def tab : Cond := tabOf yN yB 6 (some (.array .byte)) site
def P (b : Addr) (A : Cell) (o len : Nat) (args : Array Value) (s : State) : Prop := args = #[.ref b, .int (Int32.ofNat o), .int (Int32.ofNat len)] ∧ Ch b A s ∧ o + len ≤ A.slots.size ∧ len ≤ 536870912 ∧ ∀ i, i < len → ¬ 255 < cv A (o + i)
def E (b : Addr) (A : Cell) (o len : Nat) (r : Option Value) (s u : State) : Prop := NewArr .byte "[B" len (fun j => .int (lo8 (cv A (o + j)))) r s u ∧ u.heap.size = s.heap.size + 1
/-- no char of the range above 255: a new byte[] of their low bytes -/
theorem law (l : Launch) (b : Addr) (A : Cell) (o len : Nat) : Law l yN 3 3 1 18 yB 6 (some (.array .byte)) site (P b A o len) (E b A o len) [] 1 len := by
  refine Law.of_walk (plainFor_of_name (by decide +kernel)) (by decide +kernel) (by decide +kernel) (by decide) (fun _ _ h => by rw [h.1]; rfl) (fun _ U U' hal hh h => ⟨h.1, h.2.1.mv hal hh, h.2.2⟩) (fun r U U' V V' h1 hal h2 h => ⟨NewArr.mv r U U' V V' h1 hal h2 h.1, by rw [h1, h2]; exact h.2⟩) ?_
  intro p e s m args below meth c s₁ X0 hexec hbytes hml hret hlk hnm hown hh0 W hP
  obtain ⟨rfl, hA, l1, l2, hp⟩ := hP
  have a31 := hA.1.2.2.2
  have c1 : Steps p.tables e below (s₁.setTop (entryFrame m #[.ref b, .int (Int32.ofNat o), .int (Int32.ofNat len)] 6)) (s₁.setTop (mkF m 0 #[.val (.ref b), .val (.int (Int32.ofNat o)), .val (.int (Int32.ofNat len)), .unset, .unset, .unset] [])) := entry rfl
  have c2 : Steps p.tables e below (s₁.setTop (entryFrame m #[.ref b, .int (Int32.ofNat o), .int (Int32.ofNat len)] 6)) (s₁.setTop (mkF m 1 #[.val (.ref b), .val (.int (Int32.ofNat o)), .val (.int (Int32.ofNat len)), .unset, .unset, .unset] [.int (Int32.ofNat len)])) := c1.trans (by
    refine XS.iloadN X0.here hexec rfl (hb hbytes d0) rfl ?_
    exact Steps.refl _)
  obtain ⟨T3, B3, X3, ba3, bs3, bv3, bh3, bf3, st3⟩ := X0.anew hexec (atype := .byte) (wk W (.arrayClass .byte)) rfl (by show len * 1 ≤ _; omega) (by omega) (g := (mkF m 1 #[.val (.ref b), .val (.int (Int32.ofNat o)), .val (.int (Int32.ofNat len)), .unset, .unset, .unset] [.int (Int32.ofNat len)])) rfl (hb hbytes d1) (rest := []) rfl (Nat.le_refl _) (by show 0 + len ≤ len; omega)
  rw [hh0] at ba3 st3
  have kp3 : XT.Kept s T3 := (XT.Kept.of_eq hh0).push bh3
  have hA3 := hA.keep X3.warmed.alike (kp3 _ _ hA.1.1)
  have hne : b ≠ s.heap.size := hA.1.ne
  have c4 : Steps p.tables e below (s₁.setTop (entryFrame m #[.ref b, .int (Int32.ofNat o), .int (Int32.ofNat len)] 6)) (T3.setTop (mkF m 3 #[.val (.ref b), .val (.int (Int32.ofNat o)), .val (.int (Int32.ofNat len)), .unset, .unset, .unset] [.ref s.heap.size])) := c2.trans (st3 _ (Steps.refl _))
  have c5 : Steps p.tables e below (s₁.setTop (entryFrame m #[.ref b, .int (Int32.ofNat o), .int (Int32.ofNat len)] 6)) (T3.setTop (mkF m 9 #[.val (.ref b), .val (.int (Int32.ofNat o)), .val (.int (Int32.ofNat len)), .val (.ref s.heap.size), .unset, .unset] [.int (Int32.ofNat len), .int 0, .ref s.heap.size, .int (Int32.ofNat o), .ref b])) := c4.trans (by
    refine XS.astoreN X3.here hexec rfl (hb hbytes d3) rfl rfl rfl ?_
    refine XS.aloadN X3.here hexec rfl (hb hbytes d4) rfl rfl ?_
    refine XS.iloadN X3.here hexec rfl (hb hbytes d5) rfl ?_
    refine XS.aloadN X3.here hexec rfl (hb hbytes d6) rfl rfl ?_
    refine iconstV X3.here hexec rfl 0 (hb hbytes d7) (by decide) ?_
    refine XS.iloadN X3.here hexec rfl (hb hbytes d8) rfl ?_
    exact Steps.refl _)
  obtain ⟨v6, T6, X6, E6, g6⟩ := X3.callS hexec (Cmp5.law l b A s.heap.size B3 o 0 len) hown (wks W (staticW U16 115 Cmp5.yN)) (wk W Cmp5.tab) (W := 0) (Nat.le_of_ble_eq_true rfl) (Nat.le_of_ble_eq_true rfl) (Nat.le_refl _) (by show 0 + len + 0 ≤ len; omega) (g := (mkF m 9 #[.val (.ref b), .val (.int (Int32.ofNat o)), .val (.int (Int32.ofNat len)), .val (.ref s.heap.size), .unset, .unset] [.int (Int32.ofNat len), .int (Int32.ofNat 0), .ref s.heap.size, .int (Int32.ofNat o), .ref b])) rfl (by rw [hml]; rfl) c5 (argsL := [.ref b, .int (Int32.ofNat o), .ref s.heap.size, .int (Int32.ofNat 0), .int (Int32.ofNat len)]) (rest := []) rfl rfl (by show 2 * 0 + 0 ≤ _; decide) (hb hbytes d9) (⟨rfl, hA3, ba3, hne, l1, by rw [bs3]; simp, hp⟩)
  obtain ⟨rfl, B6, p6, f6⟩ := E6
  have c7 : Steps p.tables e below (s₁.setTop (entryFrame m #[.ref b, .int (Int32.ofNat o), .int (Int32.ofNat len)] 6)) (T6.setTop (mkF m 12 #[.val (.ref b), .val (.int (Int32.ofNat o)), .val (.int (Int32.ofNat len)), .val (.ref s.heap.size), .unset, .unset] [.int (Int32.ofNat len)])) := g6
  have c8 : Steps p.tables e below (s₁.setTop (entryFrame m #[.ref b, .int (Int32.ofNat o), .int (Int32.ofNat len)] 6)) (T6.setTop (mkF m 58 #[.val (.ref b), .val (.int (Int32.ofNat o)), .val (.int (Int32.ofNat len)), .val (.ref s.heap.size), .val (.int (Int32.ofNat len)), .unset] [.ref s.heap.size])) := c7.trans (by
    refine XS.istore X6.here hexec rfl (hb hbytes d12) rfl rfl ?_
    refine XS.iload X6.here hexec rfl (hb hbytes d14) rfl ?_
    refine XS.iloadN X6.here hexec rfl (hb hbytes d16) rfl ?_
    refine XS.icmpYes X6.here hexec rfl (pc0 := 17) rfl (hb hbytes d17) rfl (ii_eq_t rfl) (by decide) rfl ?_
    refine XS.aloadN X6.here hexec rfl (hb hbytes d57) rfl rfl ?_
    exact Steps.refl _)
  have X8 := X6.wide (L' := []) (cells' := 1) (slots' := len) (fun x hx hlt => by
    simp only [List.nil_append, copyLocs, List.mem_map, List.mem_range] at hx
    obtain ⟨i, -, rfl⟩ := hx
    exact absurd hlt (Nat.lt_irrefl _)) (Nat.le_refl _) (by omega)
  exact ⟨T6, some (.ref s.heap.size), _, _, _, X8, rfl, rfl, rfl, (fun h => by cases h), ⟨⟨rfl, B6, ba3.like (X3.warmed.alike.symm.trans X6.warmed.alike) p6.1 f6.1 f6.2.1 f6.2.2.1, f6.2.1.trans bv3, by rw [X6.warmed.alike.findClass, f6.1]; exact bf3, by rw [f6.2.2.1, bs3]; simp, fun j hj => by rw [f6.2.2.2 j, if_pos (by omega)]; rfl, kp3.put p6 (Nat.le_refl _)⟩, by rw [p6.2.2, bh3, hh0]; simp⟩, fun fs hl => c8.trans (X8.areturnOut hexec rfl hret rfl (hb hbytes d58) hl)⟩
end Cmp3
namespace CodL
def yN : MethodName := ⟨"java/lang/StringUTF16", "coderFromArrayLen", "([BI)B"⟩
abbrev yB : ByteArray := jdk_52_method_15_code
theorem d0 : decode yB 0 = .ok (.iload_n 1, 1) := by decide +kernel
theorem d1 : decode yB 1 = .ok (.aload_n 0, 1) := by decide +kernel
theorem d2 : decode yB 2 = .ok (.arraylength, 1) := by decide +kernel
theorem d3 : decode yB 3 = .ok (.isub, 1) := by decide +kernel
theorem d4 : decode yB 4 = .ok (.bipush 31, 2) := by decide +kernel
theorem d6 : decode yB 6 = .ok (.iushr, 1) := by decide +kernel
theorem d7 : decode yB 7 = .ok (.i2b, 1) := by decide +kernel
theorem d8 : decode yB 8 = .ok (.ireturn, 1) := by decide +kernel
def site : List Cond := []
def tab : Cond := tabOf yN yB 2 (some .byte) site
def P (d : Addr) (B : Cell) (args : Array Value) (s : State) : Prop := args = #[.ref d, .int (Int32.ofNat B.slots.size)] ∧ Arr .byte d B s
def E (r : Option Value) (s u : State) : Prop := XT.PureE (some (.int 0)) r s u
/-- an array as long as the number of chars: LATIN1 -/
theorem law (l : Launch) (d : Addr) (B : Cell) : Law l yN 2 2 0 0 yB 2 (some .byte) site (P d B) E [] 0 0 := by
  refine Law.of_walk (plainFor_of_name (by decide +kernel)) (by decide +kernel) (by decide +kernel) (by decide) (fun _ _ h => by rw [h.1]; rfl) (fun _ U U' hal hh h => ⟨h.1, h.2.mv hal hh⟩) (fun r U U' V V' h1 hal h2 h => XT.PureE.mv r U U' V V' h1 hal h2 h) ?_
  intro p e s m args below meth c s₁ X0 hexec hbytes hml hret hlk hnm hown hh0 W hP
  obtain ⟨rfl, hB⟩ := hP
  have hB0 := hB.mv X0.warmed.alike hh0
  have c1 : Steps p.tables e below (s₁.setTop (entryFrame m #[.ref d, .int (Int32.ofNat B.slots.size)] 2)) (s₁.setTop (mkF m 0 #[.val (.ref d), .val (.int (Int32.ofNat B.slots.size))] [])) := entry rfl
  have c2 : Steps p.tables e below (s₁.setTop (entryFrame m #[.ref d, .int (Int32.ofNat B.slots.size)] 2)) (s₁.setTop (mkF m 2 #[.val (.ref d), .val (.int (Int32.ofNat B.slots.size))] [.ref d, .int (Int32.ofNat B.slots.size)])) := c1.trans (by
    refine XS.iloadN X0.here hexec rfl (hb hbytes d0) rfl ?_
    refine XS.aloadN X0.here hexec rfl (hb hbytes d1) rfl rfl ?_
    exact Steps.refl _)
  have c3 : Steps p.tables e below (s₁.setTop (entryFrame m #[.ref d, .int (Int32.ofNat B.slots.size)] 2)) (s₁.setTop (mkF m 8 #[.val (.ref d), .val (.int (Int32.ofNat B.slots.size))] [.int (lo8 (ushr (Int32.ofNat B.slots.size - Int32.ofNat B.slots.size) 31))])) := c2.trans (by
    refine X0.alen hexec hB0 rfl rfl (hb hbytes d2) ?_
    refine XS.isub X0.here hexec rfl (hb hbytes d3) rfl ?_
    refine bipushV X0.here hexec rfl 31 (hb hbytes d4) (by decide) ?_
    refine iushr X0.here hexec rfl (hb hbytes d6) rfl ?_
    refine i2b X0.here hexec rfl (hb hbytes d7) rfl ?_
    exact Steps.refl _)
  have e0 : lo8 (ushr (Int32.ofNat B.slots.size - Int32.ofNat B.slots.size) 31) = 0 := by rw [Int32.sub_self]; decide
  rw [e0] at c3
  exact ⟨s₁, some (.int 0), _, _, _, X0, rfl, rfl, rfl, (fun h => by cases h), ⟨rfl, hh0⟩, fun fs hl => c3.trans (X0.ireturnOut hexec hret rfl (Or.inr (Or.inr (Or.inl rfl))) (hb hbytes d8) hl)⟩
end CodL
/-- the String at a is Latin-1 over a new byte[] (the heap's one new cell): the low bytes of the len chars of A from o on; every cell but a is kept -/
def Got (a : Addr) (D : Cell) (fV fC : Field) (A : Cell) (o len : Nat) (r : Option Value) (s u : State) : Prop := r = none ∧ ∃ D' V : Cell, Blank "java/lang/String" a D' u ∧ Same D D' [fV.slot, fC.slot] ∧ D'.slots[fV.slot]? = some (.ref s.heap.size) ∧ D'.slots[fC.slot]? = some (.int 0) ∧ Arr .byte s.heap.size V u ∧ V.vm = .none ∧ u.vm.findClass "[B" = some V.cls ∧ V.slots.size = len ∧ (∀ j, j < len → V.slots[j]? = some (.int (lo8 (cv A (o + j))))) ∧ (∀ (y : Addr) (c : Cell), y ≠ a → s.heap[y]? = some c → u.heap[y]? = some c) ∧ u.heap.size = s.heap.size + 1
theorem Got.mv {a : Addr} {D A : Cell} {fV fC : Field} {o len : Nat} : ∀ r (U U' V V' : State), U'.heap = U.heap → V.vm.Alike V'.vm → V'.heap = V.heap → Got a D fV fC A o len r U V → Got a D fV fC A o len r U' V' :=
  fun r U U' V V' h1 hal h2 ⟨e0, D', X, a1, a2, a3, a4, a5, a6, a7, a8, a9, a10, a11⟩ => ⟨e0, D', X, a1.mv hal h2, a2, by rw [h1]; exact a3, a4, by rw [h1]; exact a5.mv hal h2, a6, by rw [hal.findClass]; exact a7, a8, a9, by rw [h1, h2]; exact a10, by rw [h1, h2]; exact a11⟩
namespace New4
def yN : MethodName := ⟨"java/lang/String", "<init>", "([CIILjava/lang/Void;)V"⟩
abbrev yB : ByteArray := jdk_42_method_149_code
theorem d0 : decode yB 0 = .ok (.aload_n 0, 1) := by decide +kernel
theorem d1 : decode yB 1 = .ok (.invokespecial 1, 3) := by decide +kernel
theorem d4 : decode yB 4 = .ok (.iload_n 3, 1) := by decide +kernel
theorem d5 : decode yB 5 = .ok (.ifCond (.ne) 22, 3) := by decide +kernel
theorem d27 : decode yB 27 = .ok (.getstatic 38, 3) := by decide +kernel
theorem d30 : decode yB 30 = .ok (.ifCond (.eq) 28, 3) := by decide +kernel
theorem d33 : decode yB 33 = .ok (.aload_n 1, 1) := by decide +kernel
theorem d34 : decode yB 34 = .ok (.iload_n 2, 1) := by decide +kernel
theorem d35 : decode yB 35 = .ok (.iload_n 3, 1) := by decide +kernel
theorem d36 : decode yB 36 = .ok (.invokestatic 177, 3) := by decide +kernel
theorem d39 : decode yB 39 = .ok (.astore 5, 2) := by decide +kernel
theorem d41 : decode yB 41 = .ok (.aload_n 0, 1) := by decide +kernel
theorem d42 : decode yB 42 = .ok (.aload 5, 2) := by decide +kernel
theorem d44 : decode yB 44 = .ok (.iload_n 3, 1) := by decide +kernel
theorem d45 : decode yB 45 = .ok (.invokestatic 47, 3) := by decide +kernel
theorem d48 : decode yB 48 = .ok (.putfield 15, 3) := by decide +kernel
theorem d51 : decode yB 51 = .ok (.aload_n 0, 1) := by decide +kernel
theorem d52 : decode yB 52 = .ok (.aload 5, 2) := by decide +kernel
theorem d54 : decode yB 54 = .ok (.putfield 9, 3) := by decide +kernel
theorem d57 : decode yB 57 = .ok (.return_, 1) := by decide +kernel
def site : List Cond := [.fieldLink "java/lang/String" 38 "java/lang/String" "COMPACT_STRINGS" "Z", Cmp3.tab, CodL.tab, .laysFinal "java/lang/String" "java/lang/String" "value" "[B", .fieldLink "java/lang/String" 9 "java/lang/String" "value" "[B", .laysFinal "java/lang/String" "java/lang/String" "coder" "B", .fieldLink "java/lang/String" 15 "java/lang/String" "coder" "B"] ++ objW "java/lang/String" 1 ++ staticW "java/lang/String" 177 Cmp3.yN ++ staticW "java/lang/String" 47 CodL.yN
def tab : Cond := tabOf yN yB 6 none site
def P (a : Addr) (D : Cell) (fV fC : Field) (b : Addr) (A : Cell) (z : Int32) (o len : Nat) (args : Array Value) (s : State) : Prop := args = #[.ref a, .ref b, .int (Int32.ofNat o), .int (Int32.ofNat len), .null] ∧ Blank "java/lang/String" a D s ∧ Found "java/lang/String" "value" "[B" fV s ∧ Found "java/lang/String" "coder" "B" fC s ∧ Ch b A s ∧ StaticIs s "java/lang/String" "COMPACT_STRINGS" "Z" (.int z) ∧ ¬ z = 0 ∧ 0 < len ∧ o + len ≤ A.slots.size ∧ len ≤ 536870912 ∧ ∀ i, i < len → ¬ 255 < cv A (o + i)
def E (a : Addr) (D : Cell) (fV fC : Field) (A : Cell) (o len : Nat) (r : Option Value) (s u : State) : Prop := Got a D fV fC A o len r s u
/-- len > 0, no char of the range above 255: a Latin-1 String of their low bytes -/
theorem law (l : Launch) (a : Addr) (D : Cell) (fV fC : Field) (b : Addr) (A : Cell) (z : Int32) (o len : Nat) : Law l yN 5 4 2 35 yB 6 none site (P a D fV fC b A z o len) (E a D fV fC A o len) [⟨a, fC.slot⟩, ⟨a, fV.slot⟩] 1 len := by
  refine Law.of_walk (plainFor_of_name (by decide +kernel)) (by decide +kernel) (by decide +kernel) (by decide) (fun _ _ h => by rw [h.1]; rfl) (fun _ U U' hal hh h => ⟨h.1, h.2.1.mv hal hh, h.2.2.1.al hal, h.2.2.2.1.al hal, h.2.2.2.2.1.mv hal hh, h.2.2.2.2.2.1.there hal hh, h.2.2.2.2.2.2⟩) (fun r U U' V V' h1 hal h2 h => Got.mv r U U' V V' h1 hal h2 h) ?_
  intro p e s m args below meth c s₁ X0 hexec hbytes hml hret hlk hnm hown hh0 W hP
  obtain ⟨rfl, hB, f1, f2, hA, s1, hz, l0, l1, l2, hp⟩ := hP
  have a31 := hA.1.2.2.2
  have c1 : Steps p.tables e below (s₁.setTop (entryFrame m #[.ref a, .ref b, .int (Int32.ofNat o), .int (Int32.ofNat len), .null] 6)) (s₁.setTop (mkF m 0 #[.val (.ref a), .val (.ref b), .val (.int (Int32.ofNat o)), .val (.int (Int32.ofNat len)), .val .null, .unset] [])) := entry rfl
  have c2 : Steps p.tables e below (s₁.setTop (entryFrame m #[.ref a, .ref b, .int (Int32.ofNat o), .int (Int32.ofNat len), .null] 6)) (s₁.setTop (mkF m 1 #[.val (.ref a), .val (.ref b), .val (.int (Int32.ofNat o)), .val (.int (Int32.ofNat len)), .val .null, .unset] [.ref a])) := c1.trans (by
    refine XS.aloadN X0.here hexec rfl (hb hbytes d0) rfl rfl ?_
    exact Steps.refl _)
  obtain ⟨T3, X3, q3, st3⟩ := X0.oinit hexec hown (wks W (objW "java/lang/String" 1)) (g := (mkF m 1 #[.val (.ref a), .val (.ref b), .val (.int (Int32.ofNat o)), .val (.int (Int32.ofNat len)), .val .null, .unset] [.ref a])) rfl (by rw [hml]; rfl) (rest := []) rfl (hb hbytes d1) (W := 0) (by show 2 * 0 + 0 ≤ _; decide) (Nat.le_of_ble_eq_true rfl) (Nat.le_of_ble_eq_true rfl)
  have hh3 := q3.trans hh0
  have c4 : Steps p.tables e below (s₁.setTop (entryFrame m #[.ref a, .ref b, .int (Int32.ofNat o), .int (Int32.ofNat len), .null] 6)) (T3.setTop (mkF m 27 #[.val (.ref a), .val (.ref b), .val (.int (Int32.ofNat o)), .val (.int (Int32.ofNat len)), .val .null, .unset] [])) := (c2.trans (st3 _ (Steps.refl _))).trans (by
    refine XS.iloadN X3.here hexec rfl (hb hbytes d4) rfl ?_
    refine XS.ifYes X3.here hexec rfl (pc0 := 5) rfl (hb hbytes d5) rfl (i0_ne_t (nz32 (by omega) l0)) (by decide) rfl ?_
    exact Steps.refl _)
  obtain ⟨T5, X5, q5, st5⟩ := X3.sget hexec hown (wk W (.fieldLink "java/lang/String" 38 "java/lang/String" "COMPACT_STRINGS" "Z")) s1 (fun _ _ h => by rw [hh3]; exact h) (g := (mkF m 27 #[.val (.ref a), .val (.ref b), .val (.int (Int32.ofNat o)), .val (.int (Int32.ofNat len)), .val .null, .unset] [])) rfl (hb hbytes d27)
  have hh5 := q5.trans hh3
  have c6 : Steps p.tables e below (s₁.setTop (entryFrame m #[.ref a, .ref b, .int (Int32.ofNat o), .int (Int32.ofNat len), .null] 6)) (T5.setTop (mkF m 30 #[.val (.ref a), .val (.ref b), .val (.int (Int32.ofNat o)), .val (.int (Int32.ofNat len)), .val .null, .unset] [.int z])) := c4.trans (st5 _ (Steps.refl _))
  have c7 : Steps p.tables e below (s₁.setTop (entryFrame m #[.ref a, .ref b, .int (Int32.ofNat o), .int (Int32.ofNat len), .null] 6)) (T5.setTop (mkF m 36 #[.val (.ref a), .val (.ref b), .val (.int (Int32.ofNat o)), .val (.int (Int32.ofNat len)), .val .null, .unset] [.int (Int32.ofNat len), .int (Int32.ofNat o), .ref b])) := c6.trans (by
    refine XS.ifNo X5.here hexec rfl (hb hbytes d30) rfl (i0_eq_f hz) ?_
    refine XS.aloadN X5.here hexec rfl (hb hbytes d33) rfl rfl ?_
    refine XS.iloadN X5.here hexec rfl (hb hbytes d34) rfl ?_
    refine XS.iloadN X5.here hexec rfl (hb hbytes d35) rfl ?_
    exact Steps.refl _)
  obtain ⟨v8, T8, X8, E8, g8⟩ := X5.callS hexec (Cmp3.law l b A o len) hown (wks W (staticW "java/lang/String" 177 Cmp3.yN)) (wk W Cmp3.tab) (W := 0) (Nat.le_of_ble_eq_true rfl) (Nat.le_of_ble_eq_true rfl) (Nat.le_refl _) (by show 0 + len ≤ len; omega) (g := (mkF m 36 #[.val (.ref a), .val (.ref b), .val (.int (Int32.ofNat o)), .val (.int (Int32.ofNat len)), .val .null, .unset] [.int (Int32.ofNat len), .int (Int32.ofNat o), .ref b])) rfl (by rw [hml]; rfl) c7 (argsL := [.ref b, .int (Int32.ofNat o), .int (Int32.ofNat len)]) (rest := []) rfl rfl (by show 2 * 0 + 0 ≤ _; decide) (hb hbytes d36) (⟨rfl, hA.mv X5.warmed.alike hh5, l1, l2, hp⟩)
  obtain ⟨e8, z8⟩ := E8
  obtain ⟨rfl, N, n1, n2, n3, n4, n5, n6⟩ := NewArr.mv _ T5 s _ _ hh5.symm (Vm.Alike.refl _) rfl e8
  rw [hh5] at z8
  have hB1 := hB.keep X8.warmed.alike (n6 _ _ hB.1)
  have hne : s.heap.size ≠ a := (Nat.ne_of_lt (Array.getElem?_eq_some_iff.mp hB.1).1).symm
  have c9 : Steps p.tables e below (s₁.setTop (entryFrame m #[.ref a, .ref b, .int (Int32.ofNat o), .int (Int32.ofNat len), .null] 6)) (T8.setTop (mkF m 39 #[.val (.ref a), .val (.ref b), .val (.int (Int32.ofNat o)), .val (.int (Int32.ofNat len)), .val .null, .unset] [.ref s.heap.size])) := g8
  have c10 : Steps p.tables e below (s₁.setTop (entryFrame m #[.ref a, .ref b, .int (Int32.ofNat o), .int (Int32.ofNat len), .null] 6)) (T8.setTop (mkF m 45 #[.val (.ref a), .val (.ref b), .val (.int (Int32.ofNat o)), .val (.int (Int32.ofNat len)), .val .null, .val (.ref s.heap.size)] [.int (Int32.ofNat N.slots.size), .ref s.heap.size, .ref a])) := by
    have hc : Steps p.tables e below (s₁.setTop (entryFrame m #[.ref a, .ref b, .int (Int32.ofNat o), .int (Int32.ofNat len), .null] 6)) (T8.setTop (mkF m 45 #[.val (.ref a), .val (.ref b), .val (.int (Int32.ofNat o)), .val (.int (Int32.ofNat len)), .val .null, .val (.ref s.heap.size)] [.int (Int32.ofNat len), .ref s.heap.size, .ref a])) := c9.trans (by
      refine XS.astore X8.here hexec rfl (hb hbytes d39) rfl rfl rfl ?_
      refine XS.aloadN X8.here hexec rfl (hb hbytes d41) rfl rfl ?_
      refine XS.aload X8.here hexec rfl (hb hbytes d42) rfl rfl ?_
      refine XS.iloadN X8.here hexec rfl (hb hbytes d44) rfl ?_
      exact Steps.refl _)
    rw [n4]; exact hc
  obtain ⟨v11, T11, X11, E11, g11⟩ := X8.callS hexec (CodL.law l s.heap.size N) hown (wks W (staticW "java/lang/String" 47 CodL.yN)) (wk W CodL.tab) (W := 1) (Nat.le_of_ble_eq_true rfl) (Nat.le_of_ble_eq_true rfl) (Nat.le_refl _) (by show 0 + len + 0 ≤ len; omega) (g := (mkF m 45 #[.val (.ref a), .val (.ref b), .val (.int (Int32.ofNat o)), .val (.int (Int32.ofNat len)), .val .null, .val (.ref s.heap.size)] [.int (Int32.ofNat N.slots.size), .ref s.heap.size, .ref a])) rfl (by rw [hml]; rfl) c10 (argsL := [.ref s.heap.size, .int (Int32.ofNat N.slots.size)]) (rest := [.ref a]) rfl rfl (by show 2 * 0 + (1 + 0) ≤ _; decide) (hb hbytes d45) (⟨rfl, n1⟩)
  obtain ⟨rfl, q11⟩ := E11
  have hB11 := hB1.mv (X8.warmed.alike.symm.trans X11.warmed.alike) q11
  have c12 : Steps p.tables e below (s₁.setTop (entryFrame m #[.ref a, .ref b, .int (Int32.ofNat o), .int (Int32.ofNat len), .null] 6)) (T11.setTop (mkF m 48 #[.val (.ref a), .val (.ref b), .val (.int (Int32.ofNat o)), .val (.int (Int32.ofNat len)), .val .null, .val (.ref s.heap.size)] [.int 0, .ref a])) := g11
  obtain ⟨T13, X13, p13, bl13, sl13, st13⟩ := X11.finit hexec hown (wk W (.fieldLink "java/lang/String" 15 "java/lang/String" "coder" "B")) (Or.inr ⟨_, (wk W (.laysFinal "java/lang/String" "java/lang/String" "coder" "B"))⟩) (Or.inl ⟨rfl, hnm⟩) f2 (Or.inl rfl) hB11 (t := .byte) (by decide +kernel) rfl (g := (mkF m 48 #[.val (.ref a), .val (.ref b), .val (.int (Int32.ofNat o)), .val (.int (Int32.ofNat len)), .val .null, .val (.ref s.heap.size)] [.int 0, .ref a])) rfl (rest := []) rfl (hb hbytes d48)
  have c14 : Steps p.tables e below (s₁.setTop (entryFrame m #[.ref a, .ref b, .int (Int32.ofNat o), .int (Int32.ofNat len), .null] 6)) (T13.setTop (mkF m 54 #[.val (.ref a), .val (.ref b), .val (.int (Int32.ofNat o)), .val (.int (Int32.ofNat len)), .val .null, .val (.ref s.heap.size)] [.ref s.heap.size, .ref a])) := (c12.trans (st13 _ (Steps.refl _))).trans (by
    refine XS.aloadN X13.here hexec rfl (hb hbytes d51) rfl rfl ?_
    refine XS.aload X13.here hexec rfl (hb hbytes d52) rfl rfl ?_
    exact Steps.refl _)
  obtain ⟨T15, X15, p15, bl15, sl15, st15⟩ := X13.finit hexec hown (wk W (.fieldLink "java/lang/String" 9 "java/lang/String" "value" "[B")) (Or.inr ⟨_, (wk W (.laysFinal "java/lang/String" "java/lang/String" "value" "[B"))⟩) (Or.inl ⟨rfl, hnm⟩) f1 (Or.inl rfl) bl13 (t := (.array .byte)) (by decide +kernel) rfl (g := (mkF m 54 #[.val (.ref a), .val (.ref b), .val (.int (Int32.ofNat o)), .val (.int (Int32.ofNat len)), .val .null, .val (.ref s.heap.size)] [.ref s.heap.size, .ref a])) rfl (rest := []) rfl (hb hbytes d54)
  have c16 : Steps p.tables e below (s₁.setTop (entryFrame m #[.ref a, .ref b, .int (Int32.ofNat o), .int (Int32.ofNat len), .null] 6)) (T15.setTop (mkF m 57 #[.val (.ref a), .val (.ref b), .val (.int (Int32.ofNat o)), .val (.int (Int32.ofNat len)), .val .null, .val (.ref s.heap.size)] [])) := c14.trans (st15 _ (Steps.refl _))
  have ap := apart (Or.inr ⟨_, (wk W (.laysFinal "java/lang/String" "java/lang/String" "value" "[B"))⟩) (Or.inr ⟨_, (wk W (.laysFinal "java/lang/String" "java/lang/String" "coder" "B"))⟩) f1 f2 (t₁ := .array .byte) (t₂ := .byte) (by decide +kernel) (by decide +kernel) (by decide)
  have al := X8.warmed.alike.symm.trans X15.warmed.alike
  have n7 : T11.heap[s.heap.size]? = some N := by rw [q11]; exact n1.1
  exact ⟨T15, none, _, _, _, X15, by simp, rfl, by omega, (fun _ => rfl), ⟨rfl, _, N, bl15, ((Same.refl D _).set _ (by simp)).set _ (by simp), sl15, (Cell.slots_setSlot_ne _ ap).trans sl13, n1.keep al (p15.other hne (p13.other hne n7)), n2, by rw [al.findClass]; exact n3, n4, n5, fun y c h1 h2 => p15.other h1 (p13.other h1 (by rw [q11]; exact n6 y c h2)), by rw [p15.2.2, p13.2.2, q11]; exact z8⟩, fun fs hl => c16.trans (X15.returnOut hexec hret (hb hbytes d57) hl)⟩
end New4
namespace New1
def yN : MethodName := ⟨"java/lang/String", "<init>", "([C)V"⟩
abbrev yB : ByteArray := jdk_42_method_3_code
theorem d0 : decode yB 0 = .ok (.aload_n 0, 1) := by decide +kernel
theorem d1 : decode yB 1 = .ok (.aload_n 1, 1) := by decide +kernel
theorem d2 : decode yB 2 = .ok (.iconst 0, 1) := by decide +kernel
theorem d3 : decode yB 3 = .ok (.aload_n 1, 1) := by decide +kernel
theorem d4 : decode yB 4 = .ok (.arraylength, 1) := by decide +kernel
theorem d5 : decode yB 5 = .ok (.aconst_null, 1) := by decide +kernel
theorem d6 : decode yB 6 = .ok (.invokespecial 27, 3) := by decide +kernel
theorem d9 : decode yB 9 = .ok (.return_, 1) := by decide +kernel
def site : List Cond := [New4.tab] ++ initW "java/lang/String" 27 New4.yN
def tab : Cond := tabOf yN yB 2 none site
def P (a : Addr) (D : Cell) (fV fC : Field) (b : Addr) (A : Cell) (z : Int32) (args : Array Value) (s : State) : Prop := args = #[.ref a, .ref b] ∧ Blank "java/lang/String" a D s ∧ Found "java/lang/String" "value" "[B" fV s ∧ Found "java/lang/String" "coder" "B" fC s ∧ Ch b A s ∧ StaticIs s "java/lang/String" "COMPACT_STRINGS" "Z" (.int z) ∧ ¬ z = 0 ∧ 0 < A.slots.size ∧ A.slots.size ≤ 536870912 ∧ ∀ i, i < A.slots.size → ¬ 255 < cv A i
def E (a : Addr) (D : Cell) (fV fC : Field) (A : Cell) (r : Option Value) (s u : State) : Prop := Got a D fV fC A 0 A.slots.size r s u
/-- new String(chars), not empty, no char above 255: a Latin-1 String of their low bytes -/
theorem law (l : Launch) (a : Addr) (D : Cell) (fV fC : Field) (b : Addr) (A : Cell) (z : Int32) : Law l yN 2 1 3 52 yB 2 none site (P a D fV fC b A z) (E a D fV fC A) [⟨a, fC.slot⟩, ⟨a, fV.slot⟩] 1 A.slots.size := by
  refine Law.of_walk (plainFor_of_name (by decide +kernel)) (by decide +kernel) (by decide +kernel) (by decide) (fun _ _ h => by rw [h.1]; rfl) (fun _ U U' hal hh h => ⟨h.1, h.2.1.mv hal hh, h.2.2.1.al hal, h.2.2.2.1.al hal, h.2.2.2.2.1.mv hal hh, h.2.2.2.2.2.1.there hal hh, h.2.2.2.2.2.2⟩) (fun r U U' V V' h1 hal h2 h => Got.mv r U U' V V' h1 hal h2 h) ?_
  intro p e s m args below meth c s₁ X0 hexec hbytes hml hret hlk hnm hown hh0 W hP
  obtain ⟨rfl, hB, f1, f2, hA, s1, hz, l0, l2, hp⟩ := hP
  have c1 : Steps p.tables e below (s₁.setTop (entryFrame m #[.ref a, .ref b] 2)) (s₁.setTop (mkF m 0 #[.val (.ref a), .val (.ref b)] [])) := entry rfl
  have c2 : Steps p.tables e below (s₁.setTop (entryFrame m #[.ref a, .ref b] 2)) (s₁.setTop (mkF m 6 #[.val (.ref a), .val (.ref b)] [.null, .int (Int32.ofNat A.slots.size), .int 0, .ref b, .ref a])) := c1.trans (by
    refine XS.aloadN X0.here hexec rfl (hb hbytes d0) rfl rfl ?_
    refine XS.aloadN X0.here hexec rfl (hb hbytes d1) rfl rfl ?_
    refine iconstV X0.here hexec rfl 0 (hb hbytes d2) (by decide) ?_
    refine XS.aloadN X0.here hexec rfl (hb hbytes d3) rfl rfl ?_
    refine X0.alen hexec (hA.1.mv X0.warmed.alike hh0) rfl rfl (hb hbytes d4) ?_
    refine XS.aconstNull X0.here hexec rfl (hb hbytes d5) ?_
    exact Steps.refl _)
  obtain ⟨v3, T3, X3, E3, g3⟩ := X0.callN hexec (New4.law l a D fV fC b A z 0 A.slots.size) rfl hown (wks W (initW "java/lang/String" 27 New4.yN)) (W New4.tab (by simp only [site, List.mem_cons, List.mem_append, true_or, or_true])) (W := 0) (Nat.le_of_ble_eq_true rfl) (Nat.le_of_ble_eq_true rfl) (Nat.le_refl _) (by show 0 + A.slots.size ≤ A.slots.size; omega) (g := (mkF m 6 #[.val (.ref a), .val (.ref b)] [.null, .int (Int32.ofNat A.slots.size), .int (Int32.ofNat 0), .ref b, .ref a])) rfl (by rw [hml]; rfl) c2 (argsL := [.ref b, .int (Int32.ofNat 0), .int (Int32.ofNat A.slots.size), .null]) (rest := []) rfl rfl (by show 2 * 0 + 0 ≤ _; decide) (hb hbytes d6) (⟨rfl, hB.mv X0.warmed.alike hh0, f1.al X0.warmed.alike, f2.al X0.warmed.alike, hA.mv X0.warmed.alike hh0, s1.there X0.warmed.alike hh0, hz, l0, by omega, l2, fun i hi => by rw [Nat.zero_add]; exact hp i hi⟩)
  have e0 := Got.mv _ s₁ s _ _ hh0.symm (Vm.Alike.refl _) rfl E3
  obtain rfl := e0.1
  have c4 : Steps p.tables e below (s₁.setTop (entryFrame m #[.ref a, .ref b] 2)) (T3.setTop (mkF m 9 #[.val (.ref a), .val (.ref b)] [])) := g3
  exact ⟨T3, none, _, _, _, X3, by simp, rfl, by omega, (fun _ => rfl), e0, fun fs hl => c4.trans (X3.returnOut hexec hret (hb hbytes d9) hl)⟩
theorem pays {l : Launch} {R : Room} {p : Program} {e : Env} {below : List Frame} {s : State} {sargs : Array Value} {len W : Nat} (a : Addr) (D : Cell) (fV fC : Field) (b : Addr) (A : Cell) (z : Int32) (htab : tab.before sargs s = true) (hfr : 4 ≤ R.frames) (hlo : W + 65 ≤ R.locals) :
    Back l R p e below s sargs yN len W (fun A₁ a₁ => A₁.cells + 1 ≤ R.cells ∧ A₁.slots + A.slots.size ≤ R.slots ∧ P a D fV fC b A z a₁ A₁.U) (fun A₁ _ v₁ B₁ => E a D fV fC A v₁ A₁.U B₁.U ∧ B₁.locs = A₁.locs ++ [⟨a, fC.slot⟩, ⟨a, fV.slot⟩] ∧ B₁.cells = A₁.cells + 1 ∧ B₁.slots = A₁.slots + A.slots.size) :=
  (law l a D fV fC b A z).pays htab hfr (by omega)
end New1
/-- the byte, read back as charAt reads it, is the char -/
theorem lo8_mask {x : Int32} (h0 : ¬ x < 0) (h1 : ¬ 255 < x) : lo8 x &&& 255 = x := by
  have t : ∀ k : Fin 256, lo8 (Int32.ofNat k.val) &&& 255 = Int32.ofNat k.val := by decide +kernel
  rw [Int32.lt_iff_toInt_lt] at h0 h1
  have e0 : (0 : Int32).toInt = 0 := rfl
  have e1 : (255 : Int32).toInt = 255 := rfl
  obtain ⟨k, hk⟩ : ∃ k : Nat, x.toInt = k := ⟨x.toInt.toNat, by omega⟩
  have hx : x = Int32.ofNat k := Int32.toInt_inj.mp (by rw [hk, Int32.toInt_ofNat_small (by omega)])
  rw [hx]
  exact t ⟨k, by omega⟩
end StrChars
namespace StrChars.Road
open Jvm Sem ClassFile Op Lib Jvm.Stand Jvm.Free Jvm.Free.XT
open Jvm.Lib.Cold (StaticIs)
abbrev ST : String := "java/lang/String"
/-- every table word that New1's law asks, flat -/
abbrev words : List Jvm.Cond := [.code New1.yN New1.yB 2 none, .initialized ST, .methodLink ST 27 New4.yN, .instanceMethod New4.yN,
  .code New4.yN New4.yB 6 none, .fieldLink ST 38 ST "COMPACT_STRINGS" "Z", .laysFinal ST ST "value" "[B", .fieldLink ST 9 ST "value" "[B", .laysFinal ST ST "coder" "B", .fieldLink ST 15 ST "coder" "B",
  .methodLink ST 1 Lib.objectInit, .instanceMethod Lib.objectInit, .code Lib.objectInit ⟨#[0xb1]⟩ 1 none, .methodLink ST 177 Cmp3.yN, .static Cmp3.yN, .methodLink ST 47 CodL.yN, .static CodL.yN,
  .code Cmp3.yN Cmp3.yB 6 (some (.array .byte)), .initialized U16, .arrayClass .byte, .methodLink U16 115 Cmp5.yN, .static Cmp5.yN, .code Cmp5.yN Cmp5.yB 7 (some .int), .code CodL.yN CodL.yB 2 (some .byte)]
theorem tab_of {a : Array Value} {s : State} (h : ∀ w ∈ words, w.before a s = true) : New1.tab.before a s = true := by
  have h5 : Cmp5.tab.before a s = true := unparts (wk h (.code Cmp5.yN Cmp5.yB 7 (some .int))) (wks h (.initialized Cmp5.yN.cls :: Cmp5.site))
  have hc : CodL.tab.before a s = true := unparts (wk h (.code CodL.yN CodL.yB 2 (some .byte))) (wks h (.initialized CodL.yN.cls :: CodL.site))
  have q5 : ∀ w ∈ Cmp5.tab :: words, w.before a s = true := fun w hw => (List.mem_cons.mp hw).elim (fun e => e ▸ h5) (h w)
  have h3 : Cmp3.tab.before a s = true := unparts (wk q5 (.code Cmp3.yN Cmp3.yB 6 (some (.array .byte)))) (wks q5 (.initialized Cmp3.yN.cls :: Cmp3.site))
  have q3 : ∀ w ∈ Cmp3.tab :: CodL.tab :: words, w.before a s = true := fun w hw => (List.mem_cons.mp hw).elim (fun e => e ▸ h3) fun hw => (List.mem_cons.mp hw).elim (fun e => e ▸ hc) (h w)
  have h4 : New4.tab.before a s = true := unparts (wk q3 (.code New4.yN New4.yB 6 none)) (wks q3 (.initialized New4.yN.cls :: New4.site))
  have q4 : ∀ w ∈ New4.tab :: words, w.before a s = true := fun w hw => (List.mem_cons.mp hw).elim (fun e => e ▸ h4) (h w)
  exact unparts (wk q4 (.code New1.yN New1.yB 2 none)) (wks q4 (.initialized New1.yN.cls :: New1.site))
/-- the words ride from the start Z to the walk's own state -/
theorem moved {Z s : State} {a0 args : Array Value} (hZ : Z.Warmed39 s.vm) (hw : ∀ d ∈ words, d.before a0 Z = true) : ∀ d ∈ words, d.before args s = true := fun d hd => by
  have q := hw d hd
  have t : ∀ d ∈ words, d = .arrayClass .byte ∨ (d.onTables && d.keepsFace) = true := by decide +kernel
  rcases t d hd with rfl | t
  · exact RoadKit.mvA hZ q
  · exact RoadKit.mv hZ q t
/-- WHAT COMES BACK, over the tables of the start Z: h the heap at the call, h' behind it -/
def Q (Z : State) (x : Addr) (A : Cell) (h : Heap) (v : Option Value) (h' : Heap) (L : List Loc) : Prop := v = none ∧ (∀ y ∈ L, y.base = x) ∧ RoadKit.Keep h h' [x] ∧ h'.size = h.size + 1 ∧ RoadKit.Exa Z h' x ST ∧ RoadKit.Fld Z h' x ST "value" "[B" (.ref h.size) ∧ RoadKit.Fld Z h' x ST "coder" "B" (.int 0) ∧
  (∃ V : Cell, RoadKit.Arr Z h' h.size V .byte ∧ V.vm = .none ∧ Z.vm.findClass "[B" = some V.cls ∧ V.slots.size = A.slots.size ∧ ∀ j, j < A.slots.size → V.slots[j]? = some (.int (lo8 (cv A j)))) ∧
  ∀ (O n d : String) (w : Value), RoadKit.Fld Z h x O n d w → RoadKit.slotOf Z O n d ≠ RoadKit.slotOf Z ST "value" "[B" → RoadKit.slotOf Z O n d ≠ RoadKit.slotOf Z ST "coder" "B" → RoadKit.Fld Z h' x O n d w
/-- **new String(chars) AT A CALL, IN THE ROAD'S FORM**: for specialBack behind newO: x the fresh String, b the char[] with the cell A -/
theorem back {p : Program} {l : Launch} {e : Env} {R : Room} {s : State} {args : Array Value} {below : List Frame} {len W : Nat} {Z : State} {a0 : Array Value} {h : Heap} (hZ : Z.Warmed39 s.vm) (hw : ∀ d ∈ words, d.before a0 Z = true) {kI : Nat} (wi : (Jvm.Cond.instantiable ST kI).before a0 Z = true)
    {x b : Addr} {A : Cell} {z : Int32} {v0 c0 : Value} (E : RoadKit.Exa Z h x ST) (V : RoadKit.Fld Z h x ST "value" "[B" v0) (C : RoadKit.Fld Z h x ST "coder" "B" c0) (K : RoadKit.Arr Z h b A .char) (hty : Typed .char A) (S : RoadKit.Sta Z h ST "COMPACT_STRINGS" "Z" (.int z)) (hz : ¬ z = 0)
    (l0 : 0 < A.slots.size) (l2 : A.slots.size ≤ 536870912) (hp : ∀ i, i < A.slots.size → ¬ 255 < cv A i) (hfr : 4 ≤ R.frames) (hlo : W + 65 ≤ R.locals) :
    Back l R p e below s args New1.yN len W (fun P a => a = #[.ref x, .ref b] ∧ P.U.heap = h ∧ P.cells + 1 ≤ R.cells ∧ P.slots + A.slots.size ≤ R.slots)
      (fun P _ v B => ∃ L, Q Z x A h v B.U.heap L ∧ B.locs = P.locs ++ L ∧ B.cells = P.cells + 1 ∧ B.slots = P.slots + A.slots.size) := by
  intro m meth c P g ig mk a X hg hsize hdg hW hn hp'
  obtain ⟨rfl, rfl, r1, r2⟩ := hp'
  have al : Z.vm.Alike P.U.vm := hZ.alike.trans X.warmed.alike
  obtain ⟨D, cfV, kV, iV, fV, hD, gV, stV, knV, obV, asV, slV⟩ := id V
  obtain ⟨D', cfC, kC, iC, fC, hD', gC, stC, -, -, asC, slC⟩ := id C
  cases hD.symm.trans hD'
  obtain ⟨D2, kD, e1, e2, e3, e4, e5⟩ := id E
  cases hD.symm.trans e1
  obtain ⟨c2, k2, i1, i2, i3, -⟩ := Cond.instantiable_spec wi
  cases e2.symm.trans i1
  cases e3.symm.trans i2
  obtain ⟨kU, u1, u2⟩ := al.2.2 _ _ e3
  have hB : Blank ST x D P.U := ⟨hD, ⟨knV, fun q hq => by rw [hq] at obV; cases obV⟩, by rw [al.findClass]; exact e2, kU, u1, by rw [u2]; exact i3, by rw [u2]; exact e5 i3⟩
  have F1 : Found ST "value" "[B" fV P.U := ⟨SBG.found_only al ⟨cfV, kV, iV, gV⟩, stV⟩
  have F2 : Found ST "coder" "B" fC P.U := ⟨SBG.found_only al ⟨cfC, kC, iC, gC⟩, stC⟩
  have hA : Ch b A P.U := ⟨⟨K.1, State.isArrayOf_alike al K.2.1, K.2.2, by omega⟩, hty⟩
  have hS : StaticIs P.U ST "COMPACT_STRINGS" "Z" (.int z) := by
    obtain ⟨cfS, iS, kS, fS, st, cS, t1, t2, t3, t4, t5, t6, t7⟩ := S
    exact StaticIs.there (s := { Z with heap := P.U.heap }) ⟨cfS, iS, kS, fS, st, cS, t1, t2, t3, t4, t5, (fun q => by rw [q] at t6; cases t6), t7⟩ al rfl
  obtain ⟨v, B, X', ⟨⟨hv, E', V', q1, q2, q3, q4, q5, q6, q7, q8, q9, q10, q11⟩, hl, hc, hs⟩, st⟩ := New1.pays x D fV fC b A z (tab_of (moved hZ hw)) hfr hlo m meth c P g ig mk _ X hg hsize hdg hW hn ⟨r1, r2, rfl, hB, F1, F2, hA, hS, hz, l0, l2, hp⟩
  have al' : Z.vm.Alike B.U.vm := hZ.alike.trans X'.warmed.alike
  have hsz : E'.slots.size = D.slots.size := by
    obtain ⟨-, -, -, kB, w1, w2, w3⟩ := q1
    obtain ⟨kB', y1, y2⟩ := al'.2.2 _ _ e3
    rw [q2.2.1] at w1
    cases w1.symm.trans y1
    rw [w3, e5 i3, y2]
  refine ⟨v, B, X', ⟨_, ⟨hv, ?_, ⟨by omega, fun y cy hy hn' => q10 y cy (by simpa using hn') hy, fun y cy hy => ?_⟩, q11, ⟨E', _, q1.1, by rw [q2.2.1]; exact e2, by rw [q2.2.1]; exact e3, by rw [q2.1]; exact obV, fun _ => by rw [hsz]; exact e5 i3⟩,
    ⟨E', cfV, kV, iV, fV, q1.1, gV, stV, by rw [q2.1]; exact knV, by rw [q2.1]; exact obV, by rw [q2.2.1]; exact asV, q3⟩, ⟨E', cfC, kC, iC, fC, q1.1, gC, stC, by rw [q2.1]; exact knV, by rw [q2.1]; exact obV, by rw [q2.2.1]; exact asC, q4⟩,
    ⟨V', ⟨q5.1, State.isArrayOf_alike al'.symm q5.2.1, q5.2.2.1⟩, q6, by rw [← al'.findClass]; exact q7, q8, fun j hj => by have := q9 j hj; rwa [Nat.zero_add] at this⟩, fun O n d w F n1 n2 => ?_⟩, hl, hc, hs⟩, st⟩
  · intro y hy
    simp only [List.mem_cons, List.not_mem_nil, or_false] at hy
    rcases hy with rfl | rfl <;> rfl
  · by_cases q : y = x
    · subst q
      cases hD.symm.trans hy
      exact ⟨E', q1.1, q2.2.1, q2.1, hsz⟩
    · exact ⟨cy, q10 y cy q hy, rfl, rfl, rfl⟩
  · obtain ⟨D3, cf, k, i, f, g1, g2, g3, g4, g5, g6, g7⟩ := F
    cases hD.symm.trans g1
    simp only [RoadKit.slotOf, g2, gV, gC, Option.map_some, Option.getD_some] at n1 n2
    exact ⟨E', cf, k, i, f, q1.1, g2, g3, by rw [q2.1]; exact g4, by rw [q2.1]; exact g5, by rw [q2.2.1]; exact g6, by rw [q2.2.2 f.slot (by simp [n1, n2])]; exact g7⟩
end StrChars.Road
namespace StrChars.Road
open Jvm Sem ClassFile Op Lib Jvm.Stand Jvm.Free Jvm.Free.XT
/-- WHAT COMES BACK, the byte[] as a list of values -/
def QA (Z : State) (x : Addr) (zn : Int32) (cs : List Int32) (h : Heap) (v : Option Value) (h' : Heap) (L : List Loc) : Prop := v = none ∧ (∀ y ∈ L, y.base = x) ∧ RoadKit.Keep h h' [x] ∧ h'.size = h.size + 1 ∧ RoadKit.Exa Z h' x ST ∧ RoadKit.Fld Z h' x ST "value" "[B" (.ref h.size) ∧ RoadKit.Fld Z h' x ST "coder" "B" (.int 0) ∧
  (∃ kb, Z.vm.findClass "[B" = some kb ∧ RoadKit.Arv Z h' h.size kb .byte zn (cs.map fun c => .int (lo8 c)) (.int 0)) ∧
  ∀ (O n d : String) (w : Value), RoadKit.Fld Z h x O n d w → RoadKit.slotOf Z O n d ≠ RoadKit.slotOf Z ST "value" "[B" → RoadKit.slotOf Z O n d ≠ RoadKit.slotOf Z ST "coder" "B" → RoadKit.Fld Z h' x O n d w
/-- **new String(chars) AT A CALL, THE ARRAYS AS LISTS**: the char[] at b holds cs, not empty, no char above 255 -/
theorem backArv {p : Program} {l : Launch} {e : Env} {R : Room} {s : State} {args : Array Value} {below : List Frame} {len W : Nat} {Z : State} {a0 : Array Value} {h : Heap} (hZ : Z.Warmed39 s.vm) (hw : ∀ d ∈ words, d.before a0 Z = true) {kI : Nat} (wi : (Jvm.Cond.instantiable ST kI).before a0 Z = true)
    {x b : Addr} {k : ClassId} {zn z : Int32} {cs : List Int32} {dv v0 c0 : Value} (E : RoadKit.Exa Z h x ST) (V : RoadKit.Fld Z h x ST "value" "[B" v0) (C : RoadKit.Fld Z h x ST "coder" "B" c0) (K : RoadKit.Arv Z h b k .char zn (cs.map Value.int) dv) (S : RoadKit.Sta Z h ST "COMPACT_STRINGS" "Z" (.int z)) (hz : ¬ z = 0)
    (hlen : zn.toNatClampNeg = cs.length) (h0 : 0 < cs.length) (hbig : cs.length ≤ 536870912) (hall : ∀ c ∈ cs, ¬ 255 < c) (hfr : 4 ≤ R.frames) (hlo : W + 65 ≤ R.locals) :
    Back l R p e below s args New1.yN len W (fun P a => a = #[.ref x, .ref b] ∧ P.U.heap = h ∧ P.cells + 1 ≤ R.cells ∧ P.slots + cs.length ≤ R.slots)
      (fun P _ v B => ∃ L, QA Z x zn cs h v B.U.heap L ∧ B.locs = P.locs ++ L ∧ B.cells = P.cells + 1 ∧ B.slots = P.slots + cs.length) := by
  obtain ⟨A, K1, K2, K3, K4, K5, K6⟩ := K
  have e : A.slots.size = cs.length := K3.trans hlen
  have hat : ∀ (i : Nat) (hi : i < cs.length), A.slots[i]? = some (.int cs[i]) := fun i hi => by rw [K5 i (by omega)]; simp [List.getD_eq_getElem?_getD, hi]
  have hcv : ∀ (i : Nat) (hi : i < cs.length), cv A i = cs[i] := fun i hi => by unfold cv; rw [hat i hi]
  have hty : Typed .char A := fun i v hv => by
    have hi : i < A.slots.size := (Array.getElem?_eq_some_iff.mp hv).1
    have q := K5 i hi
    rw [hv] at q
    rw [Option.some.inj q]
    exact K6 i hi
  refine Back.mono (back hZ hw wi E V C K1 hty S hz (by omega) (by omega) (fun i hi => by rw [hcv i (by omega)]; exact hall _ (List.getElem_mem _)) hfr hlo) (fun P a hp => ⟨hp.1, hp.2.1, hp.2.2.1, by rw [e]; exact hp.2.2.2⟩) (fun P a v B hp hq => ?_)
  obtain ⟨L, ⟨q1, q2, q3, q4, q5, q6, q7, ⟨V', v1, v2, v3, v4, v5⟩, q9⟩, hl, hc, hs⟩ := hq
  refine ⟨L, ⟨q1, q2, q3, q4, q5, q6, q7, ⟨V'.cls, v3, V', v1, rfl, by rw [v4, e, hlen], K4, fun i hi => ?_, fun i hi => ?_⟩, q9⟩, hl, hc, by rw [hs, e]⟩
  · have hi' : i < cs.length := by omega
    rw [v5 i (by omega), hcv i hi']; simp [List.getD_eq_getElem?_getD, hi']
  · have hi' : i < cs.length := by omega
    simp only [List.getD_eq_getElem?_getD, List.getElem?_map, List.getElem?_eq_getElem hi', Option.map_some, Option.getD_some]
    exact fits_lo8 _
end StrChars.Road
namespace StrChars.Road
open Jvm Sem ClassFile Op Lib Jvm.Stand Jvm.Free Jvm.Free.XT
/-- WHAT COMES BACK, in the writer's own shape -/
def QV (Z : State) (x : Addr) (N : Int32) (bs : List Int32) (h : Heap) (n0 : Nat) (v : Option Value) (h' : Heap) (L : List Loc) : Prop := v = none ∧ RoadKit.Fr n0 L ∧ RoadKit.Keep h h' [x] ∧ RoadKit.Exa Z h' x ST ∧ RoadKit.Fld Z h' x ST "coder" "B" (.int 0) ∧
  ∃ (t : Addr) (kb : ClassId), n0 ≤ t ∧ h.size ≤ t ∧ ¬ t = x ∧ RoadKit.Fld Z h' x ST "value" "[B" (.ref t) ∧ RoadKit.Arv Z h' t kb .byte N (bs.map Value.int) (.int 0)
/-- **new String(chars) AT A CALL, FOR THE WRITER**: a char[] of n known ints, each 0 to 255 -/
theorem backV {p : Program} {l : Launch} {e : Env} {R : Room} {s : State} {args : Array Value} {below : List Frame} {len W : Nat} {Z : State} {a0 : Array Value} {h : Heap} (hZ : Z.Warmed39 s.vm) (hw : ∀ d ∈ words, d.before a0 Z = true) {kI : Nat} (wi : (Jvm.Cond.instantiable ST kI).before a0 Z = true)
    {x b : Addr} {kC : ClassId} {cs bs : List Int32} {d v0 c0 : Value} {z N : Int32} {n n0 : Nat} (hx0 : n0 ≤ x) (hh0 : n0 ≤ h.size) (E : RoadKit.Exa Z h x ST) (V : RoadKit.Fld Z h x ST "value" "[B" v0) (C : RoadKit.Fld Z h x ST "coder" "B" c0) (K : RoadKit.Arv Z h b kC .char N (cs.map Value.int) d) (S : RoadKit.Sta Z h ST "COMPACT_STRINGS" "Z" (.int z)) (hz : ¬ z = 0)
    (hn : cs.length = n) (hN : N = Int32.ofNat n) (l0 : 0 < n) (l2 : n ≤ 4000) (hp : ∀ c ∈ cs, ¬ c < 0 ∧ ¬ (255 : Int32) < c) (hb : bs = cs.map (fun c => c.toInt8.toInt32)) (hfr : 4 ≤ R.frames) (hlo : W + 65 ≤ R.locals) :
    Back l R p e below s args (⟨"java/lang/String", "<init>", "([C)V"⟩ : MethodName) len W (fun P a => a = #[.ref x, .ref b] ∧ P.U.heap = h ∧ P.cells + 1 ≤ R.cells ∧ P.slots + n ≤ R.slots)
      (fun P _ v B => ∃ L, QV Z x N bs h n0 v B.U.heap L ∧ B.locs = P.locs ++ L ∧ B.cells = P.cells + 1 ∧ B.slots = P.slots + n) := by
  subst hn hN hb
  refine Back.mono (backArv hZ hw wi E V C K S hz (n32 (by omega)) l0 (by omega) (fun c hc => (hp c hc).2) hfr hlo) (fun P a hp => hp) (fun P a v B hp hq => ?_)
  obtain ⟨L, ⟨q1, q2, q3, q4, q5, q6, q7, ⟨kb, v1, v2⟩, q9⟩, hl, hc, hs⟩ := hq
  exact ⟨L, ⟨q1, fun y hy => by rw [q2 y hy]; exact hx0, q3, q5, q7, h.size, kb, hh0, Nat.le_refl _, Nat.ne_of_gt E.lt, q6, by rw [List.map_map]; exact v2⟩, hl, hc, hs⟩
end StrChars.Road
namespace StrChars
open Jvm Sem ClassFile Op Lib Jvm.Stand Jvm.Free.XT Jvm.Free.ALB Jvm.Free.JM Jvm.Free
open Jvm.Lib.Cold (StaticIs)
def hi8 (x : Int32) : Int32 := lo8 (x >>> ((8 : Int32) &&& 31))
/-- what StringUTF16.getChar makes of two bytes -/
def pairCh (u v : Int32) : Int32 := (((u &&& 255) <<< ((0 : Int32) &&& 31)) ||| ((v &&& 255) <<< ((8 : Int32) &&& 31))).toUInt32.toUInt16.toUInt32.toInt32
theorem lo8_and (x : Int32) : (lo8 x &&& 255).toBitVec.toNat = x.toBitVec.toNat % 256 := by
  have h : (lo8 x).toBitVec = (x.toBitVec.signExtend 8).signExtend 32 := by rw [lo8, Int8.toBitVec_toInt32, Int32.toBitVec_toInt8]
  rw [Int32.toBitVec_and, BitVec.toNat_and, h]
  have e : ((x.toBitVec.signExtend 8).signExtend 32).toNat % 256 = x.toBitVec.toNat % 256 := by
    rw [BitVec.toNat_signExtend]
    have hlt := x.toBitVec.isLt
    simp only [BitVec.toNat_setWidth, BitVec.toNat_signExtend]
    split <;> split <;> omega
  rw [← e]
  exact Nat.and_two_pow_sub_one_eq_mod _ 8
theorem pair_says {c : Int32} (h0 : ¬ c < 0) (h1 : ¬ 65535 < c) : pairCh (lo8 c) (hi8 c) = c := by
  rw [Int32.lt_iff_toInt_lt] at h0 h1
  have e0 : (0 : Int32).toInt = 0 := rfl
  have e1 : (65535 : Int32).toInt = 65535 := rfl
  have hc : c.toInt = c.toBitVec.toNat := by
    have := c.toBitVec.isLt
    have e : c.toInt = c.toBitVec.toInt := rfl
    rw [e] at h0 h1
    rw [e]
    rw [BitVec.toInt_eq_toNat_cond] at h0 h1 ⊢
    split at h0 <;> split <;> omega
  have hn : c.toBitVec.toNat < 65536 := by omega
  have a1 := lo8_and c
  have a2 : (hi8 c &&& 255).toBitVec.toNat = c.toBitVec.toNat / 256 := by
    rw [hi8, lo8_and]
    have e : ((8 : Int32) &&& 31) = 8 := by decide
    rw [e, Int32.toBitVec_shiftRight]
    have e2 : ((8 : Int32).toBitVec.smod 32) = 8#32 := by decide
    rw [e2, BitVec.sshiftRight_eq', BitVec.toNat_sshiftRight_of_msb_false (by rw [BitVec.msb_eq_false_iff_two_mul_lt]; omega)]
    show c.toBitVec.toNat >>> 8 % 256 = _
    rw [Nat.shiftRight_eq_div_pow]
    omega
  unfold pairCh
  apply Int32.toBitVec_inj.mp
  apply BitVec.eq_of_toNat_eq
  have f0 : ((0 : Int32) &&& 31) = 0 := by decide
  have f8 : ((8 : Int32) &&& 31) = 8 := by decide
  rw [f0, f8]
  have g : (((lo8 c &&& 255) <<< (0 : Int32)) ||| ((hi8 c &&& 255) <<< (8 : Int32))).toBitVec.toNat = c.toBitVec.toNat := by
    rw [Int32.toBitVec_or, Int32.toBitVec_shiftLeft, Int32.toBitVec_shiftLeft]
    have s0 : ((0 : Int32).toBitVec.smod 32) = 0#32 := by decide
    have s8 : ((8 : Int32).toBitVec.smod 32) = 8#32 := by decide
    rw [s0, s8, BitVec.toNat_or]
    simp only [BitVec.shiftLeft_eq', BitVec.toNat_shiftLeft, a1, a2]
    show (c.toBitVec.toNat % 256) <<< 0 % 2 ^ 32 ||| (c.toBitVec.toNat / 256) <<< 8 % 2 ^ 32 = _
    rw [Nat.shiftLeft_zero, Nat.mod_eq_of_lt (show c.toBitVec.toNat % 256 < 2 ^ 32 by omega), Nat.mod_eq_of_lt (show (c.toBitVec.toNat / 256) <<< 8 < 2 ^ 32 by rw [Nat.shiftLeft_eq]; omega), Nat.or_comm, ← Nat.shiftLeft_add_eq_or_of_lt (by omega), Nat.shiftLeft_eq]
    omega
  show BitVec.toNat (((((lo8 c &&& 255) <<< (0 : Int32)) ||| ((hi8 c &&& 255) <<< (8 : Int32))).toBitVec.setWidth 16).setWidth 32) = _
  rw [BitVec.toNat_setWidth, BitVec.toNat_setWidth, g]
  omega
end StrChars
namespace StrChars
open Jvm Sem ClassFile Op Lib Jvm.Stand Jvm.Free.XT Jvm.Free.ALB Jvm.Free.JM Jvm.Free
open Jvm.Lib.Cold (StaticIs)
/-- charAt's cast of a byte read back -/
def chr8 (u : Int32) : Int32 := (u &&& 255).toUInt32.toUInt16.toUInt32.toInt32
theorem chr8_lo8 {c : Int32} (h0 : ¬ c < 0) (h1 : ¬ 255 < c) : chr8 (lo8 c) = c := by
  have t : ∀ k : Fin 256, (Int32.ofNat k.val).toUInt32.toUInt16.toUInt32.toInt32 = Int32.ofNat k.val := by decide +kernel
  unfold chr8
  rw [lo8_mask h0 h1]
  rw [Int32.lt_iff_toInt_lt] at h0 h1
  have e0 : (0 : Int32).toInt = 0 := rfl
  have e1 : (255 : Int32).toInt = 255 := rfl
  obtain ⟨k, hk⟩ : ∃ k : Nat, c.toInt = k := ⟨c.toInt.toNat, by omega⟩
  have hx : c = Int32.ofNat k := Int32.toInt_inj.mp (by rw [hk, Int32.toInt_ofNat_small (by omega)])
  rw [hx]
  exact t ⟨k, by omega⟩
theorem narrow_ch {c : Int32} (h0 : ¬ c < 0) (h1 : ¬ 65535 < c) : narrow .char (.int c) = .int c := by
  have q : narrow .char (.int (pairCh (lo8 c) (hi8 c))) = .int (pairCh (lo8 c) (hi8 c)) := narrow_c _
  rwa [pair_says h0 h1] at q
/-- the array's cell V codes the n chars f 0 .. f (n - 1) by the coder cd, as the JDK does: coder 1 just where some char is above 255 -/
def Cod (cd : Int32) (n : Nat) (f : Nat → Int32) (V : Cell) : Prop := (cd = 0 ∧ V.slots.size = n ∧ ∀ j, j < n → V.slots[j]? = some (.int (lo8 (f j))) ∧ ¬ 255 < f j) ∨ (cd = 1 ∧ V.slots.size = 2 * n ∧ (∀ j, j < n → V.slots[2 * j]? = some (.int (lo8 (f j))) ∧ V.slots[2 * j + 1]? = some (.int (hi8 (f j)))) ∧ ∃ j, j < n ∧ 255 < f j)
theorem Cod.cd {cd : Int32} {n : Nat} {f : Nat → Int32} {V : Cell} (h : Cod cd n f V) : cd = 0 ∨ cd = 1 := h.imp (fun q => q.1) fun q => q.1
/-- **x is a String of the n chars f 0 .. f (n - 1)**, Latin-1 or UTF-16; its array at t has the cell V -/
def Txt (x t : Addr) (V : Cell) (cd : Int32) (n : Nat) (f : Nat → Int32) (U : State) : Prop := Exact "java/lang/String" x U ∧ Has x "java/lang/String" "value" "[B" (.ref t) U ∧ Has x "java/lang/String" "coder" "B" (.int cd) U ∧ XT.Arr .byte t V U ∧ Cod cd n f V ∧ ∀ j, j < n → ¬ f j < 0 ∧ ¬ 65535 < f j
theorem Txt.mv {x t : Addr} {V : Cell} {cd : Int32} {n : Nat} {f : Nat → Int32} {U U' : State} (h : Txt x t V cd n f U) (hal : U.vm.Alike U'.vm) (hh : U'.heap = U.heap) : Txt x t V cd n f U' := ⟨h.1.mv hal hh, h.2.1.mv hal hh, h.2.2.1.mv hal hh, h.2.2.2.1.mv hal hh, h.2.2.2.2⟩
namespace IsL
def yN : MethodName := ⟨"java/lang/String", "isLatin1", "()Z"⟩
abbrev yB : ByteArray := jdk_42_method_154_code
theorem d0 : decode yB 0 = .ok (.getstatic 38, 3) := by decide +kernel
theorem d3 : decode yB 3 = .ok (.ifCond (.eq) 14, 3) := by decide +kernel
theorem d6 : decode yB 6 = .ok (.aload_n 0, 1) := by decide +kernel
theorem d7 : decode yB 7 = .ok (.getfield 15, 3) := by decide +kernel
theorem d10 : decode yB 10 = .ok (.ifCond (.ne) 7, 3) := by decide +kernel
theorem d13 : decode yB 13 = .ok (.iconst 1, 1) := by decide +kernel
theorem d14 : decode yB 14 = .ok (.goto 4, 3) := by decide +kernel
theorem d17 : decode yB 17 = .ok (.iconst 0, 1) := by decide +kernel
theorem d18 : decode yB 18 = .ok (.ireturn, 1) := by decide +kernel
def site : List Cond := [.fieldLink "java/lang/String" 38 "java/lang/String" "COMPACT_STRINGS" "Z", .fieldLink "java/lang/String" 15 "java/lang/String" "coder" "B"]
def tab : Cond := tabOf yN yB 1 (some .boolean) site
def P (x : Addr) (cd z : Int32) (args : Array Value) (s : State) : Prop := args = #[.ref x] ∧ Has x "java/lang/String" "coder" "B" (.int cd) s ∧ (cd = 0 ∨ cd = 1) ∧ StaticIs s "java/lang/String" "COMPACT_STRINGS" "Z" (.int z) ∧ ¬ z = 0
def E (cd : Int32) (r : Option Value) (s u : State) : Prop := XT.PureE (some (.int (1 - cd))) r s u
theorem law (l : Launch) (x : Addr) (cd z : Int32) : Law l yN 1 0 0 0 yB 1 (some .boolean) site (P x cd z) (E cd) [] 0 0 := by
  refine Law.of_walk (plainFor_of_name (by decide +kernel)) (by decide +kernel) (by decide +kernel) (by decide) (fun _ _ h => by rw [h.1]; rfl) (fun _ U U' hal hh h => ⟨h.1, h.2.1.mv hal hh, h.2.2.1, h.2.2.2.1.there hal hh, h.2.2.2.2⟩) (fun r U U' V V' h1 hal h2 h => XT.PureE.mv r U U' V V' h1 hal h2 h) ?_
  intro p e s m args below meth c s₁ X0 hexec hbytes hml hret hlk hnm hown hh0 W hP
  obtain ⟨rfl, hx, hc, s1, hz⟩ := hP
  have c1 : Steps p.tables e below (s₁.setTop (entryFrame m #[.ref x] 1)) (s₁.setTop (mkF m 0 #[.val (.ref x)] [])) := entry rfl
  obtain ⟨T2, X2, q2, st2⟩ := X0.sget hexec hown (wk W (.fieldLink "java/lang/String" 38 "java/lang/String" "COMPACT_STRINGS" "Z")) s1 (fun _ _ h => by rw [hh0]; exact h) (g := (mkF m 0 #[.val (.ref x)] [])) rfl (hb hbytes d0)
  have hh2 := q2.trans hh0
  have c3 : Steps p.tables e below (s₁.setTop (entryFrame m #[.ref x] 1)) (T2.setTop (mkF m 7 #[.val (.ref x)] [.ref x])) := (c1.trans (st2 _ (Steps.refl _))).trans (by
    refine XS.ifNo X2.here hexec rfl (hb hbytes d3) rfl (i0_eq_f hz) ?_
    refine XS.aloadN X2.here hexec rfl (hb hbytes d6) rfl rfl ?_
    exact Steps.refl _)
  obtain ⟨T4, X4, q4, st4⟩ := X2.hget hexec hown (wk W (.fieldLink "java/lang/String" 15 "java/lang/String" "coder" "B")) (hx.mv X2.warmed.alike hh2) (g := (mkF m 7 #[.val (.ref x)] [.ref x])) rfl (rest := []) rfl (hb hbytes d7)
  have c5 : Steps p.tables e below (s₁.setTop (entryFrame m #[.ref x] 1)) (T4.setTop (mkF m 10 #[.val (.ref x)] [.int cd])) := c3.trans (st4 _ (Steps.refl _))
  have c6 : Steps p.tables e below (s₁.setTop (entryFrame m #[.ref x] 1)) (T4.setTop (mkF m 18 #[.val (.ref x)] [.int (1 - cd)])) := by
    rcases hc with rfl | rfl
    · exact c5.trans (by
        refine XS.ifNo X4.here hexec rfl (hb hbytes d10) rfl (i0_ne_f rfl) ?_
        refine iconstV X4.here hexec rfl 1 (hb hbytes d13) (by decide) ?_
        refine XS.goto X4.here hexec rfl (pc0 := 14) rfl (hb hbytes d14) (by decide) rfl ?_
        exact Steps.refl _)
    · exact c5.trans (by
        refine XS.ifYes X4.here hexec rfl (pc0 := 10) rfl (hb hbytes d10) rfl (i0_ne_t (by decide)) (by decide) rfl ?_
        refine iconstV X4.here hexec rfl 0 (hb hbytes d17) (by decide) ?_
        exact Steps.refl _)
  exact ⟨T4, some (.int (1 - cd)), _, _, _, X4, rfl, rfl, rfl, (fun h => by cases h), ⟨rfl, q4.trans hh2⟩, fun fs hl => c6.trans (X4.ireturnOut hexec hret (by rcases hc with rfl | rfl <;> rfl) (Or.inr (Or.inl rfl)) (hb hbytes d18) hl)⟩
end IsL
namespace LChA
def yN : MethodName := ⟨"java/lang/StringLatin1", "charAt", "([BI)C"⟩
abbrev yB : ByteArray := jdk_43_method_2_code
theorem d0 : decode yB 0 = .ok (.iload_n 1, 1) := by decide +kernel
theorem d1 : decode yB 1 = .ok (.aload_n 0, 1) := by decide +kernel
theorem d2 : decode yB 2 = .ok (.arraylength, 1) := by decide +kernel
theorem d3 : decode yB 3 = .ok (.invokestatic 9, 3) := by decide +kernel
theorem d6 : decode yB 6 = .ok (.aload_n 0, 1) := by decide +kernel
theorem d7 : decode yB 7 = .ok (.iload_n 1, 1) := by decide +kernel
theorem d8 : decode yB 8 = .ok (.baload, 1) := by decide +kernel
theorem d9 : decode yB 9 = .ok (.sipush 255, 3) := by decide +kernel
theorem d12 : decode yB 12 = .ok (.iand, 1) := by decide +kernel
theorem d13 : decode yB 13 = .ok (.i2c, 1) := by decide +kernel
theorem d14 : decode yB 14 = .ok (.ireturn, 1) := by decide +kernel
def site : List Cond := [JO.Str_checkIndex.tab] ++ staticW "java/lang/StringLatin1" 9 JO.Str_checkIndex.yN
def tab : Cond := tabOf yN yB 2 (some .char) site
def P (t : Addr) (V : Cell) (i : Nat) (u : Int32) (fm : Value) (args : Array Value) (s : State) : Prop := args = #[.ref t, .int (Int32.ofNat i)] ∧ XT.Arr .byte t V s ∧ V.slots[i]? = some (.int u) ∧ (StaticIs s "jdk/internal/util/Preconditions" "SIOOBE_FORMATTER" "Ljava/util/function/BiFunction;" fm ∧ fm.isRef = true)
def E (u : Int32) (r : Option Value) (s w : State) : Prop := XT.PureE (some (.int (chr8 u))) r s w
theorem law (l : Launch) (t : Addr) (V : Cell) (i : Nat) (u : Int32) (fm : Value) : Law l yN 2 2 2 27 yB 2 (some .char) site (P t V i u fm) (E u) [] 0 0 := by
  refine Law.of_walk (plainFor_of_name (by decide +kernel)) (by decide +kernel) (by decide +kernel) (by decide) (fun _ _ h => by rw [h.1]; rfl) (fun _ U U' hal hh h => ⟨h.1, h.2.1.mv hal hh, h.2.2.1, h.2.2.2.1.there hal hh, h.2.2.2.2⟩) (fun r U U' V V' h1 hal h2 h => XT.PureE.mv r U U' V V' h1 hal h2 h) ?_
  intro p e s m args below meth c s₁ X0 hexec hbytes hml hret hlk hnm hown hh0 W hP
  obtain ⟨rfl, hV, hu, s1, rf⟩ := hP
  have v31 := hV.2.2.2
  have hi : i < V.slots.size := (Array.getElem?_eq_some_iff.mp hu).1
  have c1 : Steps p.tables e below (s₁.setTop (entryFrame m #[.ref t, .int (Int32.ofNat i)] 2)) (s₁.setTop (mkF m 0 #[.val (.ref t), .val (.int (Int32.ofNat i))] [])) := entry rfl
  have c2 : Steps p.tables e below (s₁.setTop (entryFrame m #[.ref t, .int (Int32.ofNat i)] 2)) (s₁.setTop (mkF m 3 #[.val (.ref t), .val (.int (Int32.ofNat i))] [.int (Int32.ofNat V.slots.size), .int (Int32.ofNat i)])) := c1.trans (by
    refine XS.iloadN X0.here hexec rfl (hb hbytes d0) rfl ?_
    refine XS.aloadN X0.here hexec rfl (hb hbytes d1) rfl rfl ?_
    refine X0.alen hexec (hV.mv X0.warmed.alike hh0) rfl rfl (hb hbytes d2) ?_
    exact Steps.refl _)
  obtain ⟨v3, T3, X3, E3, g3⟩ := X0.callS hexec (JO.Str_checkIndex.law l (Int32.ofNat i) (Int32.ofNat V.slots.size) fm) hown (wks W (staticW "java/lang/StringLatin1" 9 JO.Str_checkIndex.yN)) (wk W JO.Str_checkIndex.tab) (W := 0) (Nat.le_of_ble_eq_true rfl) (Nat.le_of_ble_eq_true rfl) (Nat.le_refl _) (Nat.le_refl _) (g := (mkF m 3 #[.val (.ref t), .val (.int (Int32.ofNat i))] [.int (Int32.ofNat V.slots.size), .int (Int32.ofNat i)])) rfl (by rw [hml]; rfl) c2 (argsL := [.int (Int32.ofNat i), .int (Int32.ofNat V.slots.size)]) (rest := []) rfl rfl (by show 2 * 0 + 0 ≤ _; decide) (hb hbytes d3) (⟨rfl, rf, s1.there X0.warmed.alike hh0, Int32.ofNat_not_neg (by omega), lt32 v31 hi⟩)
  obtain ⟨rfl, q3⟩ := E3
  have hh3 := q3.trans hh0
  have c4 : Steps p.tables e below (s₁.setTop (entryFrame m #[.ref t, .int (Int32.ofNat i)] 2)) (T3.setTop (mkF m 14 #[.val (.ref t), .val (.int (Int32.ofNat i))] [.int (chr8 u)])) := Steps.trans g3 (by
    refine XS.aloadN X3.here hexec rfl (hb hbytes d6) rfl rfl ?_
    refine XS.iloadN X3.here hexec rfl (hb hbytes d7) rfl ?_
    refine X3.aget hexec (hV.mv X3.warmed.alike hh3) rfl hu rfl rfl (hb hbytes d8) ?_
    refine sipushV X3.here hexec rfl 255 (hb hbytes d9) (by decide) ?_
    refine XS.iand X3.here hexec rfl (hb hbytes d12) rfl ?_
    refine i2c X3.here hexec rfl (hb hbytes d13) rfl ?_
    exact Steps.refl _)
  exact ⟨T3, some (.int (chr8 u)), _, _, _, X3, rfl, rfl, rfl, (fun h => by cases h), ⟨rfl, hh3⟩, fun fs hl => c4.trans (X3.ireturnOut hexec hret (narrow_c _) (Or.inr (Or.inr (Or.inr (Or.inl rfl)))) (hb hbytes d14) hl)⟩
end LChA
end StrChars
namespace StrChars.Road
open Jvm Sem ClassFile Op Lib Jvm.Stand Jvm.Free Jvm.Free.XT
open Jvm.Lib.Cold (StaticIs)
theorem consq {a : Array Value} {s : State} {c : Jvm.Cond} {L : List Jvm.Cond} (h0 : c.before a s = true) (h : ∀ w ∈ L, w.before a s = true) : ∀ w ∈ c :: L, w.before a s = true := fun w hw => (List.mem_cons.mp hw).elim (fun e => e ▸ h0) (h w)
/-- the bytes of the chars cs, low before high -/
def wideBytes : List Int32 → List Value
  | [] => []
  | c :: cs => .int (lo8 c) :: .int (hi8 c) :: wideBytes cs
theorem wide_lo (d : Value) : ∀ (cs : List Int32) (j : Nat), j < cs.length → (wideBytes cs).getD (2 * j) d = .int (lo8 (cs.getD j 0))
  | [], j, h => absurd h (Nat.not_lt_zero j)
  | c :: cs, 0, _ => rfl
  | c :: cs, j + 1, h => by
    have q := wide_lo d cs j (by simpa using h)
    rw [show 2 * (j + 1) = 2 * j + 1 + 1 from by omega]
    simpa [wideBytes] using q
theorem wide_hi (d : Value) : ∀ (cs : List Int32) (j : Nat), j < cs.length → (wideBytes cs).getD (2 * j + 1) d = .int (hi8 (cs.getD j 0))
  | [], j, h => absurd h (Nat.not_lt_zero j)
  | c :: cs, 0, _ => rfl
  | c :: cs, j + 1, h => by
    have q := wide_hi d cs j (by simpa using h)
    rw [show 2 * (j + 1) + 1 = 2 * j + 1 + 1 + 1 from by omega]
    simpa [wideBytes] using q
theorem low_at (d : Value) (cs : List Int32) (j : Nat) (h : j < cs.length) : (cs.map fun c => Value.int (lo8 c)).getD j d = .int (lo8 (cs.getD j 0)) := by
  simp [List.getD_eq_getElem?_getD, h]
/-- an array of N2 bytes vs codes the chars cs by the coder cd -/
def CodA (cs : List Int32) (cd N2 : Int32) (vs : List Value) : Prop := (cd = 0 ∧ N2 = Int32.ofNat cs.length ∧ vs = (cs.map fun c => Value.int (lo8 c)) ∧ ∀ c ∈ cs, ¬ 255 < c) ∨ (cd = 1 ∧ N2 = Int32.ofNat (2 * cs.length) ∧ vs = wideBytes cs ∧ ∃ c ∈ cs, 255 < c)
theorem CodA.cod {cs : List Int32} {cd N2 : Int32} {vs : List Value} {V : Cell} (h : CodA cs cd N2 vs) (hn : 2 * cs.length < 2 ^ 31) (hs : V.slots.size = N2.toNatClampNeg) (hv : RoadKit.Has V vs (.int 0)) : Cod cd cs.length (fun j => cs.getD j 0) V := by
  rcases h with ⟨rfl, rfl, rfl, h⟩ | ⟨rfl, rfl, rfl, c, hc, hw⟩
  · rw [n32 (by omega)] at hs
    exact Or.inl ⟨rfl, hs, fun j hj => ⟨by rw [hv j (by omega), low_at _ _ _ hj], by
      have e : cs.getD j 0 = cs[j] := by simp [List.getD_eq_getElem?_getD, hj]
      show ¬ 255 < cs.getD j 0
      rw [e]; exact h _ (List.getElem_mem _)⟩⟩
  · rw [n32 (by omega)] at hs
    obtain ⟨j, hj, rfl⟩ := List.getElem_of_mem hc
    exact Or.inr ⟨rfl, hs, fun j hj => ⟨by rw [hv _ (by omega), wide_lo _ _ _ hj], by rw [hv _ (by omega), wide_hi _ _ _ hj]⟩, j, hj, by
      have e : cs.getD j 0 = cs[j] := by simp [List.getD_eq_getElem?_getD, hj]
      show 255 < cs.getD j 0
      rw [e]; exact hw⟩
/-- an object of exactly java/lang/String, its two fields found: as the laws ask it -/
theorem strObj {Z U : State} {a0 : Array Value} {kI : Nat} (wi : (Jvm.Cond.instantiable ST kI).before a0 Z = true) (al : Z.vm.Alike U.vm) {x : Addr} {v0 c0 : Value} (E : RoadKit.Exa Z U.heap x ST) (V : RoadKit.Fld Z U.heap x ST "value" "[B" v0) (C : RoadKit.Fld Z U.heap x ST "coder" "B" c0) :
    ∃ (D : Cell) (fV fC : Field), Blank ST x D U ∧ Found ST "value" "[B" fV U ∧ Found ST "coder" "B" fC U ∧ D.slots[fV.slot]? = some v0 ∧ D.slots[fC.slot]? = some c0 ∧ RoadKit.slotOf Z ST "value" "[B" = fV.slot ∧ RoadKit.slotOf Z ST "coder" "B" = fC.slot := by
  obtain ⟨D, cfV, kV, iV, fV, hD, gV, stV, knV, obV, asV, slV⟩ := V
  obtain ⟨D', cfC, kC, iC, fC, hD', gC, stC, -, -, asC, slC⟩ := C
  cases hD.symm.trans hD'
  obtain ⟨D2, kD, e1, e2, e3, e4, e5⟩ := E
  cases hD.symm.trans e1
  obtain ⟨c2, k2, i1, i2, i3, -⟩ := Cond.instantiable_spec wi
  cases e2.symm.trans i1
  cases e3.symm.trans i2
  obtain ⟨kU, u1, u2⟩ := al.2.2 _ _ e3
  exact ⟨D, fV, fC, ⟨hD, ⟨knV, fun q hq => by rw [hq] at obV; cases obV⟩, by rw [al.findClass]; exact e2, kU, u1, by rw [u2]; exact i3, by rw [u2]; exact e5 i3⟩, ⟨SBG.found_only al ⟨cfV, kV, iV, gV⟩, stV⟩, ⟨SBG.found_only al ⟨cfC, kC, iC, gC⟩, stC⟩, slV, slC, by simp [RoadKit.slotOf, gV], by simp [RoadKit.slotOf, gC]⟩
theorem sta_is {Z U : State} (al : Z.vm.Alike U.vm) {C n d : String} {v : Value} (S : RoadKit.Sta Z U.heap C n d v) : StaticIs U C n d v := by
  obtain ⟨cfS, iS, kS, fS, st, cS, t1, t2, t3, t4, t5, t6, t7⟩ := S
  exact StaticIs.there (s := { Z with heap := U.heap }) ⟨cfS, iS, kS, fS, st, cS, t1, t2, t3, t4, t5, (fun q => by rw [q] at t6; cases t6), t7⟩ al rfl
end StrChars.Road
namespace StrChars.Road
open Jvm Sem ClassFile Op Lib Jvm.Stand Jvm.Free Jvm.Free.XT
open Jvm.Lib.Cold (StaticIs)
/-- the road's facts of a String, as the laws ask it -/
theorem txt_of {Z U : State} {a0 : Array Value} {kI : Nat} (wi : (Jvm.Cond.instantiable ST kI).before a0 Z = true) (al : Z.vm.Alike U.vm) {x t : Addr} {kb : ClassId} {cs : List Int32} {cd N2 : Int32} {vs : List Value} (E : RoadKit.Exa Z U.heap x ST) (V : RoadKit.Fld Z U.heap x ST "value" "[B" (.ref t)) (C : RoadKit.Fld Z U.heap x ST "coder" "B" (.int cd)) (K : RoadKit.Arv Z U.heap t kb .byte N2 vs (.int 0)) (hc : CodA cs cd N2 vs) (hb : ∀ c ∈ cs, ¬ c < 0 ∧ ¬ (65535 : Int32) < c) (l2 : cs.length ≤ 4000) :
    ∃ A, Txt x t A cd cs.length (fun j => cs.getD j 0) U := by
  obtain ⟨A, K1, K2, K3, K4, K5, K6⟩ := K
  have hcod := hc.cod (by omega) K3 K5
  obtain ⟨D, fV, fC, hB, F1, F2, g1, g2, -, -⟩ := strObj wi al E V C
  exact ⟨A, ⟨_, hB.2.2.1, D, hB.1, rfl, by cases q : D.vm <;> first | rfl | exact absurd q (hB.2.1.2 _)⟩, Has.of hB F1 g1, Has.of hB F2 g2, ⟨K1.1, State.isArrayOf_alike al K1.2.1, K1.2.2, by rcases hcod with ⟨-, q, -⟩ | ⟨-, q, -⟩ <;> omega⟩, hcod, fun j hj => by
    have e : cs.getD j 0 = cs[j] := by simp [List.getD_eq_getElem?_getD, hj]
    show ¬ cs.getD j 0 < 0 ∧ ¬ 65535 < cs.getD j 0
    rw [e]; exact hb _ (List.getElem_mem _)⟩
end StrChars.Road
namespace StrChars
open Jvm Sem ClassFile Op Lib Jvm.Stand Jvm.Free.XT Jvm.Free.ALB Jvm.Free.JM Jvm.Free
open Jvm.Lib.Cold (StaticIs)
namespace ChN
def yN : MethodName := ⟨"java/lang/String", "charAt", "(I)C"⟩
abbrev yB : ByteArray := jdk_42_method_56_code
theorem d0 : decode yB 0 = .ok (.aload_n 0, 1) := by decide +kernel
theorem d1 : decode yB 1 = .ok (.invokevirtual 492, 3) := by decide +kernel
theorem d4 : decode yB 4 = .ok (.ifCond (.eq) 12, 3) := by decide +kernel
theorem d7 : decode yB 7 = .ok (.aload_n 0, 1) := by decide +kernel
theorem d8 : decode yB 8 = .ok (.getfield 9, 3) := by decide +kernel
theorem d11 : decode yB 11 = .ok (.iload_n 1, 1) := by decide +kernel
theorem d12 : decode yB 12 = .ok (.invokestatic 495, 3) := by decide +kernel
theorem d15 : decode yB 15 = .ok (.ireturn, 1) := by decide +kernel
def site : List Cond := [.fieldLink "java/lang/String" 9 "java/lang/String" "value" "[B", IsL.tab, LChA.tab] ++ virtW "java/lang/String" 492 "java/lang/String" IsL.yN IsL.yN ++ staticW "java/lang/String" 495 LChA.yN
def tab : Cond := tabOf yN yB 2 (some .char) site
def P (x t : Addr) (V : Cell) (n : Nat) (f : Nat → Int32) (z : Int32) (fm : Value) (i : Nat) (args : Array Value) (s : State) : Prop := args = #[.ref x, .int (Int32.ofNat i)] ∧ Txt x t V 0 n f s ∧ i < n ∧ StaticIs s "java/lang/String" "COMPACT_STRINGS" "Z" (.int z) ∧ ¬ z = 0 ∧ StaticIs s "jdk/internal/util/Preconditions" "SIOOBE_FORMATTER" "Ljava/util/function/BiFunction;" fm ∧ fm.isRef = true
def E (f : Nat → Int32) (i : Nat) (r : Option Value) (s u : State) : Prop := XT.PureE (some (.int (f i))) r s u
/-- charAt(i) of a Latin-1 String of n chars, i < n: f i -/
theorem law (l : Launch) (x t : Addr) (V : Cell) (n : Nat) (f : Nat → Int32) (z : Int32) (fm : Value) (i : Nat) : Law l yN 2 1 3 40 yB 2 (some .char) site (P x t V n f z fm i) (E f i) [] 0 0 := by
  refine Law.of_walk (plainFor_of_name (by decide +kernel)) (by decide +kernel) (by decide +kernel) (by decide) (fun _ _ h => by rw [h.1]; rfl) (fun _ U U' hal hh h => ⟨h.1, h.2.1.mv hal hh, h.2.2.1, h.2.2.2.1.there hal hh, h.2.2.2.2.1, h.2.2.2.2.2.1.there hal hh, h.2.2.2.2.2.2⟩) (fun r U U' V V' h1 hal h2 h => XT.PureE.mv r U U' V V' h1 hal h2 h) ?_
  intro p e s m args below meth c s₁ X0 hexec hbytes hml hret hlk hnm hown hh0 W hP
  obtain ⟨rfl, hx, hi, s1, hz, s3, rf⟩ := hP
  have v31 := hx.2.2.2.1.2.2.2
  have hr := hx.2.2.2.2.2 i hi
  have hx0 := hx.mv X0.warmed.alike hh0
  have c1 : Steps p.tables e below (s₁.setTop (entryFrame m #[.ref x, .int (Int32.ofNat i)] 2)) (s₁.setTop (mkF m 1 #[.val (.ref x), .val (.int (Int32.ofNat i))] [.ref x])) := Steps.trans (entry rfl) (by
    show Steps p.tables e below (s₁.setTop (mkF m 0 #[.val (.ref x), .val (.int (Int32.ofNat i))] [])) _
    refine XS.aloadN X0.here hexec rfl (hb hbytes d0) rfl rfl ?_
    exact Steps.refl _)
  obtain ⟨v2, T2, X2, E2, g2⟩ := X0.callV hexec (IsL.law l x 0 z) hown (wks W (virtW "java/lang/String" 492 "java/lang/String" IsL.yN IsL.yN)) rfl (by decide) (wk W IsL.tab) (W := 0) (Nat.le_of_ble_eq_true rfl) (Nat.le_of_ble_eq_true rfl) (Nat.le_refl _) (Nat.le_refl _) (hx0.1.fc X0.warmed.alike) hx0.1.is (g := (mkF m 1 #[.val (.ref x), .val (.int (Int32.ofNat i))] [.ref x])) rfl (by rw [hml]; rfl) c1 (argsL := []) (rest := []) rfl rfl (by show 2 * 0 + 0 ≤ _; decide) (hb hbytes d1) (⟨rfl, hx0.2.2.1, hx.2.2.2.2.1.cd, s1.there X0.warmed.alike hh0, hz⟩)
  obtain ⟨rfl, q2⟩ := E2
  have hh2 := q2.trans hh0
  have hx2 := hx.mv X2.warmed.alike hh2
  obtain ⟨-, k1, k2⟩ | ⟨k0, -⟩ := hx.2.2.2.2.1
  · have c3 : Steps p.tables e below (s₁.setTop (entryFrame m #[.ref x, .int (Int32.ofNat i)] 2)) (T2.setTop (mkF m 8 #[.val (.ref x), .val (.int (Int32.ofNat i))] [.ref x])) := Steps.trans g2 (by
      refine XS.ifNo X2.here hexec rfl (hb hbytes d4) rfl (i0_eq_f (by decide)) ?_
      refine XS.aloadN X2.here hexec rfl (hb hbytes d7) rfl rfl ?_
      exact Steps.refl _)
    obtain ⟨T4, X4, q4, st4⟩ := X2.hget hexec hown (wk W (.fieldLink "java/lang/String" 9 "java/lang/String" "value" "[B")) hx2.2.1 (g := (mkF m 8 #[.val (.ref x), .val (.int (Int32.ofNat i))] [.ref x])) rfl (rest := []) rfl (hb hbytes d8)
    have hh4 := q4.trans hh2
    have c5 : Steps p.tables e below (s₁.setTop (entryFrame m #[.ref x, .int (Int32.ofNat i)] 2)) (T4.setTop (mkF m 12 #[.val (.ref x), .val (.int (Int32.ofNat i))] [.int (Int32.ofNat i), .ref t])) := (c3.trans (st4 _ (Steps.refl _))).trans (by
      refine XS.iloadN X4.here hexec rfl (hb hbytes d11) rfl ?_
      exact Steps.refl _)
    obtain ⟨v6, T6, X6, E6, g6⟩ := X4.callS hexec (LChA.law l t V i (lo8 (f i)) fm) hown (wks W (staticW "java/lang/String" 495 LChA.yN)) (wk W LChA.tab) (W := 0) (Nat.le_of_ble_eq_true rfl) (Nat.le_of_ble_eq_true rfl) (Nat.le_refl _) (Nat.le_refl _) (g := (mkF m 12 #[.val (.ref x), .val (.int (Int32.ofNat i))] [.int (Int32.ofNat i), .ref t])) rfl (by rw [hml]; rfl) c5 (argsL := [.ref t, .int (Int32.ofNat i)]) (rest := []) rfl rfl (by show 2 * 0 + 0 ≤ _; decide) (hb hbytes d12) (⟨rfl, hx.2.2.2.1.mv X4.warmed.alike hh4, (k2 i hi).1, s3.there X4.warmed.alike hh4, rf⟩)
    obtain ⟨rfl, q6⟩ := E6
    rw [chr8_lo8 hr.1 (k2 i hi).2] at g6
    exact ⟨T6, some (.int (f i)), _, _, _, X6, rfl, rfl, rfl, (fun h => by cases h), ⟨rfl, q6.trans hh4⟩, fun fs hl => Steps.trans g6 (X6.ireturnOut hexec hret (narrow_ch hr.1 hr.2) (Or.inr (Or.inr (Or.inr (Or.inl rfl)))) (hb hbytes d15) hl)⟩
  · exact absurd k0 (by decide)
theorem pays {l : Launch} {R : Room} {p : Program} {e : Env} {below : List Frame} {s : State} {sargs : Array Value} {len W : Nat} (x t : Addr) (V : Cell) (n : Nat) (f : Nat → Int32) (z : Int32) (fm : Value) (i : Nat) (htab : tab.before sargs s = true) (hfr : 4 ≤ R.frames) (hlo : W + 53 ≤ R.locals) :
    Back l R p e below s sargs yN len W (fun A₁ a₁ => A₁.cells + 0 ≤ R.cells ∧ A₁.slots + 0 ≤ R.slots ∧ P x t V n f z fm i a₁ A₁.U) (fun A₁ _ v₁ B₁ => E f i v₁ A₁.U B₁.U ∧ B₁.locs = A₁.locs ++ [] ∧ B₁.cells = A₁.cells + 0 ∧ B₁.slots = A₁.slots + 0) :=
  (law l x t V n f z fm i).pays htab hfr (by omega)
end ChN
end StrChars
namespace StrChars.Road
open Jvm Sem ClassFile Op Lib Jvm.Stand Jvm.Free Jvm.Free.XT
open Jvm.Lib.Cold (StaticIs)
/-- the words of String.charAt(int), the Latin-1 road alone -/
abbrev wordsChN : List Jvm.Cond := [.code ChN.yN ChN.yB 2 (some .char), .initialized ST, .fieldLink ST 9 ST "value" "[B", .fieldLink ST 38 ST "COMPACT_STRINGS" "Z", .fieldLink ST 15 ST "coder" "B", .code IsL.yN IsL.yB 1 (some .boolean), .methodLink ST 492 IsL.yN, .declares IsL.yN, .selects ST IsL.yN IsL.yN, .instanceMethod IsL.yN,
  .methodLink ST 495 LChA.yN, .static LChA.yN, .code LChA.yN LChA.yB 2 (some .char), .initialized "java/lang/StringLatin1", .methodLink "java/lang/StringLatin1" 9 JO.Str_checkIndex.yN, .static JO.Str_checkIndex.yN, .code JO.Str_checkIndex.yN JO.Str_checkIndex.yB 2 none,
  .fieldLink ST 1053 "jdk/internal/util/Preconditions" "SIOOBE_FORMATTER" "Ljava/util/function/BiFunction;", .methodLink ST 1059 JC.PreCheck.yN, .static JC.PreCheck.yN, .code JC.PreCheck.yN JC.PreCheck.yB 3 (some .int), .initialized "jdk/internal/util/Preconditions"]
theorem tabChN_of {a : Array Value} {s : State} (h : ∀ w ∈ wordsChN, w.before a s = true) : ChN.tab.before a s = true := by
  have hp : JC.PreCheck.tab.before a s = true := unparts (wk h (.code JC.PreCheck.yN JC.PreCheck.yB 3 (some .int))) (wks h (.initialized JC.PreCheck.yN.cls :: JC.PreCheck.site))
  have qk := consq hp h
  have hk : JO.Str_checkIndex.tab.before a s = true := unparts (wk qk (.code JO.Str_checkIndex.yN JO.Str_checkIndex.yB 2 none)) (wks qk (.initialized JO.Str_checkIndex.yN.cls :: JO.Str_checkIndex.site))
  have ql := consq hk h
  have hl : LChA.tab.before a s = true := unparts (wk ql (.code LChA.yN LChA.yB 2 (some .char))) (wks ql (.initialized LChA.yN.cls :: LChA.site))
  have hi : IsL.tab.before a s = true := unparts (wk h (.code IsL.yN IsL.yB 1 (some .boolean))) (wks h (.initialized IsL.yN.cls :: IsL.site))
  have q := consq hi (consq hl h)
  exact unparts (wk q (.code ChN.yN ChN.yB 2 (some .char))) (wks q (.initialized ChN.yN.cls :: ChN.site))
theorem movedChN {Z s : State} {a0 args : Array Value} (hZ : Z.Warmed39 s.vm) (hw : ∀ d ∈ wordsChN, d.before a0 Z = true) : ∀ d ∈ wordsChN, d.before args s = true := fun d hd => by
  have t : ∀ d ∈ wordsChN, (d.onTables && d.keepsFace) = true := by decide +kernel
  exact RoadKit.mv hZ (hw d hd) (t d hd)
/-- **charAt(i) OF A LATIN-1 STRING**, i < n: the char -/
theorem chN {p : Program} {l : Launch} {e : Env} {R : Room} {s : State} {args : Array Value} {below : List Frame} {len W : Nat} {Z : State} {a0 : Array Value} {h : Heap} (hZ : Z.Warmed39 s.vm) (hw : ∀ d ∈ wordsChN, d.before a0 Z = true) {kI : Nat} (wi : (Jvm.Cond.instantiable ST kI).before a0 Z = true)
    {x t : Addr} {kb : ClassId} {cs : List Int32} {N2 z : Int32} {vs : List Value} {fm : Value} {i : Nat} {j : Int32} (E : RoadKit.Exa Z h x ST) (V : RoadKit.Fld Z h x ST "value" "[B" (.ref t)) (C : RoadKit.Fld Z h x ST "coder" "B" (.int 0)) (K : RoadKit.Arv Z h t kb .byte N2 vs (.int 0)) (hc : CodA cs 0 N2 vs) (hb : ∀ c ∈ cs, ¬ c < 0 ∧ ¬ (65535 : Int32) < c)
    (S : RoadKit.Sta Z h ST "COMPACT_STRINGS" "Z" (.int z)) (hz : ¬ z = 0) (F : RoadKit.Sta Z h "jdk/internal/util/Preconditions" "SIOOBE_FORMATTER" "Ljava/util/function/BiFunction;" fm) (rf : fm.isRef = true) (l2 : cs.length ≤ 4000) (hi : i < cs.length) (hj : j = Int32.ofNat i) (hfr : 4 ≤ R.frames) (hlo : W + 53 ≤ R.locals) :
    Back l R p e below s args (⟨"java/lang/String", "charAt", "(I)C"⟩ : MethodName) len W (fun P a => a = #[.ref x, .int j] ∧ P.U.heap = h ∧ P.cells + 0 ≤ R.cells ∧ P.slots + 0 ≤ R.slots)
      (fun P _ v B => ∃ L, (v = some (.int (cs.getD i 0)) ∧ L = [] ∧ B.U.heap = h) ∧ B.locs = P.locs ++ L ∧ B.cells = P.cells + 0 ∧ B.slots = P.slots + 0) := by
  subst hj
  intro m meth c P g ig mk a X hg hsize hdg hW hn hp'
  obtain ⟨rfl, rfl, r1, r2⟩ := hp'
  have al : Z.vm.Alike P.U.vm := hZ.alike.trans X.warmed.alike
  obtain ⟨A, hx⟩ := txt_of wi al E V C K hc hb l2
  obtain ⟨v, B, X', ⟨⟨hv, hh⟩, hl, hk, hs⟩, st⟩ := ChN.pays x t A cs.length (fun j => cs.getD j 0) z fm i (tabChN_of (movedChN hZ hw)) hfr hlo m meth c P g ig mk _ X hg hsize hdg hW hn ⟨r1, r2, rfl, hx, hi, sta_is al S, hz, sta_is al F, rf⟩
  exact ⟨v, B, X', ⟨[], ⟨hv, rfl, hh⟩, hl, hk, hs⟩, st⟩
/-- what backV says of its String, as the contracts of this text ask it: cs's low bytes, coder 0 -/
theorem codOf {cs : List Int32} {n : Nat} (hn : cs.length = n) (hb : ∀ c ∈ cs, ¬ 255 < c) : CodA cs 0 (Int32.ofNat n) ((cs.map lo8).map Value.int) := Or.inl ⟨rfl, by rw [hn], by simp [List.map_map, Function.comp_def], hb⟩
end StrChars.Road
end Jvm.Pilot.@@N@@
namespace Jvm.Pilot.@@N@@
open Jvm Jvm.ClassFile Sem Op Lib Jvm.Free Jvm.Stand Jvm.LawKit Jvm.RoadKit Bundle Jvm.Pilot.@@N@@.Jvm.D
/-! the walk, forward: own_G: from here the run comes to an end that meets P -/
def own_G (tb : Tables) (e : Env) (below : List Frame) (P : Outcome → State → Prop) (a : State) : Prop := ∃ s₂ o, Steps tb e below a s₂ ∧ s₂.status = .running ∧ Ended s₂ below o ∧ P o s₂
def own_c (x : Int32) : Int32 := x.toUInt32.toUInt16.toUInt32.toInt32
section OwnKit
variable {tb : Tables} {p : Program} {l : Launch} {e : Env} {R : Room} {s : State} {m : MethodId} {args : Array Value} {below : List Frame} {meth : Method} {c : Code} {T : State} {locs : List Loc} {cells slots : Nat} {P : Outcome → State → Prop} {a b : State} {h : Heap} {Z : State} {a0 : Array Value}
theorem own_w {d : Jvm.Cond} (hw : ∀ d ∈ tables_1, d.before a0 Z = true) (k : Nat) (h : tables_1[k]? = some d) : d.before a0 Z = true := hw _ (List.mem_of_getElem? h)
theorem own_G.go (h : ∀ t, Steps tb e below b t → Steps tb e below a t) (k : own_G tb e below P b) : own_G tb e below P a := by
  obtain ⟨s₂, o, h1, h2⟩ := k
  exact ⟨s₂, o, h _ h1, h2⟩
theorem own_G.via (h : Steps tb e below a b) (k : own_G tb e below P b) : own_G tb e below P a := own_G.go (fun _ q => h.trans q) k
theorem own_G.cast {g g' : JFrame} (q : g = g') (k : own_G tb e below P (T.setTop g')) : own_G tb e below P (T.setTop g) := q ▸ k
theorem own_G.end_ (X : Stand p l e R s m args below meth c T locs cells slots) (hlk : meth.locks = false) {v : Option Value} (hv : meth.sig.returnType = none → v = none)
    (st : ∀ fs, (∀ (f : JFrame) (acts : List Action), f.method = m → f.locked = none → f.entered = [] → (doReturn e (T.setTop f) acts v).1 = T.setFrames fs) → Steps p.tables e below a (T.setFrames fs))
    {Q : Option Value → Heap → List Loc → Prop} {rc rs : Nat} (eT : T.heap = h) (hQ : Q v h locs) (hc : cells ≤ rc) (hs : slots ≤ rs) :
    own_G p.tables e below (fun o t => ∃ v L, o = .returned v ∧ Q v t.heap L ∧ FrameEnd s o t L rc rs) a := by
  obtain ⟨fs, hr, hrun, hended, hW, hsame⟩ := X.leave hv
  subst eT
  exact ⟨_, _, st fs hr, hrun, hended, _, _, rfl, hQ, ⟨_, rfl⟩, hW, hsame.mono hc hs⟩
/-! calls by a payer of backOf's shape -/
theorem own_callS (X : Stand p l e R s m args below meth c T locs cells slots) (hx : p.tables.exec = Jvm.exec) {own : String} {index : Nat} {y : MethodName} {bytes : ByteArray} {maxL : Nat} {ret : Option FieldType}
    (hown : s.vm.findClass own = some m.cls) (hlink : (Jvm.Cond.methodLink own index y).before args s = true) (hstat : (Jvm.Cond.static y).before args s = true) (hinit : (Jvm.Cond.initialized y.cls).before args s = true) (hcode : (Jvm.Cond.code y bytes maxL ret).before args s = true)
    (hy : y.cls ≠ "java/lang/invoke/MethodHandle" ∧ y.cls ≠ "java/lang/invoke/VarHandle") {W rc rs : Nat} {as' : Array Value} {Q : Option Value → Heap → List Loc → Prop}
    (hK : Back l R p e below s args y 3 W (fun A a => a = as' ∧ A.U.heap = h ∧ A.cells + rc ≤ R.cells ∧ A.slots + rs ≤ R.slots) (fun A _ v B => ∃ L, Q v B.U.heap L ∧ B.locs = A.locs ++ L ∧ B.cells = A.cells + rc ∧ B.slots = A.slots + rs))
    {g : JFrame} (hg : g.method = m) (hsize : g.locals.size = c.maxLocals) {argsL rest : List Value} (hlen : ∀ sig, parseMethodDescriptor y.desc = some sig → argsL.length = sig.parameters.length)
    (hstack : g.stack = argsL.reverse ++ rest) (hW : 2 * g.monitorRoom + (rest.map fun v => v.category).sum ≤ W) (hdg : decode c.code g.pc = .ok (.invokestatic index, 3))
    (eT : T.heap = h) (has : argsL.toArray = as') (hc : cells + rc ≤ R.cells) (hs : slots + rs ≤ R.slots) :
    ∃ (v : Option Value) (T' : State) (L : List Loc), Q v T'.heap L ∧ Stand p l e R s m args below meth c T' (locs ++ L) (cells + rc) (slots + rs) ∧ Steps p.tables e below (T.setTop g) (T'.setTop { g with pc := g.pc + 3, stack := v.toList ++ rest }) := by
  obtain ⟨v, vm₁, ⟨T', L', k', n'⟩, -, X', ⟨L, hQ, l1, l2, l3⟩, st⟩ := Jvm.LawKit.callS X hx hown hlink hstat hinit hcode hy hK hg hsize hlen hstack hW hdg (fun _ _ => ⟨has, eT, hc, hs⟩)
  dsimp only [Pt.U, Pt.locs, Pt.cells, Pt.slots] at X' l1 l2 l3 st hQ
  subst l1 l2 l3
  exact ⟨v, T', L, hQ, X', st _ (Steps.refl _)⟩
theorem own_callI (X : Stand p l e R s m args below meth c T locs cells slots) (hx : p.tables.exec = Jvm.exec) {own : String} {index : Nat} {y : MethodName} (hy1 : y.name = "<init>") {bytes : ByteArray} {maxL : Nat}
    (hown : s.vm.findClass own = some m.cls) (hlink : (Jvm.Cond.methodLink own index y).before args s = true) (hinst : (Jvm.Cond.instanceMethod y).before args s = true) (hcode : (Jvm.Cond.code y bytes maxL none).before args s = true)
    (hy : y.cls ≠ "java/lang/invoke/MethodHandle" ∧ y.cls ≠ "java/lang/invoke/VarHandle") {W rc rs : Nat} {as' : Array Value} {Q : Option Value → Heap → List Loc → Prop}
    (hK : Back l R p e below s args y 3 W (fun A a => a = as' ∧ A.U.heap = h ∧ A.cells + rc ≤ R.cells ∧ A.slots + rs ≤ R.slots) (fun A _ v B => ∃ L, Q v B.U.heap L ∧ B.locs = A.locs ++ L ∧ B.cells = A.cells + rc ∧ B.slots = A.slots + rs))
    {a : Addr} {g : JFrame} (hg : g.method = m) (hsize : g.locals.size = c.maxLocals) {argsL rest : List Value} (hlen : ∀ sig, parseMethodDescriptor y.desc = some sig → argsL.length = sig.parameters.length)
    (hstack : g.stack = argsL.reverse ++ .ref a :: rest) (hW : 2 * g.monitorRoom + (rest.map fun v => v.category).sum ≤ W) (hdg : decode c.code g.pc = .ok (.invokespecial index, 3))
    (eT : T.heap = h) (has : (.ref a :: argsL).toArray = as') (hc : cells + rc ≤ R.cells) (hs : slots + rs ≤ R.slots) :
    ∃ (v : Option Value) (T' : State) (L : List Loc), Q v T'.heap L ∧ Stand p l e R s m args below meth c T' (locs ++ L) (cells + rc) (slots + rs) ∧ Steps p.tables e below (T.setTop g) (T'.setTop { g with pc := g.pc + 3, stack := v.toList ++ rest }) := by
  obtain ⟨v, vm₁, ⟨T', L', k', n'⟩, -, X', ⟨L, hQ, l1, l2, l3⟩, st⟩ := X.specialBack hx hy1 hown hlink hinst hcode hy hK hg hsize (Steps.refl _) hlen hstack hW hdg (fun _ _ => ⟨has, eT, hc, hs⟩)
  dsimp only [Pt.U, Pt.locs, Pt.cells, Pt.slots] at X' l1 l2 l3 st hQ
  subst l1 l2 l3
  exact ⟨v, T', L, hQ, X', st⟩
theorem own_callV (X : Stand p l e R s m args below meth c T locs cells slots) (hx : p.tables.exec = Jvm.exec) {own C : String} {index : Nat} {y z : MethodName}
    (hown : s.vm.findClass own = some m.cls) (hlink : (Jvm.Cond.methodLink own index y).before args s = true) (hdecl : (Jvm.Cond.declares y).before args s = true) (hnf : NotFace s y)
    (hsel : (Jvm.Cond.selects C y z).before args s = true) (hinst : (Jvm.Cond.instanceMethod z).before args s = true)
    (hy : y.cls ≠ "java/lang/invoke/MethodHandle" ∧ y.cls ≠ "java/lang/invoke/VarHandle") {W rc rs : Nat} {as' : Array Value} {Q : Option Value → Heap → List Loc → Prop}
    (hK : Back l R p e below s args z 3 W (fun A a => a = as' ∧ A.U.heap = h ∧ A.cells + rc ≤ R.cells ∧ A.slots + rs ≤ R.slots) (fun A _ v B => ∃ L, Q v B.U.heap L ∧ B.locs = A.locs ++ L ∧ B.cells = A.cells + rc ∧ B.slots = A.slots + rs))
    {b : Addr} {cB : ClassId} (hcB : s.vm.findClass C = some cB) (hrecv : IsOf cB T b)
    {g : JFrame} (hg : g.method = m) (hsize : g.locals.size = c.maxLocals) {argsL rest : List Value} (hlen : ∀ sig, parseMethodDescriptor y.desc = some sig → argsL.length = sig.parameters.length)
    (hstack : g.stack = argsL.reverse ++ .ref b :: rest) (hW : 2 * g.monitorRoom + (rest.map fun v => v.category).sum ≤ W) (hdg : decode c.code g.pc = .ok (.invokevirtual index, 3))
    (eT : T.heap = h) (has : (.ref b :: argsL).toArray = as') (hc : cells + rc ≤ R.cells) (hs : slots + rs ≤ R.slots) :
    ∃ (v : Option Value) (T' : State) (L : List Loc), Q v T'.heap L ∧ Stand p l e R s m args below meth c T' (locs ++ L) (cells + rc) (slots + rs) ∧ Steps p.tables e below (T.setTop g) (T'.setTop { g with pc := g.pc + 3, stack := v.toList ++ rest }) := by
  obtain ⟨v, vm₁, ⟨T', L', k', n'⟩, -, X', ⟨L, hQ, l1, l2, l3⟩, st⟩ := X.virtualBack hx hown hlink hdecl hnf hsel hinst hy hK hcB hrecv hg hsize (Steps.refl _) hlen hstack hW hdg (fun _ _ => ⟨has, eT, hc, hs⟩)
  dsimp only [Pt.U, Pt.locs, Pt.cells, Pt.slots] at X' l1 l2 l3 st hQ
  subst l1 l2 l3
  exact ⟨v, T', L, hQ, X', st⟩
/-! stores into an array whose values are known -/
theorem own_stC {k : ClassId} {n : Int32} {vs : List Value} {d : Value} {a : Addr} (X : Stand p l e R s m args below meth c T locs cells slots) (hx : p.tables.exec = Jvm.exec) (hZ : Z.Warmed39 s.vm) (eT : T.heap = h) (V : Arv Z h a k .char n vs d) {j x : Int32} (i : Nat) (hi : i < vs.length) (hji : j.toNatClampNeg = i) (hj : ¬ j < 0 ∧ j < n)
    {g : JFrame} (hg : g.method = m) {rest : List Value} (hs : g.stack = .int x :: .int j :: .ref a :: rest) (hd : decode c.code g.pc = .ok (.castore, 1)) :
    ∃ T' h', Stand p l e R s m args below meth c T' (locs ++ [⟨a, j.toNatClampNeg⟩]) cells slots ∧ T'.heap = h' ∧ Wr h h' a j.toNatClampNeg (.int (nar .char x)) ∧ Arv Z h' a k .char n (vs.set i (.int (nar .char x))) d ∧ ∀ target, Steps p.tables e below (T'.setTop { g with pc := g.pc + 1, stack := rest }) target → Steps p.tables e below (T.setTop g) target := by
  obtain ⟨cl, A, q, S, M, H, U⟩ := V
  obtain ⟨T', h', X', e', W', st⟩ := stC X hx hZ eT A (j := j) (inb_of S hj) hg hs hd
  exact ⟨T', h', X', e', W', Arv.set A q S M H U (fits_nar_char _) W' i hji hi, st⟩
theorem own_stB {k : ClassId} {n : Int32} {vs : List Value} {d : Value} {a : Addr} (X : Stand p l e R s m args below meth c T locs cells slots) (hx : p.tables.exec = Jvm.exec) (hZ : Z.Warmed39 s.vm) (eT : T.heap = h) (V : Arv Z h a k .byte n vs d) {j x : Int32} (i : Nat) (hi : i < vs.length) (hji : j.toNatClampNeg = i) (hj : ¬ j < 0 ∧ j < n)
    {g : JFrame} (hg : g.method = m) {rest : List Value} (hs : g.stack = .int x :: .int j :: .ref a :: rest) (hd : decode c.code g.pc = .ok (.bastore, 1)) :
    ∃ T' h', Stand p l e R s m args below meth c T' (locs ++ [⟨a, j.toNatClampNeg⟩]) cells slots ∧ T'.heap = h' ∧ Wr h h' a j.toNatClampNeg (.int (nar .byte x)) ∧ Arv Z h' a k .byte n (vs.set i (.int (nar .byte x))) d ∧ ∀ target, Steps p.tables e below (T'.setTop { g with pc := g.pc + 1, stack := rest }) target → Steps p.tables e below (T.setTop g) target := by
  obtain ⟨cl, A, q, S, M, H, U⟩ := V
  obtain ⟨T', h', X', e', W', st⟩ := stB X hx hZ eT A (j := j) (inb_of S hj) hg hs hd
  exact ⟨T', h', X', e', W', Arv.set A q S M H U (fits_nar_byte _) W' i hji hi, st⟩
theorem own_stI {k : ClassId} {n : Int32} {vs : List Value} {d : Value} {a : Addr} (X : Stand p l e R s m args below meth c T locs cells slots) (hx : p.tables.exec = Jvm.exec) (hZ : Z.Warmed39 s.vm) (eT : T.heap = h) (V : Arv Z h a k .int n vs d) {j x : Int32} (i : Nat) (hi : i < vs.length) (hji : j.toNatClampNeg = i) (hj : ¬ j < 0 ∧ j < n)
    {g : JFrame} (hg : g.method = m) {rest : List Value} (hs : g.stack = .int x :: .int j :: .ref a :: rest) (hd : decode c.code g.pc = .ok (.iastore, 1)) :
    ∃ T' h', Stand p l e R s m args below meth c T' (locs ++ [⟨a, j.toNatClampNeg⟩]) cells slots ∧ T'.heap = h' ∧ Wr h h' a j.toNatClampNeg (.int x) ∧ Arv Z h' a k .int n (vs.set i (.int x)) d ∧ ∀ target, Steps p.tables e below (T'.setTop { g with pc := g.pc + 1, stack := rest }) target → Steps p.tables e below (T.setTop g) target := by
  obtain ⟨cl, A, q, S, M, H, U⟩ := V
  obtain ⟨T', h', X', e', W', st⟩ := stI X hx hZ eT A (j := j) (inb_of S hj) hg hs hd
  exact ⟨T', h', X', e', W', Arv.set A q S M H U rfl W' i hji hi, st⟩
end OwnKit
theorem own_n15 (x : Int32) : 0 ≤ (x &&& (15 : Int32)).toInt ∧ (x &&& (15 : Int32)).toInt ≤ 15 := by
  have := c_mask x 15 4 (by decide) (by decide)
  omega
theorem own_dig (x : Int32) : 0 ≤ ((x &&& (15 : Int32)) % (10 : Int32)).toInt ∧ ((x &&& (15 : Int32)) % (10 : Int32)).toInt ≤ 9 := by
  have h := own_n15 x
  have := (c_irem (x &&& (15 : Int32)) (10 : Int32) 10 rfl).1 h.1
  omega
theorem own_toInt_c (x : Int32) (h : 0 ≤ x.toInt ∧ x.toInt < 65536) : (own_c x).toInt = x.toInt := by
  have := c_i2c x
  unfold own_c
  omega
theorem own_nar_c (x : Int32) : nar .char x = own_c x := rfl
theorem own_cc (x : Int32) (h : 0 ≤ x.toInt ∧ x.toInt < 65536) : (nar .char (own_c x)).toInt = x.toInt := by
  rw [own_nar_c]
  have h1 := own_toInt_c x h
  rw [own_toInt_c _ (by omega), h1]
theorem own_48 (d : Int32) (h : 0 ≤ d.toInt ∧ d.toInt ≤ 100) : ((48 : Int32) + d).toInt = 48 + d.toInt := by
  have h1 := c_iadd (48 : Int32) d
  have h2 := rng32 ((48 : Int32) + d)
  have h3 : (48 : Int32).toInt = 48 := rfl
  omega
theorem own_dc (d : Int32) (h : 0 ≤ d.toInt ∧ d.toInt ≤ 100) : (nar .char (own_c ((48 : Int32) + d))).toInt = 48 + d.toInt := by
  rw [own_cc _ (by have := own_48 d h; omega), own_48 d h]
theorem own_mul {x y : Int32} (hx : 0 ≤ x.toInt ∧ x.toInt ≤ 9) (hy : 0 ≤ y.toInt ∧ y.toInt ≤ 15) : (x * y).toInt = x.toInt * y.toInt ∧ 0 ≤ x.toInt * y.toInt ∧ x.toInt * y.toInt ≤ 135 := by
  have h1 : 0 ≤ x.toInt * y.toInt := Int.mul_nonneg hx.1 hy.1
  have h2 : x.toInt * y.toInt ≤ 9 * 15 := Int.mul_le_mul hx.2 hy.2 hy.1 (by omega)
  have h3 := c_imul x y
  have h4 := rng32 (x * y)
  omega
theorem own_add {x y : Int32} (h : -1000 ≤ x.toInt ∧ x.toInt ≤ 1000) (h' : -1000 ≤ y.toInt ∧ y.toInt ≤ 1000) : (x + y).toInt = x.toInt + y.toInt := by
  have h3 := c_iadd x y
  have h4 := rng32 (x + y)
  omega
theorem own_sub {x y : Int32} (h : -1000 ≤ x.toInt ∧ x.toInt ≤ 1000) (h' : -1000 ≤ y.toInt ∧ y.toInt ≤ 1000) : (x - y).toInt = x.toInt - y.toInt := by
  have h3 := c_isub x y
  have h4 := rng32 (x - y)
  omega
theorem own_lt {x y : Int32} : x < y ↔ x.toInt < y.toInt := Int32.lt_iff_toInt_lt
theorem own_eq {x y : Int32} : x = y ↔ x.toInt = y.toInt := ⟨fun h => h ▸ rfl, fun h => Int32.toInt_inj.mp h⟩
/-- the weighted sum, as ints -/
def own_S (D0 D1 D2 D3 : Int) (w0 w1 w2 w3 : Int32) : Int := D0 * w0.toInt + D1 * w1.toInt + D2 * w2.toInt + D3 * w3.toInt
def own_B (w : Int32) : Prop := 0 ≤ w.toInt ∧ w.toInt ≤ 15
def own_d9 (d : Int32) : Prop := 0 ≤ d.toInt ∧ d.toInt ≤ 9
theorem own_sumD {d0 d1 d2 d3 w0 w1 w2 w3 : Int32} (a0 : own_d9 d0) (a1 : own_d9 d1) (a2 : own_d9 d2) (a3 : own_d9 d3) (b0 : own_B w0) (b1 : own_B w1) (b2 : own_B w2) (b3 : own_B w3) :
    (d0 * w0 + d1 * w1 + d2 * w2 + d3 * w3).toInt = own_S d0.toInt d1.toInt d2.toInt d3.toInt w0 w1 w2 w3 ∧ 0 ≤ own_S d0.toInt d1.toInt d2.toInt d3.toInt w0 w1 w2 w3 ∧ own_S d0.toInt d1.toInt d2.toInt d3.toInt w0 w1 w2 w3 ≤ 540 := by
  have m0 := own_mul a0 b0
  have m1 := own_mul a1 b1
  have m2 := own_mul a2 b2
  have m3 := own_mul a3 b3
  have s1 : (d0 * w0 + d1 * w1).toInt = (d0 * w0).toInt + (d1 * w1).toInt := own_add (by omega) (by omega)
  have s2 : (d0 * w0 + d1 * w1 + d2 * w2).toInt = (d0 * w0 + d1 * w1).toInt + (d2 * w2).toInt := own_add (by omega) (by omega)
  have s3 : (d0 * w0 + d1 * w1 + d2 * w2 + d3 * w3).toInt = (d0 * w0 + d1 * w1 + d2 * w2).toInt + (d3 * w3).toInt := own_add (by omega) (by omega)
  unfold own_S
  omega
theorem own_back {c d : Int32} (a : own_d9 d) (h : c.toInt = 48 + d.toInt) : c - (48 : Int32) = d := by
  rw [own_eq, own_sub (by have := a.1; have := a.2; omega) (by decide), h]
  have h3 : (48 : Int32).toInt = 48 := rfl
  omega
theorem own_zero (x : Int32) : (0 : Int32) + x = x := by
  rw [own_eq]
  have h := c_iadd (0 : Int32) x
  have h1 := rng32 ((0 : Int32) + x)
  have h2 := rng32 x
  have h3 : (0 : Int32).toInt = 0 := rfl
  omega
theorem own_rem11 (x : Int32) (h : 0 ≤ x.toInt) : (x % (11 : Int32)).toInt = x.toInt % 11 := (c_irem x (11 : Int32) 11 rfl).1 h
/-- the check digit's sign -/
def own_K (S : Int) : Int := 48 + (if S % 11 < 2 then 0 else 11 - S % 11)

theorem own_up (cs : List Int32) (h : ∀ c ∈ cs, ¬ c < 0 ∧ ¬ (255 : Int32) < c) : ∀ c ∈ cs, ¬ c < 0 ∧ ¬ (65535 : Int32) < c := fun c hc => ⟨(h c hc).1, fun q => (h c hc).2 (by rw [Int32.lt_iff_toInt_lt] at q ⊢; have e1 : (65535 : Int32).toInt = 65535 := rfl; have e2 : (255 : Int32).toInt = 255 := rfl; omega)⟩
theorem own_sumC {c0 c1 c2 c3 w0 w1 w2 w3 d0 d1 d2 d3 : Int32} (hc0 : own_d9 d0 ∧ c0.toInt = 48 + d0.toInt) (hc1 : own_d9 d1 ∧ c1.toInt = 48 + d1.toInt) (hc2 : own_d9 d2 ∧ c2.toInt = 48 + d2.toInt) (hc3 : own_d9 d3 ∧ c3.toInt = 48 + d3.toInt) (b0 : own_B w0) (b1 : own_B w1) (b2 : own_B w2) (b3 : own_B w3) : (((((0 : Int32) + (c0 - 48) * w0) + (c1 - 48) * w1) + (c2 - 48) * w2) + (c3 - 48) * w3) = d0 * w0 + d1 * w1 + d2 * w2 + d3 * w3 := by
  rw [own_back hc0.1 hc0.2, own_back hc1.1 hc1.2, own_back hc2.1 hc2.2, own_back hc3.1 hc3.2, own_zero]
theorem own_ofS {c0 c1 c2 c3 w0 w1 w2 w3 d0 d1 d2 d3 : Int32} (hc0 : own_d9 d0 ∧ c0.toInt = 48 + d0.toInt) (hc1 : own_d9 d1 ∧ c1.toInt = 48 + d1.toInt) (hc2 : own_d9 d2 ∧ c2.toInt = 48 + d2.toInt) (hc3 : own_d9 d3 ∧ c3.toInt = 48 + d3.toInt) (b0 : own_B w0) (b1 : own_B w1) (b2 : own_B w2) (b3 : own_B w3) (hr2 : (((((0 : Int32) + (c0 - 48) * w0) + (c1 - 48) * w1) + (c2 - 48) * w2) + (c3 - 48) * w3) % (11 : Int32) < (2 : Int32)) : (nar .char (own_c ((48 : Int32) + (0 : Int32)))).toInt = own_K (own_S d0.toInt d1.toInt d2.toInt d3.toInt w0 w1 w2 w3) := by
  rw [own_sumC hc0 hc1 hc2 hc3 b0 b1 b2 b3] at hr2
  have hs := own_sumD hc0.1 hc1.1 hc2.1 hc3.1 b0 b1 b2 b3
  rw [own_lt, own_rem11 _ (by omega), hs.1] at hr2
  rw [own_dc _ (by decide)]
  have h0 : (0 : Int32).toInt = 0 := rfl
  have h2 : (2 : Int32).toInt = 2 := rfl
  rw [h2] at hr2
  simp only [own_K, hr2, if_true, h0]
theorem own_ofL {c0 c1 c2 c3 w0 w1 w2 w3 d0 d1 d2 d3 : Int32} (hc0 : own_d9 d0 ∧ c0.toInt = 48 + d0.toInt) (hc1 : own_d9 d1 ∧ c1.toInt = 48 + d1.toInt) (hc2 : own_d9 d2 ∧ c2.toInt = 48 + d2.toInt) (hc3 : own_d9 d3 ∧ c3.toInt = 48 + d3.toInt) (b0 : own_B w0) (b1 : own_B w1) (b2 : own_B w2) (b3 : own_B w3) (hr2 : ¬ (((((0 : Int32) + (c0 - 48) * w0) + (c1 - 48) * w1) + (c2 - 48) * w2) + (c3 - 48) * w3) % (11 : Int32) < (2 : Int32)) : (nar .char (own_c ((48 : Int32) + ((11 : Int32) - (((((0 : Int32) + (c0 - 48) * w0) + (c1 - 48) * w1) + (c2 - 48) * w2) + (c3 - 48) * w3) % (11 : Int32))))).toInt = own_K (own_S d0.toInt d1.toInt d2.toInt d3.toInt w0 w1 w2 w3) := by
  rw [own_sumC hc0 hc1 hc2 hc3 b0 b1 b2 b3] at hr2 ⊢
  have hs := own_sumD hc0.1 hc1.1 hc2.1 hc3.1 b0 b1 b2 b3
  have hm := own_rem11 (d0 * w0 + d1 * w1 + d2 * w2 + d3 * w3) (by omega)
  rw [own_lt, hm, hs.1] at hr2
  have h2 : (2 : Int32).toInt = 2 := rfl
  have h11 : (11 : Int32).toInt = 11 := rfl
  rw [h2] at hr2
  have hsub : ((11 : Int32) - (d0 * w0 + d1 * w1 + d2 * w2 + d3 * w3) % (11 : Int32)).toInt = 11 - own_S d0.toInt d1.toInt d2.toInt d3.toInt w0 w1 w2 w3 % 11 := by
    rw [own_sub (by decide) (by omega), hm, hs.1, h11]
  rw [own_dc _ (by omega), hsub]
  simp only [own_K, hr2, if_false]

theorem own_dr {d c : Int32} (h : own_d9 d ∧ c.toInt = 48 + d.toInt) : ¬ c < 0 ∧ ¬ (255 : Int32) < c := by
  obtain ⟨⟨h1, h2⟩, h3⟩ := h
  rw [own_lt, own_lt]
  have e0 : (0 : Int32).toInt = 0 := rfl
  have e1 : (255 : Int32).toInt = 255 := rfl
  omega
theorem own_K0 (S : Int) : 48 ≤ own_K S := by
  unfold own_K; split <;> omega
theorem own_K9 (S : Int) : own_K S ≤ 57 := by
  unfold own_K; split <;> omega
theorem own_z0 {z : Int32} {S : Int} (h : z.toInt = own_K S) : ¬ z < (48 : Int32) := by
  have := own_K0 S
  rw [own_lt]
  have e0 : (48 : Int32).toInt = 48 := rfl
  omega
theorem own_z9 {z : Int32} {S : Int} (h : z.toInt = own_K S) (h0 : 0 ≤ S) : ¬ (57 : Int32) < z := by
  have := own_K9 S
  rw [own_lt]
  have e0 : (57 : Int32).toInt = 57 := rfl
  omega
theorem own_zs {z : Int32} {S : Int} (h : z.toInt = own_K S) : (z - (48 : Int32)).toInt = own_K S - 48 := by
  have h1 := own_K9 S
  have h2 := own_K0 S
  rw [own_sub (by omega) (by decide), h]
  rfl
theorem own_t0 {z q : Int32} {S : Int} (h : z.toInt = own_K S) (hs : q.toInt = S ∧ 0 ≤ S ∧ S ≤ 540) (hd : z - (48 : Int32) = (0 : Int32)) : q % (11 : Int32) < (2 : Int32) := by
  have h1 := own_zs h
  rw [own_eq, h1] at hd
  rw [own_lt, own_rem11 _ (by omega), hs.1]
  have e0 : (0 : Int32).toInt = 0 := rfl
  have e2 : (2 : Int32).toInt = 2 := rfl
  rw [e0] at hd
  rw [e2]
  unfold own_K at hd
  split at hd <;> omega
theorem own_t1 {z q : Int32} {S : Int} (h : z.toInt = own_K S) (hs : q.toInt = S ∧ 0 ≤ S ∧ S ≤ 540) (hd : ¬ z - (48 : Int32) = (0 : Int32)) : (q + (z - (48 : Int32))) % (11 : Int32) = (0 : Int32) := by
  have h1 := own_zs h
  have h2 := own_K9 S
  have h3 := own_K0 S
  rw [own_eq, h1] at hd
  have e0 : (0 : Int32).toInt = 0 := rfl
  have ha : (q + (z - (48 : Int32))).toInt = S + (own_K S - 48) := by rw [own_add (by omega) (by omega), h1, hs.1]
  rw [own_eq, own_rem11 _ (by omega), ha, e0]
  rw [e0] at hd
  unfold own_K at hd ⊢
  split <;> simp_all <;> omega
def Qdig (h0 : Heap) (v : Option Value) (h : Heap) (L : List Loc) : Prop := (∃ d : Int32, v = some (.int d) ∧ own_d9 d) ∧ L = [] ∧ h = h0
theorem pn_1 : plainName "com/example/lastro/lastro/core/CheckDigitsOfPinLaw" = true := by first | (simp [plainName, overriddenIn]; done) | decide +kernel
theorem d_rm_digit_0 : decode method_2_code 0 = .ok (.iload_n 0, 1) := by decide +kernel
theorem d_rm_digit_1 : decode method_2_code 1 = .ok (.iconst 4, 1) := by decide +kernel
theorem d_rm_digit_2 : decode method_2_code 2 = .ok (.iload_n 1, 1) := by decide +kernel
theorem d_rm_digit_3 : decode method_2_code 3 = .ok (.imul, 1) := by decide +kernel
theorem d_rm_digit_4 : decode method_2_code 4 = .ok (.iushr, 1) := by decide +kernel
theorem d_rm_digit_5 : decode method_2_code 5 = .ok (.bipush 15, 2) := by decide +kernel
theorem d_rm_digit_7 : decode method_2_code 7 = .ok (.iand, 1) := by decide +kernel
theorem d_rm_digit_8 : decode method_2_code 8 = .ok (.bipush 10, 2) := by decide +kernel
theorem d_rm_digit_10 : decode method_2_code 10 = .ok (.irem, 1) := by decide +kernel
theorem d_rm_digit_11 : decode method_2_code 11 = .ok (.ireturn, 1) := by decide +kernel
set_option maxRecDepth 65536 in
set_option maxHeartbeats 40000000 in
theorem rm_digit (l : Launch) (Z : State) (a0 : Array Value) (hw : ∀ d ∈ tables_1, d.before a0 Z = true) (ws : List Jvm.Cond) (q0 q1 : Int32) (h0 : Heap) (n0 : Nat) (Z0 : n0 ≤ h0.size)  :
    MetFree l (⟨"com/example/lastro/lastro/core/CheckDigitsOfPinLaw", "digit", "(II)I"⟩ : MethodName) (head1 (Jvm.Cond.code (⟨"com/example/lastro/lastro/core/CheckDigitsOfPinLaw", "digit", "(II)I"⟩ : MethodName) method_2_code 2 (some .int) :: ws) ({ frames := 0, cells := 0, slots := 0, locals := 0 } : Room)) (fun a U => a = #[(.int q0), (.int q1)] ∧ Z.Warmed39 U.vm ∧ U.heap = h0) (fun _ _ _ _ _ => True) (fun _ U o U' => ∃ v L, o = .returned v ∧ Qdig h0 v U'.heap L ∧ FrameEnd U o U' L ({ frames := 0, cells := 0, slots := 0, locals := 0 } : Room).cells ({ frames := 0, cells := 0, slots := 0, locals := 0 } : Room).slots) := by
  refine MetFree.of_bodySF (plainFor_of_name pn_1) hisR ?_
  intro p e s m args below meth c s₁ Bd hml0 hP hK
  obtain ⟨rfl, hZ, hh⟩ := hP
  have hx := Bd.exec
  have hby := Bd.bytes
  have hrt := Bd.returns
  have hlk : meth.locks = false := Bd.notSynchronized
  have hml : c.maxLocals = 2 := hml0
  have hown : s.vm.findClass "com/example/lastro/lastro/core/CheckDigitsOfPinLaw" = some m.cls := findClass_of_methodNamed Bd.named
  have hnm := (name_of_methodNamed Bd.named Bd.method).1
  have X0 : Stand p l e ({ frames := 0, cells := 0, slots := 0, locals := 0 } : Room) s m #[(.int q0), (.int q1)] below meth c s₁ [] 0 0 := Stand.of_body Bd
  have e0 : s₁.heap = h0 := by rw [← hh, Bd.state]; rfl
  have N0 := Fr.nil n0
  show own_G p.tables e below (fun o t => ∃ v L, o = .returned v ∧ Qdig h0 v t.heap L ∧ FrameEnd s o t L ({ frames := 0, cells := 0, slots := 0, locals := 0 } : Room).cells ({ frames := 0, cells := 0, slots := 0, locals := 0 } : Room).slots) (s₁.setTop (entryFrame m #[(.int q0), (.int q1)] 2))
  refine own_G.cast (show entryFrame m #[(.int q0), (.int q1)] 2 = mkF m 0 #[.val (.int q0), .val (.int q1)] [] from by first | (simp [entryFrame, mkF, argsToLocals, Value.category]; done) | rfl) ?_
  refine own_G.go (fun t k => XS.iloadN X0.here hx rfl (hb hby d_rm_digit_0) rfl k) ?_
  show own_G _ _ _ _ (s₁.setTop (mkF m 1 #[.val (.int q0), .val (.int q1)] [(.int q0)]))
  refine own_G.go (fun t k => XS.iconst X0.here hx rfl (hb hby d_rm_digit_1) k) ?_
  show own_G _ _ _ _ (s₁.setTop (mkF m 2 #[.val (.int q0), .val (.int q1)] [(.int (4 : Int32)), (.int q0)]))
  refine own_G.go (fun t k => XS.iloadN X0.here hx rfl (hb hby d_rm_digit_2) rfl k) ?_
  show own_G _ _ _ _ (s₁.setTop (mkF m 3 #[.val (.int q0), .val (.int q1)] [(.int q1), (.int (4 : Int32)), (.int q0)]))
  refine own_G.go (fun t k => XS.imul X0.here hx rfl (hb hby d_rm_digit_3) rfl k) ?_
  show own_G _ _ _ _ (s₁.setTop (mkF m 4 #[.val (.int q0), .val (.int q1)] [(.int ((4 : Int32) * q1)), (.int q0)]))
  refine own_G.go (fun t k => XS.iushr X0.here hx rfl (hb hby d_rm_digit_4) rfl k) ?_
  show own_G _ _ _ _ (s₁.setTop (mkF m 5 #[.val (.int q0), .val (.int q1)] [(.int (Jvm.Free.XT.ushr q0 ((4 : Int32) * q1)))]))
  refine own_G.go (fun t k => XS.bipush X0.here hx rfl (hb hby d_rm_digit_5) k) ?_
  show own_G _ _ _ _ (s₁.setTop (mkF m 7 #[.val (.int q0), .val (.int q1)] [(.int (15 : Int32)), (.int (Jvm.Free.XT.ushr q0 ((4 : Int32) * q1)))]))
  refine own_G.go (fun t k => XS.iand X0.here hx rfl (hb hby d_rm_digit_7) rfl k) ?_
  show own_G _ _ _ _ (s₁.setTop (mkF m 8 #[.val (.int q0), .val (.int q1)] [(.int ((Jvm.Free.XT.ushr q0 ((4 : Int32) * q1)) &&& (15 : Int32)))]))
  refine own_G.go (fun t k => XS.bipush X0.here hx rfl (hb hby d_rm_digit_8) k) ?_
  show own_G _ _ _ _ (s₁.setTop (mkF m 10 #[.val (.int q0), .val (.int q1)] [(.int (10 : Int32)), (.int ((Jvm.Free.XT.ushr q0 ((4 : Int32) * q1)) &&& (15 : Int32)))]))
  refine own_G.go (fun t k => iremM X0 hx rfl (hb hby d_rm_digit_10) rfl (by decide) k) ?_
  show own_G _ _ _ _ (s₁.setTop (mkF m 11 #[.val (.int q0), .val (.int q1)] [(.int (((Jvm.Free.XT.ushr q0 ((4 : Int32) * q1)) &&& (15 : Int32)) % (10 : Int32)))]))
  exact own_G.end_ X0 hlk (v := (some (.int (((Jvm.Free.XT.ushr q0 ((4 : Int32) * q1)) &&& (15 : Int32)) % (10 : Int32))))) (fun h => by rw [hrt] at h; cases h) (fun fs hr => retOut X0 hx hrt rfl (Or.inl ⟨rfl, Or.inl rfl, _, rfl⟩) (hb hby d_rm_digit_11) hr) e0 ⟨⟨_, rfl, own_dig _⟩, rfl, rfl⟩ (by decide) (by decide)
def Qof (S : Int) (h0 : Heap) (v : Option Value) (h : Heap) (L : List Loc) : Prop := (∃ z : Int32, v = some (.int z) ∧ z.toInt = own_K S) ∧ L = [] ∧ h = h0
theorem pn_2 : plainName "com/example/lastro/lastro/core/CheckDigits" = true := by first | (simp [plainName, overriddenIn]; done) | decide +kernel
theorem pd_1 : parseMethodDescriptor "(I)C" = some ⟨[.int], some .char⟩ := by decide +kernel
theorem d_rm_of_0 : decode prog_3_method_2_code 0 = .ok (.iconst 0, 1) := by decide +kernel
theorem d_rm_of_1 : decode prog_3_method_2_code 1 = .ok (.istore_n 2, 1) := by decide +kernel
theorem d_rm_of_2 : decode prog_3_method_2_code 2 = .ok (.iconst 0, 1) := by decide +kernel
theorem d_rm_of_3 : decode prog_3_method_2_code 3 = .ok (.istore_n 3, 1) := by decide +kernel
theorem d_rm_of_4 : decode prog_3_method_2_code 4 = .ok (.iload_n 3, 1) := by decide +kernel
theorem d_rm_of_5 : decode prog_3_method_2_code 5 = .ok (.aload_n 1, 1) := by decide +kernel
theorem d_rm_of_6 : decode prog_3_method_2_code 6 = .ok (.arraylength, 1) := by decide +kernel
theorem d_rm_of_7 : decode prog_3_method_2_code 7 = .ok (.if_icmp .ge 24, 3) := by decide +kernel
theorem d_rm_of_10 : decode prog_3_method_2_code 10 = .ok (.iload_n 2, 1) := by decide +kernel
theorem d_rm_of_11 : decode prog_3_method_2_code 11 = .ok (.aload_n 0, 1) := by decide +kernel
theorem d_rm_of_12 : decode prog_3_method_2_code 12 = .ok (.iload_n 3, 1) := by decide +kernel
theorem d_rm_of_13 : decode prog_3_method_2_code 13 = .ok (.invokevirtual 7, 3) := by decide +kernel
theorem d_rm_of_16 : decode prog_3_method_2_code 16 = .ok (.bipush 48, 2) := by decide +kernel
theorem d_rm_of_18 : decode prog_3_method_2_code 18 = .ok (.isub, 1) := by decide +kernel
theorem d_rm_of_19 : decode prog_3_method_2_code 19 = .ok (.aload_n 1, 1) := by decide +kernel
theorem d_rm_of_20 : decode prog_3_method_2_code 20 = .ok (.iload_n 3, 1) := by decide +kernel
theorem d_rm_of_21 : decode prog_3_method_2_code 21 = .ok (.iaload, 1) := by decide +kernel
theorem d_rm_of_22 : decode prog_3_method_2_code 22 = .ok (.imul, 1) := by decide +kernel
theorem d_rm_of_23 : decode prog_3_method_2_code 23 = .ok (.iadd, 1) := by decide +kernel
theorem d_rm_of_24 : decode prog_3_method_2_code 24 = .ok (.istore_n 2, 1) := by decide +kernel
theorem d_rm_of_25 : decode prog_3_method_2_code 25 = .ok (.iinc 3 1, 3) := by decide +kernel
theorem d_rm_of_28 : decode prog_3_method_2_code 28 = .ok (.goto (-24), 3) := by decide +kernel
theorem d_rm_of_31 : decode prog_3_method_2_code 31 = .ok (.iload_n 2, 1) := by decide +kernel
theorem d_rm_of_32 : decode prog_3_method_2_code 32 = .ok (.bipush 11, 2) := by decide +kernel
theorem d_rm_of_34 : decode prog_3_method_2_code 34 = .ok (.irem, 1) := by decide +kernel
theorem d_rm_of_35 : decode prog_3_method_2_code 35 = .ok (.istore_n 3, 1) := by decide +kernel
theorem d_rm_of_36 : decode prog_3_method_2_code 36 = .ok (.bipush 48, 2) := by decide +kernel
theorem d_rm_of_38 : decode prog_3_method_2_code 38 = .ok (.iload_n 3, 1) := by decide +kernel
theorem d_rm_of_39 : decode prog_3_method_2_code 39 = .ok (.iconst 2, 1) := by decide +kernel
theorem d_rm_of_40 : decode prog_3_method_2_code 40 = .ok (.if_icmp .ge 7, 3) := by decide +kernel
theorem d_rm_of_43 : decode prog_3_method_2_code 43 = .ok (.iconst 0, 1) := by decide +kernel
theorem d_rm_of_44 : decode prog_3_method_2_code 44 = .ok (.goto 7, 3) := by decide +kernel
theorem d_rm_of_47 : decode prog_3_method_2_code 47 = .ok (.bipush 11, 2) := by decide +kernel
theorem d_rm_of_49 : decode prog_3_method_2_code 49 = .ok (.iload_n 3, 1) := by decide +kernel
theorem d_rm_of_50 : decode prog_3_method_2_code 50 = .ok (.isub, 1) := by decide +kernel
theorem d_rm_of_51 : decode prog_3_method_2_code 51 = .ok (.iadd, 1) := by decide +kernel
theorem d_rm_of_52 : decode prog_3_method_2_code 52 = .ok (.i2c, 1) := by decide +kernel
theorem d_rm_of_53 : decode prog_3_method_2_code 53 = .ok (.ireturn, 1) := by decide +kernel
set_option maxRecDepth 65536 in
set_option maxHeartbeats 40000000 in
theorem rm_of (l : Launch) (Z : State) (a0 : Array Value) (hw : ∀ d ∈ tables_1, d.before a0 Z = true) (ws : List Jvm.Cond) (x t : Addr) (kb : ClassId) (b : Addr) (kw : ClassId) (c0 c1 c2 c3 c4 w0 w1 w2 w3 d0 d1 d2 d3 : Int32) (zc : Int32) (fm : Value) (h0 : Heap) (n0 : Nat) (Z0 : n0 ≤ h0.size) (E0 : Exa Z h0 x "java/lang/String") (V0 : Fld Z h0 x "java/lang/String" "value" "[B" (.ref t)) (C0 : Fld Z h0 x "java/lang/String" "coder" "B" (.int 0)) (K0 : Arv Z h0 t kb .byte (5 : Int32) ((([c0, c1, c2, c3, c4] : List Int32).map (fun c => c.toInt8.toInt32)).map Value.int) (.int 0)) (hp : ∀ c ∈ ([c0, c1, c2, c3, c4] : List Int32), ¬ c < 0 ∧ ¬ (255 : Int32) < c) (KW : Arv Z h0 b kw .int (4 : Int32) ([(.int w0), (.int w1), (.int w2), (.int w3)] : List Value) (.int (0 : Int32))) (hc0 : own_d9 d0 ∧ c0.toInt = 48 + d0.toInt) (hc1 : own_d9 d1 ∧ c1.toInt = 48 + d1.toInt) (hc2 : own_d9 d2 ∧ c2.toInt = 48 + d2.toInt) (hc3 : own_d9 d3 ∧ c3.toInt = 48 + d3.toInt) (b0 : own_B w0) (b1 : own_B w1) (b2 : own_B w2) (b3 : own_B w3) (O2 : Sta Z Z.heap "java/lang/String" "COMPACT_STRINGS" "Z" (.int zc)) (O4 : Sta Z Z.heap "jdk/internal/util/Preconditions" "SIOOBE_FORMATTER" "Ljava/util/function/BiFunction;" fm) (P5 : ¬ (zc = (0 : Int32))) (rfm : fm.isRef = true) (X00 : Old Z n0 h0) :
    MetFree l (⟨"com/example/lastro/lastro/core/CheckDigits", "of", "(Ljava/lang/String;[I)C"⟩ : MethodName) (head1 (Jvm.Cond.code (⟨"com/example/lastro/lastro/core/CheckDigits", "of", "(Ljava/lang/String;[I)C"⟩ : MethodName) prog_3_method_2_code 4 (some .char) :: ws) ({ frames := 4, cells := 0, slots := 0, locals := 54 } : Room)) (fun a U => a = #[(.ref x), (.ref b)] ∧ Z.Warmed39 U.vm ∧ U.heap = h0) (fun _ _ _ _ _ => True) (fun _ U o U' => ∃ v L, o = .returned v ∧ Qof (own_S d0.toInt d1.toInt d2.toInt d3.toInt w0 w1 w2 w3) h0 v U'.heap L ∧ FrameEnd U o U' L ({ frames := 4, cells := 0, slots := 0, locals := 54 } : Room).cells ({ frames := 4, cells := 0, slots := 0, locals := 54 } : Room).slots) := by
  refine MetFree.of_bodySF (plainFor_of_name pn_2) hisR ?_
  intro p e s m args below meth c s₁ Bd hml0 hP hK
  obtain ⟨rfl, hZ, hh⟩ := hP
  have hx := Bd.exec
  have hby := Bd.bytes
  have hrt := Bd.returns
  have hlk : meth.locks = false := Bd.notSynchronized
  have hml : c.maxLocals = 4 := hml0
  have hown : s.vm.findClass "com/example/lastro/lastro/core/CheckDigits" = some m.cls := findClass_of_methodNamed Bd.named
  have hnm := (name_of_methodNamed Bd.named Bd.method).1
  have X0 : Stand p l e ({ frames := 4, cells := 0, slots := 0, locals := 54 } : Room) s m #[(.ref x), (.ref b)] below meth c s₁ [] 0 0 := Stand.of_body Bd
  have e0 : s₁.heap = h0 := by rw [← hh, Bd.state]; rfl
  have N0 := Fr.nil n0
  show own_G p.tables e below (fun o t => ∃ v L, o = .returned v ∧ Qof (own_S d0.toInt d1.toInt d2.toInt d3.toInt w0 w1 w2 w3) h0 v t.heap L ∧ FrameEnd s o t L ({ frames := 4, cells := 0, slots := 0, locals := 54 } : Room).cells ({ frames := 4, cells := 0, slots := 0, locals := 54 } : Room).slots) (s₁.setTop (entryFrame m #[(.ref x), (.ref b)] 4))
  refine own_G.cast (show entryFrame m #[(.ref x), (.ref b)] 4 = mkF m 0 #[.val (.ref x), .val (.ref b), .unset, .unset] [] from by first | (simp [entryFrame, mkF, argsToLocals, Value.category]; done) | rfl) ?_
  have hch : ∀ d ∈ StrChars.Road.wordsChN, d.before a0 Z = true := fun d hd => hw d ((by decide +kernel : ∀ d ∈ StrChars.Road.wordsChN, d ∈ tables_1) d hd)
  have hcd := StrChars.Road.codOf (cs := ([c0, c1, c2, c3, c4] : List Int32)) (n := 5) rfl (fun c hc => (hp c hc).2)
  have hbd := own_up _ hp
  refine own_G.go (fun t k => XS.iconst X0.here hx rfl (hb hby d_rm_of_0) k) ?_
  show own_G _ _ _ _ (s₁.setTop (mkF m 1 #[.val (.ref x), .val (.ref b), .unset, .unset] [(.int (0 : Int32))]))
  refine own_G.go (fun t k => XS.istoreN X0.here hx rfl (hb hby d_rm_of_1) rfl (l' := #[.val (.ref x), .val (.ref b), .val (.int (0 : Int32)), .unset]) rfl k) ?_
  show own_G _ _ _ _ (s₁.setTop (mkF m 2 #[.val (.ref x), .val (.ref b), .val (.int (0 : Int32)), .unset] []))
  refine own_G.go (fun t k => XS.iconst X0.here hx rfl (hb hby d_rm_of_2) k) ?_
  show own_G _ _ _ _ (s₁.setTop (mkF m 3 #[.val (.ref x), .val (.ref b), .val (.int (0 : Int32)), .unset] [(.int (0 : Int32))]))
  refine own_G.go (fun t k => XS.istoreN X0.here hx rfl (hb hby d_rm_of_3) rfl (l' := #[.val (.ref x), .val (.ref b), .val (.int (0 : Int32)), .val (.int (0 : Int32))]) rfl k) ?_
  show own_G _ _ _ _ (s₁.setTop (mkF m 4 #[.val (.ref x), .val (.ref b), .val (.int (0 : Int32)), .val (.int (0 : Int32))] []))
  refine own_G.go (fun t k => XS.iloadN X0.here hx rfl (hb hby d_rm_of_4) rfl k) ?_
  show own_G _ _ _ _ (s₁.setTop (mkF m 5 #[.val (.ref x), .val (.ref b), .val (.int (0 : Int32)), .val (.int (0 : Int32))] [(.int (0 : Int32))]))
  refine own_G.go (fun t k => XS.aloadN X0.here hx rfl (hb hby d_rm_of_5) rfl rfl k) ?_
  show own_G _ _ _ _ (s₁.setTop (mkF m 6 #[.val (.ref x), .val (.ref b), .val (.int (0 : Int32)), .val (.int (0 : Int32))] [(.ref b), (.int (0 : Int32))]))
  obtain ⟨cel_1, A_1, -, S_1, M_1, -, -⟩ := id KW
  refine own_G.go (X0.arraylength hx (by rw [e0]; exact A_1.1) (State.isArrayOf_alike hZ.alike A_1.2.1) (g := (mkF m 6 #[.val (.ref x), .val (.ref b), .val (.int (0 : Int32)), .val (.int (0 : Int32))] [(.ref b), (.int (0 : Int32))])) rfl rfl (hb hby d_rm_of_6)) ?_
  rw [len_of S_1 M_1]
  show own_G _ _ _ _ (s₁.setTop (mkF m 7 #[.val (.ref x), .val (.ref b), .val (.int (0 : Int32)), .val (.int (0 : Int32))] [(.int (4 : Int32)), (.int (0 : Int32))]))
  refine own_G.go (fun t k => XS.icmpNo X0.here hx rfl (hb hby d_rm_of_7) rfl (tlt (by decide : (0 : Int32) < (4 : Int32))).2.1 k) ?_
  show own_G _ _ _ _ (s₁.setTop (mkF m 10 #[.val (.ref x), .val (.ref b), .val (.int (0 : Int32)), .val (.int (0 : Int32))] []))
  refine own_G.go (fun t k => XS.iloadN X0.here hx rfl (hb hby d_rm_of_10) rfl k) ?_
  show own_G _ _ _ _ (s₁.setTop (mkF m 11 #[.val (.ref x), .val (.ref b), .val (.int (0 : Int32)), .val (.int (0 : Int32))] [(.int (0 : Int32))]))
  refine own_G.go (fun t k => XS.aloadN X0.here hx rfl (hb hby d_rm_of_11) rfl rfl k) ?_
  show own_G _ _ _ _ (s₁.setTop (mkF m 12 #[.val (.ref x), .val (.ref b), .val (.int (0 : Int32)), .val (.int (0 : Int32))] [(.ref x), (.int (0 : Int32))]))
  refine own_G.go (fun t k => XS.iloadN X0.here hx rfl (hb hby d_rm_of_12) rfl k) ?_
  show own_G _ _ _ _ (s₁.setTop (mkF m 13 #[.val (.ref x), .val (.ref b), .val (.int (0 : Int32)), .val (.int (0 : Int32))] [(.int (0 : Int32)), (.ref x), (.int (0 : Int32))]))
  obtain ⟨cq_2, kq_2, q_2a, q_2b, q_2c⟩ := isOf hZ e0 E0
  obtain ⟨_, T_2, L_2, Q_2, X_2, st_2⟩ := own_callV X0 hx (z := (⟨"java/lang/String", "charAt", "(I)C"⟩ : MethodName)) hown (mvT hZ (own_w hw 39 rfl)) (mvT hZ (own_w hw 40 rfl)) (notFace_of_selects (args := #[]) (mvT hZ (own_w hw 42 rfl))) (mvT hZ (own_w hw 42 rfl)) (mvT hZ (own_w hw 41 rfl)) (by decide) (Q := (fun v h' L => v = some (.int (([c0, c1, c2, c3, c4] : List Int32).getD 0 0)) ∧ L = [] ∧ h' = h0)) (StrChars.Road.chN (W := 1) hZ hch (kI := 4) (own_w hw 6 rfl) E0 V0 C0 K0 hcd hbd (O2.ext X00.2) P5 (O4.ext X00.2) rfm (Nat.le_of_ble_eq_true rfl) (i := 0) (Nat.le_of_ble_eq_true rfl) (j := (0 : Int32)) rfl (by decide) (by decide)) q_2a q_2c (g := (mkF m 13 #[.val (.ref x), .val (.ref b), .val (.int (0 : Int32)), .val (.int (0 : Int32))] [(.int (0 : Int32)), (.ref x), (.int (0 : Int32))])) rfl (by rw [hml]; rfl) (argsL := [(.int (0 : Int32))]) (rest := [(.int (0 : Int32))]) (lenOf pd_1 rfl) rfl (by show 2 * 0 + _ ≤ _; exact Nat.le_of_eq rfl) (hb hby d_rm_of_13) e0 rfl (by decide) (by decide)
  obtain ⟨rfl, rfl, eh_2⟩ := Q_2
  refine own_G.via st_2 ?_
  have N_2 := Fr.app N0 (Fr.nil n0)
  show own_G _ _ _ _ (T_2.setTop (mkF m 16 #[.val (.ref x), .val (.ref b), .val (.int (0 : Int32)), .val (.int (0 : Int32))] [(.int c0), (.int (0 : Int32))]))
  refine own_G.go (fun t k => XS.bipush X_2.here hx rfl (hb hby d_rm_of_16) k) ?_
  show own_G _ _ _ _ (T_2.setTop (mkF m 18 #[.val (.ref x), .val (.ref b), .val (.int (0 : Int32)), .val (.int (0 : Int32))] [(.int (48 : Int32)), (.int c0), (.int (0 : Int32))]))
  refine own_G.go (fun t k => XS.isub X_2.here hx rfl (hb hby d_rm_of_18) rfl k) ?_
  show own_G _ _ _ _ (T_2.setTop (mkF m 19 #[.val (.ref x), .val (.ref b), .val (.int (0 : Int32)), .val (.int (0 : Int32))] [(.int (c0 - (48 : Int32))), (.int (0 : Int32))]))
  refine own_G.go (fun t k => XS.aloadN X_2.here hx rfl (hb hby d_rm_of_19) rfl rfl k) ?_
  show own_G _ _ _ _ (T_2.setTop (mkF m 20 #[.val (.ref x), .val (.ref b), .val (.int (0 : Int32)), .val (.int (0 : Int32))] [(.ref b), (.int (c0 - (48 : Int32))), (.int (0 : Int32))]))
  refine own_G.go (fun t k => XS.iloadN X_2.here hx rfl (hb hby d_rm_of_20) rfl k) ?_
  show own_G _ _ _ _ (T_2.setTop (mkF m 21 #[.val (.ref x), .val (.ref b), .val (.int (0 : Int32)), .val (.int (0 : Int32))] [(.int (0 : Int32)), (.ref b), (.int (c0 - (48 : Int32))), (.int (0 : Int32))]))
  obtain ⟨cel_3, A_3, -, S_3, M_3, H_3, -⟩ := id KW
  have I_3 : ¬ ((0 : Int32) < 0 ∨ cel_3.slots.size ≤ ((0 : Int32)).toNatClampNeg) := inb_of S_3 ⟨(by decide), (by decide : (0 : Int32) < (4 : Int32))⟩
  refine own_G.go (X_2.iaload hx (j := (0 : Int32)) (v := (.int w0)) (by rw [eh_2]; exact A_3.1) (State.isArrayOf_alike hZ.alike A_3.2.1) A_3.2.2 I_3 (H_3.at I_3 rfl) (g := (mkF m 21 #[.val (.ref x), .val (.ref b), .val (.int (0 : Int32)), .val (.int (0 : Int32))] [(.int (0 : Int32)), (.ref b), (.int (c0 - (48 : Int32))), (.int (0 : Int32))])) rfl rfl (hb hby d_rm_of_21)) ?_
  show own_G _ _ _ _ (T_2.setTop (mkF m 22 #[.val (.ref x), .val (.ref b), .val (.int (0 : Int32)), .val (.int (0 : Int32))] [(.int w0), (.int (c0 - (48 : Int32))), (.int (0 : Int32))]))
  refine own_G.go (fun t k => XS.imul X_2.here hx rfl (hb hby d_rm_of_22) rfl k) ?_
  show own_G _ _ _ _ (T_2.setTop (mkF m 23 #[.val (.ref x), .val (.ref b), .val (.int (0 : Int32)), .val (.int (0 : Int32))] [(.int ((c0 - (48 : Int32)) * w0)), (.int (0 : Int32))]))
  refine own_G.go (fun t k => XS.iadd X_2.here hx rfl (hb hby d_rm_of_23) rfl k) ?_
  show own_G _ _ _ _ (T_2.setTop (mkF m 24 #[.val (.ref x), .val (.ref b), .val (.int (0 : Int32)), .val (.int (0 : Int32))] [(.int ((0 : Int32) + ((c0 - (48 : Int32)) * w0)))]))
  refine own_G.go (fun t k => XS.istoreN X_2.here hx rfl (hb hby d_rm_of_24) rfl (l' := #[.val (.ref x), .val (.ref b), .val (.int ((0 : Int32) + ((c0 - (48 : Int32)) * w0))), .val (.int (0 : Int32))]) rfl k) ?_
  show own_G _ _ _ _ (T_2.setTop (mkF m 25 #[.val (.ref x), .val (.ref b), .val (.int ((0 : Int32) + ((c0 - (48 : Int32)) * w0))), .val (.int (0 : Int32))] []))
  refine own_G.go (fun t k => XS.iinc X_2.here hx rfl (hb hby d_rm_of_25) rfl (l' := #[.val (.ref x), .val (.ref b), .val (.int ((0 : Int32) + ((c0 - (48 : Int32)) * w0))), .val (.int (1 : Int32))]) rfl k) ?_
  show own_G _ _ _ _ (T_2.setTop (mkF m 28 #[.val (.ref x), .val (.ref b), .val (.int ((0 : Int32) + ((c0 - (48 : Int32)) * w0))), .val (.int (1 : Int32))] []))
  refine own_G.go (fun t k => XS.goto X_2.here hx rfl (pc0 := 28) (pc' := 4) rfl (hb hby d_rm_of_28) (by decide) (by decide) k) ?_
  show own_G _ _ _ _ (T_2.setTop (mkF m 4 #[.val (.ref x), .val (.ref b), .val (.int ((0 : Int32) + ((c0 - (48 : Int32)) * w0))), .val (.int (1 : Int32))] []))
  refine own_G.go (fun t k => XS.iloadN X_2.here hx rfl (hb hby d_rm_of_4) rfl k) ?_
  show own_G _ _ _ _ (T_2.setTop (mkF m 5 #[.val (.ref x), .val (.ref b), .val (.int ((0 : Int32) + ((c0 - (48 : Int32)) * w0))), .val (.int (1 : Int32))] [(.int (1 : Int32))]))
  refine own_G.go (fun t k => XS.aloadN X_2.here hx rfl (hb hby d_rm_of_5) rfl rfl k) ?_
  show own_G _ _ _ _ (T_2.setTop (mkF m 6 #[.val (.ref x), .val (.ref b), .val (.int ((0 : Int32) + ((c0 - (48 : Int32)) * w0))), .val (.int (1 : Int32))] [(.ref b), (.int (1 : Int32))]))
  obtain ⟨cel_4, A_4, -, S_4, M_4, -, -⟩ := id KW
  refine own_G.go (X_2.arraylength hx (by rw [eh_2]; exact A_4.1) (State.isArrayOf_alike hZ.alike A_4.2.1) (g := (mkF m 6 #[.val (.ref x), .val (.ref b), .val (.int ((0 : Int32) + ((c0 - (48 : Int32)) * w0))), .val (.int (1 : Int32))] [(.ref b), (.int (1 : Int32))])) rfl rfl (hb hby d_rm_of_6)) ?_
  rw [len_of S_4 M_4]
  show own_G _ _ _ _ (T_2.setTop (mkF m 7 #[.val (.ref x), .val (.ref b), .val (.int ((0 : Int32) + ((c0 - (48 : Int32)) * w0))), .val (.int (1 : Int32))] [(.int (4 : Int32)), (.int (1 : Int32))]))
  refine own_G.go (fun t k => XS.icmpNo X_2.here hx rfl (hb hby d_rm_of_7) rfl (tlt (by decide : (1 : Int32) < (4 : Int32))).2.1 k) ?_
  show own_G _ _ _ _ (T_2.setTop (mkF m 10 #[.val (.ref x), .val (.ref b), .val (.int ((0 : Int32) + ((c0 - (48 : Int32)) * w0))), .val (.int (1 : Int32))] []))
  refine own_G.go (fun t k => XS.iloadN X_2.here hx rfl (hb hby d_rm_of_10) rfl k) ?_
  show own_G _ _ _ _ (T_2.setTop (mkF m 11 #[.val (.ref x), .val (.ref b), .val (.int ((0 : Int32) + ((c0 - (48 : Int32)) * w0))), .val (.int (1 : Int32))] [(.int ((0 : Int32) + ((c0 - (48 : Int32)) * w0)))]))
  refine own_G.go (fun t k => XS.aloadN X_2.here hx rfl (hb hby d_rm_of_11) rfl rfl k) ?_
  show own_G _ _ _ _ (T_2.setTop (mkF m 12 #[.val (.ref x), .val (.ref b), .val (.int ((0 : Int32) + ((c0 - (48 : Int32)) * w0))), .val (.int (1 : Int32))] [(.ref x), (.int ((0 : Int32) + ((c0 - (48 : Int32)) * w0)))]))
  refine own_G.go (fun t k => XS.iloadN X_2.here hx rfl (hb hby d_rm_of_12) rfl k) ?_
  show own_G _ _ _ _ (T_2.setTop (mkF m 13 #[.val (.ref x), .val (.ref b), .val (.int ((0 : Int32) + ((c0 - (48 : Int32)) * w0))), .val (.int (1 : Int32))] [(.int (1 : Int32)), (.ref x), (.int ((0 : Int32) + ((c0 - (48 : Int32)) * w0)))]))
  obtain ⟨cq_5, kq_5, q_5a, q_5b, q_5c⟩ := isOf hZ eh_2 E0
  obtain ⟨_, T_5, L_5, Q_5, X_5, st_5⟩ := own_callV X_2 hx (z := (⟨"java/lang/String", "charAt", "(I)C"⟩ : MethodName)) hown (mvT hZ (own_w hw 39 rfl)) (mvT hZ (own_w hw 40 rfl)) (notFace_of_selects (args := #[]) (mvT hZ (own_w hw 42 rfl))) (mvT hZ (own_w hw 42 rfl)) (mvT hZ (own_w hw 41 rfl)) (by decide) (Q := (fun v h' L => v = some (.int (([c0, c1, c2, c3, c4] : List Int32).getD 1 0)) ∧ L = [] ∧ h' = h0)) (StrChars.Road.chN (W := 1) hZ hch (kI := 4) (own_w hw 6 rfl) E0 V0 C0 K0 hcd hbd (O2.ext X00.2) P5 (O4.ext X00.2) rfm (Nat.le_of_ble_eq_true rfl) (i := 1) (Nat.le_of_ble_eq_true rfl) (j := (1 : Int32)) rfl (by decide) (by decide)) q_5a q_5c (g := (mkF m 13 #[.val (.ref x), .val (.ref b), .val (.int ((0 : Int32) + ((c0 - (48 : Int32)) * w0))), .val (.int (1 : Int32))] [(.int (1 : Int32)), (.ref x), (.int ((0 : Int32) + ((c0 - (48 : Int32)) * w0)))])) rfl (by rw [hml]; rfl) (argsL := [(.int (1 : Int32))]) (rest := [(.int ((0 : Int32) + ((c0 - (48 : Int32)) * w0)))]) (lenOf pd_1 rfl) rfl (by show 2 * 0 + _ ≤ _; exact Nat.le_of_eq rfl) (hb hby d_rm_of_13) eh_2 rfl (by decide) (by decide)
  obtain ⟨rfl, rfl, eh_5⟩ := Q_5
  refine own_G.via st_5 ?_
  have N_5 := Fr.app N_2 (Fr.nil n0)
  show own_G _ _ _ _ (T_5.setTop (mkF m 16 #[.val (.ref x), .val (.ref b), .val (.int ((0 : Int32) + ((c0 - (48 : Int32)) * w0))), .val (.int (1 : Int32))] [(.int c1), (.int ((0 : Int32) + ((c0 - (48 : Int32)) * w0)))]))
  refine own_G.go (fun t k => XS.bipush X_5.here hx rfl (hb hby d_rm_of_16) k) ?_
  show own_G _ _ _ _ (T_5.setTop (mkF m 18 #[.val (.ref x), .val (.ref b), .val (.int ((0 : Int32) + ((c0 - (48 : Int32)) * w0))), .val (.int (1 : Int32))] [(.int (48 : Int32)), (.int c1), (.int ((0 : Int32) + ((c0 - (48 : Int32)) * w0)))]))
  refine own_G.go (fun t k => XS.isub X_5.here hx rfl (hb hby d_rm_of_18) rfl k) ?_
  show own_G _ _ _ _ (T_5.setTop (mkF m 19 #[.val (.ref x), .val (.ref b), .val (.int ((0 : Int32) + ((c0 - (48 : Int32)) * w0))), .val (.int (1 : Int32))] [(.int (c1 - (48 : Int32))), (.int ((0 : Int32) + ((c0 - (48 : Int32)) * w0)))]))
  refine own_G.go (fun t k => XS.aloadN X_5.here hx rfl (hb hby d_rm_of_19) rfl rfl k) ?_
  show own_G _ _ _ _ (T_5.setTop (mkF m 20 #[.val (.ref x), .val (.ref b), .val (.int ((0 : Int32) + ((c0 - (48 : Int32)) * w0))), .val (.int (1 : Int32))] [(.ref b), (.int (c1 - (48 : Int32))), (.int ((0 : Int32) + ((c0 - (48 : Int32)) * w0)))]))
  refine own_G.go (fun t k => XS.iloadN X_5.here hx rfl (hb hby d_rm_of_20) rfl k) ?_
  show own_G _ _ _ _ (T_5.setTop (mkF m 21 #[.val (.ref x), .val (.ref b), .val (.int ((0 : Int32) + ((c0 - (48 : Int32)) * w0))), .val (.int (1 : Int32))] [(.int (1 : Int32)), (.ref b), (.int (c1 - (48 : Int32))), (.int ((0 : Int32) + ((c0 - (48 : Int32)) * w0)))]))
  obtain ⟨cel_6, A_6, -, S_6, M_6, H_6, -⟩ := id KW
  have I_6 : ¬ ((1 : Int32) < 0 ∨ cel_6.slots.size ≤ ((1 : Int32)).toNatClampNeg) := inb_of S_6 ⟨(by decide), (by decide : (1 : Int32) < (4 : Int32))⟩
  refine own_G.go (X_5.iaload hx (j := (1 : Int32)) (v := (.int w1)) (by rw [eh_5]; exact A_6.1) (State.isArrayOf_alike hZ.alike A_6.2.1) A_6.2.2 I_6 (H_6.at I_6 rfl) (g := (mkF m 21 #[.val (.ref x), .val (.ref b), .val (.int ((0 : Int32) + ((c0 - (48 : Int32)) * w0))), .val (.int (1 : Int32))] [(.int (1 : Int32)), (.ref b), (.int (c1 - (48 : Int32))), (.int ((0 : Int32) + ((c0 - (48 : Int32)) * w0)))])) rfl rfl (hb hby d_rm_of_21)) ?_
  show own_G _ _ _ _ (T_5.setTop (mkF m 22 #[.val (.ref x), .val (.ref b), .val (.int ((0 : Int32) + ((c0 - (48 : Int32)) * w0))), .val (.int (1 : Int32))] [(.int w1), (.int (c1 - (48 : Int32))), (.int ((0 : Int32) + ((c0 - (48 : Int32)) * w0)))]))
  refine own_G.go (fun t k => XS.imul X_5.here hx rfl (hb hby d_rm_of_22) rfl k) ?_
  show own_G _ _ _ _ (T_5.setTop (mkF m 23 #[.val (.ref x), .val (.ref b), .val (.int ((0 : Int32) + ((c0 - (48 : Int32)) * w0))), .val (.int (1 : Int32))] [(.int ((c1 - (48 : Int32)) * w1)), (.int ((0 : Int32) + ((c0 - (48 : Int32)) * w0)))]))
  refine own_G.go (fun t k => XS.iadd X_5.here hx rfl (hb hby d_rm_of_23) rfl k) ?_
  show own_G _ _ _ _ (T_5.setTop (mkF m 24 #[.val (.ref x), .val (.ref b), .val (.int ((0 : Int32) + ((c0 - (48 : Int32)) * w0))), .val (.int (1 : Int32))] [(.int (((0 : Int32) + ((c0 - (48 : Int32)) * w0)) + ((c1 - (48 : Int32)) * w1)))]))
  refine own_G.go (fun t k => XS.istoreN X_5.here hx rfl (hb hby d_rm_of_24) rfl (l' := #[.val (.ref x), .val (.ref b), .val (.int (((0 : Int32) + ((c0 - (48 : Int32)) * w0)) + ((c1 - (48 : Int32)) * w1))), .val (.int (1 : Int32))]) rfl k) ?_
  show own_G _ _ _ _ (T_5.setTop (mkF m 25 #[.val (.ref x), .val (.ref b), .val (.int (((0 : Int32) + ((c0 - (48 : Int32)) * w0)) + ((c1 - (48 : Int32)) * w1))), .val (.int (1 : Int32))] []))
  refine own_G.go (fun t k => XS.iinc X_5.here hx rfl (hb hby d_rm_of_25) rfl (l' := #[.val (.ref x), .val (.ref b), .val (.int (((0 : Int32) + ((c0 - (48 : Int32)) * w0)) + ((c1 - (48 : Int32)) * w1))), .val (.int (2 : Int32))]) rfl k) ?_
  show own_G _ _ _ _ (T_5.setTop (mkF m 28 #[.val (.ref x), .val (.ref b), .val (.int (((0 : Int32) + ((c0 - (48 : Int32)) * w0)) + ((c1 - (48 : Int32)) * w1))), .val (.int (2 : Int32))] []))
  refine own_G.go (fun t k => XS.goto X_5.here hx rfl (pc0 := 28) (pc' := 4) rfl (hb hby d_rm_of_28) (by decide) (by decide) k) ?_
  show own_G _ _ _ _ (T_5.setTop (mkF m 4 #[.val (.ref x), .val (.ref b), .val (.int (((0 : Int32) + ((c0 - (48 : Int32)) * w0)) + ((c1 - (48 : Int32)) * w1))), .val (.int (2 : Int32))] []))
  refine own_G.go (fun t k => XS.iloadN X_5.here hx rfl (hb hby d_rm_of_4) rfl k) ?_
  show own_G _ _ _ _ (T_5.setTop (mkF m 5 #[.val (.ref x), .val (.ref b), .val (.int (((0 : Int32) + ((c0 - (48 : Int32)) * w0)) + ((c1 - (48 : Int32)) * w1))), .val (.int (2 : Int32))] [(.int (2 : Int32))]))
  refine own_G.go (fun t k => XS.aloadN X_5.here hx rfl (hb hby d_rm_of_5) rfl rfl k) ?_
  show own_G _ _ _ _ (T_5.setTop (mkF m 6 #[.val (.ref x), .val (.ref b), .val (.int (((0 : Int32) + ((c0 - (48 : Int32)) * w0)) + ((c1 - (48 : Int32)) * w1))), .val (.int (2 : Int32))] [(.ref b), (.int (2 : Int32))]))
  obtain ⟨cel_7, A_7, -, S_7, M_7, -, -⟩ := id KW
  refine own_G.go (X_5.arraylength hx (by rw [eh_5]; exact A_7.1) (State.isArrayOf_alike hZ.alike A_7.2.1) (g := (mkF m 6 #[.val (.ref x), .val (.ref b), .val (.int (((0 : Int32) + ((c0 - (48 : Int32)) * w0)) + ((c1 - (48 : Int32)) * w1))), .val (.int (2 : Int32))] [(.ref b), (.int (2 : Int32))])) rfl rfl (hb hby d_rm_of_6)) ?_
  rw [len_of S_7 M_7]
  show own_G _ _ _ _ (T_5.setTop (mkF m 7 #[.val (.ref x), .val (.ref b), .val (.int (((0 : Int32) + ((c0 - (48 : Int32)) * w0)) + ((c1 - (48 : Int32)) * w1))), .val (.int (2 : Int32))] [(.int (4 : Int32)), (.int (2 : Int32))]))
  refine own_G.go (fun t k => XS.icmpNo X_5.here hx rfl (hb hby d_rm_of_7) rfl (tlt (by decide : (2 : Int32) < (4 : Int32))).2.1 k) ?_
  show own_G _ _ _ _ (T_5.setTop (mkF m 10 #[.val (.ref x), .val (.ref b), .val (.int (((0 : Int32) + ((c0 - (48 : Int32)) * w0)) + ((c1 - (48 : Int32)) * w1))), .val (.int (2 : Int32))] []))
  refine own_G.go (fun t k => XS.iloadN X_5.here hx rfl (hb hby d_rm_of_10) rfl k) ?_
  show own_G _ _ _ _ (T_5.setTop (mkF m 11 #[.val (.ref x), .val (.ref b), .val (.int (((0 : Int32) + ((c0 - (48 : Int32)) * w0)) + ((c1 - (48 : Int32)) * w1))), .val (.int (2 : Int32))] [(.int (((0 : Int32) + ((c0 - (48 : Int32)) * w0)) + ((c1 - (48 : Int32)) * w1)))]))
  refine own_G.go (fun t k => XS.aloadN X_5.here hx rfl (hb hby d_rm_of_11) rfl rfl k) ?_
  show own_G _ _ _ _ (T_5.setTop (mkF m 12 #[.val (.ref x), .val (.ref b), .val (.int (((0 : Int32) + ((c0 - (48 : Int32)) * w0)) + ((c1 - (48 : Int32)) * w1))), .val (.int (2 : Int32))] [(.ref x), (.int (((0 : Int32) + ((c0 - (48 : Int32)) * w0)) + ((c1 - (48 : Int32)) * w1)))]))
  refine own_G.go (fun t k => XS.iloadN X_5.here hx rfl (hb hby d_rm_of_12) rfl k) ?_
  show own_G _ _ _ _ (T_5.setTop (mkF m 13 #[.val (.ref x), .val (.ref b), .val (.int (((0 : Int32) + ((c0 - (48 : Int32)) * w0)) + ((c1 - (48 : Int32)) * w1))), .val (.int (2 : Int32))] [(.int (2 : Int32)), (.ref x), (.int (((0 : Int32) + ((c0 - (48 : Int32)) * w0)) + ((c1 - (48 : Int32)) * w1)))]))
  obtain ⟨cq_8, kq_8, q_8a, q_8b, q_8c⟩ := isOf hZ eh_5 E0
  obtain ⟨_, T_8, L_8, Q_8, X_8, st_8⟩ := own_callV X_5 hx (z := (⟨"java/lang/String", "charAt", "(I)C"⟩ : MethodName)) hown (mvT hZ (own_w hw 39 rfl)) (mvT hZ (own_w hw 40 rfl)) (notFace_of_selects (args := #[]) (mvT hZ (own_w hw 42 rfl))) (mvT hZ (own_w hw 42 rfl)) (mvT hZ (own_w hw 41 rfl)) (by decide) (Q := (fun v h' L => v = some (.int (([c0, c1, c2, c3, c4] : List Int32).getD 2 0)) ∧ L = [] ∧ h' = h0)) (StrChars.Road.chN (W := 1) hZ hch (kI := 4) (own_w hw 6 rfl) E0 V0 C0 K0 hcd hbd (O2.ext X00.2) P5 (O4.ext X00.2) rfm (Nat.le_of_ble_eq_true rfl) (i := 2) (Nat.le_of_ble_eq_true rfl) (j := (2 : Int32)) rfl (by decide) (by decide)) q_8a q_8c (g := (mkF m 13 #[.val (.ref x), .val (.ref b), .val (.int (((0 : Int32) + ((c0 - (48 : Int32)) * w0)) + ((c1 - (48 : Int32)) * w1))), .val (.int (2 : Int32))] [(.int (2 : Int32)), (.ref x), (.int (((0 : Int32) + ((c0 - (48 : Int32)) * w0)) + ((c1 - (48 : Int32)) * w1)))])) rfl (by rw [hml]; rfl) (argsL := [(.int (2 : Int32))]) (rest := [(.int (((0 : Int32) + ((c0 - (48 : Int32)) * w0)) + ((c1 - (48 : Int32)) * w1)))]) (lenOf pd_1 rfl) rfl (by show 2 * 0 + _ ≤ _; exact Nat.le_of_eq rfl) (hb hby d_rm_of_13) eh_5 rfl (by decide) (by decide)
  obtain ⟨rfl, rfl, eh_8⟩ := Q_8
  refine own_G.via st_8 ?_
  have N_8 := Fr.app N_5 (Fr.nil n0)
  show own_G _ _ _ _ (T_8.setTop (mkF m 16 #[.val (.ref x), .val (.ref b), .val (.int (((0 : Int32) + ((c0 - (48 : Int32)) * w0)) + ((c1 - (48 : Int32)) * w1))), .val (.int (2 : Int32))] [(.int c2), (.int (((0 : Int32) + ((c0 - (48 : Int32)) * w0)) + ((c1 - (48 : Int32)) * w1)))]))
  refine own_G.go (fun t k => XS.bipush X_8.here hx rfl (hb hby d_rm_of_16) k) ?_
  show own_G _ _ _ _ (T_8.setTop (mkF m 18 #[.val (.ref x), .val (.ref b), .val (.int (((0 : Int32) + ((c0 - (48 : Int32)) * w0)) + ((c1 - (48 : Int32)) * w1))), .val (.int (2 : Int32))] [(.int (48 : Int32)), (.int c2), (.int (((0 : Int32) + ((c0 - (48 : Int32)) * w0)) + ((c1 - (48 : Int32)) * w1)))]))
  refine own_G.go (fun t k => XS.isub X_8.here hx rfl (hb hby d_rm_of_18) rfl k) ?_
  show own_G _ _ _ _ (T_8.setTop (mkF m 19 #[.val (.ref x), .val (.ref b), .val (.int (((0 : Int32) + ((c0 - (48 : Int32)) * w0)) + ((c1 - (48 : Int32)) * w1))), .val (.int (2 : Int32))] [(.int (c2 - (48 : Int32))), (.int (((0 : Int32) + ((c0 - (48 : Int32)) * w0)) + ((c1 - (48 : Int32)) * w1)))]))
  refine own_G.go (fun t k => XS.aloadN X_8.here hx rfl (hb hby d_rm_of_19) rfl rfl k) ?_
  show own_G _ _ _ _ (T_8.setTop (mkF m 20 #[.val (.ref x), .val (.ref b), .val (.int (((0 : Int32) + ((c0 - (48 : Int32)) * w0)) + ((c1 - (48 : Int32)) * w1))), .val (.int (2 : Int32))] [(.ref b), (.int (c2 - (48 : Int32))), (.int (((0 : Int32) + ((c0 - (48 : Int32)) * w0)) + ((c1 - (48 : Int32)) * w1)))]))
  refine own_G.go (fun t k => XS.iloadN X_8.here hx rfl (hb hby d_rm_of_20) rfl k) ?_
  show own_G _ _ _ _ (T_8.setTop (mkF m 21 #[.val (.ref x), .val (.ref b), .val (.int (((0 : Int32) + ((c0 - (48 : Int32)) * w0)) + ((c1 - (48 : Int32)) * w1))), .val (.int (2 : Int32))] [(.int (2 : Int32)), (.ref b), (.int (c2 - (48 : Int32))), (.int (((0 : Int32) + ((c0 - (48 : Int32)) * w0)) + ((c1 - (48 : Int32)) * w1)))]))
  obtain ⟨cel_9, A_9, -, S_9, M_9, H_9, -⟩ := id KW
  have I_9 : ¬ ((2 : Int32) < 0 ∨ cel_9.slots.size ≤ ((2 : Int32)).toNatClampNeg) := inb_of S_9 ⟨(by decide), (by decide : (2 : Int32) < (4 : Int32))⟩
  refine own_G.go (X_8.iaload hx (j := (2 : Int32)) (v := (.int w2)) (by rw [eh_8]; exact A_9.1) (State.isArrayOf_alike hZ.alike A_9.2.1) A_9.2.2 I_9 (H_9.at I_9 rfl) (g := (mkF m 21 #[.val (.ref x), .val (.ref b), .val (.int (((0 : Int32) + ((c0 - (48 : Int32)) * w0)) + ((c1 - (48 : Int32)) * w1))), .val (.int (2 : Int32))] [(.int (2 : Int32)), (.ref b), (.int (c2 - (48 : Int32))), (.int (((0 : Int32) + ((c0 - (48 : Int32)) * w0)) + ((c1 - (48 : Int32)) * w1)))])) rfl rfl (hb hby d_rm_of_21)) ?_
  show own_G _ _ _ _ (T_8.setTop (mkF m 22 #[.val (.ref x), .val (.ref b), .val (.int (((0 : Int32) + ((c0 - (48 : Int32)) * w0)) + ((c1 - (48 : Int32)) * w1))), .val (.int (2 : Int32))] [(.int w2), (.int (c2 - (48 : Int32))), (.int (((0 : Int32) + ((c0 - (48 : Int32)) * w0)) + ((c1 - (48 : Int32)) * w1)))]))
  refine own_G.go (fun t k => XS.imul X_8.here hx rfl (hb hby d_rm_of_22) rfl k) ?_
  show own_G _ _ _ _ (T_8.setTop (mkF m 23 #[.val (.ref x), .val (.ref b), .val (.int (((0 : Int32) + ((c0 - (48 : Int32)) * w0)) + ((c1 - (48 : Int32)) * w1))), .val (.int (2 : Int32))] [(.int ((c2 - (48 : Int32)) * w2)), (.int (((0 : Int32) + ((c0 - (48 : Int32)) * w0)) + ((c1 - (48 : Int32)) * w1)))]))
  refine own_G.go (fun t k => XS.iadd X_8.here hx rfl (hb hby d_rm_of_23) rfl k) ?_
  show own_G _ _ _ _ (T_8.setTop (mkF m 24 #[.val (.ref x), .val (.ref b), .val (.int (((0 : Int32) + ((c0 - (48 : Int32)) * w0)) + ((c1 - (48 : Int32)) * w1))), .val (.int (2 : Int32))] [(.int ((((0 : Int32) + ((c0 - (48 : Int32)) * w0)) + ((c1 - (48 : Int32)) * w1)) + ((c2 - (48 : Int32)) * w2)))]))
  refine own_G.go (fun t k => XS.istoreN X_8.here hx rfl (hb hby d_rm_of_24) rfl (l' := #[.val (.ref x), .val (.ref b), .val (.int ((((0 : Int32) + ((c0 - (48 : Int32)) * w0)) + ((c1 - (48 : Int32)) * w1)) + ((c2 - (48 : Int32)) * w2))), .val (.int (2 : Int32))]) rfl k) ?_
  show own_G _ _ _ _ (T_8.setTop (mkF m 25 #[.val (.ref x), .val (.ref b), .val (.int ((((0 : Int32) + ((c0 - (48 : Int32)) * w0)) + ((c1 - (48 : Int32)) * w1)) + ((c2 - (48 : Int32)) * w2))), .val (.int (2 : Int32))] []))
  refine own_G.go (fun t k => XS.iinc X_8.here hx rfl (hb hby d_rm_of_25) rfl (l' := #[.val (.ref x), .val (.ref b), .val (.int ((((0 : Int32) + ((c0 - (48 : Int32)) * w0)) + ((c1 - (48 : Int32)) * w1)) + ((c2 - (48 : Int32)) * w2))), .val (.int (3 : Int32))]) rfl k) ?_
  show own_G _ _ _ _ (T_8.setTop (mkF m 28 #[.val (.ref x), .val (.ref b), .val (.int ((((0 : Int32) + ((c0 - (48 : Int32)) * w0)) + ((c1 - (48 : Int32)) * w1)) + ((c2 - (48 : Int32)) * w2))), .val (.int (3 : Int32))] []))
  refine own_G.go (fun t k => XS.goto X_8.here hx rfl (pc0 := 28) (pc' := 4) rfl (hb hby d_rm_of_28) (by decide) (by decide) k) ?_
  show own_G _ _ _ _ (T_8.setTop (mkF m 4 #[.val (.ref x), .val (.ref b), .val (.int ((((0 : Int32) + ((c0 - (48 : Int32)) * w0)) + ((c1 - (48 : Int32)) * w1)) + ((c2 - (48 : Int32)) * w2))), .val (.int (3 : Int32))] []))
  refine own_G.go (fun t k => XS.iloadN X_8.here hx rfl (hb hby d_rm_of_4) rfl k) ?_
  show own_G _ _ _ _ (T_8.setTop (mkF m 5 #[.val (.ref x), .val (.ref b), .val (.int ((((0 : Int32) + ((c0 - (48 : Int32)) * w0)) + ((c1 - (48 : Int32)) * w1)) + ((c2 - (48 : Int32)) * w2))), .val (.int (3 : Int32))] [(.int (3 : Int32))]))
  refine own_G.go (fun t k => XS.aloadN X_8.here hx rfl (hb hby d_rm_of_5) rfl rfl k) ?_
  show own_G _ _ _ _ (T_8.setTop (mkF m 6 #[.val (.ref x), .val (.ref b), .val (.int ((((0 : Int32) + ((c0 - (48 : Int32)) * w0)) + ((c1 - (48 : Int32)) * w1)) + ((c2 - (48 : Int32)) * w2))), .val (.int (3 : Int32))] [(.ref b), (.int (3 : Int32))]))
  obtain ⟨cel_10, A_10, -, S_10, M_10, -, -⟩ := id KW
  refine own_G.go (X_8.arraylength hx (by rw [eh_8]; exact A_10.1) (State.isArrayOf_alike hZ.alike A_10.2.1) (g := (mkF m 6 #[.val (.ref x), .val (.ref b), .val (.int ((((0 : Int32) + ((c0 - (48 : Int32)) * w0)) + ((c1 - (48 : Int32)) * w1)) + ((c2 - (48 : Int32)) * w2))), .val (.int (3 : Int32))] [(.ref b), (.int (3 : Int32))])) rfl rfl (hb hby d_rm_of_6)) ?_
  rw [len_of S_10 M_10]
  show own_G _ _ _ _ (T_8.setTop (mkF m 7 #[.val (.ref x), .val (.ref b), .val (.int ((((0 : Int32) + ((c0 - (48 : Int32)) * w0)) + ((c1 - (48 : Int32)) * w1)) + ((c2 - (48 : Int32)) * w2))), .val (.int (3 : Int32))] [(.int (4 : Int32)), (.int (3 : Int32))]))
  refine own_G.go (fun t k => XS.icmpNo X_8.here hx rfl (hb hby d_rm_of_7) rfl (tlt (by decide : (3 : Int32) < (4 : Int32))).2.1 k) ?_
  show own_G _ _ _ _ (T_8.setTop (mkF m 10 #[.val (.ref x), .val (.ref b), .val (.int ((((0 : Int32) + ((c0 - (48 : Int32)) * w0)) + ((c1 - (48 : Int32)) * w1)) + ((c2 - (48 : Int32)) * w2))), .val (.int (3 : Int32))] []))
  refine own_G.go (fun t k => XS.iloadN X_8.here hx rfl (hb hby d_rm_of_10) rfl k) ?_
  show own_G _ _ _ _ (T_8.setTop (mkF m 11 #[.val (.ref x), .val (.ref b), .val (.int ((((0 : Int32) + ((c0 - (48 : Int32)) * w0)) + ((c1 - (48 : Int32)) * w1)) + ((c2 - (48 : Int32)) * w2))), .val (.int (3 : Int32))] [(.int ((((0 : Int32) + ((c0 - (48 : Int32)) * w0)) + ((c1 - (48 : Int32)) * w1)) + ((c2 - (48 : Int32)) * w2)))]))
  refine own_G.go (fun t k => XS.aloadN X_8.here hx rfl (hb hby d_rm_of_11) rfl rfl k) ?_
  show own_G _ _ _ _ (T_8.setTop (mkF m 12 #[.val (.ref x), .val (.ref b), .val (.int ((((0 : Int32) + ((c0 - (48 : Int32)) * w0)) + ((c1 - (48 : Int32)) * w1)) + ((c2 - (48 : Int32)) * w2))), .val (.int (3 : Int32))] [(.ref x), (.int ((((0 : Int32) + ((c0 - (48 : Int32)) * w0)) + ((c1 - (48 : Int32)) * w1)) + ((c2 - (48 : Int32)) * w2)))]))
  refine own_G.go (fun t k => XS.iloadN X_8.here hx rfl (hb hby d_rm_of_12) rfl k) ?_
  show own_G _ _ _ _ (T_8.setTop (mkF m 13 #[.val (.ref x), .val (.ref b), .val (.int ((((0 : Int32) + ((c0 - (48 : Int32)) * w0)) + ((c1 - (48 : Int32)) * w1)) + ((c2 - (48 : Int32)) * w2))), .val (.int (3 : Int32))] [(.int (3 : Int32)), (.ref x), (.int ((((0 : Int32) + ((c0 - (48 : Int32)) * w0)) + ((c1 - (48 : Int32)) * w1)) + ((c2 - (48 : Int32)) * w2)))]))
  obtain ⟨cq_11, kq_11, q_11a, q_11b, q_11c⟩ := isOf hZ eh_8 E0
  obtain ⟨_, T_11, L_11, Q_11, X_11, st_11⟩ := own_callV X_8 hx (z := (⟨"java/lang/String", "charAt", "(I)C"⟩ : MethodName)) hown (mvT hZ (own_w hw 39 rfl)) (mvT hZ (own_w hw 40 rfl)) (notFace_of_selects (args := #[]) (mvT hZ (own_w hw 42 rfl))) (mvT hZ (own_w hw 42 rfl)) (mvT hZ (own_w hw 41 rfl)) (by decide) (Q := (fun v h' L => v = some (.int (([c0, c1, c2, c3, c4] : List Int32).getD 3 0)) ∧ L = [] ∧ h' = h0)) (StrChars.Road.chN (W := 1) hZ hch (kI := 4) (own_w hw 6 rfl) E0 V0 C0 K0 hcd hbd (O2.ext X00.2) P5 (O4.ext X00.2) rfm (Nat.le_of_ble_eq_true rfl) (i := 3) (Nat.le_of_ble_eq_true rfl) (j := (3 : Int32)) rfl (by decide) (by decide)) q_11a q_11c (g := (mkF m 13 #[.val (.ref x), .val (.ref b), .val (.int ((((0 : Int32) + ((c0 - (48 : Int32)) * w0)) + ((c1 - (48 : Int32)) * w1)) + ((c2 - (48 : Int32)) * w2))), .val (.int (3 : Int32))] [(.int (3 : Int32)), (.ref x), (.int ((((0 : Int32) + ((c0 - (48 : Int32)) * w0)) + ((c1 - (48 : Int32)) * w1)) + ((c2 - (48 : Int32)) * w2)))])) rfl (by rw [hml]; rfl) (argsL := [(.int (3 : Int32))]) (rest := [(.int ((((0 : Int32) + ((c0 - (48 : Int32)) * w0)) + ((c1 - (48 : Int32)) * w1)) + ((c2 - (48 : Int32)) * w2)))]) (lenOf pd_1 rfl) rfl (by show 2 * 0 + _ ≤ _; exact Nat.le_of_eq rfl) (hb hby d_rm_of_13) eh_8 rfl (by decide) (by decide)
  obtain ⟨rfl, rfl, eh_11⟩ := Q_11
  refine own_G.via st_11 ?_
  have N_11 := Fr.app N_8 (Fr.nil n0)
  show own_G _ _ _ _ (T_11.setTop (mkF m 16 #[.val (.ref x), .val (.ref b), .val (.int ((((0 : Int32) + ((c0 - (48 : Int32)) * w0)) + ((c1 - (48 : Int32)) * w1)) + ((c2 - (48 : Int32)) * w2))), .val (.int (3 : Int32))] [(.int c3), (.int ((((0 : Int32) + ((c0 - (48 : Int32)) * w0)) + ((c1 - (48 : Int32)) * w1)) + ((c2 - (48 : Int32)) * w2)))]))
  refine own_G.go (fun t k => XS.bipush X_11.here hx rfl (hb hby d_rm_of_16) k) ?_
  show own_G _ _ _ _ (T_11.setTop (mkF m 18 #[.val (.ref x), .val (.ref b), .val (.int ((((0 : Int32) + ((c0 - (48 : Int32)) * w0)) + ((c1 - (48 : Int32)) * w1)) + ((c2 - (48 : Int32)) * w2))), .val (.int (3 : Int32))] [(.int (48 : Int32)), (.int c3), (.int ((((0 : Int32) + ((c0 - (48 : Int32)) * w0)) + ((c1 - (48 : Int32)) * w1)) + ((c2 - (48 : Int32)) * w2)))]))
  refine own_G.go (fun t k => XS.isub X_11.here hx rfl (hb hby d_rm_of_18) rfl k) ?_
  show own_G _ _ _ _ (T_11.setTop (mkF m 19 #[.val (.ref x), .val (.ref b), .val (.int ((((0 : Int32) + ((c0 - (48 : Int32)) * w0)) + ((c1 - (48 : Int32)) * w1)) + ((c2 - (48 : Int32)) * w2))), .val (.int (3 : Int32))] [(.int (c3 - (48 : Int32))), (.int ((((0 : Int32) + ((c0 - (48 : Int32)) * w0)) + ((c1 - (48 : Int32)) * w1)) + ((c2 - (48 : Int32)) * w2)))]))
  refine own_G.go (fun t k => XS.aloadN X_11.here hx rfl (hb hby d_rm_of_19) rfl rfl k) ?_
  show own_G _ _ _ _ (T_11.setTop (mkF m 20 #[.val (.ref x), .val (.ref b), .val (.int ((((0 : Int32) + ((c0 - (48 : Int32)) * w0)) + ((c1 - (48 : Int32)) * w1)) + ((c2 - (48 : Int32)) * w2))), .val (.int (3 : Int32))] [(.ref b), (.int (c3 - (48 : Int32))), (.int ((((0 : Int32) + ((c0 - (48 : Int32)) * w0)) + ((c1 - (48 : Int32)) * w1)) + ((c2 - (48 : Int32)) * w2)))]))
  refine own_G.go (fun t k => XS.iloadN X_11.here hx rfl (hb hby d_rm_of_20) rfl k) ?_
  show own_G _ _ _ _ (T_11.setTop (mkF m 21 #[.val (.ref x), .val (.ref b), .val (.int ((((0 : Int32) + ((c0 - (48 : Int32)) * w0)) + ((c1 - (48 : Int32)) * w1)) + ((c2 - (48 : Int32)) * w2))), .val (.int (3 : Int32))] [(.int (3 : Int32)), (.ref b), (.int (c3 - (48 : Int32))), (.int ((((0 : Int32) + ((c0 - (48 : Int32)) * w0)) + ((c1 - (48 : Int32)) * w1)) + ((c2 - (48 : Int32)) * w2)))]))
  obtain ⟨cel_12, A_12, -, S_12, M_12, H_12, -⟩ := id KW
  have I_12 : ¬ ((3 : Int32) < 0 ∨ cel_12.slots.size ≤ ((3 : Int32)).toNatClampNeg) := inb_of S_12 ⟨(by decide), (by decide : (3 : Int32) < (4 : Int32))⟩
  refine own_G.go (X_11.iaload hx (j := (3 : Int32)) (v := (.int w3)) (by rw [eh_11]; exact A_12.1) (State.isArrayOf_alike hZ.alike A_12.2.1) A_12.2.2 I_12 (H_12.at I_12 rfl) (g := (mkF m 21 #[.val (.ref x), .val (.ref b), .val (.int ((((0 : Int32) + ((c0 - (48 : Int32)) * w0)) + ((c1 - (48 : Int32)) * w1)) + ((c2 - (48 : Int32)) * w2))), .val (.int (3 : Int32))] [(.int (3 : Int32)), (.ref b), (.int (c3 - (48 : Int32))), (.int ((((0 : Int32) + ((c0 - (48 : Int32)) * w0)) + ((c1 - (48 : Int32)) * w1)) + ((c2 - (48 : Int32)) * w2)))])) rfl rfl (hb hby d_rm_of_21)) ?_
  show own_G _ _ _ _ (T_11.setTop (mkF m 22 #[.val (.ref x), .val (.ref b), .val (.int ((((0 : Int32) + ((c0 - (48 : Int32)) * w0)) + ((c1 - (48 : Int32)) * w1)) + ((c2 - (48 : Int32)) * w2))), .val (.int (3 : Int32))] [(.int w3), (.int (c3 - (48 : Int32))), (.int ((((0 : Int32) + ((c0 - (48 : Int32)) * w0)) + ((c1 - (48 : Int32)) * w1)) + ((c2 - (48 : Int32)) * w2)))]))
  refine own_G.go (fun t k => XS.imul X_11.here hx rfl (hb hby d_rm_of_22) rfl k) ?_
  show own_G _ _ _ _ (T_11.setTop (mkF m 23 #[.val (.ref x), .val (.ref b), .val (.int ((((0 : Int32) + ((c0 - (48 : Int32)) * w0)) + ((c1 - (48 : Int32)) * w1)) + ((c2 - (48 : Int32)) * w2))), .val (.int (3 : Int32))] [(.int ((c3 - (48 : Int32)) * w3)), (.int ((((0 : Int32) + ((c0 - (48 : Int32)) * w0)) + ((c1 - (48 : Int32)) * w1)) + ((c2 - (48 : Int32)) * w2)))]))
  refine own_G.go (fun t k => XS.iadd X_11.here hx rfl (hb hby d_rm_of_23) rfl k) ?_
  show own_G _ _ _ _ (T_11.setTop (mkF m 24 #[.val (.ref x), .val (.ref b), .val (.int ((((0 : Int32) + ((c0 - (48 : Int32)) * w0)) + ((c1 - (48 : Int32)) * w1)) + ((c2 - (48 : Int32)) * w2))), .val (.int (3 : Int32))] [(.int (((((0 : Int32) + ((c0 - (48 : Int32)) * w0)) + ((c1 - (48 : Int32)) * w1)) + ((c2 - (48 : Int32)) * w2)) + ((c3 - (48 : Int32)) * w3)))]))
  refine own_G.go (fun t k => XS.istoreN X_11.here hx rfl (hb hby d_rm_of_24) rfl (l' := #[.val (.ref x), .val (.ref b), .val (.int (((((0 : Int32) + ((c0 - (48 : Int32)) * w0)) + ((c1 - (48 : Int32)) * w1)) + ((c2 - (48 : Int32)) * w2)) + ((c3 - (48 : Int32)) * w3))), .val (.int (3 : Int32))]) rfl k) ?_
  show own_G _ _ _ _ (T_11.setTop (mkF m 25 #[.val (.ref x), .val (.ref b), .val (.int (((((0 : Int32) + ((c0 - (48 : Int32)) * w0)) + ((c1 - (48 : Int32)) * w1)) + ((c2 - (48 : Int32)) * w2)) + ((c3 - (48 : Int32)) * w3))), .val (.int (3 : Int32))] []))
  refine own_G.go (fun t k => XS.iinc X_11.here hx rfl (hb hby d_rm_of_25) rfl (l' := #[.val (.ref x), .val (.ref b), .val (.int (((((0 : Int32) + ((c0 - (48 : Int32)) * w0)) + ((c1 - (48 : Int32)) * w1)) + ((c2 - (48 : Int32)) * w2)) + ((c3 - (48 : Int32)) * w3))), .val (.int (4 : Int32))]) rfl k) ?_
  show own_G _ _ _ _ (T_11.setTop (mkF m 28 #[.val (.ref x), .val (.ref b), .val (.int (((((0 : Int32) + ((c0 - (48 : Int32)) * w0)) + ((c1 - (48 : Int32)) * w1)) + ((c2 - (48 : Int32)) * w2)) + ((c3 - (48 : Int32)) * w3))), .val (.int (4 : Int32))] []))
  refine own_G.go (fun t k => XS.goto X_11.here hx rfl (pc0 := 28) (pc' := 4) rfl (hb hby d_rm_of_28) (by decide) (by decide) k) ?_
  show own_G _ _ _ _ (T_11.setTop (mkF m 4 #[.val (.ref x), .val (.ref b), .val (.int (((((0 : Int32) + ((c0 - (48 : Int32)) * w0)) + ((c1 - (48 : Int32)) * w1)) + ((c2 - (48 : Int32)) * w2)) + ((c3 - (48 : Int32)) * w3))), .val (.int (4 : Int32))] []))
  refine own_G.go (fun t k => XS.iloadN X_11.here hx rfl (hb hby d_rm_of_4) rfl k) ?_
  show own_G _ _ _ _ (T_11.setTop (mkF m 5 #[.val (.ref x), .val (.ref b), .val (.int (((((0 : Int32) + ((c0 - (48 : Int32)) * w0)) + ((c1 - (48 : Int32)) * w1)) + ((c2 - (48 : Int32)) * w2)) + ((c3 - (48 : Int32)) * w3))), .val (.int (4 : Int32))] [(.int (4 : Int32))]))
  refine own_G.go (fun t k => XS.aloadN X_11.here hx rfl (hb hby d_rm_of_5) rfl rfl k) ?_
  show own_G _ _ _ _ (T_11.setTop (mkF m 6 #[.val (.ref x), .val (.ref b), .val (.int (((((0 : Int32) + ((c0 - (48 : Int32)) * w0)) + ((c1 - (48 : Int32)) * w1)) + ((c2 - (48 : Int32)) * w2)) + ((c3 - (48 : Int32)) * w3))), .val (.int (4 : Int32))] [(.ref b), (.int (4 : Int32))]))
  obtain ⟨cel_13, A_13, -, S_13, M_13, -, -⟩ := id KW
  refine own_G.go (X_11.arraylength hx (by rw [eh_11]; exact A_13.1) (State.isArrayOf_alike hZ.alike A_13.2.1) (g := (mkF m 6 #[.val (.ref x), .val (.ref b), .val (.int (((((0 : Int32) + ((c0 - (48 : Int32)) * w0)) + ((c1 - (48 : Int32)) * w1)) + ((c2 - (48 : Int32)) * w2)) + ((c3 - (48 : Int32)) * w3))), .val (.int (4 : Int32))] [(.ref b), (.int (4 : Int32))])) rfl rfl (hb hby d_rm_of_6)) ?_
  rw [len_of S_13 M_13]
  show own_G _ _ _ _ (T_11.setTop (mkF m 7 #[.val (.ref x), .val (.ref b), .val (.int (((((0 : Int32) + ((c0 - (48 : Int32)) * w0)) + ((c1 - (48 : Int32)) * w1)) + ((c2 - (48 : Int32)) * w2)) + ((c3 - (48 : Int32)) * w3))), .val (.int (4 : Int32))] [(.int (4 : Int32)), (.int (4 : Int32))]))
  refine own_G.go (fun t k => XS.icmpYes X_11.here hx rfl (pc0 := 7) (pc' := 31) rfl (hb hby d_rm_of_7) rfl (flt (by decide : ¬ ((4 : Int32) < (4 : Int32)))).2.1 (by decide) (by decide) k) ?_
  show own_G _ _ _ _ (T_11.setTop (mkF m 31 #[.val (.ref x), .val (.ref b), .val (.int (((((0 : Int32) + ((c0 - (48 : Int32)) * w0)) + ((c1 - (48 : Int32)) * w1)) + ((c2 - (48 : Int32)) * w2)) + ((c3 - (48 : Int32)) * w3))), .val (.int (4 : Int32))] []))
  refine own_G.go (fun t k => XS.iloadN X_11.here hx rfl (hb hby d_rm_of_31) rfl k) ?_
  show own_G _ _ _ _ (T_11.setTop (mkF m 32 #[.val (.ref x), .val (.ref b), .val (.int (((((0 : Int32) + ((c0 - (48 : Int32)) * w0)) + ((c1 - (48 : Int32)) * w1)) + ((c2 - (48 : Int32)) * w2)) + ((c3 - (48 : Int32)) * w3))), .val (.int (4 : Int32))] [(.int (((((0 : Int32) + ((c0 - (48 : Int32)) * w0)) + ((c1 - (48 : Int32)) * w1)) + ((c2 - (48 : Int32)) * w2)) + ((c3 - (48 : Int32)) * w3)))]))
  refine own_G.go (fun t k => XS.bipush X_11.here hx rfl (hb hby d_rm_of_32) k) ?_
  show own_G _ _ _ _ (T_11.setTop (mkF m 34 #[.val (.ref x), .val (.ref b), .val (.int (((((0 : Int32) + ((c0 - (48 : Int32)) * w0)) + ((c1 - (48 : Int32)) * w1)) + ((c2 - (48 : Int32)) * w2)) + ((c3 - (48 : Int32)) * w3))), .val (.int (4 : Int32))] [(.int (11 : Int32)), (.int (((((0 : Int32) + ((c0 - (48 : Int32)) * w0)) + ((c1 - (48 : Int32)) * w1)) + ((c2 - (48 : Int32)) * w2)) + ((c3 - (48 : Int32)) * w3)))]))
  refine own_G.go (fun t k => iremM X_11 hx rfl (hb hby d_rm_of_34) rfl (by decide) k) ?_
  show own_G _ _ _ _ (T_11.setTop (mkF m 35 #[.val (.ref x), .val (.ref b), .val (.int (((((0 : Int32) + ((c0 - (48 : Int32)) * w0)) + ((c1 - (48 : Int32)) * w1)) + ((c2 - (48 : Int32)) * w2)) + ((c3 - (48 : Int32)) * w3))), .val (.int (4 : Int32))] [(.int ((((((0 : Int32) + ((c0 - (48 : Int32)) * w0)) + ((c1 - (48 : Int32)) * w1)) + ((c2 - (48 : Int32)) * w2)) + ((c3 - (48 : Int32)) * w3)) % (11 : Int32)))]))
  refine own_G.go (fun t k => XS.istoreN X_11.here hx rfl (hb hby d_rm_of_35) rfl (l' := #[.val (.ref x), .val (.ref b), .val (.int (((((0 : Int32) + ((c0 - (48 : Int32)) * w0)) + ((c1 - (48 : Int32)) * w1)) + ((c2 - (48 : Int32)) * w2)) + ((c3 - (48 : Int32)) * w3))), .val (.int ((((((0 : Int32) + ((c0 - (48 : Int32)) * w0)) + ((c1 - (48 : Int32)) * w1)) + ((c2 - (48 : Int32)) * w2)) + ((c3 - (48 : Int32)) * w3)) % (11 : Int32)))]) rfl k) ?_
  show own_G _ _ _ _ (T_11.setTop (mkF m 36 #[.val (.ref x), .val (.ref b), .val (.int (((((0 : Int32) + ((c0 - (48 : Int32)) * w0)) + ((c1 - (48 : Int32)) * w1)) + ((c2 - (48 : Int32)) * w2)) + ((c3 - (48 : Int32)) * w3))), .val (.int ((((((0 : Int32) + ((c0 - (48 : Int32)) * w0)) + ((c1 - (48 : Int32)) * w1)) + ((c2 - (48 : Int32)) * w2)) + ((c3 - (48 : Int32)) * w3)) % (11 : Int32)))] []))
  refine own_G.go (fun t k => XS.bipush X_11.here hx rfl (hb hby d_rm_of_36) k) ?_
  show own_G _ _ _ _ (T_11.setTop (mkF m 38 #[.val (.ref x), .val (.ref b), .val (.int (((((0 : Int32) + ((c0 - (48 : Int32)) * w0)) + ((c1 - (48 : Int32)) * w1)) + ((c2 - (48 : Int32)) * w2)) + ((c3 - (48 : Int32)) * w3))), .val (.int ((((((0 : Int32) + ((c0 - (48 : Int32)) * w0)) + ((c1 - (48 : Int32)) * w1)) + ((c2 - (48 : Int32)) * w2)) + ((c3 - (48 : Int32)) * w3)) % (11 : Int32)))] [(.int (48 : Int32))]))
  refine own_G.go (fun t k => XS.iloadN X_11.here hx rfl (hb hby d_rm_of_38) rfl k) ?_
  show own_G _ _ _ _ (T_11.setTop (mkF m 39 #[.val (.ref x), .val (.ref b), .val (.int (((((0 : Int32) + ((c0 - (48 : Int32)) * w0)) + ((c1 - (48 : Int32)) * w1)) + ((c2 - (48 : Int32)) * w2)) + ((c3 - (48 : Int32)) * w3))), .val (.int ((((((0 : Int32) + ((c0 - (48 : Int32)) * w0)) + ((c1 - (48 : Int32)) * w1)) + ((c2 - (48 : Int32)) * w2)) + ((c3 - (48 : Int32)) * w3)) % (11 : Int32)))] [(.int ((((((0 : Int32) + ((c0 - (48 : Int32)) * w0)) + ((c1 - (48 : Int32)) * w1)) + ((c2 - (48 : Int32)) * w2)) + ((c3 - (48 : Int32)) * w3)) % (11 : Int32))), (.int (48 : Int32))]))
  refine own_G.go (fun t k => XS.iconst X_11.here hx rfl (hb hby d_rm_of_39) k) ?_
  show own_G _ _ _ _ (T_11.setTop (mkF m 40 #[.val (.ref x), .val (.ref b), .val (.int (((((0 : Int32) + ((c0 - (48 : Int32)) * w0)) + ((c1 - (48 : Int32)) * w1)) + ((c2 - (48 : Int32)) * w2)) + ((c3 - (48 : Int32)) * w3))), .val (.int ((((((0 : Int32) + ((c0 - (48 : Int32)) * w0)) + ((c1 - (48 : Int32)) * w1)) + ((c2 - (48 : Int32)) * w2)) + ((c3 - (48 : Int32)) * w3)) % (11 : Int32)))] [(.int (2 : Int32)), (.int ((((((0 : Int32) + ((c0 - (48 : Int32)) * w0)) + ((c1 - (48 : Int32)) * w1)) + ((c2 - (48 : Int32)) * w2)) + ((c3 - (48 : Int32)) * w3)) % (11 : Int32))), (.int (48 : Int32))]))
  by_cases hr2 : ((((((0 : Int32) + ((c0 - (48 : Int32)) * w0)) + ((c1 - (48 : Int32)) * w1)) + ((c2 - (48 : Int32)) * w2)) + ((c3 - (48 : Int32)) * w3)) % (11 : Int32)) < (2 : Int32)
  · refine own_G.go (fun t k => XS.icmpNo X_11.here hx rfl (hb hby d_rm_of_40) rfl (tlt hr2).2.1 k) ?_
    show own_G _ _ _ _ (T_11.setTop (mkF m 43 #[.val (.ref x), .val (.ref b), .val (.int (((((0 : Int32) + ((c0 - (48 : Int32)) * w0)) + ((c1 - (48 : Int32)) * w1)) + ((c2 - (48 : Int32)) * w2)) + ((c3 - (48 : Int32)) * w3))), .val (.int ((((((0 : Int32) + ((c0 - (48 : Int32)) * w0)) + ((c1 - (48 : Int32)) * w1)) + ((c2 - (48 : Int32)) * w2)) + ((c3 - (48 : Int32)) * w3)) % (11 : Int32)))] [(.int (48 : Int32))]))
    refine own_G.go (fun t k => XS.iconst X_11.here hx rfl (hb hby d_rm_of_43) k) ?_
    show own_G _ _ _ _ (T_11.setTop (mkF m 44 #[.val (.ref x), .val (.ref b), .val (.int (((((0 : Int32) + ((c0 - (48 : Int32)) * w0)) + ((c1 - (48 : Int32)) * w1)) + ((c2 - (48 : Int32)) * w2)) + ((c3 - (48 : Int32)) * w3))), .val (.int ((((((0 : Int32) + ((c0 - (48 : Int32)) * w0)) + ((c1 - (48 : Int32)) * w1)) + ((c2 - (48 : Int32)) * w2)) + ((c3 - (48 : Int32)) * w3)) % (11 : Int32)))] [(.int (0 : Int32)), (.int (48 : Int32))]))
    refine own_G.go (fun t k => XS.goto X_11.here hx rfl (pc0 := 44) (pc' := 51) rfl (hb hby d_rm_of_44) (by decide) (by decide) k) ?_
    show own_G _ _ _ _ (T_11.setTop (mkF m 51 #[.val (.ref x), .val (.ref b), .val (.int (((((0 : Int32) + ((c0 - (48 : Int32)) * w0)) + ((c1 - (48 : Int32)) * w1)) + ((c2 - (48 : Int32)) * w2)) + ((c3 - (48 : Int32)) * w3))), .val (.int ((((((0 : Int32) + ((c0 - (48 : Int32)) * w0)) + ((c1 - (48 : Int32)) * w1)) + ((c2 - (48 : Int32)) * w2)) + ((c3 - (48 : Int32)) * w3)) % (11 : Int32)))] [(.int (0 : Int32)), (.int (48 : Int32))]))
    refine own_G.go (fun t k => XS.iadd X_11.here hx rfl (hb hby d_rm_of_51) rfl k) ?_
    show own_G _ _ _ _ (T_11.setTop (mkF m 52 #[.val (.ref x), .val (.ref b), .val (.int (((((0 : Int32) + ((c0 - (48 : Int32)) * w0)) + ((c1 - (48 : Int32)) * w1)) + ((c2 - (48 : Int32)) * w2)) + ((c3 - (48 : Int32)) * w3))), .val (.int ((((((0 : Int32) + ((c0 - (48 : Int32)) * w0)) + ((c1 - (48 : Int32)) * w1)) + ((c2 - (48 : Int32)) * w2)) + ((c3 - (48 : Int32)) * w3)) % (11 : Int32)))] [(.int (48 : Int32))]))
    refine own_G.go (fun t k => XS.i2c X_11.here hx rfl (hb hby d_rm_of_52) rfl k) ?_
    show own_G _ _ _ _ (T_11.setTop (mkF m 53 #[.val (.ref x), .val (.ref b), .val (.int (((((0 : Int32) + ((c0 - (48 : Int32)) * w0)) + ((c1 - (48 : Int32)) * w1)) + ((c2 - (48 : Int32)) * w2)) + ((c3 - (48 : Int32)) * w3))), .val (.int ((((((0 : Int32) + ((c0 - (48 : Int32)) * w0)) + ((c1 - (48 : Int32)) * w1)) + ((c2 - (48 : Int32)) * w2)) + ((c3 - (48 : Int32)) * w3)) % (11 : Int32)))] [(.int (own_c (48 : Int32)))]))
    exact own_G.end_ X_11 hlk (v := (some (.int (nar .char (own_c (48 : Int32)))))) (fun h => by rw [hrt] at h; cases h) (fun fs hr => retN X_11 hx (z := (own_c (48 : Int32))) (t := .char) hrt (by simp) (hb hby d_rm_of_53) hr) eh_11 ⟨⟨_, rfl, own_ofS hc0 hc1 hc2 hc3 b0 b1 b2 b3 hr2⟩, rfl, rfl⟩ (by decide) (by decide)
  · refine own_G.go (fun t k => XS.icmpYes X_11.here hx rfl (pc0 := 40) (pc' := 47) rfl (hb hby d_rm_of_40) rfl (flt hr2).2.1 (by decide) (by decide) k) ?_
    show own_G _ _ _ _ (T_11.setTop (mkF m 47 #[.val (.ref x), .val (.ref b), .val (.int (((((0 : Int32) + ((c0 - (48 : Int32)) * w0)) + ((c1 - (48 : Int32)) * w1)) + ((c2 - (48 : Int32)) * w2)) + ((c3 - (48 : Int32)) * w3))), .val (.int ((((((0 : Int32) + ((c0 - (48 : Int32)) * w0)) + ((c1 - (48 : Int32)) * w1)) + ((c2 - (48 : Int32)) * w2)) + ((c3 - (48 : Int32)) * w3)) % (11 : Int32)))] [(.int (48 : Int32))]))
    refine own_G.go (fun t k => XS.bipush X_11.here hx rfl (hb hby d_rm_of_47) k) ?_
    show own_G _ _ _ _ (T_11.setTop (mkF m 49 #[.val (.ref x), .val (.ref b), .val (.int (((((0 : Int32) + ((c0 - (48 : Int32)) * w0)) + ((c1 - (48 : Int32)) * w1)) + ((c2 - (48 : Int32)) * w2)) + ((c3 - (48 : Int32)) * w3))), .val (.int ((((((0 : Int32) + ((c0 - (48 : Int32)) * w0)) + ((c1 - (48 : Int32)) * w1)) + ((c2 - (48 : Int32)) * w2)) + ((c3 - (48 : Int32)) * w3)) % (11 : Int32)))] [(.int (11 : Int32)), (.int (48 : Int32))]))
    refine own_G.go (fun t k => XS.iloadN X_11.here hx rfl (hb hby d_rm_of_49) rfl k) ?_
    show own_G _ _ _ _ (T_11.setTop (mkF m 50 #[.val (.ref x), .val (.ref b), .val (.int (((((0 : Int32) + ((c0 - (48 : Int32)) * w0)) + ((c1 - (48 : Int32)) * w1)) + ((c2 - (48 : Int32)) * w2)) + ((c3 - (48 : Int32)) * w3))), .val (.int ((((((0 : Int32) + ((c0 - (48 : Int32)) * w0)) + ((c1 - (48 : Int32)) * w1)) + ((c2 - (48 : Int32)) * w2)) + ((c3 - (48 : Int32)) * w3)) % (11 : Int32)))] [(.int ((((((0 : Int32) + ((c0 - (48 : Int32)) * w0)) + ((c1 - (48 : Int32)) * w1)) + ((c2 - (48 : Int32)) * w2)) + ((c3 - (48 : Int32)) * w3)) % (11 : Int32))), (.int (11 : Int32)), (.int (48 : Int32))]))
    refine own_G.go (fun t k => XS.isub X_11.here hx rfl (hb hby d_rm_of_50) rfl k) ?_
    show own_G _ _ _ _ (T_11.setTop (mkF m 51 #[.val (.ref x), .val (.ref b), .val (.int (((((0 : Int32) + ((c0 - (48 : Int32)) * w0)) + ((c1 - (48 : Int32)) * w1)) + ((c2 - (48 : Int32)) * w2)) + ((c3 - (48 : Int32)) * w3))), .val (.int ((((((0 : Int32) + ((c0 - (48 : Int32)) * w0)) + ((c1 - (48 : Int32)) * w1)) + ((c2 - (48 : Int32)) * w2)) + ((c3 - (48 : Int32)) * w3)) % (11 : Int32)))] [(.int ((11 : Int32) - ((((((0 : Int32) + ((c0 - (48 : Int32)) * w0)) + ((c1 - (48 : Int32)) * w1)) + ((c2 - (48 : Int32)) * w2)) + ((c3 - (48 : Int32)) * w3)) % (11 : Int32)))), (.int (48 : Int32))]))
    refine own_G.go (fun t k => XS.iadd X_11.here hx rfl (hb hby d_rm_of_51) rfl k) ?_
    show own_G _ _ _ _ (T_11.setTop (mkF m 52 #[.val (.ref x), .val (.ref b), .val (.int (((((0 : Int32) + ((c0 - (48 : Int32)) * w0)) + ((c1 - (48 : Int32)) * w1)) + ((c2 - (48 : Int32)) * w2)) + ((c3 - (48 : Int32)) * w3))), .val (.int ((((((0 : Int32) + ((c0 - (48 : Int32)) * w0)) + ((c1 - (48 : Int32)) * w1)) + ((c2 - (48 : Int32)) * w2)) + ((c3 - (48 : Int32)) * w3)) % (11 : Int32)))] [(.int ((48 : Int32) + ((11 : Int32) - ((((((0 : Int32) + ((c0 - (48 : Int32)) * w0)) + ((c1 - (48 : Int32)) * w1)) + ((c2 - (48 : Int32)) * w2)) + ((c3 - (48 : Int32)) * w3)) % (11 : Int32)))))]))
    refine own_G.go (fun t k => XS.i2c X_11.here hx rfl (hb hby d_rm_of_52) rfl k) ?_
    show own_G _ _ _ _ (T_11.setTop (mkF m 53 #[.val (.ref x), .val (.ref b), .val (.int (((((0 : Int32) + ((c0 - (48 : Int32)) * w0)) + ((c1 - (48 : Int32)) * w1)) + ((c2 - (48 : Int32)) * w2)) + ((c3 - (48 : Int32)) * w3))), .val (.int ((((((0 : Int32) + ((c0 - (48 : Int32)) * w0)) + ((c1 - (48 : Int32)) * w1)) + ((c2 - (48 : Int32)) * w2)) + ((c3 - (48 : Int32)) * w3)) % (11 : Int32)))] [(.int (own_c ((48 : Int32) + ((11 : Int32) - ((((((0 : Int32) + ((c0 - (48 : Int32)) * w0)) + ((c1 - (48 : Int32)) * w1)) + ((c2 - (48 : Int32)) * w2)) + ((c3 - (48 : Int32)) * w3)) % (11 : Int32))))))]))
    exact own_G.end_ X_11 hlk (v := (some (.int (nar .char (own_c ((48 : Int32) + ((11 : Int32) - ((((((0 : Int32) + ((c0 - (48 : Int32)) * w0)) + ((c1 - (48 : Int32)) * w1)) + ((c2 - (48 : Int32)) * w2)) + ((c3 - (48 : Int32)) * w3)) % (11 : Int32))))))))) (fun h => by rw [hrt] at h; cases h) (fun fs hr => retN X_11 hx (z := (own_c ((48 : Int32) + ((11 : Int32) - ((((((0 : Int32) + ((c0 - (48 : Int32)) * w0)) + ((c1 - (48 : Int32)) * w1)) + ((c2 - (48 : Int32)) * w2)) + ((c3 - (48 : Int32)) * w3)) % (11 : Int32)))))) (t := .char) hrt (by simp) (hb hby d_rm_of_53) hr) eh_11 ⟨⟨_, rfl, own_ofL hc0 hc1 hc2 hc3 b0 b1 b2 b3 hr2⟩, rfl, rfl⟩ (by decide) (by decide)
def Qlaw (n0 : Nat) (v : Option Value) (h : Heap) (L : List Loc) : Prop := v = some (.int 1) ∧ Fr n0 L
theorem pd_2 : parseMethodDescriptor "(II)I" = some ⟨[.int, .int], some .int⟩ := by decide +kernel
theorem pd_3 : parseMethodDescriptor "([C)V" = some ⟨[(.array .char)], none⟩ := by decide +kernel
theorem pd_4 : parseMethodDescriptor "(Ljava/lang/String;[I)C" = some ⟨[(.object "java/lang/String"), (.array .int)], some .char⟩ := by decide +kernel
set_option maxRecDepth 65536 in
set_option maxHeartbeats 40000000 in
theorem rm_law (l : Launch) (Z : State) (a0 : Array Value) (hw : ∀ d ∈ tables_1, d.before a0 Z = true) (ws : List Jvm.Cond) (p0 p1 : Int32) (zc : Int32) (fm : Value) (h0 : Heap) (n0 : Nat) (Z0 : n0 ≤ h0.size) (O2 : Sta Z Z.heap "java/lang/String" "COMPACT_STRINGS" "Z" (.int zc)) (O4 : Sta Z Z.heap "jdk/internal/util/Preconditions" "SIOOBE_FORMATTER" "Ljava/util/function/BiFunction;" fm) (P5 : ¬ (zc = (0 : Int32))) (rfm : fm.isRef = true) (X00 : Old Z n0 h0) :
    MetFree l x (head1 (Jvm.Cond.code x code maxLocals ret :: ws) room_1) (fun a U => a = #[(.int p0), (.int p1)] ∧ Z.Warmed39 U.vm ∧ U.heap = h0) (fun _ _ _ _ _ => True) (fun _ U o U' => ∃ v L, o = .returned v ∧ Qlaw n0 v U'.heap L ∧ FrameEnd U o U' L room_1.cells room_1.slots) := by
  refine MetFree.of_bodySF (plainFor_of_name pn_1) hisR ?_
  intro p e s m args below meth c s₁ Bd hml0 hP hK
  obtain ⟨rfl, hZ, hh⟩ := hP
  have hx := Bd.exec
  have hby := Bd.bytes
  have hrt := Bd.returns
  have hlk : meth.locks = false := Bd.notSynchronized
  have hml : c.maxLocals = 17 := hml0
  have hown : s.vm.findClass "com/example/lastro/lastro/core/CheckDigitsOfPinLaw" = some m.cls := findClass_of_methodNamed Bd.named
  have hnm := (name_of_methodNamed Bd.named Bd.method).1
  have X0 : Stand p l e room_1 s m #[(.int p0), (.int p1)] below meth c s₁ [] 0 0 := Stand.of_body Bd
  have e0 : s₁.heap = h0 := by rw [← hh, Bd.state]; rfl
  have N0 := Fr.nil n0
  show own_G p.tables e below (fun o t => ∃ v L, o = .returned v ∧ Qlaw n0 v t.heap L ∧ FrameEnd s o t L room_1.cells room_1.slots) (s₁.setTop (entryFrame m #[(.int p0), (.int p1)] maxLocals))
  refine own_G.cast (show entryFrame m #[(.int p0), (.int p1)] maxLocals = mkF m 0 #[.val (.int p0), .val (.int p1), .unset, .unset, .unset, .unset, .unset, .unset, .unset, .unset, .unset, .unset, .unset, .unset, .unset, .unset, .unset] [] from by first | (simp [entryFrame, mkF, argsToLocals, Value.category, maxLocals]; done) | rfl) ?_
  have hws : ∀ d ∈ StrChars.Road.words, d.before a0 Z = true := fun d hd => hw d ((by decide +kernel : ∀ d ∈ StrChars.Road.words, d ∈ tables_1) d hd)
  refine own_G.go (fun t k => XS.iloadN X0.here hx rfl (hb hby at_0) rfl k) ?_
  show own_G _ _ _ _ (s₁.setTop (mkF m 1 #[.val (.int p0), .val (.int p1), .unset, .unset, .unset, .unset, .unset, .unset, .unset, .unset, .unset, .unset, .unset, .unset, .unset, .unset, .unset] [(.int p0)]))
  refine own_G.go (fun t k => XS.iconst X0.here hx rfl (hb hby at_1) k) ?_
  show own_G _ _ _ _ (s₁.setTop (mkF m 2 #[.val (.int p0), .val (.int p1), .unset, .unset, .unset, .unset, .unset, .unset, .unset, .unset, .unset, .unset, .unset, .unset, .unset, .unset, .unset] [(.int (0 : Int32)), (.int p0)]))
  obtain ⟨_, T_1, L_1, Q_1, X_1, st_1⟩ := own_callS X0 hx hown (mvT hZ (own_w hw 0 rfl)) (mvT hZ (own_w hw 1 rfl)) (mvT hZ (own_w hw 2 rfl)) (mvT hZ (own_w hw 3 rfl)) (by decide) (Q := (Qdig h0)) (backOf (W := 0) (rm_digit l Z a0 hw [] p0 (0 : Int32) h0 n0 Z0) hZ (own_w hw 3 rfl) (own_w hw 2 rfl) (by decide) (by decide)) (g := (mkF m 2 #[.val (.int p0), .val (.int p1), .unset, .unset, .unset, .unset, .unset, .unset, .unset, .unset, .unset, .unset, .unset, .unset, .unset, .unset, .unset] [(.int (0 : Int32)), (.int p0)])) rfl (by rw [hml]; rfl) (argsL := [(.int p0), (.int (0 : Int32))]) (rest := []) (lenOf pd_2 rfl) rfl (by show 2 * 0 + _ ≤ _; exact Nat.le_of_eq rfl) (hb hby at_2) e0 rfl (by decide) (by decide)
  obtain ⟨⟨d_1, rfl, b_1⟩, rfl, eh_1⟩ := Q_1
  refine own_G.via st_1 ?_
  have N_1 := Fr.app N0 (Fr.nil n0)
  show own_G _ _ _ _ (T_1.setTop (mkF m 5 #[.val (.int p0), .val (.int p1), .unset, .unset, .unset, .unset, .unset, .unset, .unset, .unset, .unset, .unset, .unset, .unset, .unset, .unset, .unset] [(.int d_1)]))
  refine own_G.go (fun t k => XS.istoreN X_1.here hx rfl (hb hby at_5) rfl (l' := #[.val (.int p0), .val (.int p1), .val (.int d_1), .unset, .unset, .unset, .unset, .unset, .unset, .unset, .unset, .unset, .unset, .unset, .unset, .unset, .unset]) rfl k) ?_
  show own_G _ _ _ _ (T_1.setTop (mkF m 6 #[.val (.int p0), .val (.int p1), .val (.int d_1), .unset, .unset, .unset, .unset, .unset, .unset, .unset, .unset, .unset, .unset, .unset, .unset, .unset, .unset] []))
  refine own_G.go (fun t k => XS.iloadN X_1.here hx rfl (hb hby at_6) rfl k) ?_
  show own_G _ _ _ _ (T_1.setTop (mkF m 7 #[.val (.int p0), .val (.int p1), .val (.int d_1), .unset, .unset, .unset, .unset, .unset, .unset, .unset, .unset, .unset, .unset, .unset, .unset, .unset, .unset] [(.int p0)]))
  refine own_G.go (fun t k => XS.iconst X_1.here hx rfl (hb hby at_7) k) ?_
  show own_G _ _ _ _ (T_1.setTop (mkF m 8 #[.val (.int p0), .val (.int p1), .val (.int d_1), .unset, .unset, .unset, .unset, .unset, .unset, .unset, .unset, .unset, .unset, .unset, .unset, .unset, .unset] [(.int (1 : Int32)), (.int p0)]))
  obtain ⟨_, T_2, L_2, Q_2, X_2, st_2⟩ := own_callS X_1 hx hown (mvT hZ (own_w hw 0 rfl)) (mvT hZ (own_w hw 1 rfl)) (mvT hZ (own_w hw 2 rfl)) (mvT hZ (own_w hw 3 rfl)) (by decide) (Q := (Qdig h0)) (backOf (W := 0) (rm_digit l Z a0 hw [] p0 (1 : Int32) h0 n0 Z0) hZ (own_w hw 3 rfl) (own_w hw 2 rfl) (by decide) (by decide)) (g := (mkF m 8 #[.val (.int p0), .val (.int p1), .val (.int d_1), .unset, .unset, .unset, .unset, .unset, .unset, .unset, .unset, .unset, .unset, .unset, .unset, .unset, .unset] [(.int (1 : Int32)), (.int p0)])) rfl (by rw [hml]; rfl) (argsL := [(.int p0), (.int (1 : Int32))]) (rest := []) (lenOf pd_2 rfl) rfl (by show 2 * 0 + _ ≤ _; exact Nat.le_of_eq rfl) (hb hby at_8) eh_1 rfl (by decide) (by decide)
  obtain ⟨⟨d_2, rfl, b_2⟩, rfl, eh_2⟩ := Q_2
  refine own_G.via st_2 ?_
  have N_2 := Fr.app N_1 (Fr.nil n0)
  show own_G _ _ _ _ (T_2.setTop (mkF m 11 #[.val (.int p0), .val (.int p1), .val (.int d_1), .unset, .unset, .unset, .unset, .unset, .unset, .unset, .unset, .unset, .unset, .unset, .unset, .unset, .unset] [(.int d_2)]))
  refine own_G.go (fun t k => XS.istoreN X_2.here hx rfl (hb hby at_11) rfl (l' := #[.val (.int p0), .val (.int p1), .val (.int d_1), .val (.int d_2), .unset, .unset, .unset, .unset, .unset, .unset, .unset, .unset, .unset, .unset, .unset, .unset, .unset]) rfl k) ?_
  show own_G _ _ _ _ (T_2.setTop (mkF m 12 #[.val (.int p0), .val (.int p1), .val (.int d_1), .val (.int d_2), .unset, .unset, .unset, .unset, .unset, .unset, .unset, .unset, .unset, .unset, .unset, .unset, .unset] []))
  refine own_G.go (fun t k => XS.iloadN X_2.here hx rfl (hb hby at_12) rfl k) ?_
  show own_G _ _ _ _ (T_2.setTop (mkF m 13 #[.val (.int p0), .val (.int p1), .val (.int d_1), .val (.int d_2), .unset, .unset, .unset, .unset, .unset, .unset, .unset, .unset, .unset, .unset, .unset, .unset, .unset] [(.int p0)]))
  refine own_G.go (fun t k => XS.iconst X_2.here hx rfl (hb hby at_13) k) ?_
  show own_G _ _ _ _ (T_2.setTop (mkF m 14 #[.val (.int p0), .val (.int p1), .val (.int d_1), .val (.int d_2), .unset, .unset, .unset, .unset, .unset, .unset, .unset, .unset, .unset, .unset, .unset, .unset, .unset] [(.int (2 : Int32)), (.int p0)]))
  obtain ⟨_, T_3, L_3, Q_3, X_3, st_3⟩ := own_callS X_2 hx hown (mvT hZ (own_w hw 0 rfl)) (mvT hZ (own_w hw 1 rfl)) (mvT hZ (own_w hw 2 rfl)) (mvT hZ (own_w hw 3 rfl)) (by decide) (Q := (Qdig h0)) (backOf (W := 0) (rm_digit l Z a0 hw [] p0 (2 : Int32) h0 n0 Z0) hZ (own_w hw 3 rfl) (own_w hw 2 rfl) (by decide) (by decide)) (g := (mkF m 14 #[.val (.int p0), .val (.int p1), .val (.int d_1), .val (.int d_2), .unset, .unset, .unset, .unset, .unset, .unset, .unset, .unset, .unset, .unset, .unset, .unset, .unset] [(.int (2 : Int32)), (.int p0)])) rfl (by rw [hml]; rfl) (argsL := [(.int p0), (.int (2 : Int32))]) (rest := []) (lenOf pd_2 rfl) rfl (by show 2 * 0 + _ ≤ _; exact Nat.le_of_eq rfl) (hb hby at_14) eh_2 rfl (by decide) (by decide)
  obtain ⟨⟨d_3, rfl, b_3⟩, rfl, eh_3⟩ := Q_3
  refine own_G.via st_3 ?_
  have N_3 := Fr.app N_2 (Fr.nil n0)
  show own_G _ _ _ _ (T_3.setTop (mkF m 17 #[.val (.int p0), .val (.int p1), .val (.int d_1), .val (.int d_2), .unset, .unset, .unset, .unset, .unset, .unset, .unset, .unset, .unset, .unset, .unset, .unset, .unset] [(.int d_3)]))
  refine own_G.go (fun t k => XS.istore X_3.here hx rfl (hb hby at_17) rfl (l' := #[.val (.int p0), .val (.int p1), .val (.int d_1), .val (.int d_2), .val (.int d_3), .unset, .unset, .unset, .unset, .unset, .unset, .unset, .unset, .unset, .unset, .unset, .unset]) rfl k) ?_
  show own_G _ _ _ _ (T_3.setTop (mkF m 19 #[.val (.int p0), .val (.int p1), .val (.int d_1), .val (.int d_2), .val (.int d_3), .unset, .unset, .unset, .unset, .unset, .unset, .unset, .unset, .unset, .unset, .unset, .unset] []))
  refine own_G.go (fun t k => XS.iloadN X_3.here hx rfl (hb hby at_19) rfl k) ?_
  show own_G _ _ _ _ (T_3.setTop (mkF m 20 #[.val (.int p0), .val (.int p1), .val (.int d_1), .val (.int d_2), .val (.int d_3), .unset, .unset, .unset, .unset, .unset, .unset, .unset, .unset, .unset, .unset, .unset, .unset] [(.int p0)]))
  refine own_G.go (fun t k => XS.iconst X_3.here hx rfl (hb hby at_20) k) ?_
  show own_G _ _ _ _ (T_3.setTop (mkF m 21 #[.val (.int p0), .val (.int p1), .val (.int d_1), .val (.int d_2), .val (.int d_3), .unset, .unset, .unset, .unset, .unset, .unset, .unset, .unset, .unset, .unset, .unset, .unset] [(.int (3 : Int32)), (.int p0)]))
  obtain ⟨_, T_4, L_4, Q_4, X_4, st_4⟩ := own_callS X_3 hx hown (mvT hZ (own_w hw 0 rfl)) (mvT hZ (own_w hw 1 rfl)) (mvT hZ (own_w hw 2 rfl)) (mvT hZ (own_w hw 3 rfl)) (by decide) (Q := (Qdig h0)) (backOf (W := 0) (rm_digit l Z a0 hw [] p0 (3 : Int32) h0 n0 Z0) hZ (own_w hw 3 rfl) (own_w hw 2 rfl) (by decide) (by decide)) (g := (mkF m 21 #[.val (.int p0), .val (.int p1), .val (.int d_1), .val (.int d_2), .val (.int d_3), .unset, .unset, .unset, .unset, .unset, .unset, .unset, .unset, .unset, .unset, .unset, .unset] [(.int (3 : Int32)), (.int p0)])) rfl (by rw [hml]; rfl) (argsL := [(.int p0), (.int (3 : Int32))]) (rest := []) (lenOf pd_2 rfl) rfl (by show 2 * 0 + _ ≤ _; exact Nat.le_of_eq rfl) (hb hby at_21) eh_3 rfl (by decide) (by decide)
  obtain ⟨⟨d_4, rfl, b_4⟩, rfl, eh_4⟩ := Q_4
  refine own_G.via st_4 ?_
  have N_4 := Fr.app N_3 (Fr.nil n0)
  show own_G _ _ _ _ (T_4.setTop (mkF m 24 #[.val (.int p0), .val (.int p1), .val (.int d_1), .val (.int d_2), .val (.int d_3), .unset, .unset, .unset, .unset, .unset, .unset, .unset, .unset, .unset, .unset, .unset, .unset] [(.int d_4)]))
  refine own_G.go (fun t k => XS.istore X_4.here hx rfl (hb hby at_24) rfl (l' := #[.val (.int p0), .val (.int p1), .val (.int d_1), .val (.int d_2), .val (.int d_3), .val (.int d_4), .unset, .unset, .unset, .unset, .unset, .unset, .unset, .unset, .unset, .unset, .unset]) rfl k) ?_
  show own_G _ _ _ _ (T_4.setTop (mkF m 26 #[.val (.int p0), .val (.int p1), .val (.int d_1), .val (.int d_2), .val (.int d_3), .val (.int d_4), .unset, .unset, .unset, .unset, .unset, .unset, .unset, .unset, .unset, .unset, .unset] []))
  refine own_G.go (fun t k => XS.iloadN X_4.here hx rfl (hb hby at_26) rfl k) ?_
  show own_G _ _ _ _ (T_4.setTop (mkF m 27 #[.val (.int p0), .val (.int p1), .val (.int d_1), .val (.int d_2), .val (.int d_3), .val (.int d_4), .unset, .unset, .unset, .unset, .unset, .unset, .unset, .unset, .unset, .unset, .unset] [(.int p0)]))
  refine own_G.go (fun t k => XS.iconst X_4.here hx rfl (hb hby at_27) k) ?_
  show own_G _ _ _ _ (T_4.setTop (mkF m 28 #[.val (.int p0), .val (.int p1), .val (.int d_1), .val (.int d_2), .val (.int d_3), .val (.int d_4), .unset, .unset, .unset, .unset, .unset, .unset, .unset, .unset, .unset, .unset, .unset] [(.int (4 : Int32)), (.int p0)]))
  obtain ⟨_, T_5, L_5, Q_5, X_5, st_5⟩ := own_callS X_4 hx hown (mvT hZ (own_w hw 0 rfl)) (mvT hZ (own_w hw 1 rfl)) (mvT hZ (own_w hw 2 rfl)) (mvT hZ (own_w hw 3 rfl)) (by decide) (Q := (Qdig h0)) (backOf (W := 0) (rm_digit l Z a0 hw [] p0 (4 : Int32) h0 n0 Z0) hZ (own_w hw 3 rfl) (own_w hw 2 rfl) (by decide) (by decide)) (g := (mkF m 28 #[.val (.int p0), .val (.int p1), .val (.int d_1), .val (.int d_2), .val (.int d_3), .val (.int d_4), .unset, .unset, .unset, .unset, .unset, .unset, .unset, .unset, .unset, .unset, .unset] [(.int (4 : Int32)), (.int p0)])) rfl (by rw [hml]; rfl) (argsL := [(.int p0), (.int (4 : Int32))]) (rest := []) (lenOf pd_2 rfl) rfl (by show 2 * 0 + _ ≤ _; exact Nat.le_of_eq rfl) (hb hby at_28) eh_4 rfl (by decide) (by decide)
  obtain ⟨⟨d_5, rfl, b_5⟩, rfl, eh_5⟩ := Q_5
  refine own_G.via st_5 ?_
  have N_5 := Fr.app N_4 (Fr.nil n0)
  show own_G _ _ _ _ (T_5.setTop (mkF m 31 #[.val (.int p0), .val (.int p1), .val (.int d_1), .val (.int d_2), .val (.int d_3), .val (.int d_4), .unset, .unset, .unset, .unset, .unset, .unset, .unset, .unset, .unset, .unset, .unset] [(.int d_5)]))
  refine own_G.go (fun t k => XS.istore X_5.here hx rfl (hb hby at_31) rfl (l' := #[.val (.int p0), .val (.int p1), .val (.int d_1), .val (.int d_2), .val (.int d_3), .val (.int d_4), .val (.int d_5), .unset, .unset, .unset, .unset, .unset, .unset, .unset, .unset, .unset, .unset]) rfl k) ?_
  show own_G _ _ _ _ (T_5.setTop (mkF m 33 #[.val (.int p0), .val (.int p1), .val (.int d_1), .val (.int d_2), .val (.int d_3), .val (.int d_4), .val (.int d_5), .unset, .unset, .unset, .unset, .unset, .unset, .unset, .unset, .unset, .unset] []))
  refine own_G.go (fun t k => XS.iloadN X_5.here hx rfl (hb hby at_33) rfl k) ?_
  show own_G _ _ _ _ (T_5.setTop (mkF m 34 #[.val (.int p0), .val (.int p1), .val (.int d_1), .val (.int d_2), .val (.int d_3), .val (.int d_4), .val (.int d_5), .unset, .unset, .unset, .unset, .unset, .unset, .unset, .unset, .unset, .unset] [(.int p1)]))
  refine own_G.go (fun t k => XS.bipush X_5.here hx rfl (hb hby at_34) k) ?_
  show own_G _ _ _ _ (T_5.setTop (mkF m 36 #[.val (.int p0), .val (.int p1), .val (.int d_1), .val (.int d_2), .val (.int d_3), .val (.int d_4), .val (.int d_5), .unset, .unset, .unset, .unset, .unset, .unset, .unset, .unset, .unset, .unset] [(.int (15 : Int32)), (.int p1)]))
  refine own_G.go (fun t k => XS.iand X_5.here hx rfl (hb hby at_36) rfl k) ?_
  show own_G _ _ _ _ (T_5.setTop (mkF m 37 #[.val (.int p0), .val (.int p1), .val (.int d_1), .val (.int d_2), .val (.int d_3), .val (.int d_4), .val (.int d_5), .unset, .unset, .unset, .unset, .unset, .unset, .unset, .unset, .unset, .unset] [(.int (p1 &&& (15 : Int32)))]))
  refine own_G.go (fun t k => XS.istore X_5.here hx rfl (hb hby at_37) rfl (l' := #[.val (.int p0), .val (.int p1), .val (.int d_1), .val (.int d_2), .val (.int d_3), .val (.int d_4), .val (.int d_5), .val (.int (p1 &&& (15 : Int32))), .unset, .unset, .unset, .unset, .unset, .unset, .unset, .unset, .unset]) rfl k) ?_
  show own_G _ _ _ _ (T_5.setTop (mkF m 39 #[.val (.int p0), .val (.int p1), .val (.int d_1), .val (.int d_2), .val (.int d_3), .val (.int d_4), .val (.int d_5), .val (.int (p1 &&& (15 : Int32))), .unset, .unset, .unset, .unset, .unset, .unset, .unset, .unset, .unset] []))
  refine own_G.go (fun t k => XS.iloadN X_5.here hx rfl (hb hby at_39) rfl k) ?_
  show own_G _ _ _ _ (T_5.setTop (mkF m 40 #[.val (.int p0), .val (.int p1), .val (.int d_1), .val (.int d_2), .val (.int d_3), .val (.int d_4), .val (.int d_5), .val (.int (p1 &&& (15 : Int32))), .unset, .unset, .unset, .unset, .unset, .unset, .unset, .unset, .unset] [(.int p1)]))
  refine own_G.go (fun t k => XS.iconst X_5.here hx rfl (hb hby at_40) k) ?_
  show own_G _ _ _ _ (T_5.setTop (mkF m 41 #[.val (.int p0), .val (.int p1), .val (.int d_1), .val (.int d_2), .val (.int d_3), .val (.int d_4), .val (.int d_5), .val (.int (p1 &&& (15 : Int32))), .unset, .unset, .unset, .unset, .unset, .unset, .unset, .unset, .unset] [(.int (4 : Int32)), (.int p1)]))
  refine own_G.go (fun t k => XS.iushr X_5.here hx rfl (hb hby at_41) rfl k) ?_
  show own_G _ _ _ _ (T_5.setTop (mkF m 42 #[.val (.int p0), .val (.int p1), .val (.int d_1), .val (.int d_2), .val (.int d_3), .val (.int d_4), .val (.int d_5), .val (.int (p1 &&& (15 : Int32))), .unset, .unset, .unset, .unset, .unset, .unset, .unset, .unset, .unset] [(.int (Jvm.Free.XT.ushr p1 (4 : Int32)))]))
  refine own_G.go (fun t k => XS.bipush X_5.here hx rfl (hb hby at_42) k) ?_
  show own_G _ _ _ _ (T_5.setTop (mkF m 44 #[.val (.int p0), .val (.int p1), .val (.int d_1), .val (.int d_2), .val (.int d_3), .val (.int d_4), .val (.int d_5), .val (.int (p1 &&& (15 : Int32))), .unset, .unset, .unset, .unset, .unset, .unset, .unset, .unset, .unset] [(.int (15 : Int32)), (.int (Jvm.Free.XT.ushr p1 (4 : Int32)))]))
  refine own_G.go (fun t k => XS.iand X_5.here hx rfl (hb hby at_44) rfl k) ?_
  show own_G _ _ _ _ (T_5.setTop (mkF m 45 #[.val (.int p0), .val (.int p1), .val (.int d_1), .val (.int d_2), .val (.int d_3), .val (.int d_4), .val (.int d_5), .val (.int (p1 &&& (15 : Int32))), .unset, .unset, .unset, .unset, .unset, .unset, .unset, .unset, .unset] [(.int ((Jvm.Free.XT.ushr p1 (4 : Int32)) &&& (15 : Int32)))]))
  refine own_G.go (fun t k => XS.istore X_5.here hx rfl (hb hby at_45) rfl (l' := #[.val (.int p0), .val (.int p1), .val (.int d_1), .val (.int d_2), .val (.int d_3), .val (.int d_4), .val (.int d_5), .val (.int (p1 &&& (15 : Int32))), .val (.int ((Jvm.Free.XT.ushr p1 (4 : Int32)) &&& (15 : Int32))), .unset, .unset, .unset, .unset, .unset, .unset, .unset, .unset]) rfl k) ?_
  show own_G _ _ _ _ (T_5.setTop (mkF m 47 #[.val (.int p0), .val (.int p1), .val (.int d_1), .val (.int d_2), .val (.int d_3), .val (.int d_4), .val (.int d_5), .val (.int (p1 &&& (15 : Int32))), .val (.int ((Jvm.Free.XT.ushr p1 (4 : Int32)) &&& (15 : Int32))), .unset, .unset, .unset, .unset, .unset, .unset, .unset, .unset] []))
  refine own_G.go (fun t k => XS.iloadN X_5.here hx rfl (hb hby at_47) rfl k) ?_
  show own_G _ _ _ _ (T_5.setTop (mkF m 48 #[.val (.int p0), .val (.int p1), .val (.int d_1), .val (.int d_2), .val (.int d_3), .val (.int d_4), .val (.int d_5), .val (.int (p1 &&& (15 : Int32))), .val (.int ((Jvm.Free.XT.ushr p1 (4 : Int32)) &&& (15 : Int32))), .unset, .unset, .unset, .unset, .unset, .unset, .unset, .unset] [(.int p1)]))
  refine own_G.go (fun t k => XS.bipush X_5.here hx rfl (hb hby at_48) k) ?_
  show own_G _ _ _ _ (T_5.setTop (mkF m 50 #[.val (.int p0), .val (.int p1), .val (.int d_1), .val (.int d_2), .val (.int d_3), .val (.int d_4), .val (.int d_5), .val (.int (p1 &&& (15 : Int32))), .val (.int ((Jvm.Free.XT.ushr p1 (4 : Int32)) &&& (15 : Int32))), .unset, .unset, .unset, .unset, .unset, .unset, .unset, .unset] [(.int (8 : Int32)), (.int p1)]))
  refine own_G.go (fun t k => XS.iushr X_5.here hx rfl (hb hby at_50) rfl k) ?_
  show own_G _ _ _ _ (T_5.setTop (mkF m 51 #[.val (.int p0), .val (.int p1), .val (.int d_1), .val (.int d_2), .val (.int d_3), .val (.int d_4), .val (.int d_5), .val (.int (p1 &&& (15 : Int32))), .val (.int ((Jvm.Free.XT.ushr p1 (4 : Int32)) &&& (15 : Int32))), .unset, .unset, .unset, .unset, .unset, .unset, .unset, .unset] [(.int (Jvm.Free.XT.ushr p1 (8 : Int32)))]))
  refine own_G.go (fun t k => XS.bipush X_5.here hx rfl (hb hby at_51) k) ?_
  show own_G _ _ _ _ (T_5.setTop (mkF m 53 #[.val (.int p0), .val (.int p1), .val (.int d_1), .val (.int d_2), .val (.int d_3), .val (.int d_4), .val (.int d_5), .val (.int (p1 &&& (15 : Int32))), .val (.int ((Jvm.Free.XT.ushr p1 (4 : Int32)) &&& (15 : Int32))), .unset, .unset, .unset, .unset, .unset, .unset, .unset, .unset] [(.int (15 : Int32)), (.int (Jvm.Free.XT.ushr p1 (8 : Int32)))]))
  refine own_G.go (fun t k => XS.iand X_5.here hx rfl (hb hby at_53) rfl k) ?_
  show own_G _ _ _ _ (T_5.setTop (mkF m 54 #[.val (.int p0), .val (.int p1), .val (.int d_1), .val (.int d_2), .val (.int d_3), .val (.int d_4), .val (.int d_5), .val (.int (p1 &&& (15 : Int32))), .val (.int ((Jvm.Free.XT.ushr p1 (4 : Int32)) &&& (15 : Int32))), .unset, .unset, .unset, .unset, .unset, .unset, .unset, .unset] [(.int ((Jvm.Free.XT.ushr p1 (8 : Int32)) &&& (15 : Int32)))]))
  refine own_G.go (fun t k => XS.istore X_5.here hx rfl (hb hby at_54) rfl (l' := #[.val (.int p0), .val (.int p1), .val (.int d_1), .val (.int d_2), .val (.int d_3), .val (.int d_4), .val (.int d_5), .val (.int (p1 &&& (15 : Int32))), .val (.int ((Jvm.Free.XT.ushr p1 (4 : Int32)) &&& (15 : Int32))), .val (.int ((Jvm.Free.XT.ushr p1 (8 : Int32)) &&& (15 : Int32))), .unset, .unset, .unset, .unset, .unset, .unset, .unset]) rfl k) ?_
  show own_G _ _ _ _ (T_5.setTop (mkF m 56 #[.val (.int p0), .val (.int p1), .val (.int d_1), .val (.int d_2), .val (.int d_3), .val (.int d_4), .val (.int d_5), .val (.int (p1 &&& (15 : Int32))), .val (.int ((Jvm.Free.XT.ushr p1 (4 : Int32)) &&& (15 : Int32))), .val (.int ((Jvm.Free.XT.ushr p1 (8 : Int32)) &&& (15 : Int32))), .unset, .unset, .unset, .unset, .unset, .unset, .unset] []))
  refine own_G.go (fun t k => XS.iloadN X_5.here hx rfl (hb hby at_56) rfl k) ?_
  show own_G _ _ _ _ (T_5.setTop (mkF m 57 #[.val (.int p0), .val (.int p1), .val (.int d_1), .val (.int d_2), .val (.int d_3), .val (.int d_4), .val (.int d_5), .val (.int (p1 &&& (15 : Int32))), .val (.int ((Jvm.Free.XT.ushr p1 (4 : Int32)) &&& (15 : Int32))), .val (.int ((Jvm.Free.XT.ushr p1 (8 : Int32)) &&& (15 : Int32))), .unset, .unset, .unset, .unset, .unset, .unset, .unset] [(.int p1)]))
  refine own_G.go (fun t k => XS.bipush X_5.here hx rfl (hb hby at_57) k) ?_
  show own_G _ _ _ _ (T_5.setTop (mkF m 59 #[.val (.int p0), .val (.int p1), .val (.int d_1), .val (.int d_2), .val (.int d_3), .val (.int d_4), .val (.int d_5), .val (.int (p1 &&& (15 : Int32))), .val (.int ((Jvm.Free.XT.ushr p1 (4 : Int32)) &&& (15 : Int32))), .val (.int ((Jvm.Free.XT.ushr p1 (8 : Int32)) &&& (15 : Int32))), .unset, .unset, .unset, .unset, .unset, .unset, .unset] [(.int (12 : Int32)), (.int p1)]))
  refine own_G.go (fun t k => XS.iushr X_5.here hx rfl (hb hby at_59) rfl k) ?_
  show own_G _ _ _ _ (T_5.setTop (mkF m 60 #[.val (.int p0), .val (.int p1), .val (.int d_1), .val (.int d_2), .val (.int d_3), .val (.int d_4), .val (.int d_5), .val (.int (p1 &&& (15 : Int32))), .val (.int ((Jvm.Free.XT.ushr p1 (4 : Int32)) &&& (15 : Int32))), .val (.int ((Jvm.Free.XT.ushr p1 (8 : Int32)) &&& (15 : Int32))), .unset, .unset, .unset, .unset, .unset, .unset, .unset] [(.int (Jvm.Free.XT.ushr p1 (12 : Int32)))]))
  refine own_G.go (fun t k => XS.bipush X_5.here hx rfl (hb hby at_60) k) ?_
  show own_G _ _ _ _ (T_5.setTop (mkF m 62 #[.val (.int p0), .val (.int p1), .val (.int d_1), .val (.int d_2), .val (.int d_3), .val (.int d_4), .val (.int d_5), .val (.int (p1 &&& (15 : Int32))), .val (.int ((Jvm.Free.XT.ushr p1 (4 : Int32)) &&& (15 : Int32))), .val (.int ((Jvm.Free.XT.ushr p1 (8 : Int32)) &&& (15 : Int32))), .unset, .unset, .unset, .unset, .unset, .unset, .unset] [(.int (15 : Int32)), (.int (Jvm.Free.XT.ushr p1 (12 : Int32)))]))
  refine own_G.go (fun t k => XS.iand X_5.here hx rfl (hb hby at_62) rfl k) ?_
  show own_G _ _ _ _ (T_5.setTop (mkF m 63 #[.val (.int p0), .val (.int p1), .val (.int d_1), .val (.int d_2), .val (.int d_3), .val (.int d_4), .val (.int d_5), .val (.int (p1 &&& (15 : Int32))), .val (.int ((Jvm.Free.XT.ushr p1 (4 : Int32)) &&& (15 : Int32))), .val (.int ((Jvm.Free.XT.ushr p1 (8 : Int32)) &&& (15 : Int32))), .unset, .unset, .unset, .unset, .unset, .unset, .unset] [(.int ((Jvm.Free.XT.ushr p1 (12 : Int32)) &&& (15 : Int32)))]))
  refine own_G.go (fun t k => XS.istore X_5.here hx rfl (hb hby at_63) rfl (l' := #[.val (.int p0), .val (.int p1), .val (.int d_1), .val (.int d_2), .val (.int d_3), .val (.int d_4), .val (.int d_5), .val (.int (p1 &&& (15 : Int32))), .val (.int ((Jvm.Free.XT.ushr p1 (4 : Int32)) &&& (15 : Int32))), .val (.int ((Jvm.Free.XT.ushr p1 (8 : Int32)) &&& (15 : Int32))), .val (.int ((Jvm.Free.XT.ushr p1 (12 : Int32)) &&& (15 : Int32))), .unset, .unset, .unset, .unset, .unset, .unset]) rfl k) ?_
  show own_G _ _ _ _ (T_5.setTop (mkF m 65 #[.val (.int p0), .val (.int p1), .val (.int d_1), .val (.int d_2), .val (.int d_3), .val (.int d_4), .val (.int d_5), .val (.int (p1 &&& (15 : Int32))), .val (.int ((Jvm.Free.XT.ushr p1 (4 : Int32)) &&& (15 : Int32))), .val (.int ((Jvm.Free.XT.ushr p1 (8 : Int32)) &&& (15 : Int32))), .val (.int ((Jvm.Free.XT.ushr p1 (12 : Int32)) &&& (15 : Int32))), .unset, .unset, .unset, .unset, .unset, .unset] []))
  refine own_G.go (fun t k => XS.iconst X_5.here hx rfl (hb hby at_65) k) ?_
  show own_G _ _ _ _ (T_5.setTop (mkF m 66 #[.val (.int p0), .val (.int p1), .val (.int d_1), .val (.int d_2), .val (.int d_3), .val (.int d_4), .val (.int d_5), .val (.int (p1 &&& (15 : Int32))), .val (.int ((Jvm.Free.XT.ushr p1 (4 : Int32)) &&& (15 : Int32))), .val (.int ((Jvm.Free.XT.ushr p1 (8 : Int32)) &&& (15 : Int32))), .val (.int ((Jvm.Free.XT.ushr p1 (12 : Int32)) &&& (15 : Int32))), .unset, .unset, .unset, .unset, .unset, .unset] [(.int (5 : Int32))]))
  obtain ⟨T_6, h_6, k_6, X_6, e_6, E_6, A_6, st_6⟩ := newP X_5 hx hZ (own_w hw 4 rfl) eh_5 (g := (mkF m 66 #[.val (.int p0), .val (.int p1), .val (.int d_1), .val (.int d_2), .val (.int d_3), .val (.int d_4), .val (.int d_5), .val (.int (p1 &&& (15 : Int32))), .val (.int ((Jvm.Free.XT.ushr p1 (4 : Int32)) &&& (15 : Int32))), .val (.int ((Jvm.Free.XT.ushr p1 (8 : Int32)) &&& (15 : Int32))), .val (.int ((Jvm.Free.XT.ushr p1 (12 : Int32)) &&& (15 : Int32))), .unset, .unset, .unset, .unset, .unset, .unset] [(.int (5 : Int32))])) rfl (hb hby at_66) rfl (by decide : ¬ ((5 : Int32) < (0 : Int32))) (cap := 5) (by decide : ((5 : Int32)).toNatClampNeg ≤ 5) (by decide) (by decide) (by decide)
  obtain ⟨a_6, g_6⟩ : ∃ z, z = h0.size := ⟨_, rfl⟩
  rw [← g_6] at A_6 st_6
  refine own_G.go st_6 ?_
  have V_6 : Arv Z h_6 a_6 k_6 .char (5 : Int32) ([(.int (0 : Int32)), (.int (0 : Int32)), (.int (0 : Int32)), (.int (0 : Int32)), (.int (0 : Int32))] : List Value) (.int (0 : Int32)) := (Arv.new A_6 (by decide : ¬ ((5 : Int32) < (0 : Int32)))).pad (pad_rep [] (.int (0 : Int32)) 5)
  show own_G _ _ _ _ (T_6.setTop (mkF m 68 #[.val (.int p0), .val (.int p1), .val (.int d_1), .val (.int d_2), .val (.int d_3), .val (.int d_4), .val (.int d_5), .val (.int (p1 &&& (15 : Int32))), .val (.int ((Jvm.Free.XT.ushr p1 (4 : Int32)) &&& (15 : Int32))), .val (.int ((Jvm.Free.XT.ushr p1 (8 : Int32)) &&& (15 : Int32))), .val (.int ((Jvm.Free.XT.ushr p1 (12 : Int32)) &&& (15 : Int32))), .unset, .unset, .unset, .unset, .unset, .unset] [(.ref a_6)]))
  refine own_G.go (fun t k => XS.dup X_6.here hx rfl (hb hby at_68) rfl rfl k) ?_
  show own_G _ _ _ _ (T_6.setTop (mkF m 69 #[.val (.int p0), .val (.int p1), .val (.int d_1), .val (.int d_2), .val (.int d_3), .val (.int d_4), .val (.int d_5), .val (.int (p1 &&& (15 : Int32))), .val (.int ((Jvm.Free.XT.ushr p1 (4 : Int32)) &&& (15 : Int32))), .val (.int ((Jvm.Free.XT.ushr p1 (8 : Int32)) &&& (15 : Int32))), .val (.int ((Jvm.Free.XT.ushr p1 (12 : Int32)) &&& (15 : Int32))), .unset, .unset, .unset, .unset, .unset, .unset] [(.ref a_6), (.ref a_6)]))
  refine own_G.go (fun t k => XS.iconst X_6.here hx rfl (hb hby at_69) k) ?_
  show own_G _ _ _ _ (T_6.setTop (mkF m 70 #[.val (.int p0), .val (.int p1), .val (.int d_1), .val (.int d_2), .val (.int d_3), .val (.int d_4), .val (.int d_5), .val (.int (p1 &&& (15 : Int32))), .val (.int ((Jvm.Free.XT.ushr p1 (4 : Int32)) &&& (15 : Int32))), .val (.int ((Jvm.Free.XT.ushr p1 (8 : Int32)) &&& (15 : Int32))), .val (.int ((Jvm.Free.XT.ushr p1 (12 : Int32)) &&& (15 : Int32))), .unset, .unset, .unset, .unset, .unset, .unset] [(.int (0 : Int32)), (.ref a_6), (.ref a_6)]))
  refine own_G.go (fun t k => XS.bipush X_6.here hx rfl (hb hby at_70) k) ?_
  show own_G _ _ _ _ (T_6.setTop (mkF m 72 #[.val (.int p0), .val (.int p1), .val (.int d_1), .val (.int d_2), .val (.int d_3), .val (.int d_4), .val (.int d_5), .val (.int (p1 &&& (15 : Int32))), .val (.int ((Jvm.Free.XT.ushr p1 (4 : Int32)) &&& (15 : Int32))), .val (.int ((Jvm.Free.XT.ushr p1 (8 : Int32)) &&& (15 : Int32))), .val (.int ((Jvm.Free.XT.ushr p1 (12 : Int32)) &&& (15 : Int32))), .unset, .unset, .unset, .unset, .unset, .unset] [(.int (48 : Int32)), (.int (0 : Int32)), (.ref a_6), (.ref a_6)]))
  refine own_G.go (fun t k => XS.iloadN X_6.here hx rfl (hb hby at_72) rfl k) ?_
  show own_G _ _ _ _ (T_6.setTop (mkF m 73 #[.val (.int p0), .val (.int p1), .val (.int d_1), .val (.int d_2), .val (.int d_3), .val (.int d_4), .val (.int d_5), .val (.int (p1 &&& (15 : Int32))), .val (.int ((Jvm.Free.XT.ushr p1 (4 : Int32)) &&& (15 : Int32))), .val (.int ((Jvm.Free.XT.ushr p1 (8 : Int32)) &&& (15 : Int32))), .val (.int ((Jvm.Free.XT.ushr p1 (12 : Int32)) &&& (15 : Int32))), .unset, .unset, .unset, .unset, .unset, .unset] [(.int d_1), (.int (48 : Int32)), (.int (0 : Int32)), (.ref a_6), (.ref a_6)]))
  refine own_G.go (fun t k => XS.iadd X_6.here hx rfl (hb hby at_73) rfl k) ?_
  show own_G _ _ _ _ (T_6.setTop (mkF m 74 #[.val (.int p0), .val (.int p1), .val (.int d_1), .val (.int d_2), .val (.int d_3), .val (.int d_4), .val (.int d_5), .val (.int (p1 &&& (15 : Int32))), .val (.int ((Jvm.Free.XT.ushr p1 (4 : Int32)) &&& (15 : Int32))), .val (.int ((Jvm.Free.XT.ushr p1 (8 : Int32)) &&& (15 : Int32))), .val (.int ((Jvm.Free.XT.ushr p1 (12 : Int32)) &&& (15 : Int32))), .unset, .unset, .unset, .unset, .unset, .unset] [(.int ((48 : Int32) + d_1)), (.int (0 : Int32)), (.ref a_6), (.ref a_6)]))
  refine own_G.go (fun t k => XS.i2c X_6.here hx rfl (hb hby at_74) rfl k) ?_
  show own_G _ _ _ _ (T_6.setTop (mkF m 75 #[.val (.int p0), .val (.int p1), .val (.int d_1), .val (.int d_2), .val (.int d_3), .val (.int d_4), .val (.int d_5), .val (.int (p1 &&& (15 : Int32))), .val (.int ((Jvm.Free.XT.ushr p1 (4 : Int32)) &&& (15 : Int32))), .val (.int ((Jvm.Free.XT.ushr p1 (8 : Int32)) &&& (15 : Int32))), .val (.int ((Jvm.Free.XT.ushr p1 (12 : Int32)) &&& (15 : Int32))), .unset, .unset, .unset, .unset, .unset, .unset] [(.int (own_c ((48 : Int32) + d_1))), (.int (0 : Int32)), (.ref a_6), (.ref a_6)]))
  obtain ⟨T_7, h_7, X_7, e_7, W_7, V_7, st_7⟩ := own_stC X_6 hx hZ e_6 V_6 (j := (0 : Int32)) 0 (Nat.le_of_ble_eq_true rfl) (by decide) (by decide : ¬ ((0 : Int32) < (0 : Int32)) ∧ (0 : Int32) < (5 : Int32)) (g := (mkF m 75 #[.val (.int p0), .val (.int p1), .val (.int d_1), .val (.int d_2), .val (.int d_3), .val (.int d_4), .val (.int d_5), .val (.int (p1 &&& (15 : Int32))), .val (.int ((Jvm.Free.XT.ushr p1 (4 : Int32)) &&& (15 : Int32))), .val (.int ((Jvm.Free.XT.ushr p1 (8 : Int32)) &&& (15 : Int32))), .val (.int ((Jvm.Free.XT.ushr p1 (12 : Int32)) &&& (15 : Int32))), .unset, .unset, .unset, .unset, .unset, .unset] [(.int (own_c ((48 : Int32) + d_1))), (.int (0 : Int32)), (.ref a_6), (.ref a_6)])) rfl rfl (hb hby at_75)
  refine own_G.go st_7 ?_
  have V_7q : Arv Z h_7 a_6 k_6 .char (5 : Int32) ([(.int (nar .char (own_c ((48 : Int32) + d_1)))), (.int (0 : Int32)), (.int (0 : Int32)), (.int (0 : Int32)), (.int (0 : Int32))] : List Value) (.int (0 : Int32)) := V_7
  have g0_a_6 : n0 ≤ a_6 := Nat.le_trans Z0 (Nat.le_of_eq g_6.symm)
  have N_7 := Fr.snoc X_7 N_5 g0_a_6
  show own_G _ _ _ _ (T_7.setTop (mkF m 76 #[.val (.int p0), .val (.int p1), .val (.int d_1), .val (.int d_2), .val (.int d_3), .val (.int d_4), .val (.int d_5), .val (.int (p1 &&& (15 : Int32))), .val (.int ((Jvm.Free.XT.ushr p1 (4 : Int32)) &&& (15 : Int32))), .val (.int ((Jvm.Free.XT.ushr p1 (8 : Int32)) &&& (15 : Int32))), .val (.int ((Jvm.Free.XT.ushr p1 (12 : Int32)) &&& (15 : Int32))), .unset, .unset, .unset, .unset, .unset, .unset] [(.ref a_6)]))
  refine own_G.go (fun t k => XS.dup X_7.here hx rfl (hb hby at_76) rfl rfl k) ?_
  show own_G _ _ _ _ (T_7.setTop (mkF m 77 #[.val (.int p0), .val (.int p1), .val (.int d_1), .val (.int d_2), .val (.int d_3), .val (.int d_4), .val (.int d_5), .val (.int (p1 &&& (15 : Int32))), .val (.int ((Jvm.Free.XT.ushr p1 (4 : Int32)) &&& (15 : Int32))), .val (.int ((Jvm.Free.XT.ushr p1 (8 : Int32)) &&& (15 : Int32))), .val (.int ((Jvm.Free.XT.ushr p1 (12 : Int32)) &&& (15 : Int32))), .unset, .unset, .unset, .unset, .unset, .unset] [(.ref a_6), (.ref a_6)]))
  refine own_G.go (fun t k => XS.iconst X_7.here hx rfl (hb hby at_77) k) ?_
  show own_G _ _ _ _ (T_7.setTop (mkF m 78 #[.val (.int p0), .val (.int p1), .val (.int d_1), .val (.int d_2), .val (.int d_3), .val (.int d_4), .val (.int d_5), .val (.int (p1 &&& (15 : Int32))), .val (.int ((Jvm.Free.XT.ushr p1 (4 : Int32)) &&& (15 : Int32))), .val (.int ((Jvm.Free.XT.ushr p1 (8 : Int32)) &&& (15 : Int32))), .val (.int ((Jvm.Free.XT.ushr p1 (12 : Int32)) &&& (15 : Int32))), .unset, .unset, .unset, .unset, .unset, .unset] [(.int (1 : Int32)), (.ref a_6), (.ref a_6)]))
  refine own_G.go (fun t k => XS.bipush X_7.here hx rfl (hb hby at_78) k) ?_
  show own_G _ _ _ _ (T_7.setTop (mkF m 80 #[.val (.int p0), .val (.int p1), .val (.int d_1), .val (.int d_2), .val (.int d_3), .val (.int d_4), .val (.int d_5), .val (.int (p1 &&& (15 : Int32))), .val (.int ((Jvm.Free.XT.ushr p1 (4 : Int32)) &&& (15 : Int32))), .val (.int ((Jvm.Free.XT.ushr p1 (8 : Int32)) &&& (15 : Int32))), .val (.int ((Jvm.Free.XT.ushr p1 (12 : Int32)) &&& (15 : Int32))), .unset, .unset, .unset, .unset, .unset, .unset] [(.int (48 : Int32)), (.int (1 : Int32)), (.ref a_6), (.ref a_6)]))
  refine own_G.go (fun t k => XS.iloadN X_7.here hx rfl (hb hby at_80) rfl k) ?_
  show own_G _ _ _ _ (T_7.setTop (mkF m 81 #[.val (.int p0), .val (.int p1), .val (.int d_1), .val (.int d_2), .val (.int d_3), .val (.int d_4), .val (.int d_5), .val (.int (p1 &&& (15 : Int32))), .val (.int ((Jvm.Free.XT.ushr p1 (4 : Int32)) &&& (15 : Int32))), .val (.int ((Jvm.Free.XT.ushr p1 (8 : Int32)) &&& (15 : Int32))), .val (.int ((Jvm.Free.XT.ushr p1 (12 : Int32)) &&& (15 : Int32))), .unset, .unset, .unset, .unset, .unset, .unset] [(.int d_2), (.int (48 : Int32)), (.int (1 : Int32)), (.ref a_6), (.ref a_6)]))
  refine own_G.go (fun t k => XS.iadd X_7.here hx rfl (hb hby at_81) rfl k) ?_
  show own_G _ _ _ _ (T_7.setTop (mkF m 82 #[.val (.int p0), .val (.int p1), .val (.int d_1), .val (.int d_2), .val (.int d_3), .val (.int d_4), .val (.int d_5), .val (.int (p1 &&& (15 : Int32))), .val (.int ((Jvm.Free.XT.ushr p1 (4 : Int32)) &&& (15 : Int32))), .val (.int ((Jvm.Free.XT.ushr p1 (8 : Int32)) &&& (15 : Int32))), .val (.int ((Jvm.Free.XT.ushr p1 (12 : Int32)) &&& (15 : Int32))), .unset, .unset, .unset, .unset, .unset, .unset] [(.int ((48 : Int32) + d_2)), (.int (1 : Int32)), (.ref a_6), (.ref a_6)]))
  refine own_G.go (fun t k => XS.i2c X_7.here hx rfl (hb hby at_82) rfl k) ?_
  show own_G _ _ _ _ (T_7.setTop (mkF m 83 #[.val (.int p0), .val (.int p1), .val (.int d_1), .val (.int d_2), .val (.int d_3), .val (.int d_4), .val (.int d_5), .val (.int (p1 &&& (15 : Int32))), .val (.int ((Jvm.Free.XT.ushr p1 (4 : Int32)) &&& (15 : Int32))), .val (.int ((Jvm.Free.XT.ushr p1 (8 : Int32)) &&& (15 : Int32))), .val (.int ((Jvm.Free.XT.ushr p1 (12 : Int32)) &&& (15 : Int32))), .unset, .unset, .unset, .unset, .unset, .unset] [(.int (own_c ((48 : Int32) + d_2))), (.int (1 : Int32)), (.ref a_6), (.ref a_6)]))
  obtain ⟨T_8, h_8, X_8, e_8, W_8, V_8, st_8⟩ := own_stC X_7 hx hZ e_7 V_7q (j := (1 : Int32)) 1 (Nat.le_of_ble_eq_true rfl) (by decide) (by decide : ¬ ((1 : Int32) < (0 : Int32)) ∧ (1 : Int32) < (5 : Int32)) (g := (mkF m 83 #[.val (.int p0), .val (.int p1), .val (.int d_1), .val (.int d_2), .val (.int d_3), .val (.int d_4), .val (.int d_5), .val (.int (p1 &&& (15 : Int32))), .val (.int ((Jvm.Free.XT.ushr p1 (4 : Int32)) &&& (15 : Int32))), .val (.int ((Jvm.Free.XT.ushr p1 (8 : Int32)) &&& (15 : Int32))), .val (.int ((Jvm.Free.XT.ushr p1 (12 : Int32)) &&& (15 : Int32))), .unset, .unset, .unset, .unset, .unset, .unset] [(.int (own_c ((48 : Int32) + d_2))), (.int (1 : Int32)), (.ref a_6), (.ref a_6)])) rfl rfl (hb hby at_83)
  refine own_G.go st_8 ?_
  have V_8q : Arv Z h_8 a_6 k_6 .char (5 : Int32) ([(.int (nar .char (own_c ((48 : Int32) + d_1)))), (.int (nar .char (own_c ((48 : Int32) + d_2)))), (.int (0 : Int32)), (.int (0 : Int32)), (.int (0 : Int32))] : List Value) (.int (0 : Int32)) := V_8
  have N_8 := Fr.snoc X_8 N_7 g0_a_6
  show own_G _ _ _ _ (T_8.setTop (mkF m 84 #[.val (.int p0), .val (.int p1), .val (.int d_1), .val (.int d_2), .val (.int d_3), .val (.int d_4), .val (.int d_5), .val (.int (p1 &&& (15 : Int32))), .val (.int ((Jvm.Free.XT.ushr p1 (4 : Int32)) &&& (15 : Int32))), .val (.int ((Jvm.Free.XT.ushr p1 (8 : Int32)) &&& (15 : Int32))), .val (.int ((Jvm.Free.XT.ushr p1 (12 : Int32)) &&& (15 : Int32))), .unset, .unset, .unset, .unset, .unset, .unset] [(.ref a_6)]))
  refine own_G.go (fun t k => XS.dup X_8.here hx rfl (hb hby at_84) rfl rfl k) ?_
  show own_G _ _ _ _ (T_8.setTop (mkF m 85 #[.val (.int p0), .val (.int p1), .val (.int d_1), .val (.int d_2), .val (.int d_3), .val (.int d_4), .val (.int d_5), .val (.int (p1 &&& (15 : Int32))), .val (.int ((Jvm.Free.XT.ushr p1 (4 : Int32)) &&& (15 : Int32))), .val (.int ((Jvm.Free.XT.ushr p1 (8 : Int32)) &&& (15 : Int32))), .val (.int ((Jvm.Free.XT.ushr p1 (12 : Int32)) &&& (15 : Int32))), .unset, .unset, .unset, .unset, .unset, .unset] [(.ref a_6), (.ref a_6)]))
  refine own_G.go (fun t k => XS.iconst X_8.here hx rfl (hb hby at_85) k) ?_
  show own_G _ _ _ _ (T_8.setTop (mkF m 86 #[.val (.int p0), .val (.int p1), .val (.int d_1), .val (.int d_2), .val (.int d_3), .val (.int d_4), .val (.int d_5), .val (.int (p1 &&& (15 : Int32))), .val (.int ((Jvm.Free.XT.ushr p1 (4 : Int32)) &&& (15 : Int32))), .val (.int ((Jvm.Free.XT.ushr p1 (8 : Int32)) &&& (15 : Int32))), .val (.int ((Jvm.Free.XT.ushr p1 (12 : Int32)) &&& (15 : Int32))), .unset, .unset, .unset, .unset, .unset, .unset] [(.int (2 : Int32)), (.ref a_6), (.ref a_6)]))
  refine own_G.go (fun t k => XS.bipush X_8.here hx rfl (hb hby at_86) k) ?_
  show own_G _ _ _ _ (T_8.setTop (mkF m 88 #[.val (.int p0), .val (.int p1), .val (.int d_1), .val (.int d_2), .val (.int d_3), .val (.int d_4), .val (.int d_5), .val (.int (p1 &&& (15 : Int32))), .val (.int ((Jvm.Free.XT.ushr p1 (4 : Int32)) &&& (15 : Int32))), .val (.int ((Jvm.Free.XT.ushr p1 (8 : Int32)) &&& (15 : Int32))), .val (.int ((Jvm.Free.XT.ushr p1 (12 : Int32)) &&& (15 : Int32))), .unset, .unset, .unset, .unset, .unset, .unset] [(.int (48 : Int32)), (.int (2 : Int32)), (.ref a_6), (.ref a_6)]))
  refine own_G.go (fun t k => XS.iload X_8.here hx rfl (hb hby at_88) rfl k) ?_
  show own_G _ _ _ _ (T_8.setTop (mkF m 90 #[.val (.int p0), .val (.int p1), .val (.int d_1), .val (.int d_2), .val (.int d_3), .val (.int d_4), .val (.int d_5), .val (.int (p1 &&& (15 : Int32))), .val (.int ((Jvm.Free.XT.ushr p1 (4 : Int32)) &&& (15 : Int32))), .val (.int ((Jvm.Free.XT.ushr p1 (8 : Int32)) &&& (15 : Int32))), .val (.int ((Jvm.Free.XT.ushr p1 (12 : Int32)) &&& (15 : Int32))), .unset, .unset, .unset, .unset, .unset, .unset] [(.int d_3), (.int (48 : Int32)), (.int (2 : Int32)), (.ref a_6), (.ref a_6)]))
  refine own_G.go (fun t k => XS.iadd X_8.here hx rfl (hb hby at_90) rfl k) ?_
  show own_G _ _ _ _ (T_8.setTop (mkF m 91 #[.val (.int p0), .val (.int p1), .val (.int d_1), .val (.int d_2), .val (.int d_3), .val (.int d_4), .val (.int d_5), .val (.int (p1 &&& (15 : Int32))), .val (.int ((Jvm.Free.XT.ushr p1 (4 : Int32)) &&& (15 : Int32))), .val (.int ((Jvm.Free.XT.ushr p1 (8 : Int32)) &&& (15 : Int32))), .val (.int ((Jvm.Free.XT.ushr p1 (12 : Int32)) &&& (15 : Int32))), .unset, .unset, .unset, .unset, .unset, .unset] [(.int ((48 : Int32) + d_3)), (.int (2 : Int32)), (.ref a_6), (.ref a_6)]))
  refine own_G.go (fun t k => XS.i2c X_8.here hx rfl (hb hby at_91) rfl k) ?_
  show own_G _ _ _ _ (T_8.setTop (mkF m 92 #[.val (.int p0), .val (.int p1), .val (.int d_1), .val (.int d_2), .val (.int d_3), .val (.int d_4), .val (.int d_5), .val (.int (p1 &&& (15 : Int32))), .val (.int ((Jvm.Free.XT.ushr p1 (4 : Int32)) &&& (15 : Int32))), .val (.int ((Jvm.Free.XT.ushr p1 (8 : Int32)) &&& (15 : Int32))), .val (.int ((Jvm.Free.XT.ushr p1 (12 : Int32)) &&& (15 : Int32))), .unset, .unset, .unset, .unset, .unset, .unset] [(.int (own_c ((48 : Int32) + d_3))), (.int (2 : Int32)), (.ref a_6), (.ref a_6)]))
  obtain ⟨T_9, h_9, X_9, e_9, W_9, V_9, st_9⟩ := own_stC X_8 hx hZ e_8 V_8q (j := (2 : Int32)) 2 (Nat.le_of_ble_eq_true rfl) (by decide) (by decide : ¬ ((2 : Int32) < (0 : Int32)) ∧ (2 : Int32) < (5 : Int32)) (g := (mkF m 92 #[.val (.int p0), .val (.int p1), .val (.int d_1), .val (.int d_2), .val (.int d_3), .val (.int d_4), .val (.int d_5), .val (.int (p1 &&& (15 : Int32))), .val (.int ((Jvm.Free.XT.ushr p1 (4 : Int32)) &&& (15 : Int32))), .val (.int ((Jvm.Free.XT.ushr p1 (8 : Int32)) &&& (15 : Int32))), .val (.int ((Jvm.Free.XT.ushr p1 (12 : Int32)) &&& (15 : Int32))), .unset, .unset, .unset, .unset, .unset, .unset] [(.int (own_c ((48 : Int32) + d_3))), (.int (2 : Int32)), (.ref a_6), (.ref a_6)])) rfl rfl (hb hby at_92)
  refine own_G.go st_9 ?_
  have V_9q : Arv Z h_9 a_6 k_6 .char (5 : Int32) ([(.int (nar .char (own_c ((48 : Int32) + d_1)))), (.int (nar .char (own_c ((48 : Int32) + d_2)))), (.int (nar .char (own_c ((48 : Int32) + d_3)))), (.int (0 : Int32)), (.int (0 : Int32))] : List Value) (.int (0 : Int32)) := V_9
  have N_9 := Fr.snoc X_9 N_8 g0_a_6
  show own_G _ _ _ _ (T_9.setTop (mkF m 93 #[.val (.int p0), .val (.int p1), .val (.int d_1), .val (.int d_2), .val (.int d_3), .val (.int d_4), .val (.int d_5), .val (.int (p1 &&& (15 : Int32))), .val (.int ((Jvm.Free.XT.ushr p1 (4 : Int32)) &&& (15 : Int32))), .val (.int ((Jvm.Free.XT.ushr p1 (8 : Int32)) &&& (15 : Int32))), .val (.int ((Jvm.Free.XT.ushr p1 (12 : Int32)) &&& (15 : Int32))), .unset, .unset, .unset, .unset, .unset, .unset] [(.ref a_6)]))
  refine own_G.go (fun t k => XS.dup X_9.here hx rfl (hb hby at_93) rfl rfl k) ?_
  show own_G _ _ _ _ (T_9.setTop (mkF m 94 #[.val (.int p0), .val (.int p1), .val (.int d_1), .val (.int d_2), .val (.int d_3), .val (.int d_4), .val (.int d_5), .val (.int (p1 &&& (15 : Int32))), .val (.int ((Jvm.Free.XT.ushr p1 (4 : Int32)) &&& (15 : Int32))), .val (.int ((Jvm.Free.XT.ushr p1 (8 : Int32)) &&& (15 : Int32))), .val (.int ((Jvm.Free.XT.ushr p1 (12 : Int32)) &&& (15 : Int32))), .unset, .unset, .unset, .unset, .unset, .unset] [(.ref a_6), (.ref a_6)]))
  refine own_G.go (fun t k => XS.iconst X_9.here hx rfl (hb hby at_94) k) ?_
  show own_G _ _ _ _ (T_9.setTop (mkF m 95 #[.val (.int p0), .val (.int p1), .val (.int d_1), .val (.int d_2), .val (.int d_3), .val (.int d_4), .val (.int d_5), .val (.int (p1 &&& (15 : Int32))), .val (.int ((Jvm.Free.XT.ushr p1 (4 : Int32)) &&& (15 : Int32))), .val (.int ((Jvm.Free.XT.ushr p1 (8 : Int32)) &&& (15 : Int32))), .val (.int ((Jvm.Free.XT.ushr p1 (12 : Int32)) &&& (15 : Int32))), .unset, .unset, .unset, .unset, .unset, .unset] [(.int (3 : Int32)), (.ref a_6), (.ref a_6)]))
  refine own_G.go (fun t k => XS.bipush X_9.here hx rfl (hb hby at_95) k) ?_
  show own_G _ _ _ _ (T_9.setTop (mkF m 97 #[.val (.int p0), .val (.int p1), .val (.int d_1), .val (.int d_2), .val (.int d_3), .val (.int d_4), .val (.int d_5), .val (.int (p1 &&& (15 : Int32))), .val (.int ((Jvm.Free.XT.ushr p1 (4 : Int32)) &&& (15 : Int32))), .val (.int ((Jvm.Free.XT.ushr p1 (8 : Int32)) &&& (15 : Int32))), .val (.int ((Jvm.Free.XT.ushr p1 (12 : Int32)) &&& (15 : Int32))), .unset, .unset, .unset, .unset, .unset, .unset] [(.int (48 : Int32)), (.int (3 : Int32)), (.ref a_6), (.ref a_6)]))
  refine own_G.go (fun t k => XS.iload X_9.here hx rfl (hb hby at_97) rfl k) ?_
  show own_G _ _ _ _ (T_9.setTop (mkF m 99 #[.val (.int p0), .val (.int p1), .val (.int d_1), .val (.int d_2), .val (.int d_3), .val (.int d_4), .val (.int d_5), .val (.int (p1 &&& (15 : Int32))), .val (.int ((Jvm.Free.XT.ushr p1 (4 : Int32)) &&& (15 : Int32))), .val (.int ((Jvm.Free.XT.ushr p1 (8 : Int32)) &&& (15 : Int32))), .val (.int ((Jvm.Free.XT.ushr p1 (12 : Int32)) &&& (15 : Int32))), .unset, .unset, .unset, .unset, .unset, .unset] [(.int d_4), (.int (48 : Int32)), (.int (3 : Int32)), (.ref a_6), (.ref a_6)]))
  refine own_G.go (fun t k => XS.iadd X_9.here hx rfl (hb hby at_99) rfl k) ?_
  show own_G _ _ _ _ (T_9.setTop (mkF m 100 #[.val (.int p0), .val (.int p1), .val (.int d_1), .val (.int d_2), .val (.int d_3), .val (.int d_4), .val (.int d_5), .val (.int (p1 &&& (15 : Int32))), .val (.int ((Jvm.Free.XT.ushr p1 (4 : Int32)) &&& (15 : Int32))), .val (.int ((Jvm.Free.XT.ushr p1 (8 : Int32)) &&& (15 : Int32))), .val (.int ((Jvm.Free.XT.ushr p1 (12 : Int32)) &&& (15 : Int32))), .unset, .unset, .unset, .unset, .unset, .unset] [(.int ((48 : Int32) + d_4)), (.int (3 : Int32)), (.ref a_6), (.ref a_6)]))
  refine own_G.go (fun t k => XS.i2c X_9.here hx rfl (hb hby at_100) rfl k) ?_
  show own_G _ _ _ _ (T_9.setTop (mkF m 101 #[.val (.int p0), .val (.int p1), .val (.int d_1), .val (.int d_2), .val (.int d_3), .val (.int d_4), .val (.int d_5), .val (.int (p1 &&& (15 : Int32))), .val (.int ((Jvm.Free.XT.ushr p1 (4 : Int32)) &&& (15 : Int32))), .val (.int ((Jvm.Free.XT.ushr p1 (8 : Int32)) &&& (15 : Int32))), .val (.int ((Jvm.Free.XT.ushr p1 (12 : Int32)) &&& (15 : Int32))), .unset, .unset, .unset, .unset, .unset, .unset] [(.int (own_c ((48 : Int32) + d_4))), (.int (3 : Int32)), (.ref a_6), (.ref a_6)]))
  obtain ⟨T_10, h_10, X_10, e_10, W_10, V_10, st_10⟩ := own_stC X_9 hx hZ e_9 V_9q (j := (3 : Int32)) 3 (Nat.le_of_ble_eq_true rfl) (by decide) (by decide : ¬ ((3 : Int32) < (0 : Int32)) ∧ (3 : Int32) < (5 : Int32)) (g := (mkF m 101 #[.val (.int p0), .val (.int p1), .val (.int d_1), .val (.int d_2), .val (.int d_3), .val (.int d_4), .val (.int d_5), .val (.int (p1 &&& (15 : Int32))), .val (.int ((Jvm.Free.XT.ushr p1 (4 : Int32)) &&& (15 : Int32))), .val (.int ((Jvm.Free.XT.ushr p1 (8 : Int32)) &&& (15 : Int32))), .val (.int ((Jvm.Free.XT.ushr p1 (12 : Int32)) &&& (15 : Int32))), .unset, .unset, .unset, .unset, .unset, .unset] [(.int (own_c ((48 : Int32) + d_4))), (.int (3 : Int32)), (.ref a_6), (.ref a_6)])) rfl rfl (hb hby at_101)
  refine own_G.go st_10 ?_
  have V_10q : Arv Z h_10 a_6 k_6 .char (5 : Int32) ([(.int (nar .char (own_c ((48 : Int32) + d_1)))), (.int (nar .char (own_c ((48 : Int32) + d_2)))), (.int (nar .char (own_c ((48 : Int32) + d_3)))), (.int (nar .char (own_c ((48 : Int32) + d_4)))), (.int (0 : Int32))] : List Value) (.int (0 : Int32)) := V_10
  have N_10 := Fr.snoc X_10 N_9 g0_a_6
  show own_G _ _ _ _ (T_10.setTop (mkF m 102 #[.val (.int p0), .val (.int p1), .val (.int d_1), .val (.int d_2), .val (.int d_3), .val (.int d_4), .val (.int d_5), .val (.int (p1 &&& (15 : Int32))), .val (.int ((Jvm.Free.XT.ushr p1 (4 : Int32)) &&& (15 : Int32))), .val (.int ((Jvm.Free.XT.ushr p1 (8 : Int32)) &&& (15 : Int32))), .val (.int ((Jvm.Free.XT.ushr p1 (12 : Int32)) &&& (15 : Int32))), .unset, .unset, .unset, .unset, .unset, .unset] [(.ref a_6)]))
  refine own_G.go (fun t k => XS.dup X_10.here hx rfl (hb hby at_102) rfl rfl k) ?_
  show own_G _ _ _ _ (T_10.setTop (mkF m 103 #[.val (.int p0), .val (.int p1), .val (.int d_1), .val (.int d_2), .val (.int d_3), .val (.int d_4), .val (.int d_5), .val (.int (p1 &&& (15 : Int32))), .val (.int ((Jvm.Free.XT.ushr p1 (4 : Int32)) &&& (15 : Int32))), .val (.int ((Jvm.Free.XT.ushr p1 (8 : Int32)) &&& (15 : Int32))), .val (.int ((Jvm.Free.XT.ushr p1 (12 : Int32)) &&& (15 : Int32))), .unset, .unset, .unset, .unset, .unset, .unset] [(.ref a_6), (.ref a_6)]))
  refine own_G.go (fun t k => XS.iconst X_10.here hx rfl (hb hby at_103) k) ?_
  show own_G _ _ _ _ (T_10.setTop (mkF m 104 #[.val (.int p0), .val (.int p1), .val (.int d_1), .val (.int d_2), .val (.int d_3), .val (.int d_4), .val (.int d_5), .val (.int (p1 &&& (15 : Int32))), .val (.int ((Jvm.Free.XT.ushr p1 (4 : Int32)) &&& (15 : Int32))), .val (.int ((Jvm.Free.XT.ushr p1 (8 : Int32)) &&& (15 : Int32))), .val (.int ((Jvm.Free.XT.ushr p1 (12 : Int32)) &&& (15 : Int32))), .unset, .unset, .unset, .unset, .unset, .unset] [(.int (4 : Int32)), (.ref a_6), (.ref a_6)]))
  refine own_G.go (fun t k => XS.bipush X_10.here hx rfl (hb hby at_104) k) ?_
  show own_G _ _ _ _ (T_10.setTop (mkF m 106 #[.val (.int p0), .val (.int p1), .val (.int d_1), .val (.int d_2), .val (.int d_3), .val (.int d_4), .val (.int d_5), .val (.int (p1 &&& (15 : Int32))), .val (.int ((Jvm.Free.XT.ushr p1 (4 : Int32)) &&& (15 : Int32))), .val (.int ((Jvm.Free.XT.ushr p1 (8 : Int32)) &&& (15 : Int32))), .val (.int ((Jvm.Free.XT.ushr p1 (12 : Int32)) &&& (15 : Int32))), .unset, .unset, .unset, .unset, .unset, .unset] [(.int (48 : Int32)), (.int (4 : Int32)), (.ref a_6), (.ref a_6)]))
  refine own_G.go (fun t k => XS.iload X_10.here hx rfl (hb hby at_106) rfl k) ?_
  show own_G _ _ _ _ (T_10.setTop (mkF m 108 #[.val (.int p0), .val (.int p1), .val (.int d_1), .val (.int d_2), .val (.int d_3), .val (.int d_4), .val (.int d_5), .val (.int (p1 &&& (15 : Int32))), .val (.int ((Jvm.Free.XT.ushr p1 (4 : Int32)) &&& (15 : Int32))), .val (.int ((Jvm.Free.XT.ushr p1 (8 : Int32)) &&& (15 : Int32))), .val (.int ((Jvm.Free.XT.ushr p1 (12 : Int32)) &&& (15 : Int32))), .unset, .unset, .unset, .unset, .unset, .unset] [(.int d_5), (.int (48 : Int32)), (.int (4 : Int32)), (.ref a_6), (.ref a_6)]))
  refine own_G.go (fun t k => XS.iadd X_10.here hx rfl (hb hby at_108) rfl k) ?_
  show own_G _ _ _ _ (T_10.setTop (mkF m 109 #[.val (.int p0), .val (.int p1), .val (.int d_1), .val (.int d_2), .val (.int d_3), .val (.int d_4), .val (.int d_5), .val (.int (p1 &&& (15 : Int32))), .val (.int ((Jvm.Free.XT.ushr p1 (4 : Int32)) &&& (15 : Int32))), .val (.int ((Jvm.Free.XT.ushr p1 (8 : Int32)) &&& (15 : Int32))), .val (.int ((Jvm.Free.XT.ushr p1 (12 : Int32)) &&& (15 : Int32))), .unset, .unset, .unset, .unset, .unset, .unset] [(.int ((48 : Int32) + d_5)), (.int (4 : Int32)), (.ref a_6), (.ref a_6)]))
  refine own_G.go (fun t k => XS.i2c X_10.here hx rfl (hb hby at_109) rfl k) ?_
  show own_G _ _ _ _ (T_10.setTop (mkF m 110 #[.val (.int p0), .val (.int p1), .val (.int d_1), .val (.int d_2), .val (.int d_3), .val (.int d_4), .val (.int d_5), .val (.int (p1 &&& (15 : Int32))), .val (.int ((Jvm.Free.XT.ushr p1 (4 : Int32)) &&& (15 : Int32))), .val (.int ((Jvm.Free.XT.ushr p1 (8 : Int32)) &&& (15 : Int32))), .val (.int ((Jvm.Free.XT.ushr p1 (12 : Int32)) &&& (15 : Int32))), .unset, .unset, .unset, .unset, .unset, .unset] [(.int (own_c ((48 : Int32) + d_5))), (.int (4 : Int32)), (.ref a_6), (.ref a_6)]))
  obtain ⟨T_11, h_11, X_11, e_11, W_11, V_11, st_11⟩ := own_stC X_10 hx hZ e_10 V_10q (j := (4 : Int32)) 4 (Nat.le_of_ble_eq_true rfl) (by decide) (by decide : ¬ ((4 : Int32) < (0 : Int32)) ∧ (4 : Int32) < (5 : Int32)) (g := (mkF m 110 #[.val (.int p0), .val (.int p1), .val (.int d_1), .val (.int d_2), .val (.int d_3), .val (.int d_4), .val (.int d_5), .val (.int (p1 &&& (15 : Int32))), .val (.int ((Jvm.Free.XT.ushr p1 (4 : Int32)) &&& (15 : Int32))), .val (.int ((Jvm.Free.XT.ushr p1 (8 : Int32)) &&& (15 : Int32))), .val (.int ((Jvm.Free.XT.ushr p1 (12 : Int32)) &&& (15 : Int32))), .unset, .unset, .unset, .unset, .unset, .unset] [(.int (own_c ((48 : Int32) + d_5))), (.int (4 : Int32)), (.ref a_6), (.ref a_6)])) rfl rfl (hb hby at_110)
  refine own_G.go st_11 ?_
  have V_11q : Arv Z h_11 a_6 k_6 .char (5 : Int32) ([(.int (nar .char (own_c ((48 : Int32) + d_1)))), (.int (nar .char (own_c ((48 : Int32) + d_2)))), (.int (nar .char (own_c ((48 : Int32) + d_3)))), (.int (nar .char (own_c ((48 : Int32) + d_4)))), (.int (nar .char (own_c ((48 : Int32) + d_5))))] : List Value) (.int (0 : Int32)) := V_11
  have N_11 := Fr.snoc X_11 N_10 g0_a_6
  show own_G _ _ _ _ (T_11.setTop (mkF m 111 #[.val (.int p0), .val (.int p1), .val (.int d_1), .val (.int d_2), .val (.int d_3), .val (.int d_4), .val (.int d_5), .val (.int (p1 &&& (15 : Int32))), .val (.int ((Jvm.Free.XT.ushr p1 (4 : Int32)) &&& (15 : Int32))), .val (.int ((Jvm.Free.XT.ushr p1 (8 : Int32)) &&& (15 : Int32))), .val (.int ((Jvm.Free.XT.ushr p1 (12 : Int32)) &&& (15 : Int32))), .unset, .unset, .unset, .unset, .unset, .unset] [(.ref a_6)]))
  refine own_G.go (fun t k => XS.astore X_11.here hx rfl (hb hby at_111) rfl rfl (l' := #[.val (.int p0), .val (.int p1), .val (.int d_1), .val (.int d_2), .val (.int d_3), .val (.int d_4), .val (.int d_5), .val (.int (p1 &&& (15 : Int32))), .val (.int ((Jvm.Free.XT.ushr p1 (4 : Int32)) &&& (15 : Int32))), .val (.int ((Jvm.Free.XT.ushr p1 (8 : Int32)) &&& (15 : Int32))), .val (.int ((Jvm.Free.XT.ushr p1 (12 : Int32)) &&& (15 : Int32))), .val (.ref a_6), .unset, .unset, .unset, .unset, .unset]) rfl k) ?_
  show own_G _ _ _ _ (T_11.setTop (mkF m 113 #[.val (.int p0), .val (.int p1), .val (.int d_1), .val (.int d_2), .val (.int d_3), .val (.int d_4), .val (.int d_5), .val (.int (p1 &&& (15 : Int32))), .val (.int ((Jvm.Free.XT.ushr p1 (4 : Int32)) &&& (15 : Int32))), .val (.int ((Jvm.Free.XT.ushr p1 (8 : Int32)) &&& (15 : Int32))), .val (.int ((Jvm.Free.XT.ushr p1 (12 : Int32)) &&& (15 : Int32))), .val (.ref a_6), .unset, .unset, .unset, .unset, .unset] []))
  obtain ⟨T_12, h_12, X_12, e_12, E_12, A_12, D_12, -, st_12⟩ := newO X_11 hx hZ hown (own_w hw 5 rfl) (own_w hw 6 rfl) (own_w hw 7 rfl) e_11 (g := (mkF m 113 #[.val (.int p0), .val (.int p1), .val (.int d_1), .val (.int d_2), .val (.int d_3), .val (.int d_4), .val (.int d_5), .val (.int (p1 &&& (15 : Int32))), .val (.int ((Jvm.Free.XT.ushr p1 (4 : Int32)) &&& (15 : Int32))), .val (.int ((Jvm.Free.XT.ushr p1 (8 : Int32)) &&& (15 : Int32))), .val (.int ((Jvm.Free.XT.ushr p1 (12 : Int32)) &&& (15 : Int32))), .val (.ref a_6), .unset, .unset, .unset, .unset, .unset] [])) rfl (hb hby at_113) (by decide) (by decide)
  obtain ⟨a_12, g_12⟩ : ∃ z, z = h_11.size := ⟨_, rfl⟩
  rw [← g_12] at A_12 D_12 st_12
  refine own_G.go st_12 ?_
  have F_12_coder : Fld Z h_12 a_12 "java/lang/String" "coder" "B" (.int (0 : Int32)) := D_12 (Or.inr (own_w hw 31 rfl)) (ty := .byte) (by decide)
  have F_12_value : Fld Z h_12 a_12 "java/lang/String" "value" "[B" .null := D_12 (Or.inr (own_w hw 33 rfl)) (ty := (.array .byte)) (by decide)
  show own_G _ _ _ _ (T_12.setTop (mkF m 116 #[.val (.int p0), .val (.int p1), .val (.int d_1), .val (.int d_2), .val (.int d_3), .val (.int d_4), .val (.int d_5), .val (.int (p1 &&& (15 : Int32))), .val (.int ((Jvm.Free.XT.ushr p1 (4 : Int32)) &&& (15 : Int32))), .val (.int ((Jvm.Free.XT.ushr p1 (8 : Int32)) &&& (15 : Int32))), .val (.int ((Jvm.Free.XT.ushr p1 (12 : Int32)) &&& (15 : Int32))), .val (.ref a_6), .unset, .unset, .unset, .unset, .unset] [(.ref a_12)]))
  refine own_G.go (fun t k => XS.dup X_12.here hx rfl (hb hby at_116) rfl rfl k) ?_
  show own_G _ _ _ _ (T_12.setTop (mkF m 117 #[.val (.int p0), .val (.int p1), .val (.int d_1), .val (.int d_2), .val (.int d_3), .val (.int d_4), .val (.int d_5), .val (.int (p1 &&& (15 : Int32))), .val (.int ((Jvm.Free.XT.ushr p1 (4 : Int32)) &&& (15 : Int32))), .val (.int ((Jvm.Free.XT.ushr p1 (8 : Int32)) &&& (15 : Int32))), .val (.int ((Jvm.Free.XT.ushr p1 (12 : Int32)) &&& (15 : Int32))), .val (.ref a_6), .unset, .unset, .unset, .unset, .unset] [(.ref a_12), (.ref a_12)]))
  refine own_G.go (fun t k => XS.aload X_12.here hx rfl (hb hby at_117) rfl rfl k) ?_
  show own_G _ _ _ _ (T_12.setTop (mkF m 119 #[.val (.int p0), .val (.int p1), .val (.int d_1), .val (.int d_2), .val (.int d_3), .val (.int d_4), .val (.int d_5), .val (.int (p1 &&& (15 : Int32))), .val (.int ((Jvm.Free.XT.ushr p1 (4 : Int32)) &&& (15 : Int32))), .val (.int ((Jvm.Free.XT.ushr p1 (8 : Int32)) &&& (15 : Int32))), .val (.int ((Jvm.Free.XT.ushr p1 (12 : Int32)) &&& (15 : Int32))), .val (.ref a_6), .unset, .unset, .unset, .unset, .unset] [(.ref a_6), (.ref a_12), (.ref a_12)]))
  have V_11q'_13 : Arv Z h_12 a_6 k_6 .char (5 : Int32) ([(.int (nar .char (own_c ((48 : Int32) + d_1)))), (.int (nar .char (own_c ((48 : Int32) + d_2)))), (.int (nar .char (own_c ((48 : Int32) + d_3)))), (.int (nar .char (own_c ((48 : Int32) + d_4)))), (.int (nar .char (own_c ((48 : Int32) + d_5))))] : List Value) (.int (0 : Int32)) := (V_11q.ext E_12)
  obtain ⟨c0, c1, c2, c3, c4, hk0, hk1, hk2, hk3, hk4, VC⟩ : ∃ c0 c1 c2 c3 c4 : Int32, c0 = (nar .char (own_c ((48 : Int32) + d_1))) ∧ c1 = (nar .char (own_c ((48 : Int32) + d_2))) ∧ c2 = (nar .char (own_c ((48 : Int32) + d_3))) ∧ c3 = (nar .char (own_c ((48 : Int32) + d_4))) ∧ c4 = (nar .char (own_c ((48 : Int32) + d_5))) ∧ Arv Z h_12 a_6 k_6 .char (5 : Int32) ([(.int c0), (.int c1), (.int c2), (.int c3), (.int c4)] : List Value) (.int (0 : Int32)) := ⟨_, _, _, _, _, rfl, rfl, rfl, rfl, rfl, V_11q'_13⟩
  have hq0 : own_d9 d_1 ∧ c0.toInt = 48 + d_1.toInt := ⟨b_1, by rw [hk0]; exact own_dc _ ⟨b_1.1, by have := b_1.2; omega⟩⟩
  have hq1 : own_d9 d_2 ∧ c1.toInt = 48 + d_2.toInt := ⟨b_2, by rw [hk1]; exact own_dc _ ⟨b_2.1, by have := b_2.2; omega⟩⟩
  have hq2 : own_d9 d_3 ∧ c2.toInt = 48 + d_3.toInt := ⟨b_3, by rw [hk2]; exact own_dc _ ⟨b_3.1, by have := b_3.2; omega⟩⟩
  have hq3 : own_d9 d_4 ∧ c3.toInt = 48 + d_4.toInt := ⟨b_4, by rw [hk3]; exact own_dc _ ⟨b_4.1, by have := b_4.2; omega⟩⟩
  have hq4 : own_d9 d_5 ∧ c4.toInt = 48 + d_5.toInt := ⟨b_5, by rw [hk4]; exact own_dc _ ⟨b_5.1, by have := b_5.2; omega⟩⟩
  have hp : ∀ c ∈ ([c0, c1, c2, c3, c4] : List Int32), ¬ c < 0 ∧ ¬ (255 : Int32) < c := by
    intro c hc
    simp only [List.mem_cons, List.not_mem_nil, or_false] at hc
    rcases hc with rfl | rfl | rfl | rfl | rfl
    · exact own_dr hq0
    · exact own_dr hq1
    · exact own_dr hq2
    · exact own_dr hq3
    · exact own_dr hq4
  have g0_a_12 : n0 ≤ a_12 := Nat.le_trans (Nat.le_trans Z0 (Nat.le_trans (Nat.le_trans (Nat.le_trans (Nat.le_trans (Nat.le_trans E_6.1 (Keep.of_wr W_7).1) (Keep.of_wr W_8).1) (Keep.of_wr W_9).1) (Keep.of_wr W_10).1) (Keep.of_wr W_11).1)) (Nat.le_of_eq g_12.symm)
  have Z_14s : n0 ≤ h_12.size := (Nat.le_trans Z0 (Nat.le_trans (Nat.le_trans (Nat.le_trans (Nat.le_trans (Nat.le_trans (Nat.le_trans E_6.1 (Keep.of_wr W_7).1) (Keep.of_wr W_8).1) (Keep.of_wr W_9).1) (Keep.of_wr W_10).1) (Keep.of_wr W_11).1) E_12.1))
  have O_15d : Old Z n0 h_12 := (((((((X00.ext E_6).wr W_7 g0_a_6).wr W_8 g0_a_6).wr W_9 g0_a_6).wr W_10 g0_a_6).wr W_11 g0_a_6).ext E_12)
  obtain ⟨_, T_16, L_16, Q_16, X_16, st_16⟩ := own_callI X_12 hx rfl hown (mvT hZ (own_w hw 8 rfl)) (mvT hZ (own_w hw 9 rfl)) (mvT hZ (own_w hw 10 rfl)) (by decide) (Q := (StrChars.Road.QV Z a_12 (5 : Int32) (([c0, c1, c2, c3, c4] : List Int32).map (fun c => c.toInt8.toInt32)) h_12 n0)) (StrChars.Road.backV (W := 1) hZ hws (kI := 4) (own_w hw 6 rfl) (cs := ([c0, c1, c2, c3, c4] : List Int32)) (bs := ([c0, c1, c2, c3, c4] : List Int32).map (fun c => c.toInt8.toInt32)) (n := 5) g0_a_12 Z_14s A_12 F_12_value F_12_coder VC (O2.ext O_15d.2) P5 rfl rfl (by decide) (by decide) hp rfl (by decide) (by decide)) (a := a_12) (g := (mkF m 119 #[.val (.int p0), .val (.int p1), .val (.int d_1), .val (.int d_2), .val (.int d_3), .val (.int d_4), .val (.int d_5), .val (.int (p1 &&& (15 : Int32))), .val (.int ((Jvm.Free.XT.ushr p1 (4 : Int32)) &&& (15 : Int32))), .val (.int ((Jvm.Free.XT.ushr p1 (8 : Int32)) &&& (15 : Int32))), .val (.int ((Jvm.Free.XT.ushr p1 (12 : Int32)) &&& (15 : Int32))), .val (.ref a_6), .unset, .unset, .unset, .unset, .unset] [(.ref a_6), (.ref a_12), (.ref a_12)])) rfl (by rw [hml]; rfl) (argsL := [(.ref a_6)]) (rest := [(.ref a_12)]) (lenOf pd_3 rfl) rfl (by show 2 * 0 + _ ≤ _; exact Nat.le_of_eq rfl) (hb hby at_119) e_12 rfl (by decide) (by decide)
  obtain ⟨rfl, Nq_16, K_16, Ex_16, Fc_16, t_16, kb_16, tn_16, th_16, tx_16, Fv_16, Kb_16⟩ := Q_16
  refine own_G.via st_16 ?_
  have N_16 := Fr.app N_11 Nq_16
  show own_G _ _ _ _ (T_16.setTop (mkF m 122 #[.val (.int p0), .val (.int p1), .val (.int d_1), .val (.int d_2), .val (.int d_3), .val (.int d_4), .val (.int d_5), .val (.int (p1 &&& (15 : Int32))), .val (.int ((Jvm.Free.XT.ushr p1 (4 : Int32)) &&& (15 : Int32))), .val (.int ((Jvm.Free.XT.ushr p1 (8 : Int32)) &&& (15 : Int32))), .val (.int ((Jvm.Free.XT.ushr p1 (12 : Int32)) &&& (15 : Int32))), .val (.ref a_6), .unset, .unset, .unset, .unset, .unset] [(.ref a_12)]))
  refine own_G.go (fun t k => XS.astore X_16.here hx rfl (hb hby at_122) rfl rfl (l' := #[.val (.int p0), .val (.int p1), .val (.int d_1), .val (.int d_2), .val (.int d_3), .val (.int d_4), .val (.int d_5), .val (.int (p1 &&& (15 : Int32))), .val (.int ((Jvm.Free.XT.ushr p1 (4 : Int32)) &&& (15 : Int32))), .val (.int ((Jvm.Free.XT.ushr p1 (8 : Int32)) &&& (15 : Int32))), .val (.int ((Jvm.Free.XT.ushr p1 (12 : Int32)) &&& (15 : Int32))), .val (.ref a_6), .val (.ref a_12), .unset, .unset, .unset, .unset]) rfl k) ?_
  show own_G _ _ _ _ (T_16.setTop (mkF m 124 #[.val (.int p0), .val (.int p1), .val (.int d_1), .val (.int d_2), .val (.int d_3), .val (.int d_4), .val (.int d_5), .val (.int (p1 &&& (15 : Int32))), .val (.int ((Jvm.Free.XT.ushr p1 (4 : Int32)) &&& (15 : Int32))), .val (.int ((Jvm.Free.XT.ushr p1 (8 : Int32)) &&& (15 : Int32))), .val (.int ((Jvm.Free.XT.ushr p1 (12 : Int32)) &&& (15 : Int32))), .val (.ref a_6), .val (.ref a_12), .unset, .unset, .unset, .unset] []))
  refine own_G.go (fun t k => XS.iconst X_16.here hx rfl (hb hby at_124) k) ?_
  show own_G _ _ _ _ (T_16.setTop (mkF m 125 #[.val (.int p0), .val (.int p1), .val (.int d_1), .val (.int d_2), .val (.int d_3), .val (.int d_4), .val (.int d_5), .val (.int (p1 &&& (15 : Int32))), .val (.int ((Jvm.Free.XT.ushr p1 (4 : Int32)) &&& (15 : Int32))), .val (.int ((Jvm.Free.XT.ushr p1 (8 : Int32)) &&& (15 : Int32))), .val (.int ((Jvm.Free.XT.ushr p1 (12 : Int32)) &&& (15 : Int32))), .val (.ref a_6), .val (.ref a_12), .unset, .unset, .unset, .unset] [(.int (4 : Int32))]))
  obtain ⟨T_17, h_17, k_17, X_17, e_17, E_17, A_17, st_17⟩ := newP X_16 hx hZ (own_w hw 34 rfl) rfl (g := (mkF m 125 #[.val (.int p0), .val (.int p1), .val (.int d_1), .val (.int d_2), .val (.int d_3), .val (.int d_4), .val (.int d_5), .val (.int (p1 &&& (15 : Int32))), .val (.int ((Jvm.Free.XT.ushr p1 (4 : Int32)) &&& (15 : Int32))), .val (.int ((Jvm.Free.XT.ushr p1 (8 : Int32)) &&& (15 : Int32))), .val (.int ((Jvm.Free.XT.ushr p1 (12 : Int32)) &&& (15 : Int32))), .val (.ref a_6), .val (.ref a_12), .unset, .unset, .unset, .unset] [(.int (4 : Int32))])) rfl (hb hby at_125) rfl (by decide : ¬ ((4 : Int32) < (0 : Int32))) (cap := 4) (by decide : ((4 : Int32)).toNatClampNeg ≤ 4) (by decide) (by decide) (by decide)
  obtain ⟨a_17, g_17⟩ : ∃ z, z = T_16.heap.size := ⟨_, rfl⟩
  rw [← g_17] at A_17 st_17
  refine own_G.go st_17 ?_
  have V_17 : Arv Z h_17 a_17 k_17 .int (4 : Int32) ([(.int (0 : Int32)), (.int (0 : Int32)), (.int (0 : Int32)), (.int (0 : Int32))] : List Value) (.int (0 : Int32)) := (Arv.new A_17 (by decide : ¬ ((4 : Int32) < (0 : Int32)))).pad (pad_rep [] (.int (0 : Int32)) 4)
  show own_G _ _ _ _ (T_17.setTop (mkF m 127 #[.val (.int p0), .val (.int p1), .val (.int d_1), .val (.int d_2), .val (.int d_3), .val (.int d_4), .val (.int d_5), .val (.int (p1 &&& (15 : Int32))), .val (.int ((Jvm.Free.XT.ushr p1 (4 : Int32)) &&& (15 : Int32))), .val (.int ((Jvm.Free.XT.ushr p1 (8 : Int32)) &&& (15 : Int32))), .val (.int ((Jvm.Free.XT.ushr p1 (12 : Int32)) &&& (15 : Int32))), .val (.ref a_6), .val (.ref a_12), .unset, .unset, .unset, .unset] [(.ref a_17)]))
  refine own_G.go (fun t k => XS.dup X_17.here hx rfl (hb hby at_127) rfl rfl k) ?_
  show own_G _ _ _ _ (T_17.setTop (mkF m 128 #[.val (.int p0), .val (.int p1), .val (.int d_1), .val (.int d_2), .val (.int d_3), .val (.int d_4), .val (.int d_5), .val (.int (p1 &&& (15 : Int32))), .val (.int ((Jvm.Free.XT.ushr p1 (4 : Int32)) &&& (15 : Int32))), .val (.int ((Jvm.Free.XT.ushr p1 (8 : Int32)) &&& (15 : Int32))), .val (.int ((Jvm.Free.XT.ushr p1 (12 : Int32)) &&& (15 : Int32))), .val (.ref a_6), .val (.ref a_12), .unset, .unset, .unset, .unset] [(.ref a_17), (.ref a_17)]))
  refine own_G.go (fun t k => XS.iconst X_17.here hx rfl (hb hby at_128) k) ?_
  show own_G _ _ _ _ (T_17.setTop (mkF m 129 #[.val (.int p0), .val (.int p1), .val (.int d_1), .val (.int d_2), .val (.int d_3), .val (.int d_4), .val (.int d_5), .val (.int (p1 &&& (15 : Int32))), .val (.int ((Jvm.Free.XT.ushr p1 (4 : Int32)) &&& (15 : Int32))), .val (.int ((Jvm.Free.XT.ushr p1 (8 : Int32)) &&& (15 : Int32))), .val (.int ((Jvm.Free.XT.ushr p1 (12 : Int32)) &&& (15 : Int32))), .val (.ref a_6), .val (.ref a_12), .unset, .unset, .unset, .unset] [(.int (0 : Int32)), (.ref a_17), (.ref a_17)]))
  refine own_G.go (fun t k => XS.iload X_17.here hx rfl (hb hby at_129) rfl k) ?_
  show own_G _ _ _ _ (T_17.setTop (mkF m 131 #[.val (.int p0), .val (.int p1), .val (.int d_1), .val (.int d_2), .val (.int d_3), .val (.int d_4), .val (.int d_5), .val (.int (p1 &&& (15 : Int32))), .val (.int ((Jvm.Free.XT.ushr p1 (4 : Int32)) &&& (15 : Int32))), .val (.int ((Jvm.Free.XT.ushr p1 (8 : Int32)) &&& (15 : Int32))), .val (.int ((Jvm.Free.XT.ushr p1 (12 : Int32)) &&& (15 : Int32))), .val (.ref a_6), .val (.ref a_12), .unset, .unset, .unset, .unset] [(.int (p1 &&& (15 : Int32))), (.int (0 : Int32)), (.ref a_17), (.ref a_17)]))
  obtain ⟨T_18, h_18, X_18, e_18, W_18, V_18, st_18⟩ := own_stI X_17 hx hZ e_17 V_17 (j := (0 : Int32)) 0 (Nat.le_of_ble_eq_true rfl) (by decide) (by decide : ¬ ((0 : Int32) < (0 : Int32)) ∧ (0 : Int32) < (4 : Int32)) (g := (mkF m 131 #[.val (.int p0), .val (.int p1), .val (.int d_1), .val (.int d_2), .val (.int d_3), .val (.int d_4), .val (.int d_5), .val (.int (p1 &&& (15 : Int32))), .val (.int ((Jvm.Free.XT.ushr p1 (4 : Int32)) &&& (15 : Int32))), .val (.int ((Jvm.Free.XT.ushr p1 (8 : Int32)) &&& (15 : Int32))), .val (.int ((Jvm.Free.XT.ushr p1 (12 : Int32)) &&& (15 : Int32))), .val (.ref a_6), .val (.ref a_12), .unset, .unset, .unset, .unset] [(.int (p1 &&& (15 : Int32))), (.int (0 : Int32)), (.ref a_17), (.ref a_17)])) rfl rfl (hb hby at_131)
  refine own_G.go st_18 ?_
  have V_18q : Arv Z h_18 a_17 k_17 .int (4 : Int32) ([(.int (p1 &&& (15 : Int32))), (.int (0 : Int32)), (.int (0 : Int32)), (.int (0 : Int32))] : List Value) (.int (0 : Int32)) := V_18
  have g0_a_17 : n0 ≤ a_17 := Nat.le_trans (Nat.le_trans Z_14s K_16.1) (Nat.le_of_eq g_17.symm)
  have N_18 := Fr.snoc X_18 N_16 g0_a_17
  show own_G _ _ _ _ (T_18.setTop (mkF m 132 #[.val (.int p0), .val (.int p1), .val (.int d_1), .val (.int d_2), .val (.int d_3), .val (.int d_4), .val (.int d_5), .val (.int (p1 &&& (15 : Int32))), .val (.int ((Jvm.Free.XT.ushr p1 (4 : Int32)) &&& (15 : Int32))), .val (.int ((Jvm.Free.XT.ushr p1 (8 : Int32)) &&& (15 : Int32))), .val (.int ((Jvm.Free.XT.ushr p1 (12 : Int32)) &&& (15 : Int32))), .val (.ref a_6), .val (.ref a_12), .unset, .unset, .unset, .unset] [(.ref a_17)]))
  refine own_G.go (fun t k => XS.dup X_18.here hx rfl (hb hby at_132) rfl rfl k) ?_
  show own_G _ _ _ _ (T_18.setTop (mkF m 133 #[.val (.int p0), .val (.int p1), .val (.int d_1), .val (.int d_2), .val (.int d_3), .val (.int d_4), .val (.int d_5), .val (.int (p1 &&& (15 : Int32))), .val (.int ((Jvm.Free.XT.ushr p1 (4 : Int32)) &&& (15 : Int32))), .val (.int ((Jvm.Free.XT.ushr p1 (8 : Int32)) &&& (15 : Int32))), .val (.int ((Jvm.Free.XT.ushr p1 (12 : Int32)) &&& (15 : Int32))), .val (.ref a_6), .val (.ref a_12), .unset, .unset, .unset, .unset] [(.ref a_17), (.ref a_17)]))
  refine own_G.go (fun t k => XS.iconst X_18.here hx rfl (hb hby at_133) k) ?_
  show own_G _ _ _ _ (T_18.setTop (mkF m 134 #[.val (.int p0), .val (.int p1), .val (.int d_1), .val (.int d_2), .val (.int d_3), .val (.int d_4), .val (.int d_5), .val (.int (p1 &&& (15 : Int32))), .val (.int ((Jvm.Free.XT.ushr p1 (4 : Int32)) &&& (15 : Int32))), .val (.int ((Jvm.Free.XT.ushr p1 (8 : Int32)) &&& (15 : Int32))), .val (.int ((Jvm.Free.XT.ushr p1 (12 : Int32)) &&& (15 : Int32))), .val (.ref a_6), .val (.ref a_12), .unset, .unset, .unset, .unset] [(.int (1 : Int32)), (.ref a_17), (.ref a_17)]))
  refine own_G.go (fun t k => XS.iload X_18.here hx rfl (hb hby at_134) rfl k) ?_
  show own_G _ _ _ _ (T_18.setTop (mkF m 136 #[.val (.int p0), .val (.int p1), .val (.int d_1), .val (.int d_2), .val (.int d_3), .val (.int d_4), .val (.int d_5), .val (.int (p1 &&& (15 : Int32))), .val (.int ((Jvm.Free.XT.ushr p1 (4 : Int32)) &&& (15 : Int32))), .val (.int ((Jvm.Free.XT.ushr p1 (8 : Int32)) &&& (15 : Int32))), .val (.int ((Jvm.Free.XT.ushr p1 (12 : Int32)) &&& (15 : Int32))), .val (.ref a_6), .val (.ref a_12), .unset, .unset, .unset, .unset] [(.int ((Jvm.Free.XT.ushr p1 (4 : Int32)) &&& (15 : Int32))), (.int (1 : Int32)), (.ref a_17), (.ref a_17)]))
  obtain ⟨T_19, h_19, X_19, e_19, W_19, V_19, st_19⟩ := own_stI X_18 hx hZ e_18 V_18q (j := (1 : Int32)) 1 (Nat.le_of_ble_eq_true rfl) (by decide) (by decide : ¬ ((1 : Int32) < (0 : Int32)) ∧ (1 : Int32) < (4 : Int32)) (g := (mkF m 136 #[.val (.int p0), .val (.int p1), .val (.int d_1), .val (.int d_2), .val (.int d_3), .val (.int d_4), .val (.int d_5), .val (.int (p1 &&& (15 : Int32))), .val (.int ((Jvm.Free.XT.ushr p1 (4 : Int32)) &&& (15 : Int32))), .val (.int ((Jvm.Free.XT.ushr p1 (8 : Int32)) &&& (15 : Int32))), .val (.int ((Jvm.Free.XT.ushr p1 (12 : Int32)) &&& (15 : Int32))), .val (.ref a_6), .val (.ref a_12), .unset, .unset, .unset, .unset] [(.int ((Jvm.Free.XT.ushr p1 (4 : Int32)) &&& (15 : Int32))), (.int (1 : Int32)), (.ref a_17), (.ref a_17)])) rfl rfl (hb hby at_136)
  refine own_G.go st_19 ?_
  have V_19q : Arv Z h_19 a_17 k_17 .int (4 : Int32) ([(.int (p1 &&& (15 : Int32))), (.int ((Jvm.Free.XT.ushr p1 (4 : Int32)) &&& (15 : Int32))), (.int (0 : Int32)), (.int (0 : Int32))] : List Value) (.int (0 : Int32)) := V_19
  have N_19 := Fr.snoc X_19 N_18 g0_a_17
  show own_G _ _ _ _ (T_19.setTop (mkF m 137 #[.val (.int p0), .val (.int p1), .val (.int d_1), .val (.int d_2), .val (.int d_3), .val (.int d_4), .val (.int d_5), .val (.int (p1 &&& (15 : Int32))), .val (.int ((Jvm.Free.XT.ushr p1 (4 : Int32)) &&& (15 : Int32))), .val (.int ((Jvm.Free.XT.ushr p1 (8 : Int32)) &&& (15 : Int32))), .val (.int ((Jvm.Free.XT.ushr p1 (12 : Int32)) &&& (15 : Int32))), .val (.ref a_6), .val (.ref a_12), .unset, .unset, .unset, .unset] [(.ref a_17)]))
  refine own_G.go (fun t k => XS.dup X_19.here hx rfl (hb hby at_137) rfl rfl k) ?_
  show own_G _ _ _ _ (T_19.setTop (mkF m 138 #[.val (.int p0), .val (.int p1), .val (.int d_1), .val (.int d_2), .val (.int d_3), .val (.int d_4), .val (.int d_5), .val (.int (p1 &&& (15 : Int32))), .val (.int ((Jvm.Free.XT.ushr p1 (4 : Int32)) &&& (15 : Int32))), .val (.int ((Jvm.Free.XT.ushr p1 (8 : Int32)) &&& (15 : Int32))), .val (.int ((Jvm.Free.XT.ushr p1 (12 : Int32)) &&& (15 : Int32))), .val (.ref a_6), .val (.ref a_12), .unset, .unset, .unset, .unset] [(.ref a_17), (.ref a_17)]))
  refine own_G.go (fun t k => XS.iconst X_19.here hx rfl (hb hby at_138) k) ?_
  show own_G _ _ _ _ (T_19.setTop (mkF m 139 #[.val (.int p0), .val (.int p1), .val (.int d_1), .val (.int d_2), .val (.int d_3), .val (.int d_4), .val (.int d_5), .val (.int (p1 &&& (15 : Int32))), .val (.int ((Jvm.Free.XT.ushr p1 (4 : Int32)) &&& (15 : Int32))), .val (.int ((Jvm.Free.XT.ushr p1 (8 : Int32)) &&& (15 : Int32))), .val (.int ((Jvm.Free.XT.ushr p1 (12 : Int32)) &&& (15 : Int32))), .val (.ref a_6), .val (.ref a_12), .unset, .unset, .unset, .unset] [(.int (2 : Int32)), (.ref a_17), (.ref a_17)]))
  refine own_G.go (fun t k => XS.iload X_19.here hx rfl (hb hby at_139) rfl k) ?_
  show own_G _ _ _ _ (T_19.setTop (mkF m 141 #[.val (.int p0), .val (.int p1), .val (.int d_1), .val (.int d_2), .val (.int d_3), .val (.int d_4), .val (.int d_5), .val (.int (p1 &&& (15 : Int32))), .val (.int ((Jvm.Free.XT.ushr p1 (4 : Int32)) &&& (15 : Int32))), .val (.int ((Jvm.Free.XT.ushr p1 (8 : Int32)) &&& (15 : Int32))), .val (.int ((Jvm.Free.XT.ushr p1 (12 : Int32)) &&& (15 : Int32))), .val (.ref a_6), .val (.ref a_12), .unset, .unset, .unset, .unset] [(.int ((Jvm.Free.XT.ushr p1 (8 : Int32)) &&& (15 : Int32))), (.int (2 : Int32)), (.ref a_17), (.ref a_17)]))
  obtain ⟨T_20, h_20, X_20, e_20, W_20, V_20, st_20⟩ := own_stI X_19 hx hZ e_19 V_19q (j := (2 : Int32)) 2 (Nat.le_of_ble_eq_true rfl) (by decide) (by decide : ¬ ((2 : Int32) < (0 : Int32)) ∧ (2 : Int32) < (4 : Int32)) (g := (mkF m 141 #[.val (.int p0), .val (.int p1), .val (.int d_1), .val (.int d_2), .val (.int d_3), .val (.int d_4), .val (.int d_5), .val (.int (p1 &&& (15 : Int32))), .val (.int ((Jvm.Free.XT.ushr p1 (4 : Int32)) &&& (15 : Int32))), .val (.int ((Jvm.Free.XT.ushr p1 (8 : Int32)) &&& (15 : Int32))), .val (.int ((Jvm.Free.XT.ushr p1 (12 : Int32)) &&& (15 : Int32))), .val (.ref a_6), .val (.ref a_12), .unset, .unset, .unset, .unset] [(.int ((Jvm.Free.XT.ushr p1 (8 : Int32)) &&& (15 : Int32))), (.int (2 : Int32)), (.ref a_17), (.ref a_17)])) rfl rfl (hb hby at_141)
  refine own_G.go st_20 ?_
  have V_20q : Arv Z h_20 a_17 k_17 .int (4 : Int32) ([(.int (p1 &&& (15 : Int32))), (.int ((Jvm.Free.XT.ushr p1 (4 : Int32)) &&& (15 : Int32))), (.int ((Jvm.Free.XT.ushr p1 (8 : Int32)) &&& (15 : Int32))), (.int (0 : Int32))] : List Value) (.int (0 : Int32)) := V_20
  have N_20 := Fr.snoc X_20 N_19 g0_a_17
  show own_G _ _ _ _ (T_20.setTop (mkF m 142 #[.val (.int p0), .val (.int p1), .val (.int d_1), .val (.int d_2), .val (.int d_3), .val (.int d_4), .val (.int d_5), .val (.int (p1 &&& (15 : Int32))), .val (.int ((Jvm.Free.XT.ushr p1 (4 : Int32)) &&& (15 : Int32))), .val (.int ((Jvm.Free.XT.ushr p1 (8 : Int32)) &&& (15 : Int32))), .val (.int ((Jvm.Free.XT.ushr p1 (12 : Int32)) &&& (15 : Int32))), .val (.ref a_6), .val (.ref a_12), .unset, .unset, .unset, .unset] [(.ref a_17)]))
  refine own_G.go (fun t k => XS.dup X_20.here hx rfl (hb hby at_142) rfl rfl k) ?_
  show own_G _ _ _ _ (T_20.setTop (mkF m 143 #[.val (.int p0), .val (.int p1), .val (.int d_1), .val (.int d_2), .val (.int d_3), .val (.int d_4), .val (.int d_5), .val (.int (p1 &&& (15 : Int32))), .val (.int ((Jvm.Free.XT.ushr p1 (4 : Int32)) &&& (15 : Int32))), .val (.int ((Jvm.Free.XT.ushr p1 (8 : Int32)) &&& (15 : Int32))), .val (.int ((Jvm.Free.XT.ushr p1 (12 : Int32)) &&& (15 : Int32))), .val (.ref a_6), .val (.ref a_12), .unset, .unset, .unset, .unset] [(.ref a_17), (.ref a_17)]))
  refine own_G.go (fun t k => XS.iconst X_20.here hx rfl (hb hby at_143) k) ?_
  show own_G _ _ _ _ (T_20.setTop (mkF m 144 #[.val (.int p0), .val (.int p1), .val (.int d_1), .val (.int d_2), .val (.int d_3), .val (.int d_4), .val (.int d_5), .val (.int (p1 &&& (15 : Int32))), .val (.int ((Jvm.Free.XT.ushr p1 (4 : Int32)) &&& (15 : Int32))), .val (.int ((Jvm.Free.XT.ushr p1 (8 : Int32)) &&& (15 : Int32))), .val (.int ((Jvm.Free.XT.ushr p1 (12 : Int32)) &&& (15 : Int32))), .val (.ref a_6), .val (.ref a_12), .unset, .unset, .unset, .unset] [(.int (3 : Int32)), (.ref a_17), (.ref a_17)]))
  refine own_G.go (fun t k => XS.iload X_20.here hx rfl (hb hby at_144) rfl k) ?_
  show own_G _ _ _ _ (T_20.setTop (mkF m 146 #[.val (.int p0), .val (.int p1), .val (.int d_1), .val (.int d_2), .val (.int d_3), .val (.int d_4), .val (.int d_5), .val (.int (p1 &&& (15 : Int32))), .val (.int ((Jvm.Free.XT.ushr p1 (4 : Int32)) &&& (15 : Int32))), .val (.int ((Jvm.Free.XT.ushr p1 (8 : Int32)) &&& (15 : Int32))), .val (.int ((Jvm.Free.XT.ushr p1 (12 : Int32)) &&& (15 : Int32))), .val (.ref a_6), .val (.ref a_12), .unset, .unset, .unset, .unset] [(.int ((Jvm.Free.XT.ushr p1 (12 : Int32)) &&& (15 : Int32))), (.int (3 : Int32)), (.ref a_17), (.ref a_17)]))
  obtain ⟨T_21, h_21, X_21, e_21, W_21, V_21, st_21⟩ := own_stI X_20 hx hZ e_20 V_20q (j := (3 : Int32)) 3 (Nat.le_of_ble_eq_true rfl) (by decide) (by decide : ¬ ((3 : Int32) < (0 : Int32)) ∧ (3 : Int32) < (4 : Int32)) (g := (mkF m 146 #[.val (.int p0), .val (.int p1), .val (.int d_1), .val (.int d_2), .val (.int d_3), .val (.int d_4), .val (.int d_5), .val (.int (p1 &&& (15 : Int32))), .val (.int ((Jvm.Free.XT.ushr p1 (4 : Int32)) &&& (15 : Int32))), .val (.int ((Jvm.Free.XT.ushr p1 (8 : Int32)) &&& (15 : Int32))), .val (.int ((Jvm.Free.XT.ushr p1 (12 : Int32)) &&& (15 : Int32))), .val (.ref a_6), .val (.ref a_12), .unset, .unset, .unset, .unset] [(.int ((Jvm.Free.XT.ushr p1 (12 : Int32)) &&& (15 : Int32))), (.int (3 : Int32)), (.ref a_17), (.ref a_17)])) rfl rfl (hb hby at_146)
  refine own_G.go st_21 ?_
  have V_21q : Arv Z h_21 a_17 k_17 .int (4 : Int32) ([(.int (p1 &&& (15 : Int32))), (.int ((Jvm.Free.XT.ushr p1 (4 : Int32)) &&& (15 : Int32))), (.int ((Jvm.Free.XT.ushr p1 (8 : Int32)) &&& (15 : Int32))), (.int ((Jvm.Free.XT.ushr p1 (12 : Int32)) &&& (15 : Int32)))] : List Value) (.int (0 : Int32)) := V_21
  have N_21 := Fr.snoc X_21 N_20 g0_a_17
  show own_G _ _ _ _ (T_21.setTop (mkF m 147 #[.val (.int p0), .val (.int p1), .val (.int d_1), .val (.int d_2), .val (.int d_3), .val (.int d_4), .val (.int d_5), .val (.int (p1 &&& (15 : Int32))), .val (.int ((Jvm.Free.XT.ushr p1 (4 : Int32)) &&& (15 : Int32))), .val (.int ((Jvm.Free.XT.ushr p1 (8 : Int32)) &&& (15 : Int32))), .val (.int ((Jvm.Free.XT.ushr p1 (12 : Int32)) &&& (15 : Int32))), .val (.ref a_6), .val (.ref a_12), .unset, .unset, .unset, .unset] [(.ref a_17)]))
  refine own_G.go (fun t k => XS.astore X_21.here hx rfl (hb hby at_147) rfl rfl (l' := #[.val (.int p0), .val (.int p1), .val (.int d_1), .val (.int d_2), .val (.int d_3), .val (.int d_4), .val (.int d_5), .val (.int (p1 &&& (15 : Int32))), .val (.int ((Jvm.Free.XT.ushr p1 (4 : Int32)) &&& (15 : Int32))), .val (.int ((Jvm.Free.XT.ushr p1 (8 : Int32)) &&& (15 : Int32))), .val (.int ((Jvm.Free.XT.ushr p1 (12 : Int32)) &&& (15 : Int32))), .val (.ref a_6), .val (.ref a_12), .val (.ref a_17), .unset, .unset, .unset]) rfl k) ?_
  show own_G _ _ _ _ (T_21.setTop (mkF m 149 #[.val (.int p0), .val (.int p1), .val (.int d_1), .val (.int d_2), .val (.int d_3), .val (.int d_4), .val (.int d_5), .val (.int (p1 &&& (15 : Int32))), .val (.int ((Jvm.Free.XT.ushr p1 (4 : Int32)) &&& (15 : Int32))), .val (.int ((Jvm.Free.XT.ushr p1 (8 : Int32)) &&& (15 : Int32))), .val (.int ((Jvm.Free.XT.ushr p1 (12 : Int32)) &&& (15 : Int32))), .val (.ref a_6), .val (.ref a_12), .val (.ref a_17), .unset, .unset, .unset] []))
  refine own_G.go (fun t k => XS.aload X_21.here hx rfl (hb hby at_149) rfl rfl k) ?_
  show own_G _ _ _ _ (T_21.setTop (mkF m 151 #[.val (.int p0), .val (.int p1), .val (.int d_1), .val (.int d_2), .val (.int d_3), .val (.int d_4), .val (.int d_5), .val (.int (p1 &&& (15 : Int32))), .val (.int ((Jvm.Free.XT.ushr p1 (4 : Int32)) &&& (15 : Int32))), .val (.int ((Jvm.Free.XT.ushr p1 (8 : Int32)) &&& (15 : Int32))), .val (.int ((Jvm.Free.XT.ushr p1 (12 : Int32)) &&& (15 : Int32))), .val (.ref a_6), .val (.ref a_12), .val (.ref a_17), .unset, .unset, .unset] [(.ref a_12)]))
  refine own_G.go (fun t k => XS.aload X_21.here hx rfl (hb hby at_151) rfl rfl k) ?_
  show own_G _ _ _ _ (T_21.setTop (mkF m 153 #[.val (.int p0), .val (.int p1), .val (.int d_1), .val (.int d_2), .val (.int d_3), .val (.int d_4), .val (.int d_5), .val (.int (p1 &&& (15 : Int32))), .val (.int ((Jvm.Free.XT.ushr p1 (4 : Int32)) &&& (15 : Int32))), .val (.int ((Jvm.Free.XT.ushr p1 (8 : Int32)) &&& (15 : Int32))), .val (.int ((Jvm.Free.XT.ushr p1 (12 : Int32)) &&& (15 : Int32))), .val (.ref a_6), .val (.ref a_12), .val (.ref a_17), .unset, .unset, .unset] [(.ref a_17), (.ref a_12)]))
  have Ex_16'_22 : Exa Z h_21 a_12 "java/lang/String" := (((((Ex_16.ext E_17).wr W_18).wr W_19).wr W_20).wr W_21)
  have Fv_16'_23 : Fld Z h_21 a_12 "java/lang/String" "value" "[B" (.ref t_16) := (((((Fv_16.ext E_17).other W_18 (Or.inl (Nat.ne_of_lt (Nat.lt_of_lt_of_le (Nat.lt_of_lt_of_le A_12.lt K_16.1) (Nat.le_of_eq g_17.symm))))).other W_19 (Or.inl (Nat.ne_of_lt (Nat.lt_of_lt_of_le (Nat.lt_of_lt_of_le A_12.lt K_16.1) (Nat.le_of_eq g_17.symm))))).other W_20 (Or.inl (Nat.ne_of_lt (Nat.lt_of_lt_of_le (Nat.lt_of_lt_of_le A_12.lt K_16.1) (Nat.le_of_eq g_17.symm))))).other W_21 (Or.inl (Nat.ne_of_lt (Nat.lt_of_lt_of_le (Nat.lt_of_lt_of_le A_12.lt K_16.1) (Nat.le_of_eq g_17.symm)))))
  have Fc_16'_24 : Fld Z h_21 a_12 "java/lang/String" "coder" "B" (.int 0) := (((((Fc_16.ext E_17).other W_18 (Or.inl (Nat.ne_of_lt (Nat.lt_of_lt_of_le (Nat.lt_of_lt_of_le A_12.lt K_16.1) (Nat.le_of_eq g_17.symm))))).other W_19 (Or.inl (Nat.ne_of_lt (Nat.lt_of_lt_of_le (Nat.lt_of_lt_of_le A_12.lt K_16.1) (Nat.le_of_eq g_17.symm))))).other W_20 (Or.inl (Nat.ne_of_lt (Nat.lt_of_lt_of_le (Nat.lt_of_lt_of_le A_12.lt K_16.1) (Nat.le_of_eq g_17.symm))))).other W_21 (Or.inl (Nat.ne_of_lt (Nat.lt_of_lt_of_le (Nat.lt_of_lt_of_le A_12.lt K_16.1) (Nat.le_of_eq g_17.symm)))))
  have Kb_16'_25 : Arv Z h_21 t_16 kb_16 .byte (5 : Int32) ((([c0, c1, c2, c3, c4] : List Int32).map (fun c => c.toInt8.toInt32)).map Value.int) (.int 0) := (((((Kb_16.ext E_17).other W_18 (Nat.ne_of_lt (Nat.lt_of_lt_of_le Kb_16.lt (Nat.le_of_eq g_17.symm)))).other W_19 (Nat.ne_of_lt (Nat.lt_of_lt_of_le Kb_16.lt (Nat.le_of_eq g_17.symm)))).other W_20 (Nat.ne_of_lt (Nat.lt_of_lt_of_le Kb_16.lt (Nat.le_of_eq g_17.symm)))).other W_21 (Nat.ne_of_lt (Nat.lt_of_lt_of_le Kb_16.lt (Nat.le_of_eq g_17.symm))))
  have O_26d : Old Z n0 h_21 := ((((((O_15d.keep K_16 (allS g0_a_12 all0)).ext E_17).wr W_18 g0_a_17).wr W_19 g0_a_17).wr W_20 g0_a_17).wr W_21 g0_a_17)
  obtain ⟨_, T_27, L_27, Q_27, X_27, st_27⟩ := own_callS X_21 hx hown (mvT hZ (own_w hw 35 rfl)) (mvT hZ (own_w hw 36 rfl)) (mvT hZ (own_w hw 37 rfl)) (mvT hZ (own_w hw 38 rfl)) (by decide) (Q := (Qof (own_S d_1.toInt d_2.toInt d_3.toInt d_4.toInt (p1 &&& (15 : Int32)) ((Jvm.Free.XT.ushr p1 (4 : Int32)) &&& (15 : Int32)) ((Jvm.Free.XT.ushr p1 (8 : Int32)) &&& (15 : Int32)) ((Jvm.Free.XT.ushr p1 (12 : Int32)) &&& (15 : Int32))) h_21)) (backOf (W := 0) (rm_of l Z a0 hw [] a_12 t_16 kb_16 a_17 k_17 c0 c1 c2 c3 c4 (p1 &&& (15 : Int32)) ((Jvm.Free.XT.ushr p1 (4 : Int32)) &&& (15 : Int32)) ((Jvm.Free.XT.ushr p1 (8 : Int32)) &&& (15 : Int32)) ((Jvm.Free.XT.ushr p1 (12 : Int32)) &&& (15 : Int32)) d_1 d_2 d_3 d_4 zc fm h_21 n0 (Nat.le_trans Z_14s (Nat.le_trans (Nat.le_trans (Nat.le_trans (Nat.le_trans (Nat.le_trans K_16.1 E_17.1) (Keep.of_wr W_18).1) (Keep.of_wr W_19).1) (Keep.of_wr W_20).1) (Keep.of_wr W_21).1)) Ex_16'_22 Fv_16'_23 Fc_16'_24 Kb_16'_25 hp V_21q hq0 hq1 hq2 hq3 (own_n15 _) (own_n15 _) (own_n15 _) (own_n15 _) O2 O4 P5 rfm O_26d) hZ (own_w hw 38 rfl) (own_w hw 37 rfl) (by decide) (by decide)) (g := (mkF m 153 #[.val (.int p0), .val (.int p1), .val (.int d_1), .val (.int d_2), .val (.int d_3), .val (.int d_4), .val (.int d_5), .val (.int (p1 &&& (15 : Int32))), .val (.int ((Jvm.Free.XT.ushr p1 (4 : Int32)) &&& (15 : Int32))), .val (.int ((Jvm.Free.XT.ushr p1 (8 : Int32)) &&& (15 : Int32))), .val (.int ((Jvm.Free.XT.ushr p1 (12 : Int32)) &&& (15 : Int32))), .val (.ref a_6), .val (.ref a_12), .val (.ref a_17), .unset, .unset, .unset] [(.ref a_17), (.ref a_12)])) rfl (by rw [hml]; rfl) (argsL := [(.ref a_12), (.ref a_17)]) (rest := []) (lenOf pd_4 rfl) rfl (by show 2 * 0 + _ ≤ _; exact Nat.le_of_eq rfl) (hb hby at_153) e_21 rfl (by decide) (by decide)
  obtain ⟨⟨zz, rfl, hz⟩, rfl, eh_27⟩ := Q_27
  refine own_G.via st_27 ?_
  have N_27 := Fr.app N_21 (Fr.nil n0)
  have hsum := own_sumD b_1 b_2 b_3 b_4 (own_n15 _ : own_B (p1 &&& (15 : Int32))) (own_n15 _ : own_B ((Jvm.Free.XT.ushr p1 (4 : Int32)) &&& (15 : Int32))) (own_n15 _ : own_B ((Jvm.Free.XT.ushr p1 (8 : Int32)) &&& (15 : Int32))) (own_n15 _ : own_B ((Jvm.Free.XT.ushr p1 (12 : Int32)) &&& (15 : Int32)))
  generalize own_S d_1.toInt d_2.toInt d_3.toInt d_4.toInt (p1 &&& (15 : Int32)) ((Jvm.Free.XT.ushr p1 (4 : Int32)) &&& (15 : Int32)) ((Jvm.Free.XT.ushr p1 (8 : Int32)) &&& (15 : Int32)) ((Jvm.Free.XT.ushr p1 (12 : Int32)) &&& (15 : Int32)) = SS at hsum hz
  show own_G _ _ _ _ (T_27.setTop (mkF m 156 #[.val (.int p0), .val (.int p1), .val (.int d_1), .val (.int d_2), .val (.int d_3), .val (.int d_4), .val (.int d_5), .val (.int (p1 &&& (15 : Int32))), .val (.int ((Jvm.Free.XT.ushr p1 (4 : Int32)) &&& (15 : Int32))), .val (.int ((Jvm.Free.XT.ushr p1 (8 : Int32)) &&& (15 : Int32))), .val (.int ((Jvm.Free.XT.ushr p1 (12 : Int32)) &&& (15 : Int32))), .val (.ref a_6), .val (.ref a_12), .val (.ref a_17), .unset, .unset, .unset] [(.int zz)]))
  refine own_G.go (fun t k => XS.istore X_27.here hx rfl (hb hby at_156) rfl (l' := #[.val (.int p0), .val (.int p1), .val (.int d_1), .val (.int d_2), .val (.int d_3), .val (.int d_4), .val (.int d_5), .val (.int (p1 &&& (15 : Int32))), .val (.int ((Jvm.Free.XT.ushr p1 (4 : Int32)) &&& (15 : Int32))), .val (.int ((Jvm.Free.XT.ushr p1 (8 : Int32)) &&& (15 : Int32))), .val (.int ((Jvm.Free.XT.ushr p1 (12 : Int32)) &&& (15 : Int32))), .val (.ref a_6), .val (.ref a_12), .val (.ref a_17), .val (.int zz), .unset, .unset]) rfl k) ?_
  show own_G _ _ _ _ (T_27.setTop (mkF m 158 #[.val (.int p0), .val (.int p1), .val (.int d_1), .val (.int d_2), .val (.int d_3), .val (.int d_4), .val (.int d_5), .val (.int (p1 &&& (15 : Int32))), .val (.int ((Jvm.Free.XT.ushr p1 (4 : Int32)) &&& (15 : Int32))), .val (.int ((Jvm.Free.XT.ushr p1 (8 : Int32)) &&& (15 : Int32))), .val (.int ((Jvm.Free.XT.ushr p1 (12 : Int32)) &&& (15 : Int32))), .val (.ref a_6), .val (.ref a_12), .val (.ref a_17), .val (.int zz), .unset, .unset] []))
  refine own_G.go (fun t k => XS.iloadN X_27.here hx rfl (hb hby at_158) rfl k) ?_
  show own_G _ _ _ _ (T_27.setTop (mkF m 159 #[.val (.int p0), .val (.int p1), .val (.int d_1), .val (.int d_2), .val (.int d_3), .val (.int d_4), .val (.int d_5), .val (.int (p1 &&& (15 : Int32))), .val (.int ((Jvm.Free.XT.ushr p1 (4 : Int32)) &&& (15 : Int32))), .val (.int ((Jvm.Free.XT.ushr p1 (8 : Int32)) &&& (15 : Int32))), .val (.int ((Jvm.Free.XT.ushr p1 (12 : Int32)) &&& (15 : Int32))), .val (.ref a_6), .val (.ref a_12), .val (.ref a_17), .val (.int zz), .unset, .unset] [(.int d_1)]))
  refine own_G.go (fun t k => XS.iload X_27.here hx rfl (hb hby at_159) rfl k) ?_
  show own_G _ _ _ _ (T_27.setTop (mkF m 161 #[.val (.int p0), .val (.int p1), .val (.int d_1), .val (.int d_2), .val (.int d_3), .val (.int d_4), .val (.int d_5), .val (.int (p1 &&& (15 : Int32))), .val (.int ((Jvm.Free.XT.ushr p1 (4 : Int32)) &&& (15 : Int32))), .val (.int ((Jvm.Free.XT.ushr p1 (8 : Int32)) &&& (15 : Int32))), .val (.int ((Jvm.Free.XT.ushr p1 (12 : Int32)) &&& (15 : Int32))), .val (.ref a_6), .val (.ref a_12), .val (.ref a_17), .val (.int zz), .unset, .unset] [(.int (p1 &&& (15 : Int32))), (.int d_1)]))
  refine own_G.go (fun t k => XS.imul X_27.here hx rfl (hb hby at_161) rfl k) ?_
  show own_G _ _ _ _ (T_27.setTop (mkF m 162 #[.val (.int p0), .val (.int p1), .val (.int d_1), .val (.int d_2), .val (.int d_3), .val (.int d_4), .val (.int d_5), .val (.int (p1 &&& (15 : Int32))), .val (.int ((Jvm.Free.XT.ushr p1 (4 : Int32)) &&& (15 : Int32))), .val (.int ((Jvm.Free.XT.ushr p1 (8 : Int32)) &&& (15 : Int32))), .val (.int ((Jvm.Free.XT.ushr p1 (12 : Int32)) &&& (15 : Int32))), .val (.ref a_6), .val (.ref a_12), .val (.ref a_17), .val (.int zz), .unset, .unset] [(.int (d_1 * (p1 &&& (15 : Int32))))]))
  refine own_G.go (fun t k => XS.iloadN X_27.here hx rfl (hb hby at_162) rfl k) ?_
  show own_G _ _ _ _ (T_27.setTop (mkF m 163 #[.val (.int p0), .val (.int p1), .val (.int d_1), .val (.int d_2), .val (.int d_3), .val (.int d_4), .val (.int d_5), .val (.int (p1 &&& (15 : Int32))), .val (.int ((Jvm.Free.XT.ushr p1 (4 : Int32)) &&& (15 : Int32))), .val (.int ((Jvm.Free.XT.ushr p1 (8 : Int32)) &&& (15 : Int32))), .val (.int ((Jvm.Free.XT.ushr p1 (12 : Int32)) &&& (15 : Int32))), .val (.ref a_6), .val (.ref a_12), .val (.ref a_17), .val (.int zz), .unset, .unset] [(.int d_2), (.int (d_1 * (p1 &&& (15 : Int32))))]))
  refine own_G.go (fun t k => XS.iload X_27.here hx rfl (hb hby at_163) rfl k) ?_
  show own_G _ _ _ _ (T_27.setTop (mkF m 165 #[.val (.int p0), .val (.int p1), .val (.int d_1), .val (.int d_2), .val (.int d_3), .val (.int d_4), .val (.int d_5), .val (.int (p1 &&& (15 : Int32))), .val (.int ((Jvm.Free.XT.ushr p1 (4 : Int32)) &&& (15 : Int32))), .val (.int ((Jvm.Free.XT.ushr p1 (8 : Int32)) &&& (15 : Int32))), .val (.int ((Jvm.Free.XT.ushr p1 (12 : Int32)) &&& (15 : Int32))), .val (.ref a_6), .val (.ref a_12), .val (.ref a_17), .val (.int zz), .unset, .unset] [(.int ((Jvm.Free.XT.ushr p1 (4 : Int32)) &&& (15 : Int32))), (.int d_2), (.int (d_1 * (p1 &&& (15 : Int32))))]))
  refine own_G.go (fun t k => XS.imul X_27.here hx rfl (hb hby at_165) rfl k) ?_
  show own_G _ _ _ _ (T_27.setTop (mkF m 166 #[.val (.int p0), .val (.int p1), .val (.int d_1), .val (.int d_2), .val (.int d_3), .val (.int d_4), .val (.int d_5), .val (.int (p1 &&& (15 : Int32))), .val (.int ((Jvm.Free.XT.ushr p1 (4 : Int32)) &&& (15 : Int32))), .val (.int ((Jvm.Free.XT.ushr p1 (8 : Int32)) &&& (15 : Int32))), .val (.int ((Jvm.Free.XT.ushr p1 (12 : Int32)) &&& (15 : Int32))), .val (.ref a_6), .val (.ref a_12), .val (.ref a_17), .val (.int zz), .unset, .unset] [(.int (d_2 * ((Jvm.Free.XT.ushr p1 (4 : Int32)) &&& (15 : Int32)))), (.int (d_1 * (p1 &&& (15 : Int32))))]))
  refine own_G.go (fun t k => XS.iadd X_27.here hx rfl (hb hby at_166) rfl k) ?_
  show own_G _ _ _ _ (T_27.setTop (mkF m 167 #[.val (.int p0), .val (.int p1), .val (.int d_1), .val (.int d_2), .val (.int d_3), .val (.int d_4), .val (.int d_5), .val (.int (p1 &&& (15 : Int32))), .val (.int ((Jvm.Free.XT.ushr p1 (4 : Int32)) &&& (15 : Int32))), .val (.int ((Jvm.Free.XT.ushr p1 (8 : Int32)) &&& (15 : Int32))), .val (.int ((Jvm.Free.XT.ushr p1 (12 : Int32)) &&& (15 : Int32))), .val (.ref a_6), .val (.ref a_12), .val (.ref a_17), .val (.int zz), .unset, .unset] [(.int ((d_1 * (p1 &&& (15 : Int32))) + (d_2 * ((Jvm.Free.XT.ushr p1 (4 : Int32)) &&& (15 : Int32)))))]))
  refine own_G.go (fun t k => XS.iload X_27.here hx rfl (hb hby at_167) rfl k) ?_
  show own_G _ _ _ _ (T_27.setTop (mkF m 169 #[.val (.int p0), .val (.int p1), .val (.int d_1), .val (.int d_2), .val (.int d_3), .val (.int d_4), .val (.int d_5), .val (.int (p1 &&& (15 : Int32))), .val (.int ((Jvm.Free.XT.ushr p1 (4 : Int32)) &&& (15 : Int32))), .val (.int ((Jvm.Free.XT.ushr p1 (8 : Int32)) &&& (15 : Int32))), .val (.int ((Jvm.Free.XT.ushr p1 (12 : Int32)) &&& (15 : Int32))), .val (.ref a_6), .val (.ref a_12), .val (.ref a_17), .val (.int zz), .unset, .unset] [(.int d_3), (.int ((d_1 * (p1 &&& (15 : Int32))) + (d_2 * ((Jvm.Free.XT.ushr p1 (4 : Int32)) &&& (15 : Int32)))))]))
  refine own_G.go (fun t k => XS.iload X_27.here hx rfl (hb hby at_169) rfl k) ?_
  show own_G _ _ _ _ (T_27.setTop (mkF m 171 #[.val (.int p0), .val (.int p1), .val (.int d_1), .val (.int d_2), .val (.int d_3), .val (.int d_4), .val (.int d_5), .val (.int (p1 &&& (15 : Int32))), .val (.int ((Jvm.Free.XT.ushr p1 (4 : Int32)) &&& (15 : Int32))), .val (.int ((Jvm.Free.XT.ushr p1 (8 : Int32)) &&& (15 : Int32))), .val (.int ((Jvm.Free.XT.ushr p1 (12 : Int32)) &&& (15 : Int32))), .val (.ref a_6), .val (.ref a_12), .val (.ref a_17), .val (.int zz), .unset, .unset] [(.int ((Jvm.Free.XT.ushr p1 (8 : Int32)) &&& (15 : Int32))), (.int d_3), (.int ((d_1 * (p1 &&& (15 : Int32))) + (d_2 * ((Jvm.Free.XT.ushr p1 (4 : Int32)) &&& (15 : Int32)))))]))
  refine own_G.go (fun t k => XS.imul X_27.here hx rfl (hb hby at_171) rfl k) ?_
  show own_G _ _ _ _ (T_27.setTop (mkF m 172 #[.val (.int p0), .val (.int p1), .val (.int d_1), .val (.int d_2), .val (.int d_3), .val (.int d_4), .val (.int d_5), .val (.int (p1 &&& (15 : Int32))), .val (.int ((Jvm.Free.XT.ushr p1 (4 : Int32)) &&& (15 : Int32))), .val (.int ((Jvm.Free.XT.ushr p1 (8 : Int32)) &&& (15 : Int32))), .val (.int ((Jvm.Free.XT.ushr p1 (12 : Int32)) &&& (15 : Int32))), .val (.ref a_6), .val (.ref a_12), .val (.ref a_17), .val (.int zz), .unset, .unset] [(.int (d_3 * ((Jvm.Free.XT.ushr p1 (8 : Int32)) &&& (15 : Int32)))), (.int ((d_1 * (p1 &&& (15 : Int32))) + (d_2 * ((Jvm.Free.XT.ushr p1 (4 : Int32)) &&& (15 : Int32)))))]))
  refine own_G.go (fun t k => XS.iadd X_27.here hx rfl (hb hby at_172) rfl k) ?_
  show own_G _ _ _ _ (T_27.setTop (mkF m 173 #[.val (.int p0), .val (.int p1), .val (.int d_1), .val (.int d_2), .val (.int d_3), .val (.int d_4), .val (.int d_5), .val (.int (p1 &&& (15 : Int32))), .val (.int ((Jvm.Free.XT.ushr p1 (4 : Int32)) &&& (15 : Int32))), .val (.int ((Jvm.Free.XT.ushr p1 (8 : Int32)) &&& (15 : Int32))), .val (.int ((Jvm.Free.XT.ushr p1 (12 : Int32)) &&& (15 : Int32))), .val (.ref a_6), .val (.ref a_12), .val (.ref a_17), .val (.int zz), .unset, .unset] [(.int (((d_1 * (p1 &&& (15 : Int32))) + (d_2 * ((Jvm.Free.XT.ushr p1 (4 : Int32)) &&& (15 : Int32)))) + (d_3 * ((Jvm.Free.XT.ushr p1 (8 : Int32)) &&& (15 : Int32)))))]))
  refine own_G.go (fun t k => XS.iload X_27.here hx rfl (hb hby at_173) rfl k) ?_
  show own_G _ _ _ _ (T_27.setTop (mkF m 175 #[.val (.int p0), .val (.int p1), .val (.int d_1), .val (.int d_2), .val (.int d_3), .val (.int d_4), .val (.int d_5), .val (.int (p1 &&& (15 : Int32))), .val (.int ((Jvm.Free.XT.ushr p1 (4 : Int32)) &&& (15 : Int32))), .val (.int ((Jvm.Free.XT.ushr p1 (8 : Int32)) &&& (15 : Int32))), .val (.int ((Jvm.Free.XT.ushr p1 (12 : Int32)) &&& (15 : Int32))), .val (.ref a_6), .val (.ref a_12), .val (.ref a_17), .val (.int zz), .unset, .unset] [(.int d_4), (.int (((d_1 * (p1 &&& (15 : Int32))) + (d_2 * ((Jvm.Free.XT.ushr p1 (4 : Int32)) &&& (15 : Int32)))) + (d_3 * ((Jvm.Free.XT.ushr p1 (8 : Int32)) &&& (15 : Int32)))))]))
  refine own_G.go (fun t k => XS.iload X_27.here hx rfl (hb hby at_175) rfl k) ?_
  show own_G _ _ _ _ (T_27.setTop (mkF m 177 #[.val (.int p0), .val (.int p1), .val (.int d_1), .val (.int d_2), .val (.int d_3), .val (.int d_4), .val (.int d_5), .val (.int (p1 &&& (15 : Int32))), .val (.int ((Jvm.Free.XT.ushr p1 (4 : Int32)) &&& (15 : Int32))), .val (.int ((Jvm.Free.XT.ushr p1 (8 : Int32)) &&& (15 : Int32))), .val (.int ((Jvm.Free.XT.ushr p1 (12 : Int32)) &&& (15 : Int32))), .val (.ref a_6), .val (.ref a_12), .val (.ref a_17), .val (.int zz), .unset, .unset] [(.int ((Jvm.Free.XT.ushr p1 (12 : Int32)) &&& (15 : Int32))), (.int d_4), (.int (((d_1 * (p1 &&& (15 : Int32))) + (d_2 * ((Jvm.Free.XT.ushr p1 (4 : Int32)) &&& (15 : Int32)))) + (d_3 * ((Jvm.Free.XT.ushr p1 (8 : Int32)) &&& (15 : Int32)))))]))
  refine own_G.go (fun t k => XS.imul X_27.here hx rfl (hb hby at_177) rfl k) ?_
  show own_G _ _ _ _ (T_27.setTop (mkF m 178 #[.val (.int p0), .val (.int p1), .val (.int d_1), .val (.int d_2), .val (.int d_3), .val (.int d_4), .val (.int d_5), .val (.int (p1 &&& (15 : Int32))), .val (.int ((Jvm.Free.XT.ushr p1 (4 : Int32)) &&& (15 : Int32))), .val (.int ((Jvm.Free.XT.ushr p1 (8 : Int32)) &&& (15 : Int32))), .val (.int ((Jvm.Free.XT.ushr p1 (12 : Int32)) &&& (15 : Int32))), .val (.ref a_6), .val (.ref a_12), .val (.ref a_17), .val (.int zz), .unset, .unset] [(.int (d_4 * ((Jvm.Free.XT.ushr p1 (12 : Int32)) &&& (15 : Int32)))), (.int (((d_1 * (p1 &&& (15 : Int32))) + (d_2 * ((Jvm.Free.XT.ushr p1 (4 : Int32)) &&& (15 : Int32)))) + (d_3 * ((Jvm.Free.XT.ushr p1 (8 : Int32)) &&& (15 : Int32)))))]))
  refine own_G.go (fun t k => XS.iadd X_27.here hx rfl (hb hby at_178) rfl k) ?_
  show own_G _ _ _ _ (T_27.setTop (mkF m 179 #[.val (.int p0), .val (.int p1), .val (.int d_1), .val (.int d_2), .val (.int d_3), .val (.int d_4), .val (.int d_5), .val (.int (p1 &&& (15 : Int32))), .val (.int ((Jvm.Free.XT.ushr p1 (4 : Int32)) &&& (15 : Int32))), .val (.int ((Jvm.Free.XT.ushr p1 (8 : Int32)) &&& (15 : Int32))), .val (.int ((Jvm.Free.XT.ushr p1 (12 : Int32)) &&& (15 : Int32))), .val (.ref a_6), .val (.ref a_12), .val (.ref a_17), .val (.int zz), .unset, .unset] [(.int ((((d_1 * (p1 &&& (15 : Int32))) + (d_2 * ((Jvm.Free.XT.ushr p1 (4 : Int32)) &&& (15 : Int32)))) + (d_3 * ((Jvm.Free.XT.ushr p1 (8 : Int32)) &&& (15 : Int32)))) + (d_4 * ((Jvm.Free.XT.ushr p1 (12 : Int32)) &&& (15 : Int32)))))]))
  refine own_G.go (fun t k => XS.istore X_27.here hx rfl (hb hby at_179) rfl (l' := #[.val (.int p0), .val (.int p1), .val (.int d_1), .val (.int d_2), .val (.int d_3), .val (.int d_4), .val (.int d_5), .val (.int (p1 &&& (15 : Int32))), .val (.int ((Jvm.Free.XT.ushr p1 (4 : Int32)) &&& (15 : Int32))), .val (.int ((Jvm.Free.XT.ushr p1 (8 : Int32)) &&& (15 : Int32))), .val (.int ((Jvm.Free.XT.ushr p1 (12 : Int32)) &&& (15 : Int32))), .val (.ref a_6), .val (.ref a_12), .val (.ref a_17), .val (.int zz), .val (.int ((((d_1 * (p1 &&& (15 : Int32))) + (d_2 * ((Jvm.Free.XT.ushr p1 (4 : Int32)) &&& (15 : Int32)))) + (d_3 * ((Jvm.Free.XT.ushr p1 (8 : Int32)) &&& (15 : Int32)))) + (d_4 * ((Jvm.Free.XT.ushr p1 (12 : Int32)) &&& (15 : Int32))))), .unset]) rfl k) ?_
  show own_G _ _ _ _ (T_27.setTop (mkF m 181 #[.val (.int p0), .val (.int p1), .val (.int d_1), .val (.int d_2), .val (.int d_3), .val (.int d_4), .val (.int d_5), .val (.int (p1 &&& (15 : Int32))), .val (.int ((Jvm.Free.XT.ushr p1 (4 : Int32)) &&& (15 : Int32))), .val (.int ((Jvm.Free.XT.ushr p1 (8 : Int32)) &&& (15 : Int32))), .val (.int ((Jvm.Free.XT.ushr p1 (12 : Int32)) &&& (15 : Int32))), .val (.ref a_6), .val (.ref a_12), .val (.ref a_17), .val (.int zz), .val (.int ((((d_1 * (p1 &&& (15 : Int32))) + (d_2 * ((Jvm.Free.XT.ushr p1 (4 : Int32)) &&& (15 : Int32)))) + (d_3 * ((Jvm.Free.XT.ushr p1 (8 : Int32)) &&& (15 : Int32)))) + (d_4 * ((Jvm.Free.XT.ushr p1 (12 : Int32)) &&& (15 : Int32))))), .unset] []))
  refine own_G.go (fun t k => XS.iload X_27.here hx rfl (hb hby at_181) rfl k) ?_
  show own_G _ _ _ _ (T_27.setTop (mkF m 183 #[.val (.int p0), .val (.int p1), .val (.int d_1), .val (.int d_2), .val (.int d_3), .val (.int d_4), .val (.int d_5), .val (.int (p1 &&& (15 : Int32))), .val (.int ((Jvm.Free.XT.ushr p1 (4 : Int32)) &&& (15 : Int32))), .val (.int ((Jvm.Free.XT.ushr p1 (8 : Int32)) &&& (15 : Int32))), .val (.int ((Jvm.Free.XT.ushr p1 (12 : Int32)) &&& (15 : Int32))), .val (.ref a_6), .val (.ref a_12), .val (.ref a_17), .val (.int zz), .val (.int ((((d_1 * (p1 &&& (15 : Int32))) + (d_2 * ((Jvm.Free.XT.ushr p1 (4 : Int32)) &&& (15 : Int32)))) + (d_3 * ((Jvm.Free.XT.ushr p1 (8 : Int32)) &&& (15 : Int32)))) + (d_4 * ((Jvm.Free.XT.ushr p1 (12 : Int32)) &&& (15 : Int32))))), .unset] [(.int zz)]))
  refine own_G.go (fun t k => XS.bipush X_27.here hx rfl (hb hby at_183) k) ?_
  show own_G _ _ _ _ (T_27.setTop (mkF m 185 #[.val (.int p0), .val (.int p1), .val (.int d_1), .val (.int d_2), .val (.int d_3), .val (.int d_4), .val (.int d_5), .val (.int (p1 &&& (15 : Int32))), .val (.int ((Jvm.Free.XT.ushr p1 (4 : Int32)) &&& (15 : Int32))), .val (.int ((Jvm.Free.XT.ushr p1 (8 : Int32)) &&& (15 : Int32))), .val (.int ((Jvm.Free.XT.ushr p1 (12 : Int32)) &&& (15 : Int32))), .val (.ref a_6), .val (.ref a_12), .val (.ref a_17), .val (.int zz), .val (.int ((((d_1 * (p1 &&& (15 : Int32))) + (d_2 * ((Jvm.Free.XT.ushr p1 (4 : Int32)) &&& (15 : Int32)))) + (d_3 * ((Jvm.Free.XT.ushr p1 (8 : Int32)) &&& (15 : Int32)))) + (d_4 * ((Jvm.Free.XT.ushr p1 (12 : Int32)) &&& (15 : Int32))))), .unset] [(.int (48 : Int32)), (.int zz)]))
  refine own_G.go (fun t k => XS.icmpNo X_27.here hx rfl (hb hby at_185) rfl (flt (own_z0 hz : ¬ zz < (48 : Int32))).1 k) ?_
  show own_G _ _ _ _ (T_27.setTop (mkF m 188 #[.val (.int p0), .val (.int p1), .val (.int d_1), .val (.int d_2), .val (.int d_3), .val (.int d_4), .val (.int d_5), .val (.int (p1 &&& (15 : Int32))), .val (.int ((Jvm.Free.XT.ushr p1 (4 : Int32)) &&& (15 : Int32))), .val (.int ((Jvm.Free.XT.ushr p1 (8 : Int32)) &&& (15 : Int32))), .val (.int ((Jvm.Free.XT.ushr p1 (12 : Int32)) &&& (15 : Int32))), .val (.ref a_6), .val (.ref a_12), .val (.ref a_17), .val (.int zz), .val (.int ((((d_1 * (p1 &&& (15 : Int32))) + (d_2 * ((Jvm.Free.XT.ushr p1 (4 : Int32)) &&& (15 : Int32)))) + (d_3 * ((Jvm.Free.XT.ushr p1 (8 : Int32)) &&& (15 : Int32)))) + (d_4 * ((Jvm.Free.XT.ushr p1 (12 : Int32)) &&& (15 : Int32))))), .unset] []))
  refine own_G.go (fun t k => XS.iload X_27.here hx rfl (hb hby at_188) rfl k) ?_
  show own_G _ _ _ _ (T_27.setTop (mkF m 190 #[.val (.int p0), .val (.int p1), .val (.int d_1), .val (.int d_2), .val (.int d_3), .val (.int d_4), .val (.int d_5), .val (.int (p1 &&& (15 : Int32))), .val (.int ((Jvm.Free.XT.ushr p1 (4 : Int32)) &&& (15 : Int32))), .val (.int ((Jvm.Free.XT.ushr p1 (8 : Int32)) &&& (15 : Int32))), .val (.int ((Jvm.Free.XT.ushr p1 (12 : Int32)) &&& (15 : Int32))), .val (.ref a_6), .val (.ref a_12), .val (.ref a_17), .val (.int zz), .val (.int ((((d_1 * (p1 &&& (15 : Int32))) + (d_2 * ((Jvm.Free.XT.ushr p1 (4 : Int32)) &&& (15 : Int32)))) + (d_3 * ((Jvm.Free.XT.ushr p1 (8 : Int32)) &&& (15 : Int32)))) + (d_4 * ((Jvm.Free.XT.ushr p1 (12 : Int32)) &&& (15 : Int32))))), .unset] [(.int zz)]))
  refine own_G.go (fun t k => XS.bipush X_27.here hx rfl (hb hby at_190) k) ?_
  show own_G _ _ _ _ (T_27.setTop (mkF m 192 #[.val (.int p0), .val (.int p1), .val (.int d_1), .val (.int d_2), .val (.int d_3), .val (.int d_4), .val (.int d_5), .val (.int (p1 &&& (15 : Int32))), .val (.int ((Jvm.Free.XT.ushr p1 (4 : Int32)) &&& (15 : Int32))), .val (.int ((Jvm.Free.XT.ushr p1 (8 : Int32)) &&& (15 : Int32))), .val (.int ((Jvm.Free.XT.ushr p1 (12 : Int32)) &&& (15 : Int32))), .val (.ref a_6), .val (.ref a_12), .val (.ref a_17), .val (.int zz), .val (.int ((((d_1 * (p1 &&& (15 : Int32))) + (d_2 * ((Jvm.Free.XT.ushr p1 (4 : Int32)) &&& (15 : Int32)))) + (d_3 * ((Jvm.Free.XT.ushr p1 (8 : Int32)) &&& (15 : Int32)))) + (d_4 * ((Jvm.Free.XT.ushr p1 (12 : Int32)) &&& (15 : Int32))))), .unset] [(.int (57 : Int32)), (.int zz)]))
  refine own_G.go (fun t k => XS.icmpYes X_27.here hx rfl (pc0 := 192) (pc' := 197) rfl (hb hby at_192) rfl (flt (own_z9 hz hsum.2.1 : ¬ (57 : Int32) < zz)).2.2.2 (by decide) (by decide) k) ?_
  show own_G _ _ _ _ (T_27.setTop (mkF m 197 #[.val (.int p0), .val (.int p1), .val (.int d_1), .val (.int d_2), .val (.int d_3), .val (.int d_4), .val (.int d_5), .val (.int (p1 &&& (15 : Int32))), .val (.int ((Jvm.Free.XT.ushr p1 (4 : Int32)) &&& (15 : Int32))), .val (.int ((Jvm.Free.XT.ushr p1 (8 : Int32)) &&& (15 : Int32))), .val (.int ((Jvm.Free.XT.ushr p1 (12 : Int32)) &&& (15 : Int32))), .val (.ref a_6), .val (.ref a_12), .val (.ref a_17), .val (.int zz), .val (.int ((((d_1 * (p1 &&& (15 : Int32))) + (d_2 * ((Jvm.Free.XT.ushr p1 (4 : Int32)) &&& (15 : Int32)))) + (d_3 * ((Jvm.Free.XT.ushr p1 (8 : Int32)) &&& (15 : Int32)))) + (d_4 * ((Jvm.Free.XT.ushr p1 (12 : Int32)) &&& (15 : Int32))))), .unset] []))
  refine own_G.go (fun t k => XS.iload X_27.here hx rfl (hb hby at_197) rfl k) ?_
  show own_G _ _ _ _ (T_27.setTop (mkF m 199 #[.val (.int p0), .val (.int p1), .val (.int d_1), .val (.int d_2), .val (.int d_3), .val (.int d_4), .val (.int d_5), .val (.int (p1 &&& (15 : Int32))), .val (.int ((Jvm.Free.XT.ushr p1 (4 : Int32)) &&& (15 : Int32))), .val (.int ((Jvm.Free.XT.ushr p1 (8 : Int32)) &&& (15 : Int32))), .val (.int ((Jvm.Free.XT.ushr p1 (12 : Int32)) &&& (15 : Int32))), .val (.ref a_6), .val (.ref a_12), .val (.ref a_17), .val (.int zz), .val (.int ((((d_1 * (p1 &&& (15 : Int32))) + (d_2 * ((Jvm.Free.XT.ushr p1 (4 : Int32)) &&& (15 : Int32)))) + (d_3 * ((Jvm.Free.XT.ushr p1 (8 : Int32)) &&& (15 : Int32)))) + (d_4 * ((Jvm.Free.XT.ushr p1 (12 : Int32)) &&& (15 : Int32))))), .unset] [(.int zz)]))
  refine own_G.go (fun t k => XS.bipush X_27.here hx rfl (hb hby at_199) k) ?_
  show own_G _ _ _ _ (T_27.setTop (mkF m 201 #[.val (.int p0), .val (.int p1), .val (.int d_1), .val (.int d_2), .val (.int d_3), .val (.int d_4), .val (.int d_5), .val (.int (p1 &&& (15 : Int32))), .val (.int ((Jvm.Free.XT.ushr p1 (4 : Int32)) &&& (15 : Int32))), .val (.int ((Jvm.Free.XT.ushr p1 (8 : Int32)) &&& (15 : Int32))), .val (.int ((Jvm.Free.XT.ushr p1 (12 : Int32)) &&& (15 : Int32))), .val (.ref a_6), .val (.ref a_12), .val (.ref a_17), .val (.int zz), .val (.int ((((d_1 * (p1 &&& (15 : Int32))) + (d_2 * ((Jvm.Free.XT.ushr p1 (4 : Int32)) &&& (15 : Int32)))) + (d_3 * ((Jvm.Free.XT.ushr p1 (8 : Int32)) &&& (15 : Int32)))) + (d_4 * ((Jvm.Free.XT.ushr p1 (12 : Int32)) &&& (15 : Int32))))), .unset] [(.int (48 : Int32)), (.int zz)]))
  refine own_G.go (fun t k => XS.isub X_27.here hx rfl (hb hby at_201) rfl k) ?_
  show own_G _ _ _ _ (T_27.setTop (mkF m 202 #[.val (.int p0), .val (.int p1), .val (.int d_1), .val (.int d_2), .val (.int d_3), .val (.int d_4), .val (.int d_5), .val (.int (p1 &&& (15 : Int32))), .val (.int ((Jvm.Free.XT.ushr p1 (4 : Int32)) &&& (15 : Int32))), .val (.int ((Jvm.Free.XT.ushr p1 (8 : Int32)) &&& (15 : Int32))), .val (.int ((Jvm.Free.XT.ushr p1 (12 : Int32)) &&& (15 : Int32))), .val (.ref a_6), .val (.ref a_12), .val (.ref a_17), .val (.int zz), .val (.int ((((d_1 * (p1 &&& (15 : Int32))) + (d_2 * ((Jvm.Free.XT.ushr p1 (4 : Int32)) &&& (15 : Int32)))) + (d_3 * ((Jvm.Free.XT.ushr p1 (8 : Int32)) &&& (15 : Int32)))) + (d_4 * ((Jvm.Free.XT.ushr p1 (12 : Int32)) &&& (15 : Int32))))), .unset] [(.int (zz - (48 : Int32)))]))
  refine own_G.go (fun t k => XS.istore X_27.here hx rfl (hb hby at_202) rfl (l' := #[.val (.int p0), .val (.int p1), .val (.int d_1), .val (.int d_2), .val (.int d_3), .val (.int d_4), .val (.int d_5), .val (.int (p1 &&& (15 : Int32))), .val (.int ((Jvm.Free.XT.ushr p1 (4 : Int32)) &&& (15 : Int32))), .val (.int ((Jvm.Free.XT.ushr p1 (8 : Int32)) &&& (15 : Int32))), .val (.int ((Jvm.Free.XT.ushr p1 (12 : Int32)) &&& (15 : Int32))), .val (.ref a_6), .val (.ref a_12), .val (.ref a_17), .val (.int zz), .val (.int ((((d_1 * (p1 &&& (15 : Int32))) + (d_2 * ((Jvm.Free.XT.ushr p1 (4 : Int32)) &&& (15 : Int32)))) + (d_3 * ((Jvm.Free.XT.ushr p1 (8 : Int32)) &&& (15 : Int32)))) + (d_4 * ((Jvm.Free.XT.ushr p1 (12 : Int32)) &&& (15 : Int32))))), .val (.int (zz - (48 : Int32)))]) rfl k) ?_
  show own_G _ _ _ _ (T_27.setTop (mkF m 204 #[.val (.int p0), .val (.int p1), .val (.int d_1), .val (.int d_2), .val (.int d_3), .val (.int d_4), .val (.int d_5), .val (.int (p1 &&& (15 : Int32))), .val (.int ((Jvm.Free.XT.ushr p1 (4 : Int32)) &&& (15 : Int32))), .val (.int ((Jvm.Free.XT.ushr p1 (8 : Int32)) &&& (15 : Int32))), .val (.int ((Jvm.Free.XT.ushr p1 (12 : Int32)) &&& (15 : Int32))), .val (.ref a_6), .val (.ref a_12), .val (.ref a_17), .val (.int zz), .val (.int ((((d_1 * (p1 &&& (15 : Int32))) + (d_2 * ((Jvm.Free.XT.ushr p1 (4 : Int32)) &&& (15 : Int32)))) + (d_3 * ((Jvm.Free.XT.ushr p1 (8 : Int32)) &&& (15 : Int32)))) + (d_4 * ((Jvm.Free.XT.ushr p1 (12 : Int32)) &&& (15 : Int32))))), .val (.int (zz - (48 : Int32)))] []))
  refine own_G.go (fun t k => XS.iload X_27.here hx rfl (hb hby at_204) rfl k) ?_
  show own_G _ _ _ _ (T_27.setTop (mkF m 206 #[.val (.int p0), .val (.int p1), .val (.int d_1), .val (.int d_2), .val (.int d_3), .val (.int d_4), .val (.int d_5), .val (.int (p1 &&& (15 : Int32))), .val (.int ((Jvm.Free.XT.ushr p1 (4 : Int32)) &&& (15 : Int32))), .val (.int ((Jvm.Free.XT.ushr p1 (8 : Int32)) &&& (15 : Int32))), .val (.int ((Jvm.Free.XT.ushr p1 (12 : Int32)) &&& (15 : Int32))), .val (.ref a_6), .val (.ref a_12), .val (.ref a_17), .val (.int zz), .val (.int ((((d_1 * (p1 &&& (15 : Int32))) + (d_2 * ((Jvm.Free.XT.ushr p1 (4 : Int32)) &&& (15 : Int32)))) + (d_3 * ((Jvm.Free.XT.ushr p1 (8 : Int32)) &&& (15 : Int32)))) + (d_4 * ((Jvm.Free.XT.ushr p1 (12 : Int32)) &&& (15 : Int32))))), .val (.int (zz - (48 : Int32)))] [(.int (zz - (48 : Int32)))]))
  by_cases hd0 : (zz - (48 : Int32)) = (0 : Int32)
  · refine own_G.go (fun t k => XS.ifNo X_27.here hx rfl (hb hby at_206) rfl ((if0 _ _).trans (teq hd0).2) k) ?_
    show own_G _ _ _ _ (T_27.setTop (mkF m 209 #[.val (.int p0), .val (.int p1), .val (.int d_1), .val (.int d_2), .val (.int d_3), .val (.int d_4), .val (.int d_5), .val (.int (p1 &&& (15 : Int32))), .val (.int ((Jvm.Free.XT.ushr p1 (4 : Int32)) &&& (15 : Int32))), .val (.int ((Jvm.Free.XT.ushr p1 (8 : Int32)) &&& (15 : Int32))), .val (.int ((Jvm.Free.XT.ushr p1 (12 : Int32)) &&& (15 : Int32))), .val (.ref a_6), .val (.ref a_12), .val (.ref a_17), .val (.int zz), .val (.int ((((d_1 * (p1 &&& (15 : Int32))) + (d_2 * ((Jvm.Free.XT.ushr p1 (4 : Int32)) &&& (15 : Int32)))) + (d_3 * ((Jvm.Free.XT.ushr p1 (8 : Int32)) &&& (15 : Int32)))) + (d_4 * ((Jvm.Free.XT.ushr p1 (12 : Int32)) &&& (15 : Int32))))), .val (.int (zz - (48 : Int32)))] []))
    refine own_G.go (fun t k => XS.iload X_27.here hx rfl (hb hby at_209) rfl k) ?_
    show own_G _ _ _ _ (T_27.setTop (mkF m 211 #[.val (.int p0), .val (.int p1), .val (.int d_1), .val (.int d_2), .val (.int d_3), .val (.int d_4), .val (.int d_5), .val (.int (p1 &&& (15 : Int32))), .val (.int ((Jvm.Free.XT.ushr p1 (4 : Int32)) &&& (15 : Int32))), .val (.int ((Jvm.Free.XT.ushr p1 (8 : Int32)) &&& (15 : Int32))), .val (.int ((Jvm.Free.XT.ushr p1 (12 : Int32)) &&& (15 : Int32))), .val (.ref a_6), .val (.ref a_12), .val (.ref a_17), .val (.int zz), .val (.int ((((d_1 * (p1 &&& (15 : Int32))) + (d_2 * ((Jvm.Free.XT.ushr p1 (4 : Int32)) &&& (15 : Int32)))) + (d_3 * ((Jvm.Free.XT.ushr p1 (8 : Int32)) &&& (15 : Int32)))) + (d_4 * ((Jvm.Free.XT.ushr p1 (12 : Int32)) &&& (15 : Int32))))), .val (.int (zz - (48 : Int32)))] [(.int ((((d_1 * (p1 &&& (15 : Int32))) + (d_2 * ((Jvm.Free.XT.ushr p1 (4 : Int32)) &&& (15 : Int32)))) + (d_3 * ((Jvm.Free.XT.ushr p1 (8 : Int32)) &&& (15 : Int32)))) + (d_4 * ((Jvm.Free.XT.ushr p1 (12 : Int32)) &&& (15 : Int32)))))]))
    refine own_G.go (fun t k => XS.bipush X_27.here hx rfl (hb hby at_211) k) ?_
    show own_G _ _ _ _ (T_27.setTop (mkF m 213 #[.val (.int p0), .val (.int p1), .val (.int d_1), .val (.int d_2), .val (.int d_3), .val (.int d_4), .val (.int d_5), .val (.int (p1 &&& (15 : Int32))), .val (.int ((Jvm.Free.XT.ushr p1 (4 : Int32)) &&& (15 : Int32))), .val (.int ((Jvm.Free.XT.ushr p1 (8 : Int32)) &&& (15 : Int32))), .val (.int ((Jvm.Free.XT.ushr p1 (12 : Int32)) &&& (15 : Int32))), .val (.ref a_6), .val (.ref a_12), .val (.ref a_17), .val (.int zz), .val (.int ((((d_1 * (p1 &&& (15 : Int32))) + (d_2 * ((Jvm.Free.XT.ushr p1 (4 : Int32)) &&& (15 : Int32)))) + (d_3 * ((Jvm.Free.XT.ushr p1 (8 : Int32)) &&& (15 : Int32)))) + (d_4 * ((Jvm.Free.XT.ushr p1 (12 : Int32)) &&& (15 : Int32))))), .val (.int (zz - (48 : Int32)))] [(.int (11 : Int32)), (.int ((((d_1 * (p1 &&& (15 : Int32))) + (d_2 * ((Jvm.Free.XT.ushr p1 (4 : Int32)) &&& (15 : Int32)))) + (d_3 * ((Jvm.Free.XT.ushr p1 (8 : Int32)) &&& (15 : Int32)))) + (d_4 * ((Jvm.Free.XT.ushr p1 (12 : Int32)) &&& (15 : Int32)))))]))
    refine own_G.go (fun t k => iremM X_27 hx rfl (hb hby at_213) rfl (by decide) k) ?_
    show own_G _ _ _ _ (T_27.setTop (mkF m 214 #[.val (.int p0), .val (.int p1), .val (.int d_1), .val (.int d_2), .val (.int d_3), .val (.int d_4), .val (.int d_5), .val (.int (p1 &&& (15 : Int32))), .val (.int ((Jvm.Free.XT.ushr p1 (4 : Int32)) &&& (15 : Int32))), .val (.int ((Jvm.Free.XT.ushr p1 (8 : Int32)) &&& (15 : Int32))), .val (.int ((Jvm.Free.XT.ushr p1 (12 : Int32)) &&& (15 : Int32))), .val (.ref a_6), .val (.ref a_12), .val (.ref a_17), .val (.int zz), .val (.int ((((d_1 * (p1 &&& (15 : Int32))) + (d_2 * ((Jvm.Free.XT.ushr p1 (4 : Int32)) &&& (15 : Int32)))) + (d_3 * ((Jvm.Free.XT.ushr p1 (8 : Int32)) &&& (15 : Int32)))) + (d_4 * ((Jvm.Free.XT.ushr p1 (12 : Int32)) &&& (15 : Int32))))), .val (.int (zz - (48 : Int32)))] [(.int (((((d_1 * (p1 &&& (15 : Int32))) + (d_2 * ((Jvm.Free.XT.ushr p1 (4 : Int32)) &&& (15 : Int32)))) + (d_3 * ((Jvm.Free.XT.ushr p1 (8 : Int32)) &&& (15 : Int32)))) + (d_4 * ((Jvm.Free.XT.ushr p1 (12 : Int32)) &&& (15 : Int32)))) % (11 : Int32)))]))
    refine own_G.go (fun t k => XS.iconst X_27.here hx rfl (hb hby at_214) k) ?_
    show own_G _ _ _ _ (T_27.setTop (mkF m 215 #[.val (.int p0), .val (.int p1), .val (.int d_1), .val (.int d_2), .val (.int d_3), .val (.int d_4), .val (.int d_5), .val (.int (p1 &&& (15 : Int32))), .val (.int ((Jvm.Free.XT.ushr p1 (4 : Int32)) &&& (15 : Int32))), .val (.int ((Jvm.Free.XT.ushr p1 (8 : Int32)) &&& (15 : Int32))), .val (.int ((Jvm.Free.XT.ushr p1 (12 : Int32)) &&& (15 : Int32))), .val (.ref a_6), .val (.ref a_12), .val (.ref a_17), .val (.int zz), .val (.int ((((d_1 * (p1 &&& (15 : Int32))) + (d_2 * ((Jvm.Free.XT.ushr p1 (4 : Int32)) &&& (15 : Int32)))) + (d_3 * ((Jvm.Free.XT.ushr p1 (8 : Int32)) &&& (15 : Int32)))) + (d_4 * ((Jvm.Free.XT.ushr p1 (12 : Int32)) &&& (15 : Int32))))), .val (.int (zz - (48 : Int32)))] [(.int (2 : Int32)), (.int (((((d_1 * (p1 &&& (15 : Int32))) + (d_2 * ((Jvm.Free.XT.ushr p1 (4 : Int32)) &&& (15 : Int32)))) + (d_3 * ((Jvm.Free.XT.ushr p1 (8 : Int32)) &&& (15 : Int32)))) + (d_4 * ((Jvm.Free.XT.ushr p1 (12 : Int32)) &&& (15 : Int32)))) % (11 : Int32)))]))
    refine own_G.go (fun t k => XS.icmpNo X_27.here hx rfl (hb hby at_215) rfl (tlt (own_t0 hz hsum hd0 : (((((d_1 * (p1 &&& (15 : Int32))) + (d_2 * ((Jvm.Free.XT.ushr p1 (4 : Int32)) &&& (15 : Int32)))) + (d_3 * ((Jvm.Free.XT.ushr p1 (8 : Int32)) &&& (15 : Int32)))) + (d_4 * ((Jvm.Free.XT.ushr p1 (12 : Int32)) &&& (15 : Int32)))) % (11 : Int32)) < (2 : Int32))).2.1 k) ?_
    show own_G _ _ _ _ (T_27.setTop (mkF m 218 #[.val (.int p0), .val (.int p1), .val (.int d_1), .val (.int d_2), .val (.int d_3), .val (.int d_4), .val (.int d_5), .val (.int (p1 &&& (15 : Int32))), .val (.int ((Jvm.Free.XT.ushr p1 (4 : Int32)) &&& (15 : Int32))), .val (.int ((Jvm.Free.XT.ushr p1 (8 : Int32)) &&& (15 : Int32))), .val (.int ((Jvm.Free.XT.ushr p1 (12 : Int32)) &&& (15 : Int32))), .val (.ref a_6), .val (.ref a_12), .val (.ref a_17), .val (.int zz), .val (.int ((((d_1 * (p1 &&& (15 : Int32))) + (d_2 * ((Jvm.Free.XT.ushr p1 (4 : Int32)) &&& (15 : Int32)))) + (d_3 * ((Jvm.Free.XT.ushr p1 (8 : Int32)) &&& (15 : Int32)))) + (d_4 * ((Jvm.Free.XT.ushr p1 (12 : Int32)) &&& (15 : Int32))))), .val (.int (zz - (48 : Int32)))] []))
    refine own_G.go (fun t k => XS.iconst X_27.here hx rfl (hb hby at_218) k) ?_
    show own_G _ _ _ _ (T_27.setTop (mkF m 219 #[.val (.int p0), .val (.int p1), .val (.int d_1), .val (.int d_2), .val (.int d_3), .val (.int d_4), .val (.int d_5), .val (.int (p1 &&& (15 : Int32))), .val (.int ((Jvm.Free.XT.ushr p1 (4 : Int32)) &&& (15 : Int32))), .val (.int ((Jvm.Free.XT.ushr p1 (8 : Int32)) &&& (15 : Int32))), .val (.int ((Jvm.Free.XT.ushr p1 (12 : Int32)) &&& (15 : Int32))), .val (.ref a_6), .val (.ref a_12), .val (.ref a_17), .val (.int zz), .val (.int ((((d_1 * (p1 &&& (15 : Int32))) + (d_2 * ((Jvm.Free.XT.ushr p1 (4 : Int32)) &&& (15 : Int32)))) + (d_3 * ((Jvm.Free.XT.ushr p1 (8 : Int32)) &&& (15 : Int32)))) + (d_4 * ((Jvm.Free.XT.ushr p1 (12 : Int32)) &&& (15 : Int32))))), .val (.int (zz - (48 : Int32)))] [(.int (1 : Int32))]))
    refine own_G.go (fun t k => XS.goto X_27.here hx rfl (pc0 := 219) (pc' := 223) rfl (hb hby at_219) (by decide) (by decide) k) ?_
    show own_G _ _ _ _ (T_27.setTop (mkF m 223 #[.val (.int p0), .val (.int p1), .val (.int d_1), .val (.int d_2), .val (.int d_3), .val (.int d_4), .val (.int d_5), .val (.int (p1 &&& (15 : Int32))), .val (.int ((Jvm.Free.XT.ushr p1 (4 : Int32)) &&& (15 : Int32))), .val (.int ((Jvm.Free.XT.ushr p1 (8 : Int32)) &&& (15 : Int32))), .val (.int ((Jvm.Free.XT.ushr p1 (12 : Int32)) &&& (15 : Int32))), .val (.ref a_6), .val (.ref a_12), .val (.ref a_17), .val (.int zz), .val (.int ((((d_1 * (p1 &&& (15 : Int32))) + (d_2 * ((Jvm.Free.XT.ushr p1 (4 : Int32)) &&& (15 : Int32)))) + (d_3 * ((Jvm.Free.XT.ushr p1 (8 : Int32)) &&& (15 : Int32)))) + (d_4 * ((Jvm.Free.XT.ushr p1 (12 : Int32)) &&& (15 : Int32))))), .val (.int (zz - (48 : Int32)))] [(.int (1 : Int32))]))
    exact own_G.end_ X_27 hlk (v := (some (.int (1 : Int32)))) (fun h => by rw [hrt] at h; cases h) (fun fs hr => retN X_27 hx (z := (1 : Int32)) (t := .boolean) hrt (by simp) (hb hby at_223) hr) eh_27 ⟨rfl, N_27⟩ (by decide) (by decide)
  · refine own_G.go (fun t k => XS.ifYes X_27.here hx rfl (pc0 := 206) (pc' := 224) rfl (hb hby at_206) rfl ((if0 _ _).trans (feq hd0).2) (by decide) (by decide) k) ?_
    show own_G _ _ _ _ (T_27.setTop (mkF m 224 #[.val (.int p0), .val (.int p1), .val (.int d_1), .val (.int d_2), .val (.int d_3), .val (.int d_4), .val (.int d_5), .val (.int (p1 &&& (15 : Int32))), .val (.int ((Jvm.Free.XT.ushr p1 (4 : Int32)) &&& (15 : Int32))), .val (.int ((Jvm.Free.XT.ushr p1 (8 : Int32)) &&& (15 : Int32))), .val (.int ((Jvm.Free.XT.ushr p1 (12 : Int32)) &&& (15 : Int32))), .val (.ref a_6), .val (.ref a_12), .val (.ref a_17), .val (.int zz), .val (.int ((((d_1 * (p1 &&& (15 : Int32))) + (d_2 * ((Jvm.Free.XT.ushr p1 (4 : Int32)) &&& (15 : Int32)))) + (d_3 * ((Jvm.Free.XT.ushr p1 (8 : Int32)) &&& (15 : Int32)))) + (d_4 * ((Jvm.Free.XT.ushr p1 (12 : Int32)) &&& (15 : Int32))))), .val (.int (zz - (48 : Int32)))] []))
    refine own_G.go (fun t k => XS.iload X_27.here hx rfl (hb hby at_224) rfl k) ?_
    show own_G _ _ _ _ (T_27.setTop (mkF m 226 #[.val (.int p0), .val (.int p1), .val (.int d_1), .val (.int d_2), .val (.int d_3), .val (.int d_4), .val (.int d_5), .val (.int (p1 &&& (15 : Int32))), .val (.int ((Jvm.Free.XT.ushr p1 (4 : Int32)) &&& (15 : Int32))), .val (.int ((Jvm.Free.XT.ushr p1 (8 : Int32)) &&& (15 : Int32))), .val (.int ((Jvm.Free.XT.ushr p1 (12 : Int32)) &&& (15 : Int32))), .val (.ref a_6), .val (.ref a_12), .val (.ref a_17), .val (.int zz), .val (.int ((((d_1 * (p1 &&& (15 : Int32))) + (d_2 * ((Jvm.Free.XT.ushr p1 (4 : Int32)) &&& (15 : Int32)))) + (d_3 * ((Jvm.Free.XT.ushr p1 (8 : Int32)) &&& (15 : Int32)))) + (d_4 * ((Jvm.Free.XT.ushr p1 (12 : Int32)) &&& (15 : Int32))))), .val (.int (zz - (48 : Int32)))] [(.int ((((d_1 * (p1 &&& (15 : Int32))) + (d_2 * ((Jvm.Free.XT.ushr p1 (4 : Int32)) &&& (15 : Int32)))) + (d_3 * ((Jvm.Free.XT.ushr p1 (8 : Int32)) &&& (15 : Int32)))) + (d_4 * ((Jvm.Free.XT.ushr p1 (12 : Int32)) &&& (15 : Int32)))))]))
    refine own_G.go (fun t k => XS.iload X_27.here hx rfl (hb hby at_226) rfl k) ?_
    show own_G _ _ _ _ (T_27.setTop (mkF m 228 #[.val (.int p0), .val (.int p1), .val (.int d_1), .val (.int d_2), .val (.int d_3), .val (.int d_4), .val (.int d_5), .val (.int (p1 &&& (15 : Int32))), .val (.int ((Jvm.Free.XT.ushr p1 (4 : Int32)) &&& (15 : Int32))), .val (.int ((Jvm.Free.XT.ushr p1 (8 : Int32)) &&& (15 : Int32))), .val (.int ((Jvm.Free.XT.ushr p1 (12 : Int32)) &&& (15 : Int32))), .val (.ref a_6), .val (.ref a_12), .val (.ref a_17), .val (.int zz), .val (.int ((((d_1 * (p1 &&& (15 : Int32))) + (d_2 * ((Jvm.Free.XT.ushr p1 (4 : Int32)) &&& (15 : Int32)))) + (d_3 * ((Jvm.Free.XT.ushr p1 (8 : Int32)) &&& (15 : Int32)))) + (d_4 * ((Jvm.Free.XT.ushr p1 (12 : Int32)) &&& (15 : Int32))))), .val (.int (zz - (48 : Int32)))] [(.int (zz - (48 : Int32))), (.int ((((d_1 * (p1 &&& (15 : Int32))) + (d_2 * ((Jvm.Free.XT.ushr p1 (4 : Int32)) &&& (15 : Int32)))) + (d_3 * ((Jvm.Free.XT.ushr p1 (8 : Int32)) &&& (15 : Int32)))) + (d_4 * ((Jvm.Free.XT.ushr p1 (12 : Int32)) &&& (15 : Int32)))))]))
    refine own_G.go (fun t k => XS.iadd X_27.here hx rfl (hb hby at_228) rfl k) ?_
    show own_G _ _ _ _ (T_27.setTop (mkF m 229 #[.val (.int p0), .val (.int p1), .val (.int d_1), .val (.int d_2), .val (.int d_3), .val (.int d_4), .val (.int d_5), .val (.int (p1 &&& (15 : Int32))), .val (.int ((Jvm.Free.XT.ushr p1 (4 : Int32)) &&& (15 : Int32))), .val (.int ((Jvm.Free.XT.ushr p1 (8 : Int32)) &&& (15 : Int32))), .val (.int ((Jvm.Free.XT.ushr p1 (12 : Int32)) &&& (15 : Int32))), .val (.ref a_6), .val (.ref a_12), .val (.ref a_17), .val (.int zz), .val (.int ((((d_1 * (p1 &&& (15 : Int32))) + (d_2 * ((Jvm.Free.XT.ushr p1 (4 : Int32)) &&& (15 : Int32)))) + (d_3 * ((Jvm.Free.XT.ushr p1 (8 : Int32)) &&& (15 : Int32)))) + (d_4 * ((Jvm.Free.XT.ushr p1 (12 : Int32)) &&& (15 : Int32))))), .val (.int (zz - (48 : Int32)))] [(.int (((((d_1 * (p1 &&& (15 : Int32))) + (d_2 * ((Jvm.Free.XT.ushr p1 (4 : Int32)) &&& (15 : Int32)))) + (d_3 * ((Jvm.Free.XT.ushr p1 (8 : Int32)) &&& (15 : Int32)))) + (d_4 * ((Jvm.Free.XT.ushr p1 (12 : Int32)) &&& (15 : Int32)))) + (zz - (48 : Int32))))]))
    refine own_G.go (fun t k => XS.bipush X_27.here hx rfl (hb hby at_229) k) ?_
    show own_G _ _ _ _ (T_27.setTop (mkF m 231 #[.val (.int p0), .val (.int p1), .val (.int d_1), .val (.int d_2), .val (.int d_3), .val (.int d_4), .val (.int d_5), .val (.int (p1 &&& (15 : Int32))), .val (.int ((Jvm.Free.XT.ushr p1 (4 : Int32)) &&& (15 : Int32))), .val (.int ((Jvm.Free.XT.ushr p1 (8 : Int32)) &&& (15 : Int32))), .val (.int ((Jvm.Free.XT.ushr p1 (12 : Int32)) &&& (15 : Int32))), .val (.ref a_6), .val (.ref a_12), .val (.ref a_17), .val (.int zz), .val (.int ((((d_1 * (p1 &&& (15 : Int32))) + (d_2 * ((Jvm.Free.XT.ushr p1 (4 : Int32)) &&& (15 : Int32)))) + (d_3 * ((Jvm.Free.XT.ushr p1 (8 : Int32)) &&& (15 : Int32)))) + (d_4 * ((Jvm.Free.XT.ushr p1 (12 : Int32)) &&& (15 : Int32))))), .val (.int (zz - (48 : Int32)))] [(.int (11 : Int32)), (.int (((((d_1 * (p1 &&& (15 : Int32))) + (d_2 * ((Jvm.Free.XT.ushr p1 (4 : Int32)) &&& (15 : Int32)))) + (d_3 * ((Jvm.Free.XT.ushr p1 (8 : Int32)) &&& (15 : Int32)))) + (d_4 * ((Jvm.Free.XT.ushr p1 (12 : Int32)) &&& (15 : Int32)))) + (zz - (48 : Int32))))]))
    refine own_G.go (fun t k => iremM X_27 hx rfl (hb hby at_231) rfl (by decide) k) ?_
    show own_G _ _ _ _ (T_27.setTop (mkF m 232 #[.val (.int p0), .val (.int p1), .val (.int d_1), .val (.int d_2), .val (.int d_3), .val (.int d_4), .val (.int d_5), .val (.int (p1 &&& (15 : Int32))), .val (.int ((Jvm.Free.XT.ushr p1 (4 : Int32)) &&& (15 : Int32))), .val (.int ((Jvm.Free.XT.ushr p1 (8 : Int32)) &&& (15 : Int32))), .val (.int ((Jvm.Free.XT.ushr p1 (12 : Int32)) &&& (15 : Int32))), .val (.ref a_6), .val (.ref a_12), .val (.ref a_17), .val (.int zz), .val (.int ((((d_1 * (p1 &&& (15 : Int32))) + (d_2 * ((Jvm.Free.XT.ushr p1 (4 : Int32)) &&& (15 : Int32)))) + (d_3 * ((Jvm.Free.XT.ushr p1 (8 : Int32)) &&& (15 : Int32)))) + (d_4 * ((Jvm.Free.XT.ushr p1 (12 : Int32)) &&& (15 : Int32))))), .val (.int (zz - (48 : Int32)))] [(.int ((((((d_1 * (p1 &&& (15 : Int32))) + (d_2 * ((Jvm.Free.XT.ushr p1 (4 : Int32)) &&& (15 : Int32)))) + (d_3 * ((Jvm.Free.XT.ushr p1 (8 : Int32)) &&& (15 : Int32)))) + (d_4 * ((Jvm.Free.XT.ushr p1 (12 : Int32)) &&& (15 : Int32)))) + (zz - (48 : Int32))) % (11 : Int32)))]))
    refine own_G.go (fun t k => XS.ifNo X_27.here hx rfl (hb hby at_232) rfl ((if0 _ _).trans (teq (own_t1 hz hsum hd0 : ((((((d_1 * (p1 &&& (15 : Int32))) + (d_2 * ((Jvm.Free.XT.ushr p1 (4 : Int32)) &&& (15 : Int32)))) + (d_3 * ((Jvm.Free.XT.ushr p1 (8 : Int32)) &&& (15 : Int32)))) + (d_4 * ((Jvm.Free.XT.ushr p1 (12 : Int32)) &&& (15 : Int32)))) + (zz - (48 : Int32))) % (11 : Int32)) = (0 : Int32))).2) k) ?_
    show own_G _ _ _ _ (T_27.setTop (mkF m 235 #[.val (.int p0), .val (.int p1), .val (.int d_1), .val (.int d_2), .val (.int d_3), .val (.int d_4), .val (.int d_5), .val (.int (p1 &&& (15 : Int32))), .val (.int ((Jvm.Free.XT.ushr p1 (4 : Int32)) &&& (15 : Int32))), .val (.int ((Jvm.Free.XT.ushr p1 (8 : Int32)) &&& (15 : Int32))), .val (.int ((Jvm.Free.XT.ushr p1 (12 : Int32)) &&& (15 : Int32))), .val (.ref a_6), .val (.ref a_12), .val (.ref a_17), .val (.int zz), .val (.int ((((d_1 * (p1 &&& (15 : Int32))) + (d_2 * ((Jvm.Free.XT.ushr p1 (4 : Int32)) &&& (15 : Int32)))) + (d_3 * ((Jvm.Free.XT.ushr p1 (8 : Int32)) &&& (15 : Int32)))) + (d_4 * ((Jvm.Free.XT.ushr p1 (12 : Int32)) &&& (15 : Int32))))), .val (.int (zz - (48 : Int32)))] []))
    refine own_G.go (fun t k => XS.iconst X_27.here hx rfl (hb hby at_235) k) ?_
    show own_G _ _ _ _ (T_27.setTop (mkF m 236 #[.val (.int p0), .val (.int p1), .val (.int d_1), .val (.int d_2), .val (.int d_3), .val (.int d_4), .val (.int d_5), .val (.int (p1 &&& (15 : Int32))), .val (.int ((Jvm.Free.XT.ushr p1 (4 : Int32)) &&& (15 : Int32))), .val (.int ((Jvm.Free.XT.ushr p1 (8 : Int32)) &&& (15 : Int32))), .val (.int ((Jvm.Free.XT.ushr p1 (12 : Int32)) &&& (15 : Int32))), .val (.ref a_6), .val (.ref a_12), .val (.ref a_17), .val (.int zz), .val (.int ((((d_1 * (p1 &&& (15 : Int32))) + (d_2 * ((Jvm.Free.XT.ushr p1 (4 : Int32)) &&& (15 : Int32)))) + (d_3 * ((Jvm.Free.XT.ushr p1 (8 : Int32)) &&& (15 : Int32)))) + (d_4 * ((Jvm.Free.XT.ushr p1 (12 : Int32)) &&& (15 : Int32))))), .val (.int (zz - (48 : Int32)))] [(.int (1 : Int32))]))
    refine own_G.go (fun t k => XS.goto X_27.here hx rfl (pc0 := 236) (pc' := 240) rfl (hb hby at_236) (by decide) (by decide) k) ?_
    show own_G _ _ _ _ (T_27.setTop (mkF m 240 #[.val (.int p0), .val (.int p1), .val (.int d_1), .val (.int d_2), .val (.int d_3), .val (.int d_4), .val (.int d_5), .val (.int (p1 &&& (15 : Int32))), .val (.int ((Jvm.Free.XT.ushr p1 (4 : Int32)) &&& (15 : Int32))), .val (.int ((Jvm.Free.XT.ushr p1 (8 : Int32)) &&& (15 : Int32))), .val (.int ((Jvm.Free.XT.ushr p1 (12 : Int32)) &&& (15 : Int32))), .val (.ref a_6), .val (.ref a_12), .val (.ref a_17), .val (.int zz), .val (.int ((((d_1 * (p1 &&& (15 : Int32))) + (d_2 * ((Jvm.Free.XT.ushr p1 (4 : Int32)) &&& (15 : Int32)))) + (d_3 * ((Jvm.Free.XT.ushr p1 (8 : Int32)) &&& (15 : Int32)))) + (d_4 * ((Jvm.Free.XT.ushr p1 (12 : Int32)) &&& (15 : Int32))))), .val (.int (zz - (48 : Int32)))] [(.int (1 : Int32))]))
    exact own_G.end_ X_27 hlk (v := (some (.int (1 : Int32)))) (fun h => by rw [hrt] at h; cases h) (fun fs hr => retN X_27 hx (z := (1 : Int32)) (t := .boolean) hrt (by simp) (hb hby at_240) hr) eh_27 ⟨rfl, N_27⟩ (by decide) (by decide)
set_option maxRecDepth 65536 in
set_option maxHeartbeats 40000000 in
theorem comes_1 {Post : Tables → Env → Array Value → State → Outcome → State → Prop} (hpost : ∀ tb e args s v u, (limb_1_1.after args s (.returned v) u = true ∧ limb_1_2.after args s (.returned v) u = true ∧ True) → FrameEnd s (.returned v) u (Jvm.fieldLocs frame_1_writes args s ++ Jvm.arrayLocs frame_1_arrays args s ++ Jvm.staticLocs frame_1_statics s) 16 128 → Post tb e args s (.returned v) u) :
    ArmFor flags0 classFile x code maxLocals ret World_1 tables_1 room_1 Calls_1 rest_1 Pre_1 Post := by
  intro l hfl _ _ p e ha hc hk s m args below hf hA hF happ hP
  obtain ⟨hcalls, hrest, hpre⟩ := hP
  obtain ⟨-, -, -, hnamed, -, -, -, hat⟩ := (Spec.applies_iff hf).mp happ
  obtain ⟨hg, hn⟩ := and_e (Cond.before_iff.mp (show (Jvm.Cond.and given_1 narrow_1).before args s = true from hpre))
  obtain ⟨hcnt, hr_0⟩ := and_e hg
  obtain ⟨ha_0, hr_1⟩ := and_e hr_0
  obtain ⟨w0, w1, rfl⟩ : ∃ w0 w1 : Value, args = #[w0, w1] := by
    have hs : args.size = 2 := by simpa [Cond.value, given_1] using hcnt
    obtain ⟨L⟩ := args
    match L, hs with
    | [w0, w1], _ => exact ⟨w0, w1, rfl⟩
  have hw := fun d (hd : d ∈ tables_1) => atoms_spec (ws := Jvm.Cond.code x code maxLocals ret :: tables_1) hat d (List.mem_cons_of_mem _ hd)
  have hfit : Fit s := fun {y c} hc i hi => by
    obtain ⟨ha, rfl⟩ := Array.getElem?_eq_some_iff.mp hc
    have q := List.all_eq_true.mp ((Array.all_eq_true_iff_forall_mem.mp hF) _ (Array.getElem_mem ha)) i (List.mem_range.mpr hi)
    simpa [Array.getElem?_eq_getElem hi] using q
  obtain ⟨i0, ei0⟩ := is_v ha_0
  obtain rfl : w0 = (.int i0) := Option.some.inj ei0
  obtain ⟨i1, ei1⟩ := is_v hr_1
  obtain rfl : w1 = (.int i1) := Option.some.inj ei1
  obtain ⟨hsets, hown0⟩ := atoms_of _ (rest_1_c_eq ▸ (show rest_1_c.before _ s = true from hrest))
  have n3 := not_v (Cond.before_iff.mp (hsets _ (List.mem_of_getElem? (i := 2) rfl)))
  obtain ⟨zc, ezc⟩ := is_v (Cond.before_iff.mp (hsets _ (List.mem_of_getElem? (i := 1) rfl)))
  have S2 : Sta s s.heap "java/lang/String" "COMPACT_STRINGS" "Z" (.int zc) := Sta.start ezc (Or.inl (hsets _ (List.mem_of_getElem? (i := 0) rfl)))
  obtain ⟨fm, efm, rfm⟩ := isR_v (Cond.before_iff.mp (hsets _ (List.mem_of_getElem? (i := 8) rfl)))
  have S4 : Sta s s.heap "jdk/internal/util/Preconditions" "SIOOBE_FORMATTER" "Ljava/util/function/BiFunction;" fm := Sta.start efm (Or.inl (hsets _ (List.mem_of_getElem? (i := 7) rfl)))
  have P5 : ¬ (zc = (0 : Int32)) := gotF (Cond.eq_ints ezc (Term.int_eval (0))) n3
  obtain ⟨n, o, h1, h2, h3, _, L, rfl, ⟨rfl, N⟩, hq⟩ := rm_law l s _ hw tables_1 i0 i1 zc fm s.heap s.heap.size (Nat.le_refl _) S2 S4 P5 rfm (Old.start s) p e ha hc hk s m _ below hf ((Spec.applies_iff_loose hf).mp happ).1 ⟨rfl, State.Warmed39.refl s, rfl⟩ trivial
  refine ⟨n, _, h1, h2, h3, hpost _ _ _ _ _ _ ⟨Cond.after_iff.mpr rfl, Cond.after_iff.mpr (eq_i res_at (Term.int_eval (1)) rfl), trivial⟩ ⟨hq.1, hq.2.1, (hq.2.2.sift fun y hy => Or.inr (N y hy)).mono (by decide) (by decide)⟩⟩
theorem main_1_1 : Claimed_1_1 := comes_1 fun _ _ _ _ _ _ h hF => ⟨h.1, hF⟩
theorem main_1_2 : Claimed_1_2 := comes_1 fun _ _ _ _ _ _ h hF => ⟨h.2.1, hF⟩
end Jvm.Pilot.@@N@@
namespace Jvm.Pilot.@@N@@
open Jvm Jvm.ClassFile Sem Op Lib Jvm.Free Jvm.Stand Jvm.Pilot.@@N@@.Jvm.D
/-! MADE BY PROGRAM (witnessworld.py) out of the Statement's table words and the real class files: 20 classes; the members and pool entries that the words name. The judged class is class 1, her method 2. -/
namespace start1
open Jvm.ClassFile
def u (s : String) : CpInfo := .utf8 (stringToUtf16 s)
/-- a pool by its gaps: so many unusable entries, then the entry; so many at the end -/
def gap : Nat → List CpInfo → List CpInfo
  | 0, r => r
  | n + 1, r => .unusable :: gap n r
def poolList (es : List (Nat × CpInfo)) (last : Nat) : List CpInfo := es.foldr (fun e r => gap e.1 (e.2 :: r)) (gap last [])
def pool (es : List (Nat × CpInfo)) (last : Nat) : Array CpInfo := ⟨poolList es last⟩
def fileOf (pool : Array CpInfo) (this : Nat) (attrs : Array Attribute := #[]) (ms : Array MethodInfo := #[]) (fl : Nat := 33) (sup : Nat := 0) (ifs : Array Nat := #[]) (fds : Array FieldInfo := #[]) : ClassFile where
  minorVersion := 0
  majorVersion := 65
  constantPool := pool
  accessFlags := fl
  thisClass := this
  superClass := sup
  interfaces := ifs
  fields := fds
  methods := ms
  attributes := attrs
def plain (name : String) (sup : Option ClassId) : Class where
  name := name
  kind := .ordinary
  loader := none
  accessFlags := 33
  super := sup
  interfaces := #[]
  cf := none
  fields := #[]
  methods := #[]
  instanceTypes := #[]
  staticTypes := #[]
  resolved := #[]
  callSites := []
  init := .initialized
  statics := none
  mirror := none

def pool0 : Array CpInfo := pool [(5, u "<init>"), (0, u "()V"), (1, .class_ 10), (1, u "java/lang/Object")] 113

def k0c0 : Code := { maxStack := 0, maxLocals := 1, code := object_method_1_code, exceptionTable := #[], attributes := #[] }
def k0m0 : Method := { name := "<init>", desc := "()V", sig := { parameters := [], returnType := none }, accessFlags := 1, code := some k0c0 }
/-- java/lang/Object -/
def k0 : Class := { plain "java/lang/Object" none with
  accessFlags := 33
  interfaces := #[]
  cf := some (fileOf pool0 8 #[] #[{ accessFlags := 1, nameIndex := 5, descriptorIndex := 6, attributes := #[] }] 33 0 #[] #[])
  fields := #[]
  methods := #[k0m0]
  instanceTypes := #[]
  staticTypes := #[]
  resolved := Array.replicate 124 none
  statics := none }

def pool1 : Array CpInfo := pool [(2, .class_ 4), (1, u "java/lang/Object"), (0, u "<init>"), (0, u "()V"), (0, .methodref 8 9), (0, .class_ 10), (0, .nameAndType 11 12), (0, u "com/example/lastro/lastro/core/CheckDigitsOfPinLaw"), (0, u "digit"), (0, u "(II)I"), (0, .class_ 14), (0, u "java/lang/String"), (0, .methodref 13 16), (0, .nameAndType 5 17), (0, u "([C)V"), (0, .methodref 19 20), (0, .class_ 21), (0, .nameAndType 22 23), (0, u "com/example/lastro/lastro/core/CheckDigits"), (0, u "of"), (0, u "(Ljava/lang/String;[I)C"), (2, u "law"), (0, u "(II)Z")] 7

def k1m0 : Method := { name := "<init>", desc := "()V", sig := { parameters := [], returnType := none }, accessFlags := 1, code := none }
def k1c1 : Code := { maxStack := 3, maxLocals := 2, code := method_2_code, exceptionTable := #[], attributes := #[] }
def k1m1 : Method := { name := "digit", desc := "(II)I", sig := { parameters := [.int, .int], returnType := some .int }, accessFlags := 10, code := some k1c1 }
def k1c2 : Code := { maxStack := 5, maxLocals := 17, code := code, exceptionTable := #[], attributes := #[] }
def k1m2 : Method := { name := "law", desc := "(II)Z", sig := { parameters := [.int, .int], returnType := some .boolean }, accessFlags := 9, code := some k1c2 }
/-- com/example/lastro/lastro/core/CheckDigitsOfPinLaw -/
def k1 : Class := { plain "com/example/lastro/lastro/core/CheckDigitsOfPinLaw" (some 0) with
  accessFlags := 49
  interfaces := #[]
  cf := some (fileOf pool1 8 #[] #[{ accessFlags := 1, nameIndex := 5, descriptorIndex := 6, attributes := #[] }, { accessFlags := 10, nameIndex := 11, descriptorIndex := 12, attributes := #[] }, { accessFlags := 9, nameIndex := 26, descriptorIndex := 27, attributes := #[] }] 49 2 #[] #[])
  fields := #[]
  methods := #[k1m0, k1m1, k1m2]
  instanceTypes := #[]
  staticTypes := #[]
  resolved := Array.replicate 35 none
  statics := none }

def pool2 : Array CpInfo := pool [(1, .class_ 2), (0, u "java/io/Serializable"), (0, .class_ 4), (0, u "java/lang/Object")] 2

/-- java/io/Serializable -/
def k2 : Class := { plain "java/io/Serializable" (some 0) with
  accessFlags := 1537
  interfaces := #[]
  cf := some (fileOf pool2 1 #[] #[] 1537 3 #[] #[])
  fields := #[]
  methods := #[]
  instanceTypes := #[]
  staticTypes := #[]
  resolved := Array.replicate 7 none
  statics := none }

def pool3 : Array CpInfo := pool [(1, .class_ 2), (0, u "java/lang/Comparable"), (0, .class_ 4), (0, u "java/lang/Object")] 7

/-- java/lang/Comparable -/
def k3 : Class := { plain "java/lang/Comparable" (some 0) with
  accessFlags := 1537
  interfaces := #[]
  cf := some (fileOf pool3 1 #[] #[] 1537 3 #[] #[])
  fields := #[]
  methods := #[]
  instanceTypes := #[]
  staticTypes := #[]
  resolved := Array.replicate 12 none
  statics := none }

def pool4 : Array CpInfo := pool [(2, .class_ 4), (1, u "java/lang/CharSequence"), (42, .class_ 48), (0, u "java/lang/CharSequence$1CodePointIterator"), (10, .class_ 60), (0, u "java/lang/CharSequence$1CharIterator"), (5, .class_ 67), (0, u "java/lang/Object")] 63

/-- java/lang/CharSequence -/
def k4 : Class := { plain "java/lang/CharSequence" (some 0) with
  accessFlags := 1537
  interfaces := #[]
  cf := some (fileOf pool4 2 #[.nestMembers #[47, 59]] #[] 1537 66 #[] #[])
  fields := #[]
  methods := #[]
  instanceTypes := #[]
  staticTypes := #[]
  resolved := Array.replicate 131 none
  statics := none }

def pool5 : Array CpInfo := pool [(1, .class_ 2), (0, u "java/lang/constant/Constable"), (0, .class_ 4), (0, u "java/lang/Object")] 6

/-- java/lang/constant/Constable -/
def k5 : Class := { plain "java/lang/constant/Constable" (some 0) with
  accessFlags := 1537
  interfaces := #[]
  cf := some (fileOf pool5 1 #[] #[] 1537 3 #[] #[])
  fields := #[]
  methods := #[]
  instanceTypes := #[]
  staticTypes := #[]
  resolved := Array.replicate 11 none
  statics := none }

def pool6 : Array CpInfo := pool [(1, .class_ 2), (0, u "java/lang/constant/ConstantDesc"), (0, .class_ 4), (0, u "java/lang/Object")] 32

/-- java/lang/constant/ConstantDesc -/
def k6 : Class := { plain "java/lang/constant/ConstantDesc" (some 0) with
  accessFlags := 1537
  interfaces := #[]
  cf := some (fileOf pool6 1 #[] #[] 1537 3 #[] #[])
  fields := #[]
  methods := #[]
  instanceTypes := #[]
  staticTypes := #[]
  resolved := Array.replicate 37 none
  statics := none }

def pool7 : Array CpInfo := pool [(1, .methodref 2 3), (0, .class_ 4), (0, .nameAndType 5 6), (0, u "java/lang/Object"), (0, u "<init>"), (0, u "()V"), (2, .fieldref 10 11), (0, .class_ 12), (0, .nameAndType 13 14), (0, u "java/lang/String"), (0, u "value"), (0, u "[B"), (0, .fieldref 10 16), (0, .nameAndType 17 18), (0, u "coder"), (0, u "B"), (2, u "hash"), (0, u "I"), (2, u "hashIsZero"), (0, u "Z"), (0, .methodref 10 28), (0, .nameAndType 5 29), (0, u "([CIILjava/lang/Void;)V"), (8, .fieldref 10 39), (0, .nameAndType 40 26), (0, u "COMPACT_STRINGS"), (1, .class_ 44), (1, u "java/lang/StringUTF16"), (0, u "compress"), (1, .methodref 42 48), (0, .nameAndType 49 50), (0, u "coderFromArrayLen"), (0, u "([BI)B"), (56, .class_ 109), (1, u "java/lang/StringLatin1"), (32, u "()Z"), (34, .methodref 42 178), (0, .nameAndType 45 179), (0, u "([CII)[B"), (183, u "([BI)C"), (27, u "(II)V"), (35, u "(I)C"), (64, .methodref 10 493), (0, .nameAndType 494 142), (0, u "isLatin1"), (0, .methodref 107 496), (0, .nameAndType 497 363), (0, u "charAt"), (3, u "checkIndex"), (73, .class_ 576), (0, u "java/lang/CharSequence"), (22, u "CASE_INSENSITIVE_ORDER"), (0, u "Ljava/util/Comparator;"), (409, u "([C)V"), (42, .fieldref 1054 1055), (0, .class_ 1056), (0, .nameAndType 1057 1058), (0, u "jdk/internal/util/Preconditions"), (0, u "SIOOBE_FORMATTER"), (0, u "Ljava/util/function/BiFunction;"), (0, .methodref 1054 1060), (0, .nameAndType 501 1061), (0, u "(IILjava/util/function/BiFunction;)I"), (39, u "serialPersistentFields"), (0, u "[Ljava/io/ObjectStreamField;"), (0, .class_ 1104), (0, u "java/lang/String$CaseInsensitiveComparator"), (1, .class_ 1107), (0, u "java/io/Serializable"), (0, .class_ 1109), (0, u "java/lang/Comparable"), (0, .class_ 1111), (0, u "java/lang/constant/Constable"), (0, .class_ 1113), (0, u "java/lang/constant/ConstantDesc"), (2, u "serialVersionUID"), (0, u "J"), (3, u "REPL"), (0, u "C"), (2, u "LATIN1"), (1, u "UTF16")] 323

def k7m0 : Method := { name := "<init>", desc := "()V", sig := { parameters := [], returnType := none }, accessFlags := 1, code := none }
def k7c1 : Code := { maxStack := 5, maxLocals := 2, code := jdk_42_method_3_code, exceptionTable := #[], attributes := #[] }
def k7m1 : Method := { name := "<init>", desc := "([C)V", sig := { parameters := [(.array .char)], returnType := none }, accessFlags := 1, code := some k7c1 }
def k7c2 : Code := { maxStack := 2, maxLocals := 2, code := jdk_42_method_56_code, exceptionTable := #[], attributes := #[] }
def k7m2 : Method := { name := "charAt", desc := "(I)C", sig := { parameters := [.int], returnType := some .char }, accessFlags := 1, code := some k7c2 }
def k7c3 : Code := { maxStack := 4, maxLocals := 6, code := jdk_42_method_149_code, exceptionTable := #[], attributes := #[] }
def k7m3 : Method := { name := "<init>", desc := "([CIILjava/lang/Void;)V", sig := { parameters := [(.array .char), .int, .int, (.object "java/lang/Void")], returnType := none }, accessFlags := 2, code := some k7c3 }
def k7c4 : Code := { maxStack := 1, maxLocals := 1, code := jdk_42_method_154_code, exceptionTable := #[], attributes := #[] }
def k7m4 : Method := { name := "isLatin1", desc := "()Z", sig := { parameters := [], returnType := some .boolean }, accessFlags := 0, code := some k7c4 }
def k7c5 : Code := { maxStack := 3, maxLocals := 2, code := jdk_42_method_155_code, exceptionTable := #[], attributes := #[] }
def k7m5 : Method := { name := "checkIndex", desc := "(II)V", sig := { parameters := [.int, .int], returnType := none }, accessFlags := 8, code := some k7c5 }
/-- java/lang/String -/
def k7 : Class := { plain "java/lang/String" (some 0) with
  accessFlags := 49
  interfaces := #[2, 3, 4, 5, 6]
  cf := some (fileOf pool7 10 #[.nestMembers #[1103]] #[{ accessFlags := 1, nameIndex := 5, descriptorIndex := 6, attributes := #[] }, { accessFlags := 1, nameIndex := 5, descriptorIndex := 1010, attributes := #[] }, { accessFlags := 1, nameIndex := 497, descriptorIndex := 427, attributes := #[] }, { accessFlags := 2, nameIndex := 5, descriptorIndex := 29, attributes := #[] }, { accessFlags := 0, nameIndex := 494, descriptorIndex := 142, attributes := #[] }, { accessFlags := 8, nameIndex := 501, descriptorIndex := 391, attributes := #[] }] 49 2 #[1106, 1108, 575, 1110, 1112] #[{ accessFlags := 18, nameIndex := 13, descriptorIndex := 14, attributes := #[] }, { accessFlags := 18, nameIndex := 17, descriptorIndex := 18, attributes := #[] }, { accessFlags := 2, nameIndex := 21, descriptorIndex := 22, attributes := #[] }, { accessFlags := 2, nameIndex := 25, descriptorIndex := 26, attributes := #[] }, { accessFlags := 26, nameIndex := 1116, descriptorIndex := 1117, attributes := #[] }, { accessFlags := 24, nameIndex := 40, descriptorIndex := 26, attributes := #[] }, { accessFlags := 26, nameIndex := 1101, descriptorIndex := 1102, attributes := #[] }, { accessFlags := 26, nameIndex := 1121, descriptorIndex := 1122, attributes := #[] }, { accessFlags := 25, nameIndex := 599, descriptorIndex := 600, attributes := #[] }, { accessFlags := 24, nameIndex := 1125, descriptorIndex := 18, attributes := #[] }, { accessFlags := 24, nameIndex := 1127, descriptorIndex := 18, attributes := #[] }])
  fields := #[{ name := "value", type := (.array .byte), accessFlags := 18, slot := 0, constantValue := 0 }, { name := "coder", type := .byte, accessFlags := 18, slot := 1, constantValue := 0 }, { name := "hash", type := .int, accessFlags := 2, slot := 2, constantValue := 0 }, { name := "hashIsZero", type := .boolean, accessFlags := 2, slot := 3, constantValue := 0 }, { name := "serialVersionUID", type := .long, accessFlags := 26, slot := 0, constantValue := 0 }, { name := "COMPACT_STRINGS", type := .boolean, accessFlags := 24, slot := 1, constantValue := 0 }, { name := "serialPersistentFields", type := (.array (.object "java/io/ObjectStreamField")), accessFlags := 26, slot := 2, constantValue := 0 }, { name := "REPL", type := .char, accessFlags := 26, slot := 3, constantValue := 0 }, { name := "CASE_INSENSITIVE_ORDER", type := (.object "java/util/Comparator"), accessFlags := 25, slot := 4, constantValue := 0 }, { name := "LATIN1", type := .byte, accessFlags := 24, slot := 5, constantValue := 0 }, { name := "UTF16", type := .byte, accessFlags := 24, slot := 6, constantValue := 0 }]
  methods := #[k7m0, k7m1, k7m2, k7m3, k7m4, k7m5]
  instanceTypes := #[(.array .byte), .byte, .int, .boolean]
  staticTypes := #[.long, .boolean, (.array (.object "java/io/ObjectStreamField")), .char, (.object "java/util/Comparator"), .byte, .byte]
  resolved := Array.replicate 1451 none
  statics := some 0 }

def pool8 : Array CpInfo := pool [(6, .class_ 8), (1, u "java/lang/Object"), (0, u "<init>"), (0, u "()V"), (1, .class_ 14), (1, u "java/lang/StringUTF16"), (31, u "$assertionsDisabled"), (0, u "Z"), (13, u "HI_BYTE_SHIFT"), (0, u "I"), (2, u "LO_BYTE_SHIFT"), (49, .methodref 12 116), (0, .nameAndType 117 118), (0, u "compress"), (0, u "([CI[BII)I"), (3, u "([CII)[B"), (138, u "coderFromArrayLen"), (0, u "([BI)B"), (106, .class_ 371), (1, u "java/lang/StringUTF16$LinesSpliterator"), (58, u "MAX_LENGTH"), (196, .class_ 628), (0, u "java/lang/StringUTF16$CodePointsSpliterator"), (0, .class_ 630), (0, u "java/lang/StringUTF16$CharsSpliterator")] 4

def k8m0 : Method := { name := "<init>", desc := "()V", sig := { parameters := [], returnType := none }, accessFlags := 0, code := none }
def k8c1 : Code := { maxStack := 2, maxLocals := 2, code := jdk_52_method_15_code, exceptionTable := #[], attributes := #[] }
def k8m1 : Method := { name := "coderFromArrayLen", desc := "([BI)B", sig := { parameters := [(.array .byte), .int], returnType := some .byte }, accessFlags := 8, code := some k8c1 }
def k8c2 : Code := { maxStack := 5, maxLocals := 6, code := jdk_52_method_16_code, exceptionTable := #[], attributes := #[] }
def k8m2 : Method := { name := "compress", desc := "([CII)[B", sig := { parameters := [(.array .char), .int, .int], returnType := some (.array .byte) }, accessFlags := 9, code := some k8c2 }
def k8c3 : Code := { maxStack := 3, maxLocals := 7, code := jdk_52_method_21_code, exceptionTable := #[], attributes := #[] }
def k8m3 : Method := { name := "compress", desc := "([CI[BII)I", sig := { parameters := [(.array .char), .int, (.array .byte), .int, .int], returnType := some .int }, accessFlags := 9, code := some k8c3 }
/-- java/lang/StringUTF16 -/
def k8 : Class := { plain "java/lang/StringUTF16" (some 0) with
  accessFlags := 48
  interfaces := #[]
  cf := some (fileOf pool8 12 #[.nestMembers #[627, 629, 369]] #[{ accessFlags := 0, nameIndex := 9, descriptorIndex := 10, attributes := #[] }, { accessFlags := 8, nameIndex := 261, descriptorIndex := 262, attributes := #[] }, { accessFlags := 9, nameIndex := 117, descriptorIndex := 122, attributes := #[] }, { accessFlags := 9, nameIndex := 117, descriptorIndex := 118, attributes := #[] }] 48 6 #[] #[{ accessFlags := 26, nameIndex := 61, descriptorIndex := 62, attributes := #[] }, { accessFlags := 26, nameIndex := 65, descriptorIndex := 62, attributes := #[] }, { accessFlags := 24, nameIndex := 430, descriptorIndex := 62, attributes := #[] }, { accessFlags := 4120, nameIndex := 46, descriptorIndex := 47, attributes := #[] }])
  fields := #[{ name := "HI_BYTE_SHIFT", type := .int, accessFlags := 26, slot := 0, constantValue := 0 }, { name := "LO_BYTE_SHIFT", type := .int, accessFlags := 26, slot := 1, constantValue := 0 }, { name := "MAX_LENGTH", type := .int, accessFlags := 24, slot := 2, constantValue := 0 }, { name := "$assertionsDisabled", type := .boolean, accessFlags := 4120, slot := 3, constantValue := 0 }]
  methods := #[k8m0, k8m1, k8m2, k8m3]
  instanceTypes := #[]
  staticTypes := #[.int, .int, .int, .boolean]
  resolved := Array.replicate 635 none
  statics := none }

def pool9 : Array CpInfo := pool [(2, .class_ 4), (1, u "java/lang/Object"), (0, u "<init>"), (0, u "()V"), (0, .methodref 8 9), (0, .class_ 10), (0, .nameAndType 11 12), (0, u "java/lang/String"), (0, u "charAt"), (0, u "(I)C"), (0, .class_ 14), (0, u "com/example/lastro/lastro/core/CheckDigits"), (2, u "of"), (0, u "(Ljava/lang/String;[I)C")] 5

def k9m0 : Method := { name := "<init>", desc := "()V", sig := { parameters := [], returnType := none }, accessFlags := 2, code := none }
def k9c1 : Code := { maxStack := 4, maxLocals := 4, code := prog_3_method_2_code, exceptionTable := #[], attributes := #[] }
def k9m1 : Method := { name := "of", desc := "(Ljava/lang/String;[I)C", sig := { parameters := [(.object "java/lang/String"), (.array .int)], returnType := some .char }, accessFlags := 8, code := some k9c1 }
/-- com/example/lastro/lastro/core/CheckDigits -/
def k9 : Class := { plain "com/example/lastro/lastro/core/CheckDigits" (some 0) with
  accessFlags := 48
  interfaces := #[]
  cf := some (fileOf pool9 13 #[] #[{ accessFlags := 2, nameIndex := 5, descriptorIndex := 6, attributes := #[] }, { accessFlags := 8, nameIndex := 17, descriptorIndex := 18, attributes := #[] }] 48 2 #[] #[])
  fields := #[]
  methods := #[k9m0, k9m1]
  instanceTypes := #[]
  staticTypes := #[]
  resolved := Array.replicate 24 none
  statics := none }

def pool10 : Array CpInfo := pool [(1, .class_ 2), (0, u "java/lang/String"), (1, .class_ 6), (1, u "java/lang/Object"), (0, u "<init>"), (0, u "()V"), (0, .methodref 1 10), (0, .nameAndType 11 12), (0, u "checkIndex"), (0, u "(II)V"), (1, .class_ 16), (1, u "java/lang/StringLatin1"), (36, u "([BI)C"), (67, u "$assertionsDisabled"), (0, u "Z"), (98, .class_ 223), (1, u "java/lang/StringLatin1$LinesSpliterator"), (28, u "charAt"), (137, .class_ 391), (0, u "java/lang/StringLatin1$CharsSpliterator")] 3

def k10m0 : Method := { name := "<init>", desc := "()V", sig := { parameters := [], returnType := none }, accessFlags := 0, code := none }
def k10c1 : Code := { maxStack := 2, maxLocals := 2, code := jdk_43_method_2_code, exceptionTable := #[], attributes := #[] }
def k10m1 : Method := { name := "charAt", desc := "([BI)C", sig := { parameters := [(.array .byte), .int], returnType := some .char }, accessFlags := 9, code := some k10c1 }
/-- java/lang/StringLatin1 -/
def k10 : Class := { plain "java/lang/StringLatin1" (some 0) with
  accessFlags := 48
  interfaces := #[]
  cf := some (fileOf pool10 14 #[.nestMembers #[390, 221]] #[{ accessFlags := 0, nameIndex := 7, descriptorIndex := 8, attributes := #[] }, { accessFlags := 9, nameIndex := 252, descriptorIndex := 53, attributes := #[] }] 48 4 #[] #[{ accessFlags := 4120, nameIndex := 121, descriptorIndex := 122, attributes := #[] }])
  fields := #[{ name := "$assertionsDisabled", type := .boolean, accessFlags := 4120, slot := 0, constantValue := 0 }]
  methods := #[k10m0, k10m1]
  instanceTypes := #[]
  staticTypes := #[.boolean]
  resolved := Array.replicate 395 none
  statics := none }

def pool11 : Array CpInfo := pool [(2, .class_ 4), (1, u "java/lang/Object"), (0, u "<init>"), (0, u "()V"), (17, .class_ 26), (1, u "jdk/internal/util/Preconditions"), (6, u "checkIndex"), (21, .class_ 56), (0, u "jdk/internal/util/Preconditions$4"), (57, .class_ 115), (0, u "jdk/internal/util/Preconditions$1"), (7, u "SIOOBE_FORMATTER"), (0, u "Ljava/util/function/BiFunction;"), (0, .class_ 126), (0, u "jdk/internal/util/Preconditions$2"), (3, u "AIOOBE_FORMATTER"), (0, .class_ 132), (0, u "jdk/internal/util/Preconditions$3"), (3, u "IOOBE_FORMATTER"), (41, u "(IILjava/util/function/BiFunction;)I")] 15

def k11m0 : Method := { name := "<init>", desc := "()V", sig := { parameters := [], returnType := none }, accessFlags := 1, code := none }
def k11c1 : Code := { maxStack := 3, maxLocals := 3, code := jdk_41_method_11_code, exceptionTable := #[], attributes := #[] }
def k11m1 : Method := { name := "checkIndex", desc := "(IILjava/util/function/BiFunction;)I", sig := { parameters := [.int, .int, (.object "java/util/function/BiFunction")], returnType := some .int }, accessFlags := 9, code := some k11c1 }
/-- jdk/internal/util/Preconditions -/
def k11 : Class := { plain "jdk/internal/util/Preconditions" (some 0) with
  accessFlags := 33
  interfaces := #[]
  cf := some (fileOf pool11 24 #[.nestMembers #[55, 131, 125, 114]] #[{ accessFlags := 1, nameIndex := 5, descriptorIndex := 6, attributes := #[] }, { accessFlags := 9, nameIndex := 33, descriptorIndex := 178, attributes := #[] }] 33 2 #[] #[{ accessFlags := 25, nameIndex := 123, descriptorIndex := 124, attributes := #[] }, { accessFlags := 25, nameIndex := 130, descriptorIndex := 124, attributes := #[] }, { accessFlags := 25, nameIndex := 136, descriptorIndex := 124, attributes := #[] }])
  fields := #[{ name := "SIOOBE_FORMATTER", type := (.object "java/util/function/BiFunction"), accessFlags := 25, slot := 0, constantValue := 0 }, { name := "AIOOBE_FORMATTER", type := (.object "java/util/function/BiFunction"), accessFlags := 25, slot := 1, constantValue := 0 }, { name := "IOOBE_FORMATTER", type := (.object "java/util/function/BiFunction"), accessFlags := 25, slot := 2, constantValue := 0 }]
  methods := #[k11m0, k11m1]
  instanceTypes := #[]
  staticTypes := #[(.object "java/util/function/BiFunction"), (.object "java/util/function/BiFunction"), (.object "java/util/function/BiFunction")]
  resolved := Array.replicate 194 none
  statics := some 1 }

def pool12 : Array CpInfo := pool [(9, u "<init>"), (6, .class_ 18), (1, u "java/lang/Object"), (0, u "()V"), (1, .class_ 23), (1, u "jdk/internal/util/ArraysSupport"), (0, u "LOG2_ARRAY_LONG_INDEX_SCALE"), (0, u "I"), (2, u "U"), (0, u "Ljdk/internal/misc/Unsafe;"), (8, u "BIG_ENDIAN"), (0, u "Z"), (8, u "LOG2_BYTE_BIT_SIZE"), (4, u "LOG2_ARRAY_INT_INDEX_SCALE"), (54, u "JLA"), (0, u "Ljdk/internal/access/JavaLangAccess;"), (11, u "LOG2_ARRAY_BOOLEAN_INDEX_SCALE"), (9, u "LOG2_ARRAY_BYTE_INDEX_SCALE"), (5, u "LOG2_ARRAY_CHAR_INDEX_SCALE"), (5, u "LOG2_ARRAY_SHORT_INDEX_SCALE"), (18, u "LOG2_ARRAY_FLOAT_INDEX_SCALE"), (24, u "LOG2_ARRAY_DOUBLE_INDEX_SCALE"), (89, u "T_BOOLEAN"), (2, u "T_CHAR"), (1, u "T_FLOAT"), (1, u "T_DOUBLE"), (1, u "T_BYTE"), (1, u "T_SHORT"), (1, u "T_INT"), (1, u "T_LONG"), (1, u "SOFT_MAX_ARRAY_LENGTH")] 83

def k12m0 : Method := { name := "<init>", desc := "()V", sig := { parameters := [], returnType := none }, accessFlags := 2, code := none }
/-- jdk/internal/util/ArraysSupport -/
def k12 : Class := { plain "jdk/internal/util/ArraysSupport" (some 0) with
  accessFlags := 33
  interfaces := #[]
  cf := some (fileOf pool12 21 #[] #[{ accessFlags := 2, nameIndex := 9, descriptorIndex := 19, attributes := #[] }] 33 16 #[] #[{ accessFlags := 24, nameIndex := 28, descriptorIndex := 29, attributes := #[] }, { accessFlags := 26, nameIndex := 38, descriptorIndex := 39, attributes := #[] }, { accessFlags := 25, nameIndex := 121, descriptorIndex := 25, attributes := #[] }, { accessFlags := 25, nameIndex := 131, descriptorIndex := 25, attributes := #[] }, { accessFlags := 25, nameIndex := 137, descriptorIndex := 25, attributes := #[] }, { accessFlags := 25, nameIndex := 143, descriptorIndex := 25, attributes := #[] }, { accessFlags := 25, nameIndex := 53, descriptorIndex := 25, attributes := #[] }, { accessFlags := 25, nameIndex := 24, descriptorIndex := 25, attributes := #[] }, { accessFlags := 25, nameIndex := 162, descriptorIndex := 25, attributes := #[] }, { accessFlags := 25, nameIndex := 187, descriptorIndex := 25, attributes := #[] }, { accessFlags := 26, nameIndex := 48, descriptorIndex := 25, attributes := #[] }, { accessFlags := 25, nameIndex := 277, descriptorIndex := 25, attributes := #[] }, { accessFlags := 25, nameIndex := 280, descriptorIndex := 25, attributes := #[] }, { accessFlags := 25, nameIndex := 282, descriptorIndex := 25, attributes := #[] }, { accessFlags := 25, nameIndex := 284, descriptorIndex := 25, attributes := #[] }, { accessFlags := 25, nameIndex := 286, descriptorIndex := 25, attributes := #[] }, { accessFlags := 25, nameIndex := 288, descriptorIndex := 25, attributes := #[] }, { accessFlags := 25, nameIndex := 290, descriptorIndex := 25, attributes := #[] }, { accessFlags := 25, nameIndex := 292, descriptorIndex := 25, attributes := #[] }, { accessFlags := 26, nameIndex := 108, descriptorIndex := 109, attributes := #[] }, { accessFlags := 25, nameIndex := 294, descriptorIndex := 25, attributes := #[] }])
  fields := #[{ name := "U", type := (.object "jdk/internal/misc/Unsafe"), accessFlags := 24, slot := 0, constantValue := 0 }, { name := "BIG_ENDIAN", type := .boolean, accessFlags := 26, slot := 1, constantValue := 0 }, { name := "LOG2_ARRAY_BOOLEAN_INDEX_SCALE", type := .int, accessFlags := 25, slot := 2, constantValue := 0 }, { name := "LOG2_ARRAY_BYTE_INDEX_SCALE", type := .int, accessFlags := 25, slot := 3, constantValue := 0 }, { name := "LOG2_ARRAY_CHAR_INDEX_SCALE", type := .int, accessFlags := 25, slot := 4, constantValue := 0 }, { name := "LOG2_ARRAY_SHORT_INDEX_SCALE", type := .int, accessFlags := 25, slot := 5, constantValue := 0 }, { name := "LOG2_ARRAY_INT_INDEX_SCALE", type := .int, accessFlags := 25, slot := 6, constantValue := 0 }, { name := "LOG2_ARRAY_LONG_INDEX_SCALE", type := .int, accessFlags := 25, slot := 7, constantValue := 0 }, { name := "LOG2_ARRAY_FLOAT_INDEX_SCALE", type := .int, accessFlags := 25, slot := 8, constantValue := 0 }, { name := "LOG2_ARRAY_DOUBLE_INDEX_SCALE", type := .int, accessFlags := 25, slot := 9, constantValue := 0 }, { name := "LOG2_BYTE_BIT_SIZE", type := .int, accessFlags := 26, slot := 10, constantValue := 0 }, { name := "T_BOOLEAN", type := .int, accessFlags := 25, slot := 11, constantValue := 0 }, { name := "T_CHAR", type := .int, accessFlags := 25, slot := 12, constantValue := 0 }, { name := "T_FLOAT", type := .int, accessFlags := 25, slot := 13, constantValue := 0 }, { name := "T_DOUBLE", type := .int, accessFlags := 25, slot := 14, constantValue := 0 }, { name := "T_BYTE", type := .int, accessFlags := 25, slot := 15, constantValue := 0 }, { name := "T_SHORT", type := .int, accessFlags := 25, slot := 16, constantValue := 0 }, { name := "T_INT", type := .int, accessFlags := 25, slot := 17, constantValue := 0 }, { name := "T_LONG", type := .int, accessFlags := 25, slot := 18, constantValue := 0 }, { name := "JLA", type := (.object "jdk/internal/access/JavaLangAccess"), accessFlags := 26, slot := 19, constantValue := 0 }, { name := "SOFT_MAX_ARRAY_LENGTH", type := .int, accessFlags := 25, slot := 20, constantValue := 0 }]
  methods := #[k12m0]
  instanceTypes := #[]
  staticTypes := #[(.object "jdk/internal/misc/Unsafe"), .boolean, .int, .int, .int, .int, .int, .int, .int, .int, .int, .int, .int, .int, .int, .int, .int, .int, .int, (.object "jdk/internal/access/JavaLangAccess"), .int]
  resolved := Array.replicate 378 none
  statics := none }

def pool13 : Array CpInfo := pool [(1, u "java/lang/Cloneable"), (0, .class_ 1), (0, u "java/lang/Object"), (0, .class_ 3)] 3

/-- java/lang/Cloneable -/
def k13 : Class := { plain "java/lang/Cloneable" (some 0) with
  accessFlags := 1537
  interfaces := #[]
  cf := some (fileOf pool13 2 #[] #[] 1537 4 #[] #[])
  fields := #[]
  methods := #[]
  instanceTypes := #[]
  staticTypes := #[]
  resolved := Array.replicate 8 none
  statics := none }

/-- the primitive byte -/
def k14 : Class := { plain "byte" none with kind := .primitive 'B', accessFlags := 0x411 }
/-- [B -/
def k15 : Class := { plain "[B" (some 0) with kind := .array 14 .byte, interfaces := #[13, 2], accessFlags := 1041 }

/-- the primitive char -/
def k16 : Class := { plain "char" none with kind := .primitive 'C', accessFlags := 0x411 }
/-- [C -/
def k17 : Class := { plain "[C" (some 0) with kind := .array 16 .char, interfaces := #[13, 2], accessFlags := 1041 }

/-- the primitive int -/
def k18 : Class := { plain "int" none with kind := .primitive 'I', accessFlags := 0x411 }
/-- [I -/
def k19 : Class := { plain "[I" (some 0) with kind := .array 18 .int, interfaces := #[13, 2], accessFlags := 1041 }

def heap : Heap := #[{ cls := 7, slots := #[.long 0, .int 1, .null, .int 0, .null, .int 0, .int 0], vm := .statics 7 },
  { cls := 11, slots := #[.null, .null, .null], vm := .statics 11 }]
def classes : Array Class := #[k0, k1, k2, k3, k4, k5, k6, k7, k8, k9, k10, k11, k12, k13, k14, k15, k16, k17, k18, k19]
def interned : List (Array UInt16 × Addr) := []
def slotsUsed : Nat := 10
def theMethod : MethodId := ⟨1, 2⟩
def args0 : Array Value := #[.int 5, .int 7]
def aboutOver (below : List Frame) : State where
  vm := { classes := classes, interned := interned.toArray }
  heap := heap
  slotsUsed := slotsUsed
  threads := #[{ frames := .invoking theMethod args0 :: below }]
def below0 : List Frame := [.native { method := ⟨0, 0⟩, args := #[] }]
def about1 : State := aboutOver below0
def p0 : Program := .bare "" "" ""
def e0 : Env := launch0.env 0 0 0
theorem w_frames : about1.frames = Frame.invoking theMethod args0 :: below0 := rfl
set_option maxRecDepth 65536 in
theorem w_args : argsFit about1.vm theMethod args0 = true := by decide +kernel
set_option maxRecDepth 65536 in
theorem w_heap : heapFits about1 = true := by decide +kernel
set_option maxRecDepth 65536 in
theorem w_runnable : about1.curStatus? = some .runnable := by decide +kernel
set_option maxRecDepth 65536 in
theorem w_alone : about1.alone = true := by decide +kernel
set_option maxRecDepth 65536 in
theorem w_named : about1.methodNamed? x = some theMethod := by decide +kernel
set_option maxRecDepth 65536 in
theorem w_hears : about1.hears theMethod below0 = true := by decide +kernel
set_option maxRecDepth 65536 in
theorem w_ripe : about1.ripe theMethod args0 below0 = true := by decide +kernel
theorem w_running : about1.status = .running := rfl
set_option maxRecDepth 65536 in
theorem w_room : about1.hasRoom e0.platform room_1 = true :=
  launch0.hasRoom_least _ room_1 (by decide +kernel) (by decide +kernel) (by decide +kernel) (by decide +kernel) (by decide +kernel) (by decide +kernel)
theorem allAtoms_all (ts : List Jvm.Cond) (a : Array Jvm.Value) (st : Jvm.State) : (allAtoms ts).before a st = ts.all (fun c => c.before a st) := by
  induction ts with
  | nil => rfl
  | cons c t ih =>
    show (Jvm.Cond.and c (allAtoms t)).before a st = _
    rw [Jvm.Cond.before_and, ih, List.all_cons]
def words1 : List Jvm.Cond := Jvm.Cond.code x code maxLocals ret :: tables_1
/-- a 'code' word, met by the world's own term for the bytes: nothing is compared byte by byte -/
theorem code_word {y : MethodName} {bytes : ByteArray} {mx : Nat} {rt : Option FieldType} {a : Array Value} {s : State} {m : MethodId} {meth : Method} {c : Code} (h1 : s.methodNamed? y = some m) (h2 : s.vm.method? m = some meth) (h3 : meth.code = some c) (h4 : c.code = bytes)
    (h5 : (c.maxLocals == mx && c.exceptionTable.isEmpty && decide (c.maxStack ≤ mostOperands) && decide (meth.sig.returnType = rt) && !meth.locks && decide (parseMethodDescriptor y.desc = some meth.sig)) = true) : (Jvm.Cond.code y bytes mx rt).before a s = true := by
  simp only [Bool.and_eq_true, beq_iff_eq, Bool.not_eq_true', decide_eq_true_eq] at h5
  obtain ⟨⟨⟨⟨⟨g1, g2⟩, g3⟩, g4⟩, g5⟩, g6⟩ := h5
  simp [Cond.before, Cond.holds, Cond.value, h1, h2, h3, h4, g1, g2, g3, g4, g5, g6]
def isCode : Jvm.Cond → Bool
  | .code _ _ _ _ => true
  | _ => false
theorem all_split {L : List Jvm.Cond} {P : Jvm.Cond → Bool} (h1 : L.all (fun c => isCode c || P c) = true) (h2 : ∀ c ∈ L.filter isCode, P c = true) : L.all P = true := by
  refine List.all_eq_true.mpr fun c hc => ?_
  have h := List.all_eq_true.mp h1 c hc
  rcases Bool.eq_false_or_eq_true (isCode c) with hi | hi
  · exact h2 c (List.mem_filter.mpr ⟨hc, hi⟩)
  · simpa [hi] using h
set_option maxRecDepth 65536 in
theorem w_c0 : (Jvm.Cond.code x code maxLocals ret).before args0 about1 = true := code_word (m := ⟨1, 2⟩) (meth := k1m2) (c := k1c2) (by decide +kernel) rfl rfl rfl (by decide +kernel)
set_option maxRecDepth 65536 in
theorem w_c1 : (Jvm.Cond.code ({ cls := "com/example/lastro/lastro/core/CheckDigitsOfPinLaw", name := "digit", desc := "(II)I" } : Jvm.MethodName) method_2_code (2 : Nat) (Option.some Jvm.ClassFile.FieldType.int)).before args0 about1 = true := code_word (m := ⟨1, 1⟩) (meth := k1m1) (c := k1c1) (by decide +kernel) rfl rfl rfl (by decide +kernel)
set_option maxRecDepth 65536 in
theorem w_c2 : (Jvm.Cond.code ({ cls := "java/lang/String", name := "<init>", desc := "([C)V" } : Jvm.MethodName) jdk_42_method_3_code (2 : Nat) (Option.none : Option Jvm.ClassFile.FieldType)).before args0 about1 = true := code_word (m := ⟨7, 1⟩) (meth := k7m1) (c := k7c1) (by decide +kernel) rfl rfl rfl (by decide +kernel)
set_option maxRecDepth 65536 in
theorem w_c3 : (Jvm.Cond.code ({ cls := "java/lang/String", name := "<init>", desc := "([CIILjava/lang/Void;)V" } : Jvm.MethodName) jdk_42_method_149_code (6 : Nat) (Option.none : Option Jvm.ClassFile.FieldType)).before args0 about1 = true := code_word (m := ⟨7, 3⟩) (meth := k7m3) (c := k7c3) (by decide +kernel) rfl rfl rfl (by decide +kernel)
set_option maxRecDepth 65536 in
theorem w_c4 : (Jvm.Cond.code ({ cls := "java/lang/Object", name := "<init>", desc := "()V" } : Jvm.MethodName) object_method_1_code (1 : Nat) (Option.none : Option Jvm.ClassFile.FieldType)).before args0 about1 = true := code_word (m := ⟨0, 0⟩) (meth := k0m0) (c := k0c0) (by decide +kernel) rfl rfl rfl (by decide +kernel)
set_option maxRecDepth 65536 in
theorem w_c5 : (Jvm.Cond.code ({ cls := "java/lang/StringUTF16", name := "compress", desc := "([CII)[B" } : Jvm.MethodName) jdk_52_method_16_code (6 : Nat) (Option.some (Jvm.ClassFile.FieldType.array Jvm.ClassFile.FieldType.byte))).before args0 about1 = true := code_word (m := ⟨8, 2⟩) (meth := k8m2) (c := k8c2) (by decide +kernel) rfl rfl rfl (by decide +kernel)
set_option maxRecDepth 65536 in
theorem w_c6 : (Jvm.Cond.code ({ cls := "java/lang/StringUTF16", name := "compress", desc := "([CI[BII)I" } : Jvm.MethodName) jdk_52_method_21_code (7 : Nat) (Option.some Jvm.ClassFile.FieldType.int)).before args0 about1 = true := code_word (m := ⟨8, 3⟩) (meth := k8m3) (c := k8c3) (by decide +kernel) rfl rfl rfl (by decide +kernel)
set_option maxRecDepth 65536 in
theorem w_c7 : (Jvm.Cond.code ({ cls := "java/lang/StringUTF16", name := "coderFromArrayLen", desc := "([BI)B" } : Jvm.MethodName) jdk_52_method_15_code (2 : Nat) (Option.some Jvm.ClassFile.FieldType.byte)).before args0 about1 = true := code_word (m := ⟨8, 1⟩) (meth := k8m1) (c := k8c1) (by decide +kernel) rfl rfl rfl (by decide +kernel)
set_option maxRecDepth 65536 in
theorem w_c8 : (Jvm.Cond.code ({ cls := "com/example/lastro/lastro/core/CheckDigits", name := "of", desc := "(Ljava/lang/String;[I)C" } : Jvm.MethodName) prog_3_method_2_code (4 : Nat) (Option.some Jvm.ClassFile.FieldType.char)).before args0 about1 = true := code_word (m := ⟨9, 1⟩) (meth := k9m1) (c := k9c1) (by decide +kernel) rfl rfl rfl (by decide +kernel)
set_option maxRecDepth 65536 in
theorem w_c9 : (Jvm.Cond.code ({ cls := "java/lang/String", name := "charAt", desc := "(I)C" } : Jvm.MethodName) jdk_42_method_56_code (2 : Nat) (Option.some Jvm.ClassFile.FieldType.char)).before args0 about1 = true := code_word (m := ⟨7, 2⟩) (meth := k7m2) (c := k7c2) (by decide +kernel) rfl rfl rfl (by decide +kernel)
set_option maxRecDepth 65536 in
theorem w_c10 : (Jvm.Cond.code ({ cls := "java/lang/String", name := "isLatin1", desc := "()Z" } : Jvm.MethodName) jdk_42_method_154_code (1 : Nat) (Option.some Jvm.ClassFile.FieldType.boolean)).before args0 about1 = true := code_word (m := ⟨7, 4⟩) (meth := k7m4) (c := k7c4) (by decide +kernel) rfl rfl rfl (by decide +kernel)
set_option maxRecDepth 65536 in
theorem w_c11 : (Jvm.Cond.code ({ cls := "java/lang/StringLatin1", name := "charAt", desc := "([BI)C" } : Jvm.MethodName) jdk_43_method_2_code (2 : Nat) (Option.some Jvm.ClassFile.FieldType.char)).before args0 about1 = true := code_word (m := ⟨10, 1⟩) (meth := k10m1) (c := k10c1) (by decide +kernel) rfl rfl rfl (by decide +kernel)
set_option maxRecDepth 65536 in
theorem w_c12 : (Jvm.Cond.code ({ cls := "java/lang/String", name := "checkIndex", desc := "(II)V" } : Jvm.MethodName) jdk_42_method_155_code (2 : Nat) (Option.none : Option Jvm.ClassFile.FieldType)).before args0 about1 = true := code_word (m := ⟨7, 5⟩) (meth := k7m5) (c := k7c5) (by decide +kernel) rfl rfl rfl (by decide +kernel)
set_option maxRecDepth 65536 in
theorem w_c13 : (Jvm.Cond.code ({ cls := "jdk/internal/util/Preconditions", name := "checkIndex", desc := "(IILjava/util/function/BiFunction;)I" } : Jvm.MethodName) jdk_41_method_11_code (3 : Nat) (Option.some Jvm.ClassFile.FieldType.int)).before args0 about1 = true := code_word (m := ⟨11, 1⟩) (meth := k11m1) (c := k11c1) (by decide +kernel) rfl rfl rfl (by decide +kernel)
def codes1 : List Jvm.Cond := [Jvm.Cond.code x code maxLocals ret, Jvm.Cond.code ({ cls := "com/example/lastro/lastro/core/CheckDigitsOfPinLaw", name := "digit", desc := "(II)I" } : Jvm.MethodName) method_2_code (2 : Nat) (Option.some Jvm.ClassFile.FieldType.int), Jvm.Cond.code ({ cls := "java/lang/String", name := "<init>", desc := "([C)V" } : Jvm.MethodName) jdk_42_method_3_code (2 : Nat) (Option.none : Option Jvm.ClassFile.FieldType), Jvm.Cond.code ({ cls := "java/lang/String", name := "<init>", desc := "([CIILjava/lang/Void;)V" } : Jvm.MethodName) jdk_42_method_149_code (6 : Nat) (Option.none : Option Jvm.ClassFile.FieldType), Jvm.Cond.code ({ cls := "java/lang/Object", name := "<init>", desc := "()V" } : Jvm.MethodName) object_method_1_code (1 : Nat) (Option.none : Option Jvm.ClassFile.FieldType), Jvm.Cond.code ({ cls := "java/lang/StringUTF16", name := "compress", desc := "([CII)[B" } : Jvm.MethodName) jdk_52_method_16_code (6 : Nat) (Option.some (Jvm.ClassFile.FieldType.array Jvm.ClassFile.FieldType.byte)), Jvm.Cond.code ({ cls := "java/lang/StringUTF16", name := "compress", desc := "([CI[BII)I" } : Jvm.MethodName) jdk_52_method_21_code (7 : Nat) (Option.some Jvm.ClassFile.FieldType.int), Jvm.Cond.code ({ cls := "java/lang/StringUTF16", name := "coderFromArrayLen", desc := "([BI)B" } : Jvm.MethodName) jdk_52_method_15_code (2 : Nat) (Option.some Jvm.ClassFile.FieldType.byte), Jvm.Cond.code ({ cls := "com/example/lastro/lastro/core/CheckDigits", name := "of", desc := "(Ljava/lang/String;[I)C" } : Jvm.MethodName) prog_3_method_2_code (4 : Nat) (Option.some Jvm.ClassFile.FieldType.char), Jvm.Cond.code ({ cls := "java/lang/String", name := "charAt", desc := "(I)C" } : Jvm.MethodName) jdk_42_method_56_code (2 : Nat) (Option.some Jvm.ClassFile.FieldType.char), Jvm.Cond.code ({ cls := "java/lang/String", name := "isLatin1", desc := "()Z" } : Jvm.MethodName) jdk_42_method_154_code (1 : Nat) (Option.some Jvm.ClassFile.FieldType.boolean), Jvm.Cond.code ({ cls := "java/lang/StringLatin1", name := "charAt", desc := "([BI)C" } : Jvm.MethodName) jdk_43_method_2_code (2 : Nat) (Option.some Jvm.ClassFile.FieldType.char), Jvm.Cond.code ({ cls := "java/lang/String", name := "checkIndex", desc := "(II)V" } : Jvm.MethodName) jdk_42_method_155_code (2 : Nat) (Option.none : Option Jvm.ClassFile.FieldType), Jvm.Cond.code ({ cls := "jdk/internal/util/Preconditions", name := "checkIndex", desc := "(IILjava/util/function/BiFunction;)I" } : Jvm.MethodName) jdk_41_method_11_code (3 : Nat) (Option.some Jvm.ClassFile.FieldType.int)]
set_option maxRecDepth 65536 in
theorem codes_eq : words1.filter isCode = codes1 := rfl
theorem w_codes : ∀ c ∈ words1.filter isCode, c.before args0 about1 = true := by
  rw [codes_eq]
  intro c hc
  simp only [codes1, List.mem_cons, List.not_mem_nil, or_false] at hc
  rcases hc with rfl | rfl | rfl | rfl | rfl | rfl | rfl | rfl | rfl | rfl | rfl | rfl | rfl | rfl
  · exact w_c0
  · exact w_c1
  · exact w_c2
  · exact w_c3
  · exact w_c4
  · exact w_c5
  · exact w_c6
  · exact w_c7
  · exact w_c8
  · exact w_c9
  · exact w_c10
  · exact w_c11
  · exact w_c12
  · exact w_c13
set_option maxRecDepth 65536 in
theorem w_t1 : (words1.take 24).all (fun c => isCode c || c.before args0 about1) = true := by decide +kernel
set_option maxRecDepth 65536 in
theorem w_t2 : ((words1.drop 24).take 24).all (fun c => isCode c || c.before args0 about1) = true := by decide +kernel
set_option maxRecDepth 65536 in
theorem w_t3 : ((words1.drop 24).drop 24).all (fun c => isCode c || c.before args0 about1) = true := by decide +kernel
theorem w_tables : (allAtoms (Jvm.Cond.code x code maxLocals ret :: tables_1)).before args0 about1 = true := by
  rw [allAtoms_all]
  show words1.all (fun c => c.before args0 about1) = true
  refine all_split ?_ w_codes
  rw [← List.take_append_drop 24 words1, List.all_append, w_t1, ← List.take_append_drop 24 (words1.drop 24), List.all_append, w_t2, w_t3]
  rfl
set_option maxRecDepth 65536 in
theorem w_rest : rest_1_c.before args0 about1 = true := by decide +kernel
set_option maxRecDepth 65536 in
theorem w_case : (Jvm.Cond.and given_1 narrow_1).before args0 about1 = true := by decide +kernel
theorem w_applies : (headSpec (Jvm.Cond.code x code maxLocals ret :: tables_1) room_1).applies x e0.platform about1 = true :=
  (Spec.applies_iff w_frames).mpr ⟨w_running, w_runnable, w_alone, w_named, w_hears, w_ripe, w_room, w_tables⟩
theorem atStart : AtStart classFile x code maxLocals ret World_1 tables_1 room_1 Calls_1 rest_1 Pre_1 launch0 p0 e0 about1 theMethod args0 below0 :=
  ⟨lists_1, trivial, launch0.admits_env _ _ _, launch0.least_env, fairChoices_fair.cas, fairChoices_fair.clock, w_frames, w_args, w_heap, w_applies, trivial, w_rest, w_case⟩
end start1
theorem witness_1 : WitnessClaimed_1 := ⟨start1.p0, start1.e0, start1.about1, start1.theMethod, start1.args0, start1.below0, start1.atStart⟩
end Jvm.Pilot.@@N@@
