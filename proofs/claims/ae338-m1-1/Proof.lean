import JvmDerived
import JvmDerived.Pilot.@@N@@Statement
import JvmDerived.Pilot.@@N@@Code
set_option linter.unusedVariables false
set_option linter.unusedSimpArgs false
/- laws to paste: Road.backV, Road.lenW, Road.chN, Road.empW, Road.codOf (cut by pick.py; bodies as the Statement names them) -/
namespace Jvm.Pilot.@@N@@
namespace StrChars
open Jvm Sem ClassFile Op Lib Jvm.Stand Jvm.Free.XT Jvm.Free.ALB Jvm.Free.JM Jvm.Free
open Jvm.Lib.Cold (StaticIs)
/-- a char array whose places are chars -/
def Ch (a : Addr) (A : Cell) (U : State) : Prop := Arr .char a A U ∧ Typed .char A
theorem Ch.mv {a : Addr} {A : Cell} {U U' : State} (h : Ch a A U) (hal : U.vm.Alike U'.vm) (hh : U'.heap = U.heap) : Ch a A U' := ⟨h.1.mv hal hh, h.2⟩
theorem Ch.keep {a : Addr} {A : Cell} {U U' : State} (h : Ch a A U) (hal : U.vm.Alike U'.vm) (hk : U'.heap[a]? = some A) : Ch a A U' := ⟨h.1.keep hal hk, h.2⟩
/-- what place i of a char[]'s cell holds -/
def cv (A : Cell) (i : Nat) : Int32 := match A.slots[i]? with | some (.int x) => x | _ => 0
theorem Ch.get {a : Addr} {A : Cell} {U : State} (h : Ch a A U) {i : Nat} (hi : i < A.slots.size) : A.slots[i]? = some (.int (cv A i)) := by
  have e := Array.getElem?_eq_getElem hi
  have f := h.2 i _ e
  unfold cv; rw [e]
  generalize A.slots[i] = v at f
  cases v <;> simp [fits] at f ⊢
/-- the byte that i2b leaves of a char -/
def lo8 (x : Int32) : Int32 := x.toInt8.toInt32
theorem fits_lo8 (y : Int32) : fits .byte (.int (lo8 y)) = true := by
  have h1 := y.toInt8.le_toInt
  have h2 := y.toInt8.toInt_lt
  simp only [lo8, fits, Bool.and_eq_true, decide_eq_true_eq, Int32.le_iff_toInt_le, Int8.toInt_toInt32, show (-128 : Int32).toInt = -128 from by decide, show (127 : Int32).toInt = 127 from by decide]
  omega
/-- A' is A but that each place j of lo .. hi - 1 holds f j -/
def Laid (A A' : Cell) (lo hi : Nat) (f : Nat → Value) : Prop := A'.cls = A.cls ∧ A'.vm = A.vm ∧ A'.slots.size = A.slots.size ∧ ∀ i, A'.slots[i]? = if lo ≤ i ∧ i < hi then some (f i) else A.slots[i]?
theorem Laid.zero (A : Cell) (lo : Nat) (f : Nat → Value) : Laid A A lo (lo + 0) f := ⟨rfl, rfl, rfl, fun i => by rw [if_neg (by omega)]⟩
theorem Laid.step {A Ak : Cell} {lo k : Nat} {f : Nat → Value} {v : Value} (h : Laid A Ak lo k f) (hlo : lo ≤ k) (hk : k < Ak.slots.size) (hv : v = f k) : Laid A (Ak.setSlot k v) lo (k + 1) f := by
  refine ⟨h.1, h.2.1, by simpa [Cell.setSlot] using h.2.2.1, fun i => ?_⟩
  by_cases e : k = i
  · subst e; rw [Cell.slots_setSlot_self v hk, if_pos (by omega), hv]
  · rw [Cell.slots_setSlot_ne v e, h.2.2.2 i]
    by_cases q : lo ≤ i ∧ i < k
    · rw [if_pos q, if_pos (by omega)]
    · rw [if_neg q, if_neg (by omega)]
def U16 : String := "java/lang/StringUTF16"
namespace Cmp5
def yN : MethodName := ⟨"java/lang/StringUTF16", "compress", "([CI[BII)I"⟩
abbrev yB : ByteArray := jdk_52_method_21_code
theorem d0 : decode yB 0 = .ok (.iconst 0, 1) := by decide +kernel
theorem d1 : decode yB 1 = .ok (.istore 5, 2) := by decide +kernel
theorem d3 : decode yB 3 = .ok (.iload 5, 2) := by decide +kernel
theorem d5 : decode yB 5 = .ok (.iload 4, 2) := by decide +kernel
theorem d7 : decode yB 7 = .ok (.if_icmp (.ge) 37, 3) := by decide +kernel
theorem d10 : decode yB 10 = .ok (.aload_n 0, 1) := by decide +kernel
theorem d11 : decode yB 11 = .ok (.iload_n 1, 1) := by decide +kernel
theorem d12 : decode yB 12 = .ok (.caload, 1) := by decide +kernel
theorem d13 : decode yB 13 = .ok (.istore 6, 2) := by decide +kernel
theorem d15 : decode yB 15 = .ok (.iload 6, 2) := by decide +kernel
theorem d17 : decode yB 17 = .ok (.sipush 255, 3) := by decide +kernel
theorem d20 : decode yB 20 = .ok (.if_icmp (.le) 6, 3) := by decide +kernel
theorem d26 : decode yB 26 = .ok (.aload_n 2, 1) := by decide +kernel
theorem d27 : decode yB 27 = .ok (.iload_n 3, 1) := by decide +kernel
theorem d28 : decode yB 28 = .ok (.iload 6, 2) := by decide +kernel
theorem d30 : decode yB 30 = .ok (.i2b, 1) := by decide +kernel
theorem d31 : decode yB 31 = .ok (.bastore, 1) := by decide +kernel
theorem d32 : decode yB 32 = .ok (.iinc 1 1, 3) := by decide +kernel
theorem d35 : decode yB 35 = .ok (.iinc 3 1, 3) := by decide +kernel
theorem d38 : decode yB 38 = .ok (.iinc 5 1, 3) := by decide +kernel
theorem d41 : decode yB 41 = .ok (.goto (-38), 3) := by decide +kernel
theorem d44 : decode yB 44 = .ok (.iload 4, 2) := by decide +kernel
theorem d46 : decode yB 46 = .ok (.ireturn, 1) := by decide +kernel
def site : List Cond := []
def tab : Cond := tabOf yN yB 7 (some .int) site
def P (b : Addr) (A : Cell) (d : Addr) (B : Cell) (o q len : Nat) (args : Array Value) (s : State) : Prop := args = #[.ref b, .int (Int32.ofNat o), .ref d, .int (Int32.ofNat q), .int (Int32.ofNat len)] ∧ Ch b A s ∧ Arr .byte d B s ∧ b ≠ d ∧ o + len ≤ A.slots.size ∧ q + len ≤ B.slots.size ∧ ∀ i, i < len → ¬ 255 < cv A (o + i)
def E (b : Addr) (A : Cell) (d : Addr) (B : Cell) (o q len : Nat) (r : Option Value) (s u : State) : Prop := r = some (.int (Int32.ofNat len)) ∧ ∃ B', Put d B' s u ∧ Laid B B' q (q + len) (fun j => Value.int (lo8 (cv A (o + (j - q)))))
/-- no char of the range above 255: len; the places written hold each char's low byte -/
theorem law (l : Launch) (b : Addr) (A : Cell) (d : Addr) (B : Cell) (o q len : Nat) : Law l yN 5 5 0 0 yB 7 (some .int) site (P b A d B o q len) (E b A d B o q len) (copyLocs d q len) 0 0 := by
  refine Law.of_walk (plainFor_of_name (by decide +kernel)) (by decide +kernel) (by decide +kernel) (by decide) (fun _ _ h => by rw [h.1]; rfl) (fun _ U U' hal hh h => ⟨h.1, h.2.1.mv hal hh, h.2.2.1.mv hal hh, h.2.2.2⟩) (fun r U U' V V' h1 hal h2 h => ⟨h.1, h.2.elim fun B' q => ⟨B', q.1.mv h1 h2, q.2⟩⟩) ?_
  intro p e s m args below meth c s₁ X0 hexec hbytes hml hret hlk hnm hown hh0 W hP
  obtain ⟨rfl, hA, hB, hne, l1, l2, hp⟩ := hP
  have c1 : Steps p.tables e below (s₁.setTop (entryFrame m #[.ref b, .int (Int32.ofNat o), .ref d, .int (Int32.ofNat q), .int (Int32.ofNat len)] 7)) (s₁.setTop (mkF m 0 #[.val (.ref b), .val (.int (Int32.ofNat o)), .val (.ref d), .val (.int (Int32.ofNat q)), .val (.int (Int32.ofNat len)), .unset, .unset] [])) := entry rfl
  have hA0 := hA.1.mv X0.warmed.alike hh0
  have hB0 := hB.mv X0.warmed.alike hh0
  have a31 := hA.1.2.2.2
  have c2 : Steps p.tables e below (s₁.setTop (entryFrame m #[.ref b, .int (Int32.ofNat o), .ref d, .int (Int32.ofNat q), .int (Int32.ofNat len)] 7)) (s₁.setTop (mkF m 3 #[.val (.ref b), .val (.int (Int32.ofNat o)), .val (.ref d), .val (.int (Int32.ofNat q)), .val (.int (Int32.ofNat len)), .val (.int 0), .unset] [])) := c1.trans (by
    refine iconstV X0.here hexec rfl 0 (hb hbytes d0) (by decide) ?_
    refine XS.istore X0.here hexec rfl (hb hbytes d1) rfl rfl ?_
    exact Steps.refl _)
  have loop : ∀ (r i : Nat), i + r = len → ∀ (z : Slot), (z = .unset ∨ ∃ w, z = .val w ∧ w.category = 1) → ∀ (Tl : State) (Bk : Cell), Stand p l e { frames := 0, locals := 0, cells := 0, slots := 0 } s m #[.ref b, .int (Int32.ofNat o), .ref d, .int (Int32.ofNat q), .int (Int32.ofNat len)] below meth c Tl ([] ++ copyLocs d q i) 0 0 → Put d Bk s₁ Tl → Laid B Bk q (q + i) (fun j => Value.int (lo8 (cv A (o + (j - q))))) →
      Steps p.tables e below (s₁.setTop (entryFrame m #[.ref b, .int (Int32.ofNat o), .ref d, .int (Int32.ofNat q), .int (Int32.ofNat len)] 7)) (Tl.setTop (mkF m 3 #[.val (.ref b), .val (.int (Int32.ofNat (o + i))), .val (.ref d), .val (.int (Int32.ofNat (q + i))), .val (.int (Int32.ofNat len)), .val (.int (Int32.ofNat i)), z] [])) → ∃ (T' : State) (B' : Cell) (z' : Slot), Stand p l e { frames := 0, locals := 0, cells := 0, slots := 0 } s m #[.ref b, .int (Int32.ofNat o), .ref d, .int (Int32.ofNat q), .int (Int32.ofNat len)] below meth c T' ([] ++ copyLocs d q len) 0 0 ∧ Put d B' s₁ T' ∧ Laid B B' q (q + len) (fun j => Value.int (lo8 (cv A (o + (j - q))))) ∧
      Steps p.tables e below (s₁.setTop (entryFrame m #[.ref b, .int (Int32.ofNat o), .ref d, .int (Int32.ofNat q), .int (Int32.ofNat len)] 7)) (T'.setTop (mkF m 3 #[.val (.ref b), .val (.int (Int32.ofNat (o + len))), .val (.ref d), .val (.int (Int32.ofNat (q + len))), .val (.int (Int32.ofNat len)), .val (.int (Int32.ofNat len)), z'] [])) := by
    intro r
    induction r with
    | zero =>
      intro i hi z hz Tl Bk Xl pl fl cl
      have hil : i = len := by omega
      rw [hil] at Xl fl cl
      exact ⟨Tl, Bk, z, Xl, pl, fl, cl⟩
    | succ r ih =>
      intro i hi z hz Tl Bk Xl pl fl cl
      have all := X0.warmed.alike.symm.trans Xl.warmed.alike
      have hAl := hA0.keep all (pl.other hne hA0.1)
      have hBk := hB0.like all pl.1 fl.1 fl.2.1 fl.2.2.1
      have hlt : q + i < Bk.slots.size := by rw [fl.2.2.1]; omega
      have c3 : Steps p.tables e below (s₁.setTop (entryFrame m #[.ref b, .int (Int32.ofNat o), .ref d, .int (Int32.ofNat q), .int (Int32.ofNat len)] 7)) (Tl.setTop (mkF m 12 #[.val (.ref b), .val (.int (Int32.ofNat (o + i))), .val (.ref d), .val (.int (Int32.ofNat (q + i))), .val (.int (Int32.ofNat len)), .val (.int (Int32.ofNat i)), z] [.int (Int32.ofNat (o + i)), .ref b])) := cl.trans (by
        refine XS.iload Xl.here hexec rfl (hb hbytes d3) rfl ?_
        refine XS.iload Xl.here hexec rfl (hb hbytes d5) rfl ?_
        refine XS.icmpNo Xl.here hexec rfl (hb hbytes d7) rfl (ii_ge_f (lt32 (by omega) (by omega))) ?_
        refine XS.aloadN Xl.here hexec rfl (hb hbytes d10) rfl rfl ?_
        refine XS.iloadN Xl.here hexec rfl (hb hbytes d11) rfl ?_
        exact Steps.refl _)
      have c4 : Steps p.tables e below (s₁.setTop (entryFrame m #[.ref b, .int (Int32.ofNat o), .ref d, .int (Int32.ofNat q), .int (Int32.ofNat len)] 7)) (Tl.setTop (mkF m 13 #[.val (.ref b), .val (.int (Int32.ofNat (o + i))), .val (.ref d), .val (.int (Int32.ofNat (q + i))), .val (.int (Int32.ofNat len)), .val (.int (Int32.ofNat i)), z] [.int (cv A (o + i))])) := c3.trans (by
        refine Xl.aget hexec hAl rfl (hA.get (i := o + i) (by omega)) rfl rfl (hb hbytes d12) ?_
        exact Steps.refl _)
      have c5 : Steps p.tables e below (s₁.setTop (entryFrame m #[.ref b, .int (Int32.ofNat o), .ref d, .int (Int32.ofNat q), .int (Int32.ofNat len)] 7)) (Tl.setTop (mkF m 15 #[.val (.ref b), .val (.int (Int32.ofNat (o + i))), .val (.ref d), .val (.int (Int32.ofNat (q + i))), .val (.int (Int32.ofNat len)), .val (.int (Int32.ofNat i)), .val (.int (cv A (o + i)))] [])) := c4.trans (by
        refine XS.istoreS Xl.here hexec rfl (hb hbytes d13) rfl rfl hz ?_
        exact Steps.refl _)
      have c6 : Steps p.tables e below (s₁.setTop (entryFrame m #[.ref b, .int (Int32.ofNat o), .ref d, .int (Int32.ofNat q), .int (Int32.ofNat len)] 7)) (Tl.setTop (mkF m 31 #[.val (.ref b), .val (.int (Int32.ofNat (o + i))), .val (.ref d), .val (.int (Int32.ofNat (q + i))), .val (.int (Int32.ofNat len)), .val (.int (Int32.ofNat i)), .val (.int (cv A (o + i)))] [.int (lo8 (cv A (o + i))), .int (Int32.ofNat (q + i)), .ref d])) := c5.trans (by
        refine XS.iload Xl.here hexec rfl (hb hbytes d15) rfl ?_
        refine sipushV Xl.here hexec rfl 255 (hb hbytes d17) (by decide) ?_
        refine XS.icmpYes Xl.here hexec rfl (pc0 := 20) rfl (hb hbytes d20) rfl (ii_le_t (hp i (by omega))) (by decide) rfl ?_
        refine XS.aloadN Xl.here hexec rfl (hb hbytes d26) rfl rfl ?_
        refine XS.iloadN Xl.here hexec rfl (hb hbytes d27) rfl ?_
        refine XS.iload Xl.here hexec rfl (hb hbytes d28) rfl ?_
        refine i2b Xl.here hexec rfl (hb hbytes d30) rfl ?_
        exact Steps.refl _)
      obtain ⟨T7, X7, p7, st7⟩ := Xl.aput hexec hBk rfl hlt rfl (fits_lo8 (cv A (o + i))) (g := (mkF m 31 #[.val (.ref b), .val (.int (Int32.ofNat (o + i))), .val (.ref d), .val (.int (Int32.ofNat (q + i))), .val (.int (Int32.ofNat len)), .val (.int (Int32.ofNat i)), .val (.int (cv A (o + i)))] [.int (lo8 (cv A (o + i))), .int (Int32.ofNat (q + i)), .ref d])) rfl (rest := []) rfl (hb hbytes d31)
      have c8 : Steps p.tables e below (s₁.setTop (entryFrame m #[.ref b, .int (Int32.ofNat o), .ref d, .int (Int32.ofNat q), .int (Int32.ofNat len)] 7)) (T7.setTop (mkF m 32 #[.val (.ref b), .val (.int (Int32.ofNat (o + i))), .val (.ref d), .val (.int (Int32.ofNat (q + i))), .val (.int (Int32.ofNat len)), .val (.int (Int32.ofNat i)), .val (.int (cv A (o + i)))] [])) := c6.trans (st7 _ (Steps.refl _))
      have c9 : Steps p.tables e below (s₁.setTop (entryFrame m #[.ref b, .int (Int32.ofNat o), .ref d, .int (Int32.ofNat q), .int (Int32.ofNat len)] 7)) (T7.setTop (mkF m 3 #[.val (.ref b), .val (.int (Int32.ofNat (o + i) + 1)), .val (.ref d), .val (.int (Int32.ofNat (q + i) + 1)), .val (.int (Int32.ofNat len)), .val (.int (Int32.ofNat i + 1)), .val (.int (cv A (o + i)))] [])) := c8.trans (by
        refine iincV X7.here hexec rfl 1 (hb hbytes d32) (by decide) rfl rfl ?_
        refine iincV X7.here hexec rfl 1 (hb hbytes d35) (by decide) rfl rfl ?_
        refine iincV X7.here hexec rfl 1 (hb hbytes d38) (by decide) rfl rfl ?_
        refine XS.goto X7.here hexec rfl (pc0 := 41) rfl (hb hbytes d41) (by decide) rfl ?_
        exact Steps.refl _)
      have c10 : Steps p.tables e below (s₁.setTop (entryFrame m #[.ref b, .int (Int32.ofNat o), .ref d, .int (Int32.ofNat q), .int (Int32.ofNat len)] 7)) (T7.setTop (mkF m 3 #[.val (.ref b), .val (.int (Int32.ofNat (o + (i + 1)))), .val (.ref d), .val (.int (Int32.ofNat (q + (i + 1)))), .val (.int (Int32.ofNat len)), .val (.int (Int32.ofNat (i + 1))), .val (.int (cv A (o + i)))] [])) := by
        have := c9
        rw [succ32, succ32, succ32] at this
        exact this
      exact ih (i + 1) (by omega) _ (Or.inr ⟨_, rfl, rfl⟩) T7 _ (by rw [copyLocs_step, ← List.append_assoc]; exact X7) (pl.trans p7) (fl.step (by omega) hlt (by simp)) c10
  obtain ⟨T9, B9, z9, X9, p9, f9, g9⟩ := loop len 0 (by omega) .unset (Or.inl rfl) s₁ B (by simpa [copyLocs] using X0) ⟨hB0.1, fun _ _ => rfl, rfl⟩ (Laid.zero _ _ _) c2
  have c11 : Steps p.tables e below (s₁.setTop (entryFrame m #[.ref b, .int (Int32.ofNat o), .ref d, .int (Int32.ofNat q), .int (Int32.ofNat len)] 7)) (T9.setTop (mkF m 46 #[.val (.ref b), .val (.int (Int32.ofNat (o + len))), .val (.ref d), .val (.int (Int32.ofNat (q + len))), .val (.int (Int32.ofNat len)), .val (.int (Int32.ofNat len)), z9] [.int (Int32.ofNat len)])) := g9.trans (by
    refine XS.iload X9.here hexec rfl (hb hbytes d3) rfl ?_
    refine XS.iload X9.here hexec rfl (hb hbytes d5) rfl ?_
    refine XS.icmpYes X9.here hexec rfl (pc0 := 7) rfl (hb hbytes d7) rfl (ii_ge_t (nlt32 (by omega) (Nat.le_refl _))) (by decide) rfl ?_
    refine XS.iload X9.here hexec rfl (hb hbytes d44) rfl ?_
    exact Steps.refl _)
  exact ⟨T9, some (.int (Int32.ofNat len)), _, _, _, X9, by simp, rfl, rfl, (fun h => by cases h), ⟨rfl, B9, p9.from hh0, f9⟩, fun fs hl => c11.trans (X9.ireturnOut hexec hret rfl (Or.inl rfl) (hb hbytes d46) hl)⟩
end Cmp5
namespace Cmp3
def yN : MethodName := ⟨"java/lang/StringUTF16", "compress", "([CII)[B"⟩
abbrev yB : ByteArray := jdk_52_method_16_code
theorem d0 : decode yB 0 = .ok (.iload_n 2, 1) := by decide +kernel
theorem d1 : decode yB 1 = .ok (.newarray .byte, 2) := by decide +kernel
theorem d3 : decode yB 3 = .ok (.astore_n 3, 1) := by decide +kernel
theorem d4 : decode yB 4 = .ok (.aload_n 0, 1) := by decide +kernel
theorem d5 : decode yB 5 = .ok (.iload_n 1, 1) := by decide +kernel
theorem d6 : decode yB 6 = .ok (.aload_n 3, 1) := by decide +kernel
theorem d7 : decode yB 7 = .ok (.iconst 0, 1) := by decide +kernel
theorem d8 : decode yB 8 = .ok (.iload_n 2, 1) := by decide +kernel
theorem d9 : decode yB 9 = .ok (.invokestatic 115, 3) := by decide +kernel
theorem d12 : decode yB 12 = .ok (.istore 4, 2) := by decide +kernel
theorem d14 : decode yB 14 = .ok (.iload 4, 2) := by decide +kernel
theorem d16 : decode yB 16 = .ok (.iload_n 2, 1) := by decide +kernel
theorem d17 : decode yB 17 = .ok (.if_icmp (.eq) 40, 3) := by decide +kernel
theorem d57 : decode yB 57 = .ok (.aload_n 3, 1) := by decide +kernel
theorem d58 : decode yB 58 = .ok (.areturn, 1) := by decide +kernel
def site : List Cond := [.arrayClass .byte, Cmp5.tab] ++ staticW U16 115 Cmp5.yN
def tab : Cond := tabOf yN yB 6 (some (.array .byte)) site
def P (b : Addr) (A : Cell) (o len : Nat) (args : Array Value) (s : State) : Prop := args = #[.ref b, .int (Int32.ofNat o), .int (Int32.ofNat len)] ∧ Ch b A s ∧ o + len ≤ A.slots.size ∧ len ≤ 536870912 ∧ ∀ i, i < len → ¬ 255 < cv A (o + i)
def E (b : Addr) (A : Cell) (o len : Nat) (r : Option Value) (s u : State) : Prop := NewArr .byte "[B" len (fun j => .int (lo8 (cv A (o + j)))) r s u ∧ u.heap.size = s.heap.size + 1
/-- no char of the range above 255: a new byte[] of their low bytes -/
theorem law (l : Launch) (b : Addr) (A : Cell) (o len : Nat) : Law l yN 3 3 1 18 yB 6 (some (.array .byte)) site (P b A o len) (E b A o len) [] 1 len := by
  refine Law.of_walk (plainFor_of_name (by decide +kernel)) (by decide +kernel) (by decide +kernel) (by decide) (fun _ _ h => by rw [h.1]; rfl) (fun _ U U' hal hh h => ⟨h.1, h.2.1.mv hal hh, h.2.2⟩) (fun r U U' V V' h1 hal h2 h => ⟨NewArr.mv r U U' V V' h1 hal h2 h.1, by rw [h1, h2]; exact h.2⟩) ?_
  intro p e s m args below meth c s₁ X0 hexec hbytes hml hret hlk hnm hown hh0 W hP
  obtain ⟨rfl, hA, l1, l2, hp⟩ := hP
  have a31 := hA.1.2.2.2
  have c1 : Steps p.tables e below (s₁.setTop (entryFrame m #[.ref b, .int (Int32.ofNat o), .int (Int32.ofNat len)] 6)) (s₁.setTop (mkF m 0 #[.val (.ref b), .val (.int (Int32.ofNat o)), .val (.int (Int32.ofNat len)), .unset, .unset, .unset] [])) := entry rfl
  have c2 : Steps p.tables e below (s₁.setTop (entryFrame m #[.ref b, .int (Int32.ofNat o), .int (Int32.ofNat len)] 6)) (s₁.setTop (mkF m 1 #[.val (.ref b), .val (.int (Int32.ofNat o)), .val (.int (Int32.ofNat len)), .unset, .unset, .unset] [.int (Int32.ofNat len)])) := c1.trans (by
    refine XS.iloadN X0.here hexec rfl (hb hbytes d0) rfl ?_
    exact Steps.refl _)
  obtain ⟨T3, B3, X3, ba3, bs3, bv3, bh3, bf3, st3⟩ := X0.anew hexec (atype := .byte) (wk W (.arrayClass .byte)) rfl (by show len * 1 ≤ _; omega) (by omega) (g := (mkF m 1 #[.val (.ref b), .val (.int (Int32.ofNat o)), .val (.int (Int32.ofNat len)), .unset, .unset, .unset] [.int (Int32.ofNat len)])) rfl (hb hbytes d1) (rest := []) rfl (Nat.le_refl _) (by show 0 + len ≤ len; omega)
  rw [hh0] at ba3 st3
  have kp3 : XT.Kept s T3 := (XT.Kept.of_eq hh0).push bh3
  have hA3 := hA.keep X3.warmed.alike (kp3 _ _ hA.1.1)
  have hne : b ≠ s.heap.size := hA.1.ne
  have c4 : Steps p.tables e below (s₁.setTop (entryFrame m #[.ref b, .int (Int32.ofNat o), .int (Int32.ofNat len)] 6)) (T3.setTop (mkF m 3 #[.val (.ref b), .val (.int (Int32.ofNat o)), .val (.int (Int32.ofNat len)), .unset, .unset, .unset] [.ref s.heap.size])) := c2.trans (st3 _ (Steps.refl _))
  have c5 : Steps p.tables e below (s₁.setTop (entryFrame m #[.ref b, .int (Int32.ofNat o), .int (Int32.ofNat len)] 6)) (T3.setTop (mkF m 9 #[.val (.ref b), .val (.int (Int32.ofNat o)), .val (.int (Int32.ofNat len)), .val (.ref s.heap.size), .unset, .unset] [.int (Int32.ofNat len), .int 0, .ref s.heap.size, .int (Int32.ofNat o), .ref b])) := c4.trans (by
    refine XS.astoreN X3.here hexec rfl (hb hbytes d3) rfl rfl rfl ?_
    refine XS.aloadN X3.here hexec rfl (hb hbytes d4) rfl rfl ?_
    refine XS.iloadN X3.here hexec rfl (hb hbytes d5) rfl ?_
    refine XS.aloadN X3.here hexec rfl (hb hbytes d6) rfl rfl ?_
    refine iconstV X3.here hexec rfl 0 (hb hbytes d7) (by decide) ?_
    refine XS.iloadN X3.here hexec rfl (hb hbytes d8) rfl ?_
    exact Steps.refl _)
  obtain ⟨v6, T6, X6, E6, g6⟩ := X3.callS hexec (Cmp5.law l b A s.heap.size B3 o 0 len) hown (wks W (staticW U16 115 Cmp5.yN)) (wk W Cmp5.tab) (W := 0) (Nat.le_of_ble_eq_true rfl) (Nat.le_of_ble_eq_true rfl) (Nat.le_refl _) (by show 0 + len + 0 ≤ len; omega) (g := (mkF m 9 #[.val (.ref b), .val (.int (Int32.ofNat o)), .val (.int (Int32.ofNat len)), .val (.ref s.heap.size), .unset, .unset] [.int (Int32.ofNat len), .int (Int32.ofNat 0), .ref s.heap.size, .int (Int32.ofNat o), .ref b])) rfl (by rw [hml]; rfl) c5 (argsL := [.ref b, .int (Int32.ofNat o), .ref s.heap.size, .int (Int32.ofNat 0), .int (Int32.ofNat len)]) (rest := []) rfl rfl (by show 2 * 0 + 0 ≤ _; decide) (hb hbytes d9) (⟨rfl, hA3, ba3, hne, l1, by rw [bs3]; simp, hp⟩)
  obtain ⟨rfl, B6, p6, f6⟩ := E6
  have c7 : Steps p.tables e below (s₁.setTop (entryFrame m #[.ref b, .int (Int32.ofNat o), .int (Int32.ofNat len)] 6)) (T6.setTop (mkF m 12 #[.val (.ref b), .val (.int (Int32.ofNat o)), .val (.int (Int32.ofNat len)), .val (.ref s.heap.size), .unset, .unset] [.int (Int32.ofNat len)])) := g6
  have c8 : Steps p.tables e below (s₁.setTop (entryFrame m #[.ref b, .int (Int32.ofNat o), .int (Int32.ofNat len)] 6)) (T6.setTop (mkF m 58 #[.val (.ref b), .val (.int (Int32.ofNat o)), .val (.int (Int32.ofNat len)), .val (.ref s.heap.size), .val (.int (Int32.ofNat len)), .unset] [.ref s.heap.size])) := c7.trans (by
    refine XS.istore X6.here hexec rfl (hb hbytes d12) rfl rfl ?_
    refine XS.iload X6.here hexec rfl (hb hbytes d14) rfl ?_
    refine XS.iloadN X6.here hexec rfl (hb hbytes d16) rfl ?_
    refine XS.icmpYes X6.here hexec rfl (pc0 := 17) rfl (hb hbytes d17) rfl (ii_eq_t rfl) (by decide) rfl ?_
    refine XS.aloadN X6.here hexec rfl (hb hbytes d57) rfl rfl ?_
    exact Steps.refl _)
  have X8 := X6.wide (L' := []) (cells' := 1) (slots' := len) (fun x hx hlt => by
    simp only [List.nil_append, copyLocs, List.mem_map, List.mem_range] at hx
    obtain ⟨i, -, rfl⟩ := hx
    exact absurd hlt (Nat.lt_irrefl _)) (Nat.le_refl _) (by omega)
  exact ⟨T6, some (.ref s.heap.size), _, _, _, X8, rfl, rfl, rfl, (fun h => by cases h), ⟨⟨rfl, B6, ba3.like (X3.warmed.alike.symm.trans X6.warmed.alike) p6.1 f6.1 f6.2.1 f6.2.2.1, f6.2.1.trans bv3, by rw [X6.warmed.alike.findClass, f6.1]; exact bf3, by rw [f6.2.2.1, bs3]; simp, fun j hj => by rw [f6.2.2.2 j, if_pos (by omega)]; rfl, kp3.put p6 (Nat.le_refl _)⟩, by rw [p6.2.2, bh3, hh0]; simp⟩, fun fs hl => c8.trans (X8.areturnOut hexec rfl hret rfl (hb hbytes d58) hl)⟩
end Cmp3
namespace CodL
def yN : MethodName := ⟨"java/lang/StringUTF16", "coderFromArrayLen", "([BI)B"⟩
abbrev yB : ByteArray := jdk_52_method_15_code
theorem d0 : decode yB 0 = .ok (.iload_n 1, 1) := by decide +kernel
theorem d1 : decode yB 1 = .ok (.aload_n 0, 1) := by decide +kernel
theorem d2 : decode yB 2 = .ok (.arraylength, 1) := by decide +kernel
theorem d3 : decode yB 3 = .ok (.isub, 1) := by decide +kernel
theorem d4 : decode yB 4 = .ok (.bipush 31, 2) := by decide +kernel
theorem d6 : decode yB 6 = .ok (.iushr, 1) := by decide +kernel
theorem d7 : decode yB 7 = .ok (.i2b, 1) := by decide +kernel
theorem d8 : decode yB 8 = .ok (.ireturn, 1) := by decide +kernel
def site : List Cond := []
def tab : Cond := tabOf yN yB 2 (some .byte) site
def P (d : Addr) (B : Cell) (args : Array Value) (s : State) : Prop := args = #[.ref d, .int (Int32.ofNat B.slots.size)] ∧ Arr .byte d B s
def E (r : Option Value) (s u : State) : Prop := XT.PureE (some (.int 0)) r s u
/-- an array as long as the number of chars: LATIN1 -/
theorem law (l : Launch) (d : Addr) (B : Cell) : Law l yN 2 2 0 0 yB 2 (some .byte) site (P d B) E [] 0 0 := by
  refine Law.of_walk (plainFor_of_name (by decide +kernel)) (by decide +kernel) (by decide +kernel) (by decide) (fun _ _ h => by rw [h.1]; rfl) (fun _ U U' hal hh h => ⟨h.1, h.2.mv hal hh⟩) (fun r U U' V V' h1 hal h2 h => XT.PureE.mv r U U' V V' h1 hal h2 h) ?_
  intro p e s m args below meth c s₁ X0 hexec hbytes hml hret hlk hnm hown hh0 W hP
  obtain ⟨rfl, hB⟩ := hP
  have hB0 := hB.mv X0.warmed.alike hh0
  have c1 : Steps p.tables e below (s₁.setTop (entryFrame m #[.ref d, .int (Int32.ofNat B.slots.size)] 2)) (s₁.setTop (mkF m 0 #[.val (.ref d), .val (.int (Int32.ofNat B.slots.size))] [])) := entry rfl
  have c2 : Steps p.tables e below (s₁.setTop (entryFrame m #[.ref d, .int (Int32.ofNat B.slots.size)] 2)) (s₁.setTop (mkF m 2 #[.val (.ref d), .val (.int (Int32.ofNat B.slots.size))] [.ref d, .int (Int32.ofNat B.slots.size)])) := c1.trans (by
    refine XS.iloadN X0.here hexec rfl (hb hbytes d0) rfl ?_
    refine XS.aloadN X0.here hexec rfl (hb hbytes d1) rfl rfl ?_
    exact Steps.refl _)
  have c3 : Steps p.tables e below (s₁.setTop (entryFrame m #[.ref d, .int (Int32.ofNat B.slots.size)] 2)) (s₁.setTop (mkF m 8 #[.val (.ref d), .val (.int (Int32.ofNat B.slots.size))] [.int (lo8 (ushr (Int32.ofNat B.slots.size - Int32.ofNat B.slots.size) 31))])) := c2.trans (by
    refine X0.alen hexec hB0 rfl rfl (hb hbytes d2) ?_
    refine XS.isub X0.here hexec rfl (hb hbytes d3) rfl ?_
    refine bipushV X0.here hexec rfl 31 (hb hbytes d4) (by decide) ?_
    refine iushr X0.here hexec rfl (hb hbytes d6) rfl ?_
    refine i2b X0.here hexec rfl (hb hbytes d7) rfl ?_
    exact Steps.refl _)
  have e0 : lo8 (ushr (Int32.ofNat B.slots.size - Int32.ofNat B.slots.size) 31) = 0 := by rw [Int32.sub_self]; decide
  rw [e0] at c3
  exact ⟨s₁, some (.int 0), _, _, _, X0, rfl, rfl, rfl, (fun h => by cases h), ⟨rfl, hh0⟩, fun fs hl => c3.trans (X0.ireturnOut hexec hret rfl (Or.inr (Or.inr (Or.inl rfl))) (hb hbytes d8) hl)⟩
end CodL
/-- the String at a is Latin-1 over a new byte[] (the heap's one new cell): the low bytes of the len chars of A from o on; every cell but a is kept -/
def Got (a : Addr) (D : Cell) (fV fC : Field) (A : Cell) (o len : Nat) (r : Option Value) (s u : State) : Prop := r = none ∧ ∃ D' V : Cell, Blank "java/lang/String" a D' u ∧ Same D D' [fV.slot, fC.slot] ∧ D'.slots[fV.slot]? = some (.ref s.heap.size) ∧ D'.slots[fC.slot]? = some (.int 0) ∧ Arr .byte s.heap.size V u ∧ V.vm = .none ∧ u.vm.findClass "[B" = some V.cls ∧ V.slots.size = len ∧ (∀ j, j < len → V.slots[j]? = some (.int (lo8 (cv A (o + j))))) ∧ (∀ (y : Addr) (c : Cell), y ≠ a → s.heap[y]? = some c → u.heap[y]? = some c) ∧ u.heap.size = s.heap.size + 1
theorem Got.mv {a : Addr} {D A : Cell} {fV fC : Field} {o len : Nat} : ∀ r (U U' V V' : State), U'.heap = U.heap → V.vm.Alike V'.vm → V'.heap = V.heap → Got a D fV fC A o len r U V → Got a D fV fC A o len r U' V' :=
  fun r U U' V V' h1 hal h2 ⟨e0, D', X, a1, a2, a3, a4, a5, a6, a7, a8, a9, a10, a11⟩ => ⟨e0, D', X, a1.mv hal h2, a2, by rw [h1]; exact a3, a4, by rw [h1]; exact a5.mv hal h2, a6, by rw [hal.findClass]; exact a7, a8, a9, by rw [h1, h2]; exact a10, by rw [h1, h2]; exact a11⟩
namespace New4
def yN : MethodName := ⟨"java/lang/String", "<init>", "([CIILjava/lang/Void;)V"⟩
abbrev yB : ByteArray := jdk_42_method_149_code
theorem d0 : decode yB 0 = .ok (.aload_n 0, 1) := by decide +kernel
theorem d1 : decode yB 1 = .ok (.invokespecial 1, 3) := by decide +kernel
theorem d4 : decode yB 4 = .ok (.iload_n 3, 1) := by decide +kernel
theorem d5 : decode yB 5 = .ok (.ifCond (.ne) 22, 3) := by decide +kernel
theorem d27 : decode yB 27 = .ok (.getstatic 38, 3) := by decide +kernel
theorem d30 : decode yB 30 = .ok (.ifCond (.eq) 28, 3) := by decide +kernel
theorem d33 : decode yB 33 = .ok (.aload_n 1, 1) := by decide +kernel
theorem d34 : decode yB 34 = .ok (.iload_n 2, 1) := by decide +kernel
theorem d35 : decode yB 35 = .ok (.iload_n 3, 1) := by decide +kernel
theorem d36 : decode yB 36 = .ok (.invokestatic 177, 3) := by decide +kernel
theorem d39 : decode yB 39 = .ok (.astore 5, 2) := by decide +kernel
theorem d41 : decode yB 41 = .ok (.aload_n 0, 1) := by decide +kernel
theorem d42 : decode yB 42 = .ok (.aload 5, 2) := by decide +kernel
theorem d44 : decode yB 44 = .ok (.iload_n 3, 1) := by decide +kernel
theorem d45 : decode yB 45 = .ok (.invokestatic 47, 3) := by decide +kernel
theorem d48 : decode yB 48 = .ok (.putfield 15, 3) := by decide +kernel
theorem d51 : decode yB 51 = .ok (.aload_n 0, 1) := by decide +kernel
theorem d52 : decode yB 52 = .ok (.aload 5, 2) := by decide +kernel
theorem d54 : decode yB 54 = .ok (.putfield 9, 3) := by decide +kernel
theorem d57 : decode yB 57 = .ok (.return_, 1) := by decide +kernel
def site : List Cond := [.fieldLink "java/lang/String" 38 "java/lang/String" "COMPACT_STRINGS" "Z", Cmp3.tab, CodL.tab, .laysFinal "java/lang/String" "java/lang/String" "value" "[B", .fieldLink "java/lang/String" 9 "java/lang/String" "value" "[B", .laysFinal "java/lang/String" "java/lang/String" "coder" "B", .fieldLink "java/lang/String" 15 "java/lang/String" "coder" "B"] ++ objW "java/lang/String" 1 ++ staticW "java/lang/String" 177 Cmp3.yN ++ staticW "java/lang/String" 47 CodL.yN
def tab : Cond := tabOf yN yB 6 none site
def P (a : Addr) (D : Cell) (fV fC : Field) (b : Addr) (A : Cell) (z : Int32) (o len : Nat) (args : Array Value) (s : State) : Prop := args = #[.ref a, .ref b, .int (Int32.ofNat o), .int (Int32.ofNat len), .null] ∧ Blank "java/lang/String" a D s ∧ Found "java/lang/String" "value" "[B" fV s ∧ Found "java/lang/String" "coder" "B" fC s ∧ Ch b A s ∧ StaticIs s "java/lang/String" "COMPACT_STRINGS" "Z" (.int z) ∧ ¬ z = 0 ∧ 0 < len ∧ o + len ≤ A.slots.size ∧ len ≤ 536870912 ∧ ∀ i, i < len → ¬ 255 < cv A (o + i)
def E (a : Addr) (D : Cell) (fV fC : Field) (A : Cell) (o len : Nat) (r : Option Value) (s u : State) : Prop := Got a D fV fC A o len r s u
/-- len > 0, no char of the range above 255: a Latin-1 String of their low bytes -/
theorem law (l : Launch) (a : Addr) (D : Cell) (fV fC : Field) (b : Addr) (A : Cell) (z : Int32) (o len : Nat) : Law l yN 5 4 2 35 yB 6 none site (P a D fV fC b A z o len) (E a D fV fC A o len) [⟨a, fC.slot⟩, ⟨a, fV.slot⟩] 1 len := by
  refine Law.of_walk (plainFor_of_name (by decide +kernel)) (by decide +kernel) (by decide +kernel) (by decide) (fun _ _ h => by rw [h.1]; rfl) (fun _ U U' hal hh h => ⟨h.1, h.2.1.mv hal hh, h.2.2.1.al hal, h.2.2.2.1.al hal, h.2.2.2.2.1.mv hal hh, h.2.2.2.2.2.1.there hal hh, h.2.2.2.2.2.2⟩) (fun r U U' V V' h1 hal h2 h => Got.mv r U U' V V' h1 hal h2 h) ?_
  intro p e s m args below meth c s₁ X0 hexec hbytes hml hret hlk hnm hown hh0 W hP
  obtain ⟨rfl, hB, f1, f2, hA, s1, hz, l0, l1, l2, hp⟩ := hP
  have a31 := hA.1.2.2.2
  have c1 : Steps p.tables e below (s₁.setTop (entryFrame m #[.ref a, .ref b, .int (Int32.ofNat o), .int (Int32.ofNat len), .null] 6)) (s₁.setTop (mkF m 0 #[.val (.ref a), .val (.ref b), .val (.int (Int32.ofNat o)), .val (.int (Int32.ofNat len)), .val .null, .unset] [])) := entry rfl
  have c2 : Steps p.tables e below (s₁.setTop (entryFrame m #[.ref a, .ref b, .int (Int32.ofNat o), .int (Int32.ofNat len), .null] 6)) (s₁.setTop (mkF m 1 #[.val (.ref a), .val (.ref b), .val (.int (Int32.ofNat o)), .val (.int (Int32.ofNat len)), .val .null, .unset] [.ref a])) := c1.trans (by
    refine XS.aloadN X0.here hexec rfl (hb hbytes d0) rfl rfl ?_
    exact Steps.refl _)
  obtain ⟨T3, X3, q3, st3⟩ := X0.oinit hexec hown (wks W (objW "java/lang/String" 1)) (g := (mkF m 1 #[.val (.ref a), .val (.ref b), .val (.int (Int32.ofNat o)), .val (.int (Int32.ofNat len)), .val .null, .unset] [.ref a])) rfl (by rw [hml]; rfl) (rest := []) rfl (hb hbytes d1) (W := 0) (by show 2 * 0 + 0 ≤ _; decide) (Nat.le_of_ble_eq_true rfl) (Nat.le_of_ble_eq_true rfl)
  have hh3 := q3.trans hh0
  have c4 : Steps p.tables e below (s₁.setTop (entryFrame m #[.ref a, .ref b, .int (Int32.ofNat o), .int (Int32.ofNat len), .null] 6)) (T3.setTop (mkF m 27 #[.val (.ref a), .val (.ref b), .val (.int (Int32.ofNat o)), .val (.int (Int32.ofNat len)), .val .null, .unset] [])) := (c2.trans (st3 _ (Steps.refl _))).trans (by
    refine XS.iloadN X3.here hexec rfl (hb hbytes d4) rfl ?_
    refine XS.ifYes X3.here hexec rfl (pc0 := 5) rfl (hb hbytes d5) rfl (i0_ne_t (nz32 (by omega) l0)) (by decide) rfl ?_
    exact Steps.refl _)
  obtain ⟨T5, X5, q5, st5⟩ := X3.sget hexec hown (wk W (.fieldLink "java/lang/String" 38 "java/lang/String" "COMPACT_STRINGS" "Z")) s1 (fun _ _ h => by rw [hh3]; exact h) (g := (mkF m 27 #[.val (.ref a), .val (.ref b), .val (.int (Int32.ofNat o)), .val (.int (Int32.ofNat len)), .val .null, .unset] [])) rfl (hb hbytes d27)
  have hh5 := q5.trans hh3
  have c6 : Steps p.tables e below (s₁.setTop (entryFrame m #[.ref a, .ref b, .int (Int32.ofNat o), .int (Int32.ofNat len), .null] 6)) (T5.setTop (mkF m 30 #[.val (.ref a), .val (.ref b), .val (.int (Int32.ofNat o)), .val (.int (Int32.ofNat len)), .val .null, .unset] [.int z])) := c4.trans (st5 _ (Steps.refl _))
  have c7 : Steps p.tables e below (s₁.setTop (entryFrame m #[.ref a, .ref b, .int (Int32.ofNat o), .int (Int32.ofNat len), .null] 6)) (T5.setTop (mkF m 36 #[.val (.ref a), .val (.ref b), .val (.int (Int32.ofNat o)), .val (.int (Int32.ofNat len)), .val .null, .unset] [.int (Int32.ofNat len), .int (Int32.ofNat o), .ref b])) := c6.trans (by
    refine XS.ifNo X5.here hexec rfl (hb hbytes d30) rfl (i0_eq_f hz) ?_
    refine XS.aloadN X5.here hexec rfl (hb hbytes d33) rfl rfl ?_
    refine XS.iloadN X5.here hexec rfl (hb hbytes d34) rfl ?_
    refine XS.iloadN X5.here hexec rfl (hb hbytes d35) rfl ?_
    exact Steps.refl _)
  obtain ⟨v8, T8, X8, E8, g8⟩ := X5.callS hexec (Cmp3.law l b A o len) hown (wks W (staticW "java/lang/String" 177 Cmp3.yN)) (wk W Cmp3.tab) (W := 0) (Nat.le_of_ble_eq_true rfl) (Nat.le_of_ble_eq_true rfl) (Nat.le_refl _) (by show 0 + len ≤ len; omega) (g := (mkF m 36 #[.val (.ref a), .val (.ref b), .val (.int (Int32.ofNat o)), .val (.int (Int32.ofNat len)), .val .null, .unset] [.int (Int32.ofNat len), .int (Int32.ofNat o), .ref b])) rfl (by rw [hml]; rfl) c7 (argsL := [.ref b, .int (Int32.ofNat o), .int (Int32.ofNat len)]) (rest := []) rfl rfl (by show 2 * 0 + 0 ≤ _; decide) (hb hbytes d36) (⟨rfl, hA.mv X5.warmed.alike hh5, l1, l2, hp⟩)
  obtain ⟨e8, z8⟩ := E8
  obtain ⟨rfl, N, n1, n2, n3, n4, n5, n6⟩ := NewArr.mv _ T5 s _ _ hh5.symm (Vm.Alike.refl _) rfl e8
  rw [hh5] at z8
  have hB1 := hB.keep X8.warmed.alike (n6 _ _ hB.1)
  have hne : s.heap.size ≠ a := (Nat.ne_of_lt (Array.getElem?_eq_some_iff.mp hB.1).1).symm
  have c9 : Steps p.tables e below (s₁.setTop (entryFrame m #[.ref a, .ref b, .int (Int32.ofNat o), .int (Int32.ofNat len), .null] 6)) (T8.setTop (mkF m 39 #[.val (.ref a), .val (.ref b), .val (.int (Int32.ofNat o)), .val (.int (Int32.ofNat len)), .val .null, .unset] [.ref s.heap.size])) := g8
  have c10 : Steps p.tables e below (s₁.setTop (entryFrame m #[.ref a, .ref b, .int (Int32.ofNat o), .int (Int32.ofNat len), .null] 6)) (T8.setTop (mkF m 45 #[.val (.ref a), .val (.ref b), .val (.int (Int32.ofNat o)), .val (.int (Int32.ofNat len)), .val .null, .val (.ref s.heap.size)] [.int (Int32.ofNat N.slots.size), .ref s.heap.size, .ref a])) := by
    have hc : Steps p.tables e below (s₁.setTop (entryFrame m #[.ref a, .ref b, .int (Int32.ofNat o), .int (Int32.ofNat len), .null] 6)) (T8.setTop (mkF m 45 #[.val (.ref a), .val (.ref b), .val (.int (Int32.ofNat o)), .val (.int (Int32.ofNat len)), .val .null, .val (.ref s.heap.size)] [.int (Int32.ofNat len), .ref s.heap.size, .ref a])) := c9.trans (by
      refine XS.astore X8.here hexec rfl (hb hbytes d39) rfl rfl rfl ?_
      refine XS.aloadN X8.here hexec rfl (hb hbytes d41) rfl rfl ?_
      refine XS.aload X8.here hexec rfl (hb hbytes d42) rfl rfl ?_
      refine XS.iloadN X8.here hexec rfl (hb hbytes d44) rfl ?_
      exact Steps.refl _)
    rw [n4]; exact hc
  obtain ⟨v11, T11, X11, E11, g11⟩ := X8.callS hexec (CodL.law l s.heap.size N) hown (wks W (staticW "java/lang/String" 47 CodL.yN)) (wk W CodL.tab) (W := 1) (Nat.le_of_ble_eq_true rfl) (Nat.le_of_ble_eq_true rfl) (Nat.le_refl _) (by show 0 + len + 0 ≤ len; omega) (g := (mkF m 45 #[.val (.ref a), .val (.ref b), .val (.int (Int32.ofNat o)), .val (.int (Int32.ofNat len)), .val .null, .val (.ref s.heap.size)] [.int (Int32.ofNat N.slots.size), .ref s.heap.size, .ref a])) rfl (by rw [hml]; rfl) c10 (argsL := [.ref s.heap.size, .int (Int32.ofNat N.slots.size)]) (rest := [.ref a]) rfl rfl (by show 2 * 0 + (1 + 0) ≤ _; decide) (hb hbytes d45) (⟨rfl, n1⟩)
  obtain ⟨rfl, q11⟩ := E11
  have hB11 := hB1.mv (X8.warmed.alike.symm.trans X11.warmed.alike) q11
  have c12 : Steps p.tables e below (s₁.setTop (entryFrame m #[.ref a, .ref b, .int (Int32.ofNat o), .int (Int32.ofNat len), .null] 6)) (T11.setTop (mkF m 48 #[.val (.ref a), .val (.ref b), .val (.int (Int32.ofNat o)), .val (.int (Int32.ofNat len)), .val .null, .val (.ref s.heap.size)] [.int 0, .ref a])) := g11
  obtain ⟨T13, X13, p13, bl13, sl13, st13⟩ := X11.finit hexec hown (wk W (.fieldLink "java/lang/String" 15 "java/lang/String" "coder" "B")) (Or.inr ⟨_, (wk W (.laysFinal "java/lang/String" "java/lang/String" "coder" "B"))⟩) (Or.inl ⟨rfl, hnm⟩) f2 (Or.inl rfl) hB11 (t := .byte) (by decide +kernel) rfl (g := (mkF m 48 #[.val (.ref a), .val (.ref b), .val (.int (Int32.ofNat o)), .val (.int (Int32.ofNat len)), .val .null, .val (.ref s.heap.size)] [.int 0, .ref a])) rfl (rest := []) rfl (hb hbytes d48)
  have c14 : Steps p.tables e below (s₁.setTop (entryFrame m #[.ref a, .ref b, .int (Int32.ofNat o), .int (Int32.ofNat len), .null] 6)) (T13.setTop (mkF m 54 #[.val (.ref a), .val (.ref b), .val (.int (Int32.ofNat o)), .val (.int (Int32.ofNat len)), .val .null, .val (.ref s.heap.size)] [.ref s.heap.size, .ref a])) := (c12.trans (st13 _ (Steps.refl _))).trans (by
    refine XS.aloadN X13.here hexec rfl (hb hbytes d51) rfl rfl ?_
    refine XS.aload X13.here hexec rfl (hb hbytes d52) rfl rfl ?_
    exact Steps.refl _)
  obtain ⟨T15, X15, p15, bl15, sl15, st15⟩ := X13.finit hexec hown (wk W (.fieldLink "java/lang/String" 9 "java/lang/String" "value" "[B")) (Or.inr ⟨_, (wk W (.laysFinal "java/lang/String" "java/lang/String" "value" "[B"))⟩) (Or.inl ⟨rfl, hnm⟩) f1 (Or.inl rfl) bl13 (t := (.array .byte)) (by decide +kernel) rfl (g := (mkF m 54 #[.val (.ref a), .val (.ref b), .val (.int (Int32.ofNat o)), .val (.int (Int32.ofNat len)), .val .null, .val (.ref s.heap.size)] [.ref s.heap.size, .ref a])) rfl (rest := []) rfl (hb hbytes d54)
  have c16 : Steps p.tables e below (s₁.setTop (entryFrame m #[.ref a, .ref b, .int (Int32.ofNat o), .int (Int32.ofNat len), .null] 6)) (T15.setTop (mkF m 57 #[.val (.ref a), .val (.ref b), .val (.int (Int32.ofNat o)), .val (.int (Int32.ofNat len)), .val .null, .val (.ref s.heap.size)] [])) := c14.trans (st15 _ (Steps.refl _))
  have ap := apart (Or.inr ⟨_, (wk W (.laysFinal "java/lang/String" "java/lang/String" "value" "[B"))⟩) (Or.inr ⟨_, (wk W (.laysFinal "java/lang/String" "java/lang/String" "coder" "B"))⟩) f1 f2 (t₁ := .array .byte) (t₂ := .byte) (by decide +kernel) (by decide +kernel) (by decide)
  have al := X8.warmed.alike.symm.trans X15.warmed.alike
  have n7 : T11.heap[s.heap.size]? = some N := by rw [q11]; exact n1.1
  exact ⟨T15, none, _, _, _, X15, by simp, rfl, by omega, (fun _ => rfl), ⟨rfl, _, N, bl15, ((Same.refl D _).set _ (by simp)).set _ (by simp), sl15, (Cell.slots_setSlot_ne _ ap).trans sl13, n1.keep al (p15.other hne (p13.other hne n7)), n2, by rw [al.findClass]; exact n3, n4, n5, fun y c h1 h2 => p15.other h1 (p13.other h1 (by rw [q11]; exact n6 y c h2)), by rw [p15.2.2, p13.2.2, q11]; exact z8⟩, fun fs hl => c16.trans (X15.returnOut hexec hret (hb hbytes d57) hl)⟩
end New4
namespace New1
def yN : MethodName := ⟨"java/lang/String", "<init>", "([C)V"⟩
abbrev yB : ByteArray := jdk_42_method_3_code
theorem d0 : decode yB 0 = .ok (.aload_n 0, 1) := by decide +kernel
theorem d1 : decode yB 1 = .ok (.aload_n 1, 1) := by decide +kernel
theorem d2 : decode yB 2 = .ok (.iconst 0, 1) := by decide +kernel
theorem d3 : decode yB 3 = .ok (.aload_n 1, 1) := by decide +kernel
theorem d4 : decode yB 4 = .ok (.arraylength, 1) := by decide +kernel
theorem d5 : decode yB 5 = .ok (.aconst_null, 1) := by decide +kernel
theorem d6 : decode yB 6 = .ok (.invokespecial 27, 3) := by decide +kernel
theorem d9 : decode yB 9 = .ok (.return_, 1) := by decide +kernel
def site : List Cond := [New4.tab] ++ initW "java/lang/String" 27 New4.yN
def tab : Cond := tabOf yN yB 2 none site
def P (a : Addr) (D : Cell) (fV fC : Field) (b : Addr) (A : Cell) (z : Int32) (args : Array Value) (s : State) : Prop := args = #[.ref a, .ref b] ∧ Blank "java/lang/String" a D s ∧ Found "java/lang/String" "value" "[B" fV s ∧ Found "java/lang/String" "coder" "B" fC s ∧ Ch b A s ∧ StaticIs s "java/lang/String" "COMPACT_STRINGS" "Z" (.int z) ∧ ¬ z = 0 ∧ 0 < A.slots.size ∧ A.slots.size ≤ 536870912 ∧ ∀ i, i < A.slots.size → ¬ 255 < cv A i
def E (a : Addr) (D : Cell) (fV fC : Field) (A : Cell) (r : Option Value) (s u : State) : Prop := Got a D fV fC A 0 A.slots.size r s u
/-- new String(chars), not empty, no char above 255: a Latin-1 String of their low bytes -/
theorem law (l : Launch) (a : Addr) (D : Cell) (fV fC : Field) (b : Addr) (A : Cell) (z : Int32) : Law l yN 2 1 3 52 yB 2 none site (P a D fV fC b A z) (E a D fV fC A) [⟨a, fC.slot⟩, ⟨a, fV.slot⟩] 1 A.slots.size := by
  refine Law.of_walk (plainFor_of_name (by decide +kernel)) (by decide +kernel) (by decide +kernel) (by decide) (fun _ _ h => by rw [h.1]; rfl) (fun _ U U' hal hh h => ⟨h.1, h.2.1.mv hal hh, h.2.2.1.al hal, h.2.2.2.1.al hal, h.2.2.2.2.1.mv hal hh, h.2.2.2.2.2.1.there hal hh, h.2.2.2.2.2.2⟩) (fun r U U' V V' h1 hal h2 h => Got.mv r U U' V V' h1 hal h2 h) ?_
  intro p e s m args below meth c s₁ X0 hexec hbytes hml hret hlk hnm hown hh0 W hP
  obtain ⟨rfl, hB, f1, f2, hA, s1, hz, l0, l2, hp⟩ := hP
  have c1 : Steps p.tables e below (s₁.setTop (entryFrame m #[.ref a, .ref b] 2)) (s₁.setTop (mkF m 0 #[.val (.ref a), .val (.ref b)] [])) := entry rfl
  have c2 : Steps p.tables e below (s₁.setTop (entryFrame m #[.ref a, .ref b] 2)) (s₁.setTop (mkF m 6 #[.val (.ref a), .val (.ref b)] [.null, .int (Int32.ofNat A.slots.size), .int 0, .ref b, .ref a])) := c1.trans (by
    refine XS.aloadN X0.here hexec rfl (hb hbytes d0) rfl rfl ?_
    refine XS.aloadN X0.here hexec rfl (hb hbytes d1) rfl rfl ?_
    refine iconstV X0.here hexec rfl 0 (hb hbytes d2) (by decide) ?_
    refine XS.aloadN X0.here hexec rfl (hb hbytes d3) rfl rfl ?_
    refine X0.alen hexec (hA.1.mv X0.warmed.alike hh0) rfl rfl (hb hbytes d4) ?_
    refine XS.aconstNull X0.here hexec rfl (hb hbytes d5) ?_
    exact Steps.refl _)
  obtain ⟨v3, T3, X3, E3, g3⟩ := X0.callN hexec (New4.law l a D fV fC b A z 0 A.slots.size) rfl hown (wks W (initW "java/lang/String" 27 New4.yN)) (W New4.tab (by simp only [site, List.mem_cons, List.mem_append, true_or, or_true])) (W := 0) (Nat.le_of_ble_eq_true rfl) (Nat.le_of_ble_eq_true rfl) (Nat.le_refl _) (by show 0 + A.slots.size ≤ A.slots.size; omega) (g := (mkF m 6 #[.val (.ref a), .val (.ref b)] [.null, .int (Int32.ofNat A.slots.size), .int (Int32.ofNat 0), .ref b, .ref a])) rfl (by rw [hml]; rfl) c2 (argsL := [.ref b, .int (Int32.ofNat 0), .int (Int32.ofNat A.slots.size), .null]) (rest := []) rfl rfl (by show 2 * 0 + 0 ≤ _; decide) (hb hbytes d6) (⟨rfl, hB.mv X0.warmed.alike hh0, f1.al X0.warmed.alike, f2.al X0.warmed.alike, hA.mv X0.warmed.alike hh0, s1.there X0.warmed.alike hh0, hz, l0, by omega, l2, fun i hi => by rw [Nat.zero_add]; exact hp i hi⟩)
  have e0 := Got.mv _ s₁ s _ _ hh0.symm (Vm.Alike.refl _) rfl E3
  obtain rfl := e0.1
  have c4 : Steps p.tables e below (s₁.setTop (entryFrame m #[.ref a, .ref b] 2)) (T3.setTop (mkF m 9 #[.val (.ref a), .val (.ref b)] [])) := g3
  exact ⟨T3, none, _, _, _, X3, by simp, rfl, by omega, (fun _ => rfl), e0, fun fs hl => c4.trans (X3.returnOut hexec hret (hb hbytes d9) hl)⟩
theorem pays {l : Launch} {R : Room} {p : Program} {e : Env} {below : List Frame} {s : State} {sargs : Array Value} {len W : Nat} (a : Addr) (D : Cell) (fV fC : Field) (b : Addr) (A : Cell) (z : Int32) (htab : tab.before sargs s = true) (hfr : 4 ≤ R.frames) (hlo : W + 65 ≤ R.locals) :
    Back l R p e below s sargs yN len W (fun A₁ a₁ => A₁.cells + 1 ≤ R.cells ∧ A₁.slots + A.slots.size ≤ R.slots ∧ P a D fV fC b A z a₁ A₁.U) (fun A₁ _ v₁ B₁ => E a D fV fC A v₁ A₁.U B₁.U ∧ B₁.locs = A₁.locs ++ [⟨a, fC.slot⟩, ⟨a, fV.slot⟩] ∧ B₁.cells = A₁.cells + 1 ∧ B₁.slots = A₁.slots + A.slots.size) :=
  (law l a D fV fC b A z).pays htab hfr (by omega)
end New1
/-- the byte, read back as charAt reads it, is the char -/
theorem lo8_mask {x : Int32} (h0 : ¬ x < 0) (h1 : ¬ 255 < x) : lo8 x &&& 255 = x := by
  have t : ∀ k : Fin 256, lo8 (Int32.ofNat k.val) &&& 255 = Int32.ofNat k.val := by decide +kernel
  rw [Int32.lt_iff_toInt_lt] at h0 h1
  have e0 : (0 : Int32).toInt = 0 := rfl
  have e1 : (255 : Int32).toInt = 255 := rfl
  obtain ⟨k, hk⟩ : ∃ k : Nat, x.toInt = k := ⟨x.toInt.toNat, by omega⟩
  have hx : x = Int32.ofNat k := Int32.toInt_inj.mp (by rw [hk, Int32.toInt_ofNat_small (by omega)])
  rw [hx]
  exact t ⟨k, by omega⟩
end StrChars
namespace StrChars.Road
open Jvm Sem ClassFile Op Lib Jvm.Stand Jvm.Free Jvm.Free.XT
open Jvm.Lib.Cold (StaticIs)
abbrev ST : String := "java/lang/String"
/-- every table word that New1's law asks, flat -/
abbrev words : List Jvm.Cond := [.code New1.yN New1.yB 2 none, .initialized ST, .methodLink ST 27 New4.yN, .instanceMethod New4.yN,
  .code New4.yN New4.yB 6 none, .fieldLink ST 38 ST "COMPACT_STRINGS" "Z", .laysFinal ST ST "value" "[B", .fieldLink ST 9 ST "value" "[B", .laysFinal ST ST "coder" "B", .fieldLink ST 15 ST "coder" "B",
  .methodLink ST 1 Lib.objectInit, .instanceMethod Lib.objectInit, .code Lib.objectInit ⟨#[0xb1]⟩ 1 none, .methodLink ST 177 Cmp3.yN, .static Cmp3.yN, .methodLink ST 47 CodL.yN, .static CodL.yN,
  .code Cmp3.yN Cmp3.yB 6 (some (.array .byte)), .initialized U16, .arrayClass .byte, .methodLink U16 115 Cmp5.yN, .static Cmp5.yN, .code Cmp5.yN Cmp5.yB 7 (some .int), .code CodL.yN CodL.yB 2 (some .byte)]
theorem tab_of {a : Array Value} {s : State} (h : ∀ w ∈ words, w.before a s = true) : New1.tab.before a s = true := by
  have h5 : Cmp5.tab.before a s = true := unparts (wk h (.code Cmp5.yN Cmp5.yB 7 (some .int))) (wks h (.initialized Cmp5.yN.cls :: Cmp5.site))
  have hc : CodL.tab.before a s = true := unparts (wk h (.code CodL.yN CodL.yB 2 (some .byte))) (wks h (.initialized CodL.yN.cls :: CodL.site))
  have q5 : ∀ w ∈ Cmp5.tab :: words, w.before a s = true := fun w hw => (List.mem_cons.mp hw).elim (fun e => e ▸ h5) (h w)
  have h3 : Cmp3.tab.before a s = true := unparts (wk q5 (.code Cmp3.yN Cmp3.yB 6 (some (.array .byte)))) (wks q5 (.initialized Cmp3.yN.cls :: Cmp3.site))
  have q3 : ∀ w ∈ Cmp3.tab :: CodL.tab :: words, w.before a s = true := fun w hw => (List.mem_cons.mp hw).elim (fun e => e ▸ h3) fun hw => (List.mem_cons.mp hw).elim (fun e => e ▸ hc) (h w)
  have h4 : New4.tab.before a s = true := unparts (wk q3 (.code New4.yN New4.yB 6 none)) (wks q3 (.initialized New4.yN.cls :: New4.site))
  have q4 : ∀ w ∈ New4.tab :: words, w.before a s = true := fun w hw => (List.mem_cons.mp hw).elim (fun e => e ▸ h4) (h w)
  exact unparts (wk q4 (.code New1.yN New1.yB 2 none)) (wks q4 (.initialized New1.yN.cls :: New1.site))
/-- the words ride from the start Z to the walk's own state -/
theorem moved {Z s : State} {a0 args : Array Value} (hZ : Z.Warmed39 s.vm) (hw : ∀ d ∈ words, d.before a0 Z = true) : ∀ d ∈ words, d.before args s = true := fun d hd => by
  have q := hw d hd
  have t : ∀ d ∈ words, d = .arrayClass .byte ∨ (d.onTables && d.keepsFace) = true := by decide +kernel
  rcases t d hd with rfl | t
  · exact RoadKit.mvA hZ q
  · exact RoadKit.mv hZ q t
/-- WHAT COMES BACK, over the tables of the start Z: h the heap at the call, h' behind it -/
def Q (Z : State) (x : Addr) (A : Cell) (h : Heap) (v : Option Value) (h' : Heap) (L : List Loc) : Prop := v = none ∧ (∀ y ∈ L, y.base = x) ∧ RoadKit.Keep h h' [x] ∧ h'.size = h.size + 1 ∧ RoadKit.Exa Z h' x ST ∧ RoadKit.Fld Z h' x ST "value" "[B" (.ref h.size) ∧ RoadKit.Fld Z h' x ST "coder" "B" (.int 0) ∧
  (∃ V : Cell, RoadKit.Arr Z h' h.size V .byte ∧ V.vm = .none ∧ Z.vm.findClass "[B" = some V.cls ∧ V.slots.size = A.slots.size ∧ ∀ j, j < A.slots.size → V.slots[j]? = some (.int (lo8 (cv A j)))) ∧
  ∀ (O n d : String) (w : Value), RoadKit.Fld Z h x O n d w → RoadKit.slotOf Z O n d ≠ RoadKit.slotOf Z ST "value" "[B" → RoadKit.slotOf Z O n d ≠ RoadKit.slotOf Z ST "coder" "B" → RoadKit.Fld Z h' x O n d w
/-- **new String(chars) AT A CALL, IN THE ROAD'S FORM**: for specialBack behind newO: x the fresh String, b the char[] with the cell A -/
theorem back {p : Program} {l : Launch} {e : Env} {R : Room} {s : State} {args : Array Value} {below : List Frame} {len W : Nat} {Z : State} {a0 : Array Value} {h : Heap} (hZ : Z.Warmed39 s.vm) (hw : ∀ d ∈ words, d.before a0 Z = true) {kI : Nat} (wi : (Jvm.Cond.instantiable ST kI).before a0 Z = true)
    {x b : Addr} {A : Cell} {z : Int32} {v0 c0 : Value} (E : RoadKit.Exa Z h x ST) (V : RoadKit.Fld Z h x ST "value" "[B" v0) (C : RoadKit.Fld Z h x ST "coder" "B" c0) (K : RoadKit.Arr Z h b A .char) (hty : Typed .char A) (S : RoadKit.Sta Z h ST "COMPACT_STRINGS" "Z" (.int z)) (hz : ¬ z = 0)
    (l0 : 0 < A.slots.size) (l2 : A.slots.size ≤ 536870912) (hp : ∀ i, i < A.slots.size → ¬ 255 < cv A i) (hfr : 4 ≤ R.frames) (hlo : W + 65 ≤ R.locals) :
    Back l R p e below s args New1.yN len W (fun P a => a = #[.ref x, .ref b] ∧ P.U.heap = h ∧ P.cells + 1 ≤ R.cells ∧ P.slots + A.slots.size ≤ R.slots)
      (fun P _ v B => ∃ L, Q Z x A h v B.U.heap L ∧ B.locs = P.locs ++ L ∧ B.cells = P.cells + 1 ∧ B.slots = P.slots + A.slots.size) := by
  intro m meth c P g ig mk a X hg hsize hdg hW hn hp'
  obtain ⟨rfl, rfl, r1, r2⟩ := hp'
  have al : Z.vm.Alike P.U.vm := hZ.alike.trans X.warmed.alike
  obtain ⟨D, cfV, kV, iV, fV, hD, gV, stV, knV, obV, asV, slV⟩ := id V
  obtain ⟨D', cfC, kC, iC, fC, hD', gC, stC, -, -, asC, slC⟩ := id C
  cases hD.symm.trans hD'
  obtain ⟨D2, kD, e1, e2, e3, e4, e5⟩ := id E
  cases hD.symm.trans e1
  obtain ⟨c2, k2, i1, i2, i3, -⟩ := Cond.instantiable_spec wi
  cases e2.symm.trans i1
  cases e3.symm.trans i2
  obtain ⟨kU, u1, u2⟩ := al.2.2 _ _ e3
  have hB : Blank ST x D P.U := ⟨hD, ⟨knV, fun q hq => by rw [hq] at obV; cases obV⟩, by rw [al.findClass]; exact e2, kU, u1, by rw [u2]; exact i3, by rw [u2]; exact e5 i3⟩
  have F1 : Found ST "value" "[B" fV P.U := ⟨SBG.found_only al ⟨cfV, kV, iV, gV⟩, stV⟩
  have F2 : Found ST "coder" "B" fC P.U := ⟨SBG.found_only al ⟨cfC, kC, iC, gC⟩, stC⟩
  have hA : Ch b A P.U := ⟨⟨K.1, State.isArrayOf_alike al K.2.1, K.2.2, by omega⟩, hty⟩
  have hS : StaticIs P.U ST "COMPACT_STRINGS" "Z" (.int z) := by
    obtain ⟨cfS, iS, kS, fS, st, cS, t1, t2, t3, t4, t5, t6, t7⟩ := S
    exact StaticIs.there (s := { Z with heap := P.U.heap }) ⟨cfS, iS, kS, fS, st, cS, t1, t2, t3, t4, t5, (fun q => by rw [q] at t6; cases t6), t7⟩ al rfl
  obtain ⟨v, B, X', ⟨⟨hv, E', V', q1, q2, q3, q4, q5, q6, q7, q8, q9, q10, q11⟩, hl, hc, hs⟩, st⟩ := New1.pays x D fV fC b A z (tab_of (moved hZ hw)) hfr hlo m meth c P g ig mk _ X hg hsize hdg hW hn ⟨r1, r2, rfl, hB, F1, F2, hA, hS, hz, l0, l2, hp⟩
  have al' : Z.vm.Alike B.U.vm := hZ.alike.trans X'.warmed.alike
  have hsz : E'.slots.size = D.slots.size := by
    obtain ⟨-, -, -, kB, w1, w2, w3⟩ := q1
    obtain ⟨kB', y1, y2⟩ := al'.2.2 _ _ e3
    rw [q2.2.1] at w1
    cases w1.symm.trans y1
    rw [w3, e5 i3, y2]
  refine ⟨v, B, X', ⟨_, ⟨hv, ?_, ⟨by omega, fun y cy hy hn' => q10 y cy (by simpa using hn') hy, fun y cy hy => ?_⟩, q11, ⟨E', _, q1.1, by rw [q2.2.1]; exact e2, by rw [q2.2.1]; exact e3, by rw [q2.1]; exact obV, fun _ => by rw [hsz]; exact e5 i3⟩,
    ⟨E', cfV, kV, iV, fV, q1.1, gV, stV, by rw [q2.1]; exact knV, by rw [q2.1]; exact obV, by rw [q2.2.1]; exact asV, q3⟩, ⟨E', cfC, kC, iC, fC, q1.1, gC, stC, by rw [q2.1]; exact knV, by rw [q2.1]; exact obV, by rw [q2.2.1]; exact asC, q4⟩,
    ⟨V', ⟨q5.1, State.isArrayOf_alike al'.symm q5.2.1, q5.2.2.1⟩, q6, by rw [← al'.findClass]; exact q7, q8, fun j hj => by have := q9 j hj; rwa [Nat.zero_add] at this⟩, fun O n d w F n1 n2 => ?_⟩, hl, hc, hs⟩, st⟩
  · intro y hy
    simp only [List.mem_cons, List.not_mem_nil, or_false] at hy
    rcases hy with rfl | rfl <;> rfl
  · by_cases q : y = x
    · subst q
      cases hD.symm.trans hy
      exact ⟨E', q1.1, q2.2.1, q2.1, hsz⟩
    · exact ⟨cy, q10 y cy q hy, rfl, rfl, rfl⟩
  · obtain ⟨D3, cf, k, i, f, g1, g2, g3, g4, g5, g6, g7⟩ := F
    cases hD.symm.trans g1
    simp only [RoadKit.slotOf, g2, gV, gC, Option.map_some, Option.getD_some] at n1 n2
    exact ⟨E', cf, k, i, f, q1.1, g2, g3, by rw [q2.1]; exact g4, by rw [q2.1]; exact g5, by rw [q2.2.1]; exact g6, by rw [q2.2.2 f.slot (by simp [n1, n2])]; exact g7⟩
end StrChars.Road
namespace StrChars.Road
open Jvm Sem ClassFile Op Lib Jvm.Stand Jvm.Free Jvm.Free.XT
/-- WHAT COMES BACK, the byte[] as a list of values -/
def QA (Z : State) (x : Addr) (zn : Int32) (cs : List Int32) (h : Heap) (v : Option Value) (h' : Heap) (L : List Loc) : Prop := v = none ∧ (∀ y ∈ L, y.base = x) ∧ RoadKit.Keep h h' [x] ∧ h'.size = h.size + 1 ∧ RoadKit.Exa Z h' x ST ∧ RoadKit.Fld Z h' x ST "value" "[B" (.ref h.size) ∧ RoadKit.Fld Z h' x ST "coder" "B" (.int 0) ∧
  (∃ kb, Z.vm.findClass "[B" = some kb ∧ RoadKit.Arv Z h' h.size kb .byte zn (cs.map fun c => .int (lo8 c)) (.int 0)) ∧
  ∀ (O n d : String) (w : Value), RoadKit.Fld Z h x O n d w → RoadKit.slotOf Z O n d ≠ RoadKit.slotOf Z ST "value" "[B" → RoadKit.slotOf Z O n d ≠ RoadKit.slotOf Z ST "coder" "B" → RoadKit.Fld Z h' x O n d w
/-- **new String(chars) AT A CALL, THE ARRAYS AS LISTS**: the char[] at b holds cs, not empty, no char above 255 -/
theorem backArv {p : Program} {l : Launch} {e : Env} {R : Room} {s : State} {args : Array Value} {below : List Frame} {len W : Nat} {Z : State} {a0 : Array Value} {h : Heap} (hZ : Z.Warmed39 s.vm) (hw : ∀ d ∈ words, d.before a0 Z = true) {kI : Nat} (wi : (Jvm.Cond.instantiable ST kI).before a0 Z = true)
    {x b : Addr} {k : ClassId} {zn z : Int32} {cs : List Int32} {dv v0 c0 : Value} (E : RoadKit.Exa Z h x ST) (V : RoadKit.Fld Z h x ST "value" "[B" v0) (C : RoadKit.Fld Z h x ST "coder" "B" c0) (K : RoadKit.Arv Z h b k .char zn (cs.map Value.int) dv) (S : RoadKit.Sta Z h ST "COMPACT_STRINGS" "Z" (.int z)) (hz : ¬ z = 0)
    (hlen : zn.toNatClampNeg = cs.length) (h0 : 0 < cs.length) (hbig : cs.length ≤ 536870912) (hall : ∀ c ∈ cs, ¬ 255 < c) (hfr : 4 ≤ R.frames) (hlo : W + 65 ≤ R.locals) :
    Back l R p e below s args New1.yN len W (fun P a => a = #[.ref x, .ref b] ∧ P.U.heap = h ∧ P.cells + 1 ≤ R.cells ∧ P.slots + cs.length ≤ R.slots)
      (fun P _ v B => ∃ L, QA Z x zn cs h v B.U.heap L ∧ B.locs = P.locs ++ L ∧ B.cells = P.cells + 1 ∧ B.slots = P.slots + cs.length) := by
  obtain ⟨A, K1, K2, K3, K4, K5, K6⟩ := K
  have e : A.slots.size = cs.length := K3.trans hlen
  have hat : ∀ (i : Nat) (hi : i < cs.length), A.slots[i]? = some (.int cs[i]) := fun i hi => by rw [K5 i (by omega)]; simp [List.getD_eq_getElem?_getD, hi]
  have hcv : ∀ (i : Nat) (hi : i < cs.length), cv A i = cs[i] := fun i hi => by unfold cv; rw [hat i hi]
  have hty : Typed .char A := fun i v hv => by
    have hi : i < A.slots.size := (Array.getElem?_eq_some_iff.mp hv).1
    have q := K5 i hi
    rw [hv] at q
    rw [Option.some.inj q]
    exact K6 i hi
  refine Back.mono (back hZ hw wi E V C K1 hty S hz (by omega) (by omega) (fun i hi => by rw [hcv i (by omega)]; exact hall _ (List.getElem_mem _)) hfr hlo) (fun P a hp => ⟨hp.1, hp.2.1, hp.2.2.1, by rw [e]; exact hp.2.2.2⟩) (fun P a v B hp hq => ?_)
  obtain ⟨L, ⟨q1, q2, q3, q4, q5, q6, q7, ⟨V', v1, v2, v3, v4, v5⟩, q9⟩, hl, hc, hs⟩ := hq
  refine ⟨L, ⟨q1, q2, q3, q4, q5, q6, q7, ⟨V'.cls, v3, V', v1, rfl, by rw [v4, e, hlen], K4, fun i hi => ?_, fun i hi => ?_⟩, q9⟩, hl, hc, by rw [hs, e]⟩
  · have hi' : i < cs.length := by omega
    rw [v5 i (by omega), hcv i hi']; simp [List.getD_eq_getElem?_getD, hi']
  · have hi' : i < cs.length := by omega
    simp only [List.getD_eq_getElem?_getD, List.getElem?_map, List.getElem?_eq_getElem hi', Option.map_some, Option.getD_some]
    exact fits_lo8 _
end StrChars.Road
namespace StrChars.Road
open Jvm Sem ClassFile Op Lib Jvm.Stand Jvm.Free Jvm.Free.XT
/-- WHAT COMES BACK, in the writer's own shape -/
def QV (Z : State) (x : Addr) (N : Int32) (bs : List Int32) (h : Heap) (n0 : Nat) (v : Option Value) (h' : Heap) (L : List Loc) : Prop := v = none ∧ RoadKit.Fr n0 L ∧ RoadKit.Keep h h' [x] ∧ RoadKit.Exa Z h' x ST ∧ RoadKit.Fld Z h' x ST "coder" "B" (.int 0) ∧
  ∃ (t : Addr) (kb : ClassId), n0 ≤ t ∧ h.size ≤ t ∧ ¬ t = x ∧ RoadKit.Fld Z h' x ST "value" "[B" (.ref t) ∧ RoadKit.Arv Z h' t kb .byte N (bs.map Value.int) (.int 0)
/-- **new String(chars) AT A CALL, FOR THE WRITER**: a char[] of n known ints, each 0 to 255 -/
theorem backV {p : Program} {l : Launch} {e : Env} {R : Room} {s : State} {args : Array Value} {below : List Frame} {len W : Nat} {Z : State} {a0 : Array Value} {h : Heap} (hZ : Z.Warmed39 s.vm) (hw : ∀ d ∈ words, d.before a0 Z = true) {kI : Nat} (wi : (Jvm.Cond.instantiable ST kI).before a0 Z = true)
    {x b : Addr} {kC : ClassId} {cs bs : List Int32} {d v0 c0 : Value} {z N : Int32} {n n0 : Nat} (hx0 : n0 ≤ x) (hh0 : n0 ≤ h.size) (E : RoadKit.Exa Z h x ST) (V : RoadKit.Fld Z h x ST "value" "[B" v0) (C : RoadKit.Fld Z h x ST "coder" "B" c0) (K : RoadKit.Arv Z h b kC .char N (cs.map Value.int) d) (S : RoadKit.Sta Z h ST "COMPACT_STRINGS" "Z" (.int z)) (hz : ¬ z = 0)
    (hn : cs.length = n) (hN : N = Int32.ofNat n) (l0 : 0 < n) (l2 : n ≤ 4000) (hp : ∀ c ∈ cs, ¬ c < 0 ∧ ¬ (255 : Int32) < c) (hb : bs = cs.map (fun c => c.toInt8.toInt32)) (hfr : 4 ≤ R.frames) (hlo : W + 65 ≤ R.locals) :
    Back l R p e below s args (⟨"java/lang/String", "<init>", "([C)V"⟩ : MethodName) len W (fun P a => a = #[.ref x, .ref b] ∧ P.U.heap = h ∧ P.cells + 1 ≤ R.cells ∧ P.slots + n ≤ R.slots)
      (fun P _ v B => ∃ L, QV Z x N bs h n0 v B.U.heap L ∧ B.locs = P.locs ++ L ∧ B.cells = P.cells + 1 ∧ B.slots = P.slots + n) := by
  subst hn hN hb
  refine Back.mono (backArv hZ hw wi E V C K S hz (n32 (by omega)) l0 (by omega) (fun c hc => (hp c hc).2) hfr hlo) (fun P a hp => hp) (fun P a v B hp hq => ?_)
  obtain ⟨L, ⟨q1, q2, q3, q4, q5, q6, q7, ⟨kb, v1, v2⟩, q9⟩, hl, hc, hs⟩ := hq
  exact ⟨L, ⟨q1, fun y hy => by rw [q2 y hy]; exact hx0, q3, q5, q7, h.size, kb, hh0, Nat.le_refl _, Nat.ne_of_gt E.lt, q6, by rw [List.map_map]; exact v2⟩, hl, hc, hs⟩
end StrChars.Road
namespace StrChars
open Jvm Sem ClassFile Op Lib Jvm.Stand Jvm.Free.XT Jvm.Free.ALB Jvm.Free.JM Jvm.Free
open Jvm.Lib.Cold (StaticIs)
def hi8 (x : Int32) : Int32 := lo8 (x >>> ((8 : Int32) &&& 31))
/-- what StringUTF16.getChar makes of two bytes -/
def pairCh (u v : Int32) : Int32 := (((u &&& 255) <<< ((0 : Int32) &&& 31)) ||| ((v &&& 255) <<< ((8 : Int32) &&& 31))).toUInt32.toUInt16.toUInt32.toInt32
theorem shr0 (c : Int32) : c >>> ((0 : Int32) &&& 31) = c := by
  have e : ((0 : Int32) &&& 31) = 0 := by decide
  rw [e]
  apply Int32.toBitVec_inj.mp
  rw [Int32.toBitVec_shiftRight]
  have e1 : ((0 : Int32).toBitVec.smod 32) = 0#32 := by decide
  rw [e1, BitVec.sshiftRight_eq']
  exact BitVec.sshiftRight_zero
theorem lo8_and (x : Int32) : (lo8 x &&& 255).toBitVec.toNat = x.toBitVec.toNat % 256 := by
  have h : (lo8 x).toBitVec = (x.toBitVec.signExtend 8).signExtend 32 := by rw [lo8, Int8.toBitVec_toInt32, Int32.toBitVec_toInt8]
  rw [Int32.toBitVec_and, BitVec.toNat_and, h]
  have e : ((x.toBitVec.signExtend 8).signExtend 32).toNat % 256 = x.toBitVec.toNat % 256 := by
    rw [BitVec.toNat_signExtend]
    have hlt := x.toBitVec.isLt
    simp only [BitVec.toNat_setWidth, BitVec.toNat_signExtend]
    split <;> split <;> omega
  rw [← e]
  exact Nat.and_two_pow_sub_one_eq_mod _ 8
theorem pair_says {c : Int32} (h0 : ¬ c < 0) (h1 : ¬ 65535 < c) : pairCh (lo8 c) (hi8 c) = c := by
  rw [Int32.lt_iff_toInt_lt] at h0 h1
  have e0 : (0 : Int32).toInt = 0 := rfl
  have e1 : (65535 : Int32).toInt = 65535 := rfl
  have hc : c.toInt = c.toBitVec.toNat := by
    have := c.toBitVec.isLt
    have e : c.toInt = c.toBitVec.toInt := rfl
    rw [e] at h0 h1
    rw [e]
    rw [BitVec.toInt_eq_toNat_cond] at h0 h1 ⊢
    split at h0 <;> split <;> omega
  have hn : c.toBitVec.toNat < 65536 := by omega
  have a1 := lo8_and c
  have a2 : (hi8 c &&& 255).toBitVec.toNat = c.toBitVec.toNat / 256 := by
    rw [hi8, lo8_and]
    have e : ((8 : Int32) &&& 31) = 8 := by decide
    rw [e, Int32.toBitVec_shiftRight]
    have e2 : ((8 : Int32).toBitVec.smod 32) = 8#32 := by decide
    rw [e2, BitVec.sshiftRight_eq', BitVec.toNat_sshiftRight_of_msb_false (by rw [BitVec.msb_eq_false_iff_two_mul_lt]; omega)]
    show c.toBitVec.toNat >>> 8 % 256 = _
    rw [Nat.shiftRight_eq_div_pow]
    omega
  unfold pairCh
  apply Int32.toBitVec_inj.mp
  apply BitVec.eq_of_toNat_eq
  have f0 : ((0 : Int32) &&& 31) = 0 := by decide
  have f8 : ((8 : Int32) &&& 31) = 8 := by decide
  rw [f0, f8]
  have g : (((lo8 c &&& 255) <<< (0 : Int32)) ||| ((hi8 c &&& 255) <<< (8 : Int32))).toBitVec.toNat = c.toBitVec.toNat := by
    rw [Int32.toBitVec_or, Int32.toBitVec_shiftLeft, Int32.toBitVec_shiftLeft]
    have s0 : ((0 : Int32).toBitVec.smod 32) = 0#32 := by decide
    have s8 : ((8 : Int32).toBitVec.smod 32) = 8#32 := by decide
    rw [s0, s8, BitVec.toNat_or]
    simp only [BitVec.shiftLeft_eq', BitVec.toNat_shiftLeft, a1, a2]
    show (c.toBitVec.toNat % 256) <<< 0 % 2 ^ 32 ||| (c.toBitVec.toNat / 256) <<< 8 % 2 ^ 32 = _
    rw [Nat.shiftLeft_zero, Nat.mod_eq_of_lt (show c.toBitVec.toNat % 256 < 2 ^ 32 by omega), Nat.mod_eq_of_lt (show (c.toBitVec.toNat / 256) <<< 8 < 2 ^ 32 by rw [Nat.shiftLeft_eq]; omega), Nat.or_comm, ← Nat.shiftLeft_add_eq_or_of_lt (by omega), Nat.shiftLeft_eq]
    omega
  show BitVec.toNat (((((lo8 c &&& 255) <<< (0 : Int32)) ||| ((hi8 c &&& 255) <<< (8 : Int32))).toBitVec.setWidth 16).setWidth 32) = _
  rw [BitVec.toNat_setWidth, BitVec.toNat_setWidth, g]
  omega
end StrChars
namespace StrChars
open Jvm Sem ClassFile Op Lib Jvm.Stand Jvm.Free.XT Jvm.Free.ALB Jvm.Free.JM Jvm.Free
open Jvm.Lib.Cold (StaticIs)
theorem shr1 {n : Nat} (h : 2 * n < 2 ^ 31) : Int32.ofNat (2 * n) >>> ((1 : Int32) &&& 31) = Int32.ofNat n := by
  have e : ((1 : Int32) &&& 31) = 1 := by decide
  rw [e]
  apply Int32.toBitVec_inj.mp
  rw [Int32.toBitVec_shiftRight]
  have e1 : ((1 : Int32).toBitVec.smod 32) = 1#32 := by decide
  have hm : (BitVec.ofNat 32 (2 * n)).toNat = 2 * n := by rw [BitVec.toNat_ofNat, Nat.mod_eq_of_lt (by omega)]
  rw [e1, BitVec.sshiftRight_eq']
  apply BitVec.eq_of_toNat_eq
  show ((BitVec.ofNat 32 (2 * n)).sshiftRight 1).toNat = (BitVec.ofNat 32 n).toNat
  rw [BitVec.toNat_sshiftRight_of_msb_false (by rw [BitVec.msb_eq_false_iff_two_mul_lt, hm]; omega), hm, BitVec.toNat_ofNat, Nat.shiftRight_eq_div_pow]
  omega
/-- charAt's cast of a byte read back -/
def chr8 (u : Int32) : Int32 := (u &&& 255).toUInt32.toUInt16.toUInt32.toInt32
theorem chr8_lo8 {c : Int32} (h0 : ¬ c < 0) (h1 : ¬ 255 < c) : chr8 (lo8 c) = c := by
  have t : ∀ k : Fin 256, (Int32.ofNat k.val).toUInt32.toUInt16.toUInt32.toInt32 = Int32.ofNat k.val := by decide +kernel
  unfold chr8
  rw [lo8_mask h0 h1]
  rw [Int32.lt_iff_toInt_lt] at h0 h1
  have e0 : (0 : Int32).toInt = 0 := rfl
  have e1 : (255 : Int32).toInt = 255 := rfl
  obtain ⟨k, hk⟩ : ∃ k : Nat, c.toInt = k := ⟨c.toInt.toNat, by omega⟩
  have hx : c = Int32.ofNat k := Int32.toInt_inj.mp (by rw [hk, Int32.toInt_ofNat_small (by omega)])
  rw [hx]
  exact t ⟨k, by omega⟩
theorem narrow_ch {c : Int32} (h0 : ¬ c < 0) (h1 : ¬ 65535 < c) : narrow .char (.int c) = .int c := by
  have q : narrow .char (.int (pairCh (lo8 c) (hi8 c))) = .int (pairCh (lo8 c) (hi8 c)) := narrow_c _
  rwa [pair_says h0 h1] at q
/-- the array's cell V codes the n chars f 0 .. f (n - 1) by the coder cd, as the JDK does: coder 1 just where some char is above 255 -/
def Cod (cd : Int32) (n : Nat) (f : Nat → Int32) (V : Cell) : Prop := (cd = 0 ∧ V.slots.size = n ∧ ∀ j, j < n → V.slots[j]? = some (.int (lo8 (f j))) ∧ ¬ 255 < f j) ∨ (cd = 1 ∧ V.slots.size = 2 * n ∧ (∀ j, j < n → V.slots[2 * j]? = some (.int (lo8 (f j))) ∧ V.slots[2 * j + 1]? = some (.int (hi8 (f j)))) ∧ ∃ j, j < n ∧ 255 < f j)
theorem Cod.cd {cd : Int32} {n : Nat} {f : Nat → Int32} {V : Cell} (h : Cod cd n f V) : cd = 0 ∨ cd = 1 := h.imp (fun q => q.1) fun q => q.1
theorem Cod.len {cd : Int32} {n : Nat} {f : Nat → Int32} {V : Cell} (h : Cod cd n f V) (hs : V.slots.size < 2 ^ 31) : Int32.ofNat V.slots.size >>> (cd &&& 31) = Int32.ofNat n := by
  rcases h with ⟨rfl, h, -⟩ | ⟨rfl, h, -⟩
  · rw [shr0, h]
  · rw [h, shr1 (by omega)]
/-- **x is a String of the n chars f 0 .. f (n - 1)**, Latin-1 or UTF-16; its array at t has the cell V -/
def Txt (x t : Addr) (V : Cell) (cd : Int32) (n : Nat) (f : Nat → Int32) (U : State) : Prop := Exact "java/lang/String" x U ∧ Has x "java/lang/String" "value" "[B" (.ref t) U ∧ Has x "java/lang/String" "coder" "B" (.int cd) U ∧ XT.Arr .byte t V U ∧ Cod cd n f V ∧ ∀ j, j < n → ¬ f j < 0 ∧ ¬ 65535 < f j
theorem Txt.mv {x t : Addr} {V : Cell} {cd : Int32} {n : Nat} {f : Nat → Int32} {U U' : State} (h : Txt x t V cd n f U) (hal : U.vm.Alike U'.vm) (hh : U'.heap = U.heap) : Txt x t V cd n f U' := ⟨h.1.mv hal hh, h.2.1.mv hal hh, h.2.2.1.mv hal hh, h.2.2.2.1.mv hal hh, h.2.2.2.2⟩
namespace Cdr
def yN : MethodName := ⟨"java/lang/String", "coder", "()B"⟩
abbrev yB : ByteArray := jdk_42_method_152_code
theorem d0 : decode yB 0 = .ok (.getstatic 38, 3) := by decide +kernel
theorem d3 : decode yB 3 = .ok (.ifCond (.eq) 10, 3) := by decide +kernel
theorem d6 : decode yB 6 = .ok (.aload_n 0, 1) := by decide +kernel
theorem d7 : decode yB 7 = .ok (.getfield 15, 3) := by decide +kernel
theorem d10 : decode yB 10 = .ok (.goto 4, 3) := by decide +kernel
theorem d14 : decode yB 14 = .ok (.ireturn, 1) := by decide +kernel
def site : List Cond := [.fieldLink "java/lang/String" 38 "java/lang/String" "COMPACT_STRINGS" "Z", .fieldLink "java/lang/String" 15 "java/lang/String" "coder" "B"]
def tab : Cond := tabOf yN yB 1 (some .byte) site
def P (x : Addr) (cd z : Int32) (args : Array Value) (s : State) : Prop := args = #[.ref x] ∧ Has x "java/lang/String" "coder" "B" (.int cd) s ∧ (cd = 0 ∨ cd = 1) ∧ StaticIs s "java/lang/String" "COMPACT_STRINGS" "Z" (.int z) ∧ ¬ z = 0
def E (cd : Int32) (r : Option Value) (s u : State) : Prop := XT.PureE (some (.int cd)) r s u
theorem law (l : Launch) (x : Addr) (cd z : Int32) : Law l yN 1 0 0 0 yB 1 (some .byte) site (P x cd z) (E cd) [] 0 0 := by
  refine Law.of_walk (plainFor_of_name (by decide +kernel)) (by decide +kernel) (by decide +kernel) (by decide) (fun _ _ h => by rw [h.1]; rfl) (fun _ U U' hal hh h => ⟨h.1, h.2.1.mv hal hh, h.2.2.1, h.2.2.2.1.there hal hh, h.2.2.2.2⟩) (fun r U U' V V' h1 hal h2 h => XT.PureE.mv r U U' V V' h1 hal h2 h) ?_
  intro p e s m args below meth c s₁ X0 hexec hbytes hml hret hlk hnm hown hh0 W hP
  obtain ⟨rfl, hx, hc, s1, hz⟩ := hP
  have c1 : Steps p.tables e below (s₁.setTop (entryFrame m #[.ref x] 1)) (s₁.setTop (mkF m 0 #[.val (.ref x)] [])) := entry rfl
  obtain ⟨T2, X2, q2, st2⟩ := X0.sget hexec hown (wk W (.fieldLink "java/lang/String" 38 "java/lang/String" "COMPACT_STRINGS" "Z")) s1 (fun _ _ h => by rw [hh0]; exact h) (g := (mkF m 0 #[.val (.ref x)] [])) rfl (hb hbytes d0)
  have hh2 := q2.trans hh0
  have c3 : Steps p.tables e below (s₁.setTop (entryFrame m #[.ref x] 1)) (T2.setTop (mkF m 7 #[.val (.ref x)] [.ref x])) := (c1.trans (st2 _ (Steps.refl _))).trans (by
    refine XS.ifNo X2.here hexec rfl (hb hbytes d3) rfl (i0_eq_f hz) ?_
    refine XS.aloadN X2.here hexec rfl (hb hbytes d6) rfl rfl ?_
    exact Steps.refl _)
  obtain ⟨T4, X4, q4, st4⟩ := X2.hget hexec hown (wk W (.fieldLink "java/lang/String" 15 "java/lang/String" "coder" "B")) (hx.mv X2.warmed.alike hh2) (g := (mkF m 7 #[.val (.ref x)] [.ref x])) rfl (rest := []) rfl (hb hbytes d7)
  have c5 : Steps p.tables e below (s₁.setTop (entryFrame m #[.ref x] 1)) (T4.setTop (mkF m 14 #[.val (.ref x)] [.int cd])) := (c3.trans (st4 _ (Steps.refl _))).trans (by
    refine XS.goto X4.here hexec rfl (pc0 := 10) rfl (hb hbytes d10) (by decide) rfl ?_
    exact Steps.refl _)
  exact ⟨T4, some (.int cd), _, _, _, X4, rfl, rfl, rfl, (fun h => by cases h), ⟨rfl, q4.trans hh2⟩, fun fs hl => c5.trans (X4.ireturnOut hexec hret (by rcases hc with rfl | rfl <;> rfl) (Or.inr (Or.inr (Or.inl rfl))) (hb hbytes d14) hl)⟩
end Cdr
namespace Len
def yN : MethodName := ⟨"java/lang/String", "length", "()I"⟩
abbrev yB : ByteArray := jdk_42_method_54_code
theorem d0 : decode yB 0 = .ok (.aload_n 0, 1) := by decide +kernel
theorem d1 : decode yB 1 = .ok (.getfield 9, 3) := by decide +kernel
theorem d4 : decode yB 4 = .ok (.arraylength, 1) := by decide +kernel
theorem d5 : decode yB 5 = .ok (.aload_n 0, 1) := by decide +kernel
theorem d6 : decode yB 6 = .ok (.invokevirtual 335, 3) := by decide +kernel
theorem d9 : decode yB 9 = .ok (.ishr, 1) := by decide +kernel
theorem d10 : decode yB 10 = .ok (.ireturn, 1) := by decide +kernel
def site : List Cond := [.fieldLink "java/lang/String" 9 "java/lang/String" "value" "[B", Cdr.tab] ++ virtW "java/lang/String" 335 "java/lang/String" Cdr.yN Cdr.yN
def tab : Cond := tabOf yN yB 1 (some .int) site
def P (x t : Addr) (V : Cell) (cd : Int32) (n : Nat) (f : Nat → Int32) (z : Int32) (args : Array Value) (s : State) : Prop := args = #[.ref x] ∧ Txt x t V cd n f s ∧ StaticIs s "java/lang/String" "COMPACT_STRINGS" "Z" (.int z) ∧ ¬ z = 0
def E (n : Nat) (r : Option Value) (s u : State) : Prop := XT.PureE (some (.int (Int32.ofNat n))) r s u
/-- length() of a String of n chars, in either coding -/
theorem law (l : Launch) (x t : Addr) (V : Cell) (cd : Int32) (n : Nat) (f : Nat → Int32) (z : Int32) : Law l yN 1 0 1 13 yB 1 (some .int) site (P x t V cd n f z) (E n) [] 0 0 := by
  refine Law.of_walk (plainFor_of_name (by decide +kernel)) (by decide +kernel) (by decide +kernel) (by decide) (fun _ _ h => by rw [h.1]; rfl) (fun _ U U' hal hh h => ⟨h.1, h.2.1.mv hal hh, h.2.2.1.there hal hh, h.2.2.2⟩) (fun r U U' V V' h1 hal h2 h => XT.PureE.mv r U U' V V' h1 hal h2 h) ?_
  intro p e s m args below meth c s₁ X0 hexec hbytes hml hret hlk hnm hown hh0 W hP
  obtain ⟨rfl, hx, s1, hz⟩ := hP
  have v31 := hx.2.2.2.1.2.2.2
  have c1 : Steps p.tables e below (s₁.setTop (entryFrame m #[.ref x] 1)) (s₁.setTop (mkF m 1 #[.val (.ref x)] [.ref x])) := Steps.trans (entry rfl) (by
    show Steps p.tables e below (s₁.setTop (mkF m 0 #[.val (.ref x)] [])) _
    refine XS.aloadN X0.here hexec rfl (hb hbytes d0) rfl rfl ?_
    exact Steps.refl _)
  obtain ⟨T2, X2, q2, st2⟩ := X0.hget hexec hown (wk W (.fieldLink "java/lang/String" 9 "java/lang/String" "value" "[B")) (hx.mv X0.warmed.alike hh0).2.1 (g := (mkF m 1 #[.val (.ref x)] [.ref x])) rfl (rest := []) rfl (hb hbytes d1)
  have hh2 := q2.trans hh0
  have hx2 := hx.mv X2.warmed.alike hh2
  have c3 : Steps p.tables e below (s₁.setTop (entryFrame m #[.ref x] 1)) (T2.setTop (mkF m 6 #[.val (.ref x)] [.ref x, .int (Int32.ofNat V.slots.size)])) := (c1.trans (st2 _ (Steps.refl _))).trans (by
    refine X2.alen hexec hx2.2.2.2.1 rfl rfl (hb hbytes d4) ?_
    refine XS.aloadN X2.here hexec rfl (hb hbytes d5) rfl rfl ?_
    exact Steps.refl _)
  obtain ⟨v4, T4, X4, E4, g4⟩ := X2.callV hexec (Cdr.law l x cd z) hown (wks W (virtW "java/lang/String" 335 "java/lang/String" Cdr.yN Cdr.yN)) rfl (by decide) (wk W Cdr.tab) (W := 1) (Nat.le_of_ble_eq_true rfl) (Nat.le_of_ble_eq_true rfl) (Nat.le_refl _) (Nat.le_refl _) (hx2.1.fc X2.warmed.alike) hx2.1.is (g := (mkF m 6 #[.val (.ref x)] [.ref x, .int (Int32.ofNat V.slots.size)])) rfl (by rw [hml]; rfl) c3 (argsL := []) (rest := [.int (Int32.ofNat V.slots.size)]) rfl rfl (by show 2 * 0 + (1 + 0) ≤ _; decide) (hb hbytes d6) (⟨rfl, hx2.2.2.1, hx.2.2.2.2.1.cd, s1.there X2.warmed.alike hh2, hz⟩)
  obtain ⟨rfl, q4⟩ := E4
  have c5 : Steps p.tables e below (s₁.setTop (entryFrame m #[.ref x] 1)) (T4.setTop (mkF m 10 #[.val (.ref x)] [.int (Int32.ofNat V.slots.size >>> (cd &&& 31))])) := Steps.trans g4 (by
    refine ishr X4.here hexec rfl (hb hbytes d9) rfl ?_
    exact Steps.refl _)
  rw [hx.2.2.2.2.1.len v31] at c5
  exact ⟨T4, some (.int (Int32.ofNat n)), _, _, _, X4, rfl, rfl, rfl, (fun h => by cases h), ⟨rfl, q4.trans hh2⟩, fun fs hl => c5.trans (X4.ireturnOut hexec hret rfl (Or.inl rfl) (hb hbytes d10) hl)⟩
theorem pays {l : Launch} {R : Room} {p : Program} {e : Env} {below : List Frame} {s : State} {sargs : Array Value} {len W : Nat} (x t : Addr) (V : Cell) (cd : Int32) (n : Nat) (f : Nat → Int32) (z : Int32) (htab : tab.before sargs s = true) (hfr : 2 ≤ R.frames) (hlo : W + 25 ≤ R.locals) :
    Back l R p e below s sargs yN len W (fun A₁ a₁ => A₁.cells + 0 ≤ R.cells ∧ A₁.slots + 0 ≤ R.slots ∧ P x t V cd n f z a₁ A₁.U) (fun A₁ _ v₁ B₁ => E n v₁ A₁.U B₁.U ∧ B₁.locs = A₁.locs ++ [] ∧ B₁.cells = A₁.cells + 0 ∧ B₁.slots = A₁.slots + 0) :=
  (law l x t V cd n f z).pays htab hfr (by omega)
end Len
namespace IsL
def yN : MethodName := ⟨"java/lang/String", "isLatin1", "()Z"⟩
abbrev yB : ByteArray := jdk_42_method_154_code
theorem d0 : decode yB 0 = .ok (.getstatic 38, 3) := by decide +kernel
theorem d3 : decode yB 3 = .ok (.ifCond (.eq) 14, 3) := by decide +kernel
theorem d6 : decode yB 6 = .ok (.aload_n 0, 1) := by decide +kernel
theorem d7 : decode yB 7 = .ok (.getfield 15, 3) := by decide +kernel
theorem d10 : decode yB 10 = .ok (.ifCond (.ne) 7, 3) := by decide +kernel
theorem d13 : decode yB 13 = .ok (.iconst 1, 1) := by decide +kernel
theorem d14 : decode yB 14 = .ok (.goto 4, 3) := by decide +kernel
theorem d17 : decode yB 17 = .ok (.iconst 0, 1) := by decide +kernel
theorem d18 : decode yB 18 = .ok (.ireturn, 1) := by decide +kernel
def site : List Cond := [.fieldLink "java/lang/String" 38 "java/lang/String" "COMPACT_STRINGS" "Z", .fieldLink "java/lang/String" 15 "java/lang/String" "coder" "B"]
def tab : Cond := tabOf yN yB 1 (some .boolean) site
def P (x : Addr) (cd z : Int32) (args : Array Value) (s : State) : Prop := args = #[.ref x] ∧ Has x "java/lang/String" "coder" "B" (.int cd) s ∧ (cd = 0 ∨ cd = 1) ∧ StaticIs s "java/lang/String" "COMPACT_STRINGS" "Z" (.int z) ∧ ¬ z = 0
def E (cd : Int32) (r : Option Value) (s u : State) : Prop := XT.PureE (some (.int (1 - cd))) r s u
theorem law (l : Launch) (x : Addr) (cd z : Int32) : Law l yN 1 0 0 0 yB 1 (some .boolean) site (P x cd z) (E cd) [] 0 0 := by
  refine Law.of_walk (plainFor_of_name (by decide +kernel)) (by decide +kernel) (by decide +kernel) (by decide) (fun _ _ h => by rw [h.1]; rfl) (fun _ U U' hal hh h => ⟨h.1, h.2.1.mv hal hh, h.2.2.1, h.2.2.2.1.there hal hh, h.2.2.2.2⟩) (fun r U U' V V' h1 hal h2 h => XT.PureE.mv r U U' V V' h1 hal h2 h) ?_
  intro p e s m args below meth c s₁ X0 hexec hbytes hml hret hlk hnm hown hh0 W hP
  obtain ⟨rfl, hx, hc, s1, hz⟩ := hP
  have c1 : Steps p.tables e below (s₁.setTop (entryFrame m #[.ref x] 1)) (s₁.setTop (mkF m 0 #[.val (.ref x)] [])) := entry rfl
  obtain ⟨T2, X2, q2, st2⟩ := X0.sget hexec hown (wk W (.fieldLink "java/lang/String" 38 "java/lang/String" "COMPACT_STRINGS" "Z")) s1 (fun _ _ h => by rw [hh0]; exact h) (g := (mkF m 0 #[.val (.ref x)] [])) rfl (hb hbytes d0)
  have hh2 := q2.trans hh0
  have c3 : Steps p.tables e below (s₁.setTop (entryFrame m #[.ref x] 1)) (T2.setTop (mkF m 7 #[.val (.ref x)] [.ref x])) := (c1.trans (st2 _ (Steps.refl _))).trans (by
    refine XS.ifNo X2.here hexec rfl (hb hbytes d3) rfl (i0_eq_f hz) ?_
    refine XS.aloadN X2.here hexec rfl (hb hbytes d6) rfl rfl ?_
    exact Steps.refl _)
  obtain ⟨T4, X4, q4, st4⟩ := X2.hget hexec hown (wk W (.fieldLink "java/lang/String" 15 "java/lang/String" "coder" "B")) (hx.mv X2.warmed.alike hh2) (g := (mkF m 7 #[.val (.ref x)] [.ref x])) rfl (rest := []) rfl (hb hbytes d7)
  have c5 : Steps p.tables e below (s₁.setTop (entryFrame m #[.ref x] 1)) (T4.setTop (mkF m 10 #[.val (.ref x)] [.int cd])) := c3.trans (st4 _ (Steps.refl _))
  have c6 : Steps p.tables e below (s₁.setTop (entryFrame m #[.ref x] 1)) (T4.setTop (mkF m 18 #[.val (.ref x)] [.int (1 - cd)])) := by
    rcases hc with rfl | rfl
    · exact c5.trans (by
        refine XS.ifNo X4.here hexec rfl (hb hbytes d10) rfl (i0_ne_f rfl) ?_
        refine iconstV X4.here hexec rfl 1 (hb hbytes d13) (by decide) ?_
        refine XS.goto X4.here hexec rfl (pc0 := 14) rfl (hb hbytes d14) (by decide) rfl ?_
        exact Steps.refl _)
    · exact c5.trans (by
        refine XS.ifYes X4.here hexec rfl (pc0 := 10) rfl (hb hbytes d10) rfl (i0_ne_t (by decide)) (by decide) rfl ?_
        refine iconstV X4.here hexec rfl 0 (hb hbytes d17) (by decide) ?_
        exact Steps.refl _)
  exact ⟨T4, some (.int (1 - cd)), _, _, _, X4, rfl, rfl, rfl, (fun h => by cases h), ⟨rfl, q4.trans hh2⟩, fun fs hl => c6.trans (X4.ireturnOut hexec hret (by rcases hc with rfl | rfl <;> rfl) (Or.inr (Or.inl rfl)) (hb hbytes d18) hl)⟩
end IsL
namespace LChA
def yN : MethodName := ⟨"java/lang/StringLatin1", "charAt", "([BI)C"⟩
abbrev yB : ByteArray := jdk_43_method_2_code
theorem d0 : decode yB 0 = .ok (.iload_n 1, 1) := by decide +kernel
theorem d1 : decode yB 1 = .ok (.aload_n 0, 1) := by decide +kernel
theorem d2 : decode yB 2 = .ok (.arraylength, 1) := by decide +kernel
theorem d3 : decode yB 3 = .ok (.invokestatic 9, 3) := by decide +kernel
theorem d6 : decode yB 6 = .ok (.aload_n 0, 1) := by decide +kernel
theorem d7 : decode yB 7 = .ok (.iload_n 1, 1) := by decide +kernel
theorem d8 : decode yB 8 = .ok (.baload, 1) := by decide +kernel
theorem d9 : decode yB 9 = .ok (.sipush 255, 3) := by decide +kernel
theorem d12 : decode yB 12 = .ok (.iand, 1) := by decide +kernel
theorem d13 : decode yB 13 = .ok (.i2c, 1) := by decide +kernel
theorem d14 : decode yB 14 = .ok (.ireturn, 1) := by decide +kernel
def site : List Cond := [JO.Str_checkIndex.tab] ++ staticW "java/lang/StringLatin1" 9 JO.Str_checkIndex.yN
def tab : Cond := tabOf yN yB 2 (some .char) site
def P (t : Addr) (V : Cell) (i : Nat) (u : Int32) (fm : Value) (args : Array Value) (s : State) : Prop := args = #[.ref t, .int (Int32.ofNat i)] ∧ XT.Arr .byte t V s ∧ V.slots[i]? = some (.int u) ∧ (StaticIs s "jdk/internal/util/Preconditions" "SIOOBE_FORMATTER" "Ljava/util/function/BiFunction;" fm ∧ fm.isRef = true)
def E (u : Int32) (r : Option Value) (s w : State) : Prop := XT.PureE (some (.int (chr8 u))) r s w
theorem law (l : Launch) (t : Addr) (V : Cell) (i : Nat) (u : Int32) (fm : Value) : Law l yN 2 2 2 27 yB 2 (some .char) site (P t V i u fm) (E u) [] 0 0 := by
  refine Law.of_walk (plainFor_of_name (by decide +kernel)) (by decide +kernel) (by decide +kernel) (by decide) (fun _ _ h => by rw [h.1]; rfl) (fun _ U U' hal hh h => ⟨h.1, h.2.1.mv hal hh, h.2.2.1, h.2.2.2.1.there hal hh, h.2.2.2.2⟩) (fun r U U' V V' h1 hal h2 h => XT.PureE.mv r U U' V V' h1 hal h2 h) ?_
  intro p e s m args below meth c s₁ X0 hexec hbytes hml hret hlk hnm hown hh0 W hP
  obtain ⟨rfl, hV, hu, s1, rf⟩ := hP
  have v31 := hV.2.2.2
  have hi : i < V.slots.size := (Array.getElem?_eq_some_iff.mp hu).1
  have c1 : Steps p.tables e below (s₁.setTop (entryFrame m #[.ref t, .int (Int32.ofNat i)] 2)) (s₁.setTop (mkF m 0 #[.val (.ref t), .val (.int (Int32.ofNat i))] [])) := entry rfl
  have c2 : Steps p.tables e below (s₁.setTop (entryFrame m #[.ref t, .int (Int32.ofNat i)] 2)) (s₁.setTop (mkF m 3 #[.val (.ref t), .val (.int (Int32.ofNat i))] [.int (Int32.ofNat V.slots.size), .int (Int32.ofNat i)])) := c1.trans (by
    refine XS.iloadN X0.here hexec rfl (hb hbytes d0) rfl ?_
    refine XS.aloadN X0.here hexec rfl (hb hbytes d1) rfl rfl ?_
    refine X0.alen hexec (hV.mv X0.warmed.alike hh0) rfl rfl (hb hbytes d2) ?_
    exact Steps.refl _)
  obtain ⟨v3, T3, X3, E3, g3⟩ := X0.callS hexec (JO.Str_checkIndex.law l (Int32.ofNat i) (Int32.ofNat V.slots.size) fm) hown (wks W (staticW "java/lang/StringLatin1" 9 JO.Str_checkIndex.yN)) (wk W JO.Str_checkIndex.tab) (W := 0) (Nat.le_of_ble_eq_true rfl) (Nat.le_of_ble_eq_true rfl) (Nat.le_refl _) (Nat.le_refl _) (g := (mkF m 3 #[.val (.ref t), .val (.int (Int32.ofNat i))] [.int (Int32.ofNat V.slots.size), .int (Int32.ofNat i)])) rfl (by rw [hml]; rfl) c2 (argsL := [.int (Int32.ofNat i), .int (Int32.ofNat V.slots.size)]) (rest := []) rfl rfl (by show 2 * 0 + 0 ≤ _; decide) (hb hbytes d3) (⟨rfl, rf, s1.there X0.warmed.alike hh0, Int32.ofNat_not_neg (by omega), lt32 v31 hi⟩)
  obtain ⟨rfl, q3⟩ := E3
  have hh3 := q3.trans hh0
  have c4 : Steps p.tables e below (s₁.setTop (entryFrame m #[.ref t, .int (Int32.ofNat i)] 2)) (T3.setTop (mkF m 14 #[.val (.ref t), .val (.int (Int32.ofNat i))] [.int (chr8 u)])) := Steps.trans g3 (by
    refine XS.aloadN X3.here hexec rfl (hb hbytes d6) rfl rfl ?_
    refine XS.iloadN X3.here hexec rfl (hb hbytes d7) rfl ?_
    refine X3.aget hexec (hV.mv X3.warmed.alike hh3) rfl hu rfl rfl (hb hbytes d8) ?_
    refine sipushV X3.here hexec rfl 255 (hb hbytes d9) (by decide) ?_
    refine XS.iand X3.here hexec rfl (hb hbytes d12) rfl ?_
    refine i2c X3.here hexec rfl (hb hbytes d13) rfl ?_
    exact Steps.refl _)
  exact ⟨T3, some (.int (chr8 u)), _, _, _, X3, rfl, rfl, rfl, (fun h => by cases h), ⟨rfl, hh3⟩, fun fs hl => c4.trans (X3.ireturnOut hexec hret (narrow_c _) (Or.inr (Or.inr (Or.inr (Or.inl rfl)))) (hb hbytes d14) hl)⟩
end LChA
end StrChars
namespace StrChars.Road
open Jvm Sem ClassFile Op Lib Jvm.Stand Jvm.Free Jvm.Free.XT
open Jvm.Lib.Cold (StaticIs)
theorem consq {a : Array Value} {s : State} {c : Jvm.Cond} {L : List Jvm.Cond} (h0 : c.before a s = true) (h : ∀ w ∈ L, w.before a s = true) : ∀ w ∈ c :: L, w.before a s = true := fun w hw => (List.mem_cons.mp hw).elim (fun e => e ▸ h0) (h w)
/-- the words of String.length(), either coding -/
abbrev wordsLen : List Jvm.Cond := [.code Len.yN Len.yB 1 (some .int), .initialized ST, .fieldLink ST 9 ST "value" "[B", .fieldLink ST 38 ST "COMPACT_STRINGS" "Z", .fieldLink ST 15 ST "coder" "B", .code Cdr.yN Cdr.yB 1 (some .byte), .methodLink ST 335 Cdr.yN, .declares Cdr.yN, .selects ST Cdr.yN Cdr.yN, .instanceMethod Cdr.yN]
theorem tabLen_of {a : Array Value} {s : State} (h : ∀ w ∈ wordsLen, w.before a s = true) : Len.tab.before a s = true := by
  have hc : Cdr.tab.before a s = true := unparts (wk h (.code Cdr.yN Cdr.yB 1 (some .byte))) (wks h (.initialized Cdr.yN.cls :: Cdr.site))
  have q := consq hc h
  exact unparts (wk q (.code Len.yN Len.yB 1 (some .int))) (wks q (.initialized Len.yN.cls :: Len.site))
theorem movedLen {Z s : State} {a0 args : Array Value} (hZ : Z.Warmed39 s.vm) (hw : ∀ d ∈ wordsLen, d.before a0 Z = true) : ∀ d ∈ wordsLen, d.before args s = true := fun d hd => by
  have q := hw d hd
  have t : ∀ d ∈ wordsLen, d = .arrayClass .byte ∨ (d.onTables && d.keepsFace) = true := by decide +kernel
  rcases t d hd with rfl | t
  · exact RoadKit.mvA hZ q
  · exact RoadKit.mv hZ q t
/-- the bytes of the chars cs, low before high -/
def wideBytes : List Int32 → List Value
  | [] => []
  | c :: cs => .int (lo8 c) :: .int (hi8 c) :: wideBytes cs
theorem wide_lo (d : Value) : ∀ (cs : List Int32) (j : Nat), j < cs.length → (wideBytes cs).getD (2 * j) d = .int (lo8 (cs.getD j 0))
  | [], j, h => absurd h (Nat.not_lt_zero j)
  | c :: cs, 0, _ => rfl
  | c :: cs, j + 1, h => by
    have q := wide_lo d cs j (by simpa using h)
    rw [show 2 * (j + 1) = 2 * j + 1 + 1 from by omega]
    simpa [wideBytes] using q
theorem wide_hi (d : Value) : ∀ (cs : List Int32) (j : Nat), j < cs.length → (wideBytes cs).getD (2 * j + 1) d = .int (hi8 (cs.getD j 0))
  | [], j, h => absurd h (Nat.not_lt_zero j)
  | c :: cs, 0, _ => rfl
  | c :: cs, j + 1, h => by
    have q := wide_hi d cs j (by simpa using h)
    rw [show 2 * (j + 1) + 1 = 2 * j + 1 + 1 + 1 from by omega]
    simpa [wideBytes] using q
theorem low_at (d : Value) (cs : List Int32) (j : Nat) (h : j < cs.length) : (cs.map fun c => Value.int (lo8 c)).getD j d = .int (lo8 (cs.getD j 0)) := by
  simp [List.getD_eq_getElem?_getD, h]
/-- an array of N2 bytes vs codes the chars cs by the coder cd -/
def CodA (cs : List Int32) (cd N2 : Int32) (vs : List Value) : Prop := (cd = 0 ∧ N2 = Int32.ofNat cs.length ∧ vs = (cs.map fun c => Value.int (lo8 c)) ∧ ∀ c ∈ cs, ¬ 255 < c) ∨ (cd = 1 ∧ N2 = Int32.ofNat (2 * cs.length) ∧ vs = wideBytes cs ∧ ∃ c ∈ cs, 255 < c)
theorem CodA.cod {cs : List Int32} {cd N2 : Int32} {vs : List Value} {V : Cell} (h : CodA cs cd N2 vs) (hn : 2 * cs.length < 2 ^ 31) (hs : V.slots.size = N2.toNatClampNeg) (hv : RoadKit.Has V vs (.int 0)) : Cod cd cs.length (fun j => cs.getD j 0) V := by
  rcases h with ⟨rfl, rfl, rfl, h⟩ | ⟨rfl, rfl, rfl, c, hc, hw⟩
  · rw [n32 (by omega)] at hs
    exact Or.inl ⟨rfl, hs, fun j hj => ⟨by rw [hv j (by omega), low_at _ _ _ hj], by
      have e : cs.getD j 0 = cs[j] := by simp [List.getD_eq_getElem?_getD, hj]
      show ¬ 255 < cs.getD j 0
      rw [e]; exact h _ (List.getElem_mem _)⟩⟩
  · rw [n32 (by omega)] at hs
    obtain ⟨j, hj, rfl⟩ := List.getElem_of_mem hc
    exact Or.inr ⟨rfl, hs, fun j hj => ⟨by rw [hv _ (by omega), wide_lo _ _ _ hj], by rw [hv _ (by omega), wide_hi _ _ _ hj]⟩, j, hj, by
      have e : cs.getD j 0 = cs[j] := by simp [List.getD_eq_getElem?_getD, hj]
      show 255 < cs.getD j 0
      rw [e]; exact hw⟩
/-- an object of exactly java/lang/String, its two fields found: as the laws ask it -/
theorem strObj {Z U : State} {a0 : Array Value} {kI : Nat} (wi : (Jvm.Cond.instantiable ST kI).before a0 Z = true) (al : Z.vm.Alike U.vm) {x : Addr} {v0 c0 : Value} (E : RoadKit.Exa Z U.heap x ST) (V : RoadKit.Fld Z U.heap x ST "value" "[B" v0) (C : RoadKit.Fld Z U.heap x ST "coder" "B" c0) :
    ∃ (D : Cell) (fV fC : Field), Blank ST x D U ∧ Found ST "value" "[B" fV U ∧ Found ST "coder" "B" fC U ∧ D.slots[fV.slot]? = some v0 ∧ D.slots[fC.slot]? = some c0 ∧ RoadKit.slotOf Z ST "value" "[B" = fV.slot ∧ RoadKit.slotOf Z ST "coder" "B" = fC.slot := by
  obtain ⟨D, cfV, kV, iV, fV, hD, gV, stV, knV, obV, asV, slV⟩ := V
  obtain ⟨D', cfC, kC, iC, fC, hD', gC, stC, -, -, asC, slC⟩ := C
  cases hD.symm.trans hD'
  obtain ⟨D2, kD, e1, e2, e3, e4, e5⟩ := E
  cases hD.symm.trans e1
  obtain ⟨c2, k2, i1, i2, i3, -⟩ := Cond.instantiable_spec wi
  cases e2.symm.trans i1
  cases e3.symm.trans i2
  obtain ⟨kU, u1, u2⟩ := al.2.2 _ _ e3
  exact ⟨D, fV, fC, ⟨hD, ⟨knV, fun q hq => by rw [hq] at obV; cases obV⟩, by rw [al.findClass]; exact e2, kU, u1, by rw [u2]; exact i3, by rw [u2]; exact e5 i3⟩, ⟨SBG.found_only al ⟨cfV, kV, iV, gV⟩, stV⟩, ⟨SBG.found_only al ⟨cfC, kC, iC, gC⟩, stC⟩, slV, slC, by simp [RoadKit.slotOf, gV], by simp [RoadKit.slotOf, gC]⟩
theorem sta_is {Z U : State} (al : Z.vm.Alike U.vm) {C n d : String} {v : Value} (S : RoadKit.Sta Z U.heap C n d v) : StaticIs U C n d v := by
  obtain ⟨cfS, iS, kS, fS, st, cS, t1, t2, t3, t4, t5, t6, t7⟩ := S
  exact StaticIs.there (s := { Z with heap := U.heap }) ⟨cfS, iS, kS, fS, st, cS, t1, t2, t3, t4, t5, (fun q => by rw [q] at t6; cases t6), t7⟩ al rfl
/-- **length() OF SUCH A STRING** -/
theorem lenW {p : Program} {l : Launch} {e : Env} {R : Room} {s : State} {args : Array Value} {below : List Frame} {len W : Nat} {Z : State} {a0 : Array Value} {h : Heap} (hZ : Z.Warmed39 s.vm) (hw : ∀ d ∈ wordsLen, d.before a0 Z = true) {kI : Nat} (wi : (Jvm.Cond.instantiable ST kI).before a0 Z = true)
    {x t : Addr} {kb : ClassId} {cs : List Int32} {cd N2 z : Int32} {vs : List Value} (E : RoadKit.Exa Z h x ST) (V : RoadKit.Fld Z h x ST "value" "[B" (.ref t)) (C : RoadKit.Fld Z h x ST "coder" "B" (.int cd)) (K : RoadKit.Arv Z h t kb .byte N2 vs (.int 0)) (hc : CodA cs cd N2 vs) (hb : ∀ c ∈ cs, ¬ c < 0 ∧ ¬ (65535 : Int32) < c)
    (S : RoadKit.Sta Z h ST "COMPACT_STRINGS" "Z" (.int z)) (hz : ¬ z = 0) (l2 : cs.length ≤ 4000) (hfr : 2 ≤ R.frames) (hlo : W + 25 ≤ R.locals) :
    Back l R p e below s args (⟨"java/lang/String", "length", "()I"⟩ : MethodName) len W (fun P a => a = #[.ref x] ∧ P.U.heap = h ∧ P.cells + 0 ≤ R.cells ∧ P.slots + 0 ≤ R.slots)
      (fun P _ v B => ∃ L, (v = some (.int (Int32.ofNat cs.length)) ∧ L = [] ∧ B.U.heap = h) ∧ B.locs = P.locs ++ L ∧ B.cells = P.cells + 0 ∧ B.slots = P.slots + 0) := by
  obtain ⟨A, K1, K2, K3, K4, K5, K6⟩ := K
  have hcod := hc.cod (by omega) K3 K5
  intro m meth c P g ig mk a X hg hsize hdg hW hn hp'
  obtain ⟨rfl, rfl, r1, r2⟩ := hp'
  have al : Z.vm.Alike P.U.vm := hZ.alike.trans X.warmed.alike
  obtain ⟨D, fV, fC, hB, F1, F2, g1, g2, -, -⟩ := strObj wi al E V C
  have hx : Txt x t A cd cs.length (fun j => cs.getD j 0) P.U := ⟨⟨_, hB.2.2.1, D, hB.1, rfl, by cases q : D.vm <;> first | rfl | exact absurd q (hB.2.1.2 _)⟩, Has.of hB F1 g1, Has.of hB F2 g2, ⟨K1.1, State.isArrayOf_alike al K1.2.1, K1.2.2, by rcases hcod with ⟨-, q, -⟩ | ⟨-, q, -⟩ <;> omega⟩, hcod, fun j hj => by
    have e : cs.getD j 0 = cs[j] := by simp [List.getD_eq_getElem?_getD, hj]
    show ¬ cs.getD j 0 < 0 ∧ ¬ 65535 < cs.getD j 0
    rw [e]; exact hb _ (List.getElem_mem _)⟩
  obtain ⟨v, B, X', ⟨⟨hv, hh⟩, hl, hk, hs⟩, st⟩ := Len.pays x t A cd cs.length (fun j => cs.getD j 0) z (tabLen_of (movedLen hZ hw)) hfr hlo m meth c P g ig mk _ X hg hsize hdg hW hn ⟨r1, r2, rfl, hx, sta_is al S, hz⟩
  exact ⟨v, B, X', ⟨[], ⟨hv, rfl, hh⟩, hl, hk, hs⟩, st⟩
end StrChars.Road
namespace StrChars
open Jvm Sem ClassFile Op Lib Jvm.Stand Jvm.Free.XT Jvm.Free.ALB Jvm.Free.JM Jvm.Free
open Jvm.Lib.Cold (StaticIs)
namespace Emp
def yN : MethodName := ⟨"java/lang/String", "isEmpty", "()Z"⟩
abbrev yB : ByteArray := jdk_42_method_55_code
theorem d0 : decode yB 0 = .ok (.aload_n 0, 1) := by decide +kernel
theorem d1 : decode yB 1 = .ok (.getfield 9, 3) := by decide +kernel
theorem d4 : decode yB 4 = .ok (.arraylength, 1) := by decide +kernel
theorem d5 : decode yB 5 = .ok (.ifCond (.ne) 7, 3) := by decide +kernel
theorem d8 : decode yB 8 = .ok (.iconst 1, 1) := by decide +kernel
theorem d9 : decode yB 9 = .ok (.goto 4, 3) := by decide +kernel
theorem d12 : decode yB 12 = .ok (.iconst 0, 1) := by decide +kernel
theorem d13 : decode yB 13 = .ok (.ireturn, 1) := by decide +kernel
def site : List Cond := [.fieldLink "java/lang/String" 9 "java/lang/String" "value" "[B"]
def tab : Cond := tabOf yN yB 1 (some .boolean) site
def P (x t : Addr) (V : Cell) (cd : Int32) (n : Nat) (f : Nat → Int32) (args : Array Value) (s : State) : Prop := args = #[.ref x] ∧ Txt x t V cd n f s
def E (n : Nat) (r : Option Value) (s u : State) : Prop := XT.PureE (some (.int (if n = 0 then 1 else 0))) r s u
/-- isEmpty() of a String of n chars -/
theorem law (l : Launch) (x t : Addr) (V : Cell) (cd : Int32) (n : Nat) (f : Nat → Int32) : Law l yN 1 0 0 0 yB 1 (some .boolean) site (P x t V cd n f) (E n) [] 0 0 := by
  refine Law.of_walk (plainFor_of_name (by decide +kernel)) (by decide +kernel) (by decide +kernel) (by decide) (fun _ _ h => by rw [h.1]; rfl) (fun _ U U' hal hh h => ⟨h.1, h.2.mv hal hh⟩) (fun r U U' V V' h1 hal h2 h => XT.PureE.mv r U U' V V' h1 hal h2 h) ?_
  intro p e s m args below meth c s₁ X0 hexec hbytes hml hret hlk hnm hown hh0 W hP
  obtain ⟨rfl, hx⟩ := hP
  have v31 := hx.2.2.2.1.2.2.2
  have c1 : Steps p.tables e below (s₁.setTop (entryFrame m #[.ref x] 1)) (s₁.setTop (mkF m 1 #[.val (.ref x)] [.ref x])) := Steps.trans (entry rfl) (by
    show Steps p.tables e below (s₁.setTop (mkF m 0 #[.val (.ref x)] [])) _
    refine XS.aloadN X0.here hexec rfl (hb hbytes d0) rfl rfl ?_
    exact Steps.refl _)
  obtain ⟨T2, X2, q2, st2⟩ := X0.hget hexec hown (wk W (.fieldLink "java/lang/String" 9 "java/lang/String" "value" "[B")) (hx.mv X0.warmed.alike hh0).2.1 (g := (mkF m 1 #[.val (.ref x)] [.ref x])) rfl (rest := []) rfl (hb hbytes d1)
  have hh2 := q2.trans hh0
  have hx2 := hx.mv X2.warmed.alike hh2
  have c3 : Steps p.tables e below (s₁.setTop (entryFrame m #[.ref x] 1)) (T2.setTop (mkF m 5 #[.val (.ref x)] [.int (Int32.ofNat V.slots.size)])) := (c1.trans (st2 _ (Steps.refl _))).trans (by
    refine X2.alen hexec hx2.2.2.2.1 rfl rfl (hb hbytes d4) ?_
    exact Steps.refl _)
  have hz : V.slots.size = 0 ↔ n = 0 := by
    rcases hx.2.2.2.2.1 with ⟨-, q, -⟩ | ⟨-, q, -⟩ <;> omega
  by_cases h0 : n = 0
  · have c4 : Steps p.tables e below (s₁.setTop (entryFrame m #[.ref x] 1)) (T2.setTop (mkF m 13 #[.val (.ref x)] [.int 1])) := c3.trans (by
      refine XS.ifNo X2.here hexec rfl (hb hbytes d5) rfl (i0_ne_f (by rw [hz.mpr h0]; rfl)) ?_
      refine iconstV X2.here hexec rfl 1 (hb hbytes d8) (by decide) ?_
      refine XS.goto X2.here hexec rfl (pc0 := 9) rfl (hb hbytes d9) (by decide) rfl ?_
      exact Steps.refl _)
    exact ⟨T2, some (.int 1), _, _, _, X2, rfl, rfl, rfl, (fun h => by cases h), ⟨by rw [if_pos h0], hh2⟩, fun fs hl => c4.trans (X2.ireturnOut hexec hret rfl (Or.inr (Or.inl rfl)) (hb hbytes d13) hl)⟩
  · have c4 : Steps p.tables e below (s₁.setTop (entryFrame m #[.ref x] 1)) (T2.setTop (mkF m 13 #[.val (.ref x)] [.int 0])) := c3.trans (by
      refine XS.ifYes X2.here hexec rfl (pc0 := 5) rfl (hb hbytes d5) rfl (i0_ne_t (nz32 v31 (by omega))) (by decide) rfl ?_
      refine iconstV X2.here hexec rfl 0 (hb hbytes d12) (by decide) ?_
      exact Steps.refl _)
    exact ⟨T2, some (.int 0), _, _, _, X2, rfl, rfl, rfl, (fun h => by cases h), ⟨by rw [if_neg h0], hh2⟩, fun fs hl => c4.trans (X2.ireturnOut hexec hret rfl (Or.inr (Or.inl rfl)) (hb hbytes d13) hl)⟩
theorem pays {l : Launch} {R : Room} {p : Program} {e : Env} {below : List Frame} {s : State} {sargs : Array Value} {len W : Nat} (x t : Addr) (V : Cell) (cd : Int32) (n : Nat) (f : Nat → Int32) (htab : tab.before sargs s = true) (hfr : 1 ≤ R.frames) (hlo : W + 12 ≤ R.locals) :
    Back l R p e below s sargs yN len W (fun A₁ a₁ => A₁.cells + 0 ≤ R.cells ∧ A₁.slots + 0 ≤ R.slots ∧ P x t V cd n f a₁ A₁.U) (fun A₁ _ v₁ B₁ => E n v₁ A₁.U B₁.U ∧ B₁.locs = A₁.locs ++ [] ∧ B₁.cells = A₁.cells + 0 ∧ B₁.slots = A₁.slots + 0) :=
  (law l x t V cd n f).pays htab hfr (by omega)
end Emp
end StrChars
namespace StrChars.Road
open Jvm Sem ClassFile Op Lib Jvm.Stand Jvm.Free Jvm.Free.XT
open Jvm.Lib.Cold (StaticIs)
/-- the words of String.isEmpty() -/
abbrev wordsEmp : List Jvm.Cond := [.code Emp.yN Emp.yB 1 (some .boolean), .initialized ST, .fieldLink ST 9 ST "value" "[B"]
theorem tabEmp_of {a : Array Value} {s : State} (h : ∀ w ∈ wordsEmp, w.before a s = true) : Emp.tab.before a s = true := unparts (wk h (.code Emp.yN Emp.yB 1 (some .boolean))) (wks h (.initialized Emp.yN.cls :: Emp.site))
theorem movedEmp {Z s : State} {a0 args : Array Value} (hZ : Z.Warmed39 s.vm) (hw : ∀ d ∈ wordsEmp, d.before a0 Z = true) : ∀ d ∈ wordsEmp, d.before args s = true := fun d hd => by
  have t : ∀ d ∈ wordsEmp, (d.onTables && d.keepsFace) = true := by decide +kernel
  exact RoadKit.mv hZ (hw d hd) (t d hd)
/-- the road's facts of a String, as the laws ask it -/
theorem txt_of {Z U : State} {a0 : Array Value} {kI : Nat} (wi : (Jvm.Cond.instantiable ST kI).before a0 Z = true) (al : Z.vm.Alike U.vm) {x t : Addr} {kb : ClassId} {cs : List Int32} {cd N2 : Int32} {vs : List Value} (E : RoadKit.Exa Z U.heap x ST) (V : RoadKit.Fld Z U.heap x ST "value" "[B" (.ref t)) (C : RoadKit.Fld Z U.heap x ST "coder" "B" (.int cd)) (K : RoadKit.Arv Z U.heap t kb .byte N2 vs (.int 0)) (hc : CodA cs cd N2 vs) (hb : ∀ c ∈ cs, ¬ c < 0 ∧ ¬ (65535 : Int32) < c) (l2 : cs.length ≤ 4000) :
    ∃ A, Txt x t A cd cs.length (fun j => cs.getD j 0) U := by
  obtain ⟨A, K1, K2, K3, K4, K5, K6⟩ := K
  have hcod := hc.cod (by omega) K3 K5
  obtain ⟨D, fV, fC, hB, F1, F2, g1, g2, -, -⟩ := strObj wi al E V C
  exact ⟨A, ⟨_, hB.2.2.1, D, hB.1, rfl, by cases q : D.vm <;> first | rfl | exact absurd q (hB.2.1.2 _)⟩, Has.of hB F1 g1, Has.of hB F2 g2, ⟨K1.1, State.isArrayOf_alike al K1.2.1, K1.2.2, by rcases hcod with ⟨-, q, -⟩ | ⟨-, q, -⟩ <;> omega⟩, hcod, fun j hj => by
    have e : cs.getD j 0 = cs[j] := by simp [List.getD_eq_getElem?_getD, hj]
    show ¬ cs.getD j 0 < 0 ∧ ¬ 65535 < cs.getD j 0
    rw [e]; exact hb _ (List.getElem_mem _)⟩
/-- **isEmpty() OF SUCH A STRING** -/
theorem empW {p : Program} {l : Launch} {e : Env} {R : Room} {s : State} {args : Array Value} {below : List Frame} {len W : Nat} {Z : State} {a0 : Array Value} {h : Heap} (hZ : Z.Warmed39 s.vm) (hw : ∀ d ∈ wordsEmp, d.before a0 Z = true) {kI : Nat} (wi : (Jvm.Cond.instantiable ST kI).before a0 Z = true)
    {x t : Addr} {kb : ClassId} {cs : List Int32} {cd N2 : Int32} {vs : List Value} (E : RoadKit.Exa Z h x ST) (V : RoadKit.Fld Z h x ST "value" "[B" (.ref t)) (C : RoadKit.Fld Z h x ST "coder" "B" (.int cd)) (K : RoadKit.Arv Z h t kb .byte N2 vs (.int 0)) (hc : CodA cs cd N2 vs) (hb : ∀ c ∈ cs, ¬ c < 0 ∧ ¬ (65535 : Int32) < c) (l2 : cs.length ≤ 4000) (hfr : 1 ≤ R.frames) (hlo : W + 12 ≤ R.locals) :
    Back l R p e below s args (⟨"java/lang/String", "isEmpty", "()Z"⟩ : MethodName) len W (fun P a => a = #[.ref x] ∧ P.U.heap = h ∧ P.cells + 0 ≤ R.cells ∧ P.slots + 0 ≤ R.slots)
      (fun P _ v B => ∃ L, (v = some (.int (if cs.length = 0 then 1 else 0)) ∧ L = [] ∧ B.U.heap = h) ∧ B.locs = P.locs ++ L ∧ B.cells = P.cells + 0 ∧ B.slots = P.slots + 0) := by
  intro m meth c P g ig mk a X hg hsize hdg hW hn hp'
  obtain ⟨rfl, rfl, r1, r2⟩ := hp'
  have al : Z.vm.Alike P.U.vm := hZ.alike.trans X.warmed.alike
  obtain ⟨A, hx⟩ := txt_of wi al E V C K hc hb l2
  obtain ⟨v, B, X', ⟨⟨hv, hh⟩, hl, hk, hs⟩, st⟩ := Emp.pays x t A cd cs.length (fun j => cs.getD j 0) (tabEmp_of (movedEmp hZ hw)) hfr hlo m meth c P g ig mk _ X hg hsize hdg hW hn ⟨r1, r2, rfl, hx⟩
  exact ⟨v, B, X', ⟨[], ⟨hv, rfl, hh⟩, hl, hk, hs⟩, st⟩
end StrChars.Road
namespace StrChars
open Jvm Sem ClassFile Op Lib Jvm.Stand Jvm.Free.XT Jvm.Free.ALB Jvm.Free.JM Jvm.Free
open Jvm.Lib.Cold (StaticIs)
namespace ChN
def yN : MethodName := ⟨"java/lang/String", "charAt", "(I)C"⟩
abbrev yB : ByteArray := jdk_42_method_56_code
theorem d0 : decode yB 0 = .ok (.aload_n 0, 1) := by decide +kernel
theorem d1 : decode yB 1 = .ok (.invokevirtual 492, 3) := by decide +kernel
theorem d4 : decode yB 4 = .ok (.ifCond (.eq) 12, 3) := by decide +kernel
theorem d7 : decode yB 7 = .ok (.aload_n 0, 1) := by decide +kernel
theorem d8 : decode yB 8 = .ok (.getfield 9, 3) := by decide +kernel
theorem d11 : decode yB 11 = .ok (.iload_n 1, 1) := by decide +kernel
theorem d12 : decode yB 12 = .ok (.invokestatic 495, 3) := by decide +kernel
theorem d15 : decode yB 15 = .ok (.ireturn, 1) := by decide +kernel
def site : List Cond := [.fieldLink "java/lang/String" 9 "java/lang/String" "value" "[B", IsL.tab, LChA.tab] ++ virtW "java/lang/String" 492 "java/lang/String" IsL.yN IsL.yN ++ staticW "java/lang/String" 495 LChA.yN
def tab : Cond := tabOf yN yB 2 (some .char) site
def P (x t : Addr) (V : Cell) (n : Nat) (f : Nat → Int32) (z : Int32) (fm : Value) (i : Nat) (args : Array Value) (s : State) : Prop := args = #[.ref x, .int (Int32.ofNat i)] ∧ Txt x t V 0 n f s ∧ i < n ∧ StaticIs s "java/lang/String" "COMPACT_STRINGS" "Z" (.int z) ∧ ¬ z = 0 ∧ StaticIs s "jdk/internal/util/Preconditions" "SIOOBE_FORMATTER" "Ljava/util/function/BiFunction;" fm ∧ fm.isRef = true
def E (f : Nat → Int32) (i : Nat) (r : Option Value) (s u : State) : Prop := XT.PureE (some (.int (f i))) r s u
/-- charAt(i) of a Latin-1 String of n chars, i < n: f i -/
theorem law (l : Launch) (x t : Addr) (V : Cell) (n : Nat) (f : Nat → Int32) (z : Int32) (fm : Value) (i : Nat) : Law l yN 2 1 3 40 yB 2 (some .char) site (P x t V n f z fm i) (E f i) [] 0 0 := by
  refine Law.of_walk (plainFor_of_name (by decide +kernel)) (by decide +kernel) (by decide +kernel) (by decide) (fun _ _ h => by rw [h.1]; rfl) (fun _ U U' hal hh h => ⟨h.1, h.2.1.mv hal hh, h.2.2.1, h.2.2.2.1.there hal hh, h.2.2.2.2.1, h.2.2.2.2.2.1.there hal hh, h.2.2.2.2.2.2⟩) (fun r U U' V V' h1 hal h2 h => XT.PureE.mv r U U' V V' h1 hal h2 h) ?_
  intro p e s m args below meth c s₁ X0 hexec hbytes hml hret hlk hnm hown hh0 W hP
  obtain ⟨rfl, hx, hi, s1, hz, s3, rf⟩ := hP
  have v31 := hx.2.2.2.1.2.2.2
  have hr := hx.2.2.2.2.2 i hi
  have hx0 := hx.mv X0.warmed.alike hh0
  have c1 : Steps p.tables e below (s₁.setTop (entryFrame m #[.ref x, .int (Int32.ofNat i)] 2)) (s₁.setTop (mkF m 1 #[.val (.ref x), .val (.int (Int32.ofNat i))] [.ref x])) := Steps.trans (entry rfl) (by
    show Steps p.tables e below (s₁.setTop (mkF m 0 #[.val (.ref x), .val (.int (Int32.ofNat i))] [])) _
    refine XS.aloadN X0.here hexec rfl (hb hbytes d0) rfl rfl ?_
    exact Steps.refl _)
  obtain ⟨v2, T2, X2, E2, g2⟩ := X0.callV hexec (IsL.law l x 0 z) hown (wks W (virtW "java/lang/String" 492 "java/lang/String" IsL.yN IsL.yN)) rfl (by decide) (wk W IsL.tab) (W := 0) (Nat.le_of_ble_eq_true rfl) (Nat.le_of_ble_eq_true rfl) (Nat.le_refl _) (Nat.le_refl _) (hx0.1.fc X0.warmed.alike) hx0.1.is (g := (mkF m 1 #[.val (.ref x), .val (.int (Int32.ofNat i))] [.ref x])) rfl (by rw [hml]; rfl) c1 (argsL := []) (rest := []) rfl rfl (by show 2 * 0 + 0 ≤ _; decide) (hb hbytes d1) (⟨rfl, hx0.2.2.1, hx.2.2.2.2.1.cd, s1.there X0.warmed.alike hh0, hz⟩)
  obtain ⟨rfl, q2⟩ := E2
  have hh2 := q2.trans hh0
  have hx2 := hx.mv X2.warmed.alike hh2
  obtain ⟨-, k1, k2⟩ | ⟨k0, -⟩ := hx.2.2.2.2.1
  · have c3 : Steps p.tables e below (s₁.setTop (entryFrame m #[.ref x, .int (Int32.ofNat i)] 2)) (T2.setTop (mkF m 8 #[.val (.ref x), .val (.int (Int32.ofNat i))] [.ref x])) := Steps.trans g2 (by
      refine XS.ifNo X2.here hexec rfl (hb hbytes d4) rfl (i0_eq_f (by decide)) ?_
      refine XS.aloadN X2.here hexec rfl (hb hbytes d7) rfl rfl ?_
      exact Steps.refl _)
    obtain ⟨T4, X4, q4, st4⟩ := X2.hget hexec hown (wk W (.fieldLink "java/lang/String" 9 "java/lang/String" "value" "[B")) hx2.2.1 (g := (mkF m 8 #[.val (.ref x), .val (.int (Int32.ofNat i))] [.ref x])) rfl (rest := []) rfl (hb hbytes d8)
    have hh4 := q4.trans hh2
    have c5 : Steps p.tables e below (s₁.setTop (entryFrame m #[.ref x, .int (Int32.ofNat i)] 2)) (T4.setTop (mkF m 12 #[.val (.ref x), .val (.int (Int32.ofNat i))] [.int (Int32.ofNat i), .ref t])) := (c3.trans (st4 _ (Steps.refl _))).trans (by
      refine XS.iloadN X4.here hexec rfl (hb hbytes d11) rfl ?_
      exact Steps.refl _)
    obtain ⟨v6, T6, X6, E6, g6⟩ := X4.callS hexec (LChA.law l t V i (lo8 (f i)) fm) hown (wks W (staticW "java/lang/String" 495 LChA.yN)) (wk W LChA.tab) (W := 0) (Nat.le_of_ble_eq_true rfl) (Nat.le_of_ble_eq_true rfl) (Nat.le_refl _) (Nat.le_refl _) (g := (mkF m 12 #[.val (.ref x), .val (.int (Int32.ofNat i))] [.int (Int32.ofNat i), .ref t])) rfl (by rw [hml]; rfl) c5 (argsL := [.ref t, .int (Int32.ofNat i)]) (rest := []) rfl rfl (by show 2 * 0 + 0 ≤ _; decide) (hb hbytes d12) (⟨rfl, hx.2.2.2.1.mv X4.warmed.alike hh4, (k2 i hi).1, s3.there X4.warmed.alike hh4, rf⟩)
    obtain ⟨rfl, q6⟩ := E6
    rw [chr8_lo8 hr.1 (k2 i hi).2] at g6
    exact ⟨T6, some (.int (f i)), _, _, _, X6, rfl, rfl, rfl, (fun h => by cases h), ⟨rfl, q6.trans hh4⟩, fun fs hl => Steps.trans g6 (X6.ireturnOut hexec hret (narrow_ch hr.1 hr.2) (Or.inr (Or.inr (Or.inr (Or.inl rfl)))) (hb hbytes d15) hl)⟩
  · exact absurd k0 (by decide)
theorem pays {l : Launch} {R : Room} {p : Program} {e : Env} {below : List Frame} {s : State} {sargs : Array Value} {len W : Nat} (x t : Addr) (V : Cell) (n : Nat) (f : Nat → Int32) (z : Int32) (fm : Value) (i : Nat) (htab : tab.before sargs s = true) (hfr : 4 ≤ R.frames) (hlo : W + 53 ≤ R.locals) :
    Back l R p e below s sargs yN len W (fun A₁ a₁ => A₁.cells + 0 ≤ R.cells ∧ A₁.slots + 0 ≤ R.slots ∧ P x t V n f z fm i a₁ A₁.U) (fun A₁ _ v₁ B₁ => E f i v₁ A₁.U B₁.U ∧ B₁.locs = A₁.locs ++ [] ∧ B₁.cells = A₁.cells + 0 ∧ B₁.slots = A₁.slots + 0) :=
  (law l x t V n f z fm i).pays htab hfr (by omega)
end ChN
end StrChars
namespace StrChars.Road
open Jvm Sem ClassFile Op Lib Jvm.Stand Jvm.Free Jvm.Free.XT
open Jvm.Lib.Cold (StaticIs)
/-- the words of String.charAt(int), the Latin-1 road alone -/
abbrev wordsChN : List Jvm.Cond := [.code ChN.yN ChN.yB 2 (some .char), .initialized ST, .fieldLink ST 9 ST "value" "[B", .fieldLink ST 38 ST "COMPACT_STRINGS" "Z", .fieldLink ST 15 ST "coder" "B", .code IsL.yN IsL.yB 1 (some .boolean), .methodLink ST 492 IsL.yN, .declares IsL.yN, .selects ST IsL.yN IsL.yN, .instanceMethod IsL.yN,
  .methodLink ST 495 LChA.yN, .static LChA.yN, .code LChA.yN LChA.yB 2 (some .char), .initialized "java/lang/StringLatin1", .methodLink "java/lang/StringLatin1" 9 JO.Str_checkIndex.yN, .static JO.Str_checkIndex.yN, .code JO.Str_checkIndex.yN JO.Str_checkIndex.yB 2 none,
  .fieldLink ST 1053 "jdk/internal/util/Preconditions" "SIOOBE_FORMATTER" "Ljava/util/function/BiFunction;", .methodLink ST 1059 JC.PreCheck.yN, .static JC.PreCheck.yN, .code JC.PreCheck.yN JC.PreCheck.yB 3 (some .int), .initialized "jdk/internal/util/Preconditions"]
theorem tabChN_of {a : Array Value} {s : State} (h : ∀ w ∈ wordsChN, w.before a s = true) : ChN.tab.before a s = true := by
  have hp : JC.PreCheck.tab.before a s = true := unparts (wk h (.code JC.PreCheck.yN JC.PreCheck.yB 3 (some .int))) (wks h (.initialized JC.PreCheck.yN.cls :: JC.PreCheck.site))
  have qk := consq hp h
  have hk : JO.Str_checkIndex.tab.before a s = true := unparts (wk qk (.code JO.Str_checkIndex.yN JO.Str_checkIndex.yB 2 none)) (wks qk (.initialized JO.Str_checkIndex.yN.cls :: JO.Str_checkIndex.site))
  have ql := consq hk h
  have hl : LChA.tab.before a s = true := unparts (wk ql (.code LChA.yN LChA.yB 2 (some .char))) (wks ql (.initialized LChA.yN.cls :: LChA.site))
  have hi : IsL.tab.before a s = true := unparts (wk h (.code IsL.yN IsL.yB 1 (some .boolean))) (wks h (.initialized IsL.yN.cls :: IsL.site))
  have q := consq hi (consq hl h)
  exact unparts (wk q (.code ChN.yN ChN.yB 2 (some .char))) (wks q (.initialized ChN.yN.cls :: ChN.site))
theorem movedChN {Z s : State} {a0 args : Array Value} (hZ : Z.Warmed39 s.vm) (hw : ∀ d ∈ wordsChN, d.before a0 Z = true) : ∀ d ∈ wordsChN, d.before args s = true := fun d hd => by
  have t : ∀ d ∈ wordsChN, (d.onTables && d.keepsFace) = true := by decide +kernel
  exact RoadKit.mv hZ (hw d hd) (t d hd)
/-- **charAt(i) OF A LATIN-1 STRING**, i < n: the char -/
theorem chN {p : Program} {l : Launch} {e : Env} {R : Room} {s : State} {args : Array Value} {below : List Frame} {len W : Nat} {Z : State} {a0 : Array Value} {h : Heap} (hZ : Z.Warmed39 s.vm) (hw : ∀ d ∈ wordsChN, d.before a0 Z = true) {kI : Nat} (wi : (Jvm.Cond.instantiable ST kI).before a0 Z = true)
    {x t : Addr} {kb : ClassId} {cs : List Int32} {N2 z : Int32} {vs : List Value} {fm : Value} {i : Nat} {j : Int32} (E : RoadKit.Exa Z h x ST) (V : RoadKit.Fld Z h x ST "value" "[B" (.ref t)) (C : RoadKit.Fld Z h x ST "coder" "B" (.int 0)) (K : RoadKit.Arv Z h t kb .byte N2 vs (.int 0)) (hc : CodA cs 0 N2 vs) (hb : ∀ c ∈ cs, ¬ c < 0 ∧ ¬ (65535 : Int32) < c)
    (S : RoadKit.Sta Z h ST "COMPACT_STRINGS" "Z" (.int z)) (hz : ¬ z = 0) (F : RoadKit.Sta Z h "jdk/internal/util/Preconditions" "SIOOBE_FORMATTER" "Ljava/util/function/BiFunction;" fm) (rf : fm.isRef = true) (l2 : cs.length ≤ 4000) (hi : i < cs.length) (hj : j = Int32.ofNat i) (hfr : 4 ≤ R.frames) (hlo : W + 53 ≤ R.locals) :
    Back l R p e below s args (⟨"java/lang/String", "charAt", "(I)C"⟩ : MethodName) len W (fun P a => a = #[.ref x, .int j] ∧ P.U.heap = h ∧ P.cells + 0 ≤ R.cells ∧ P.slots + 0 ≤ R.slots)
      (fun P _ v B => ∃ L, (v = some (.int (cs.getD i 0)) ∧ L = [] ∧ B.U.heap = h) ∧ B.locs = P.locs ++ L ∧ B.cells = P.cells + 0 ∧ B.slots = P.slots + 0) := by
  subst hj
  intro m meth c P g ig mk a X hg hsize hdg hW hn hp'
  obtain ⟨rfl, rfl, r1, r2⟩ := hp'
  have al : Z.vm.Alike P.U.vm := hZ.alike.trans X.warmed.alike
  obtain ⟨A, hx⟩ := txt_of wi al E V C K hc hb l2
  obtain ⟨v, B, X', ⟨⟨hv, hh⟩, hl, hk, hs⟩, st⟩ := ChN.pays x t A cs.length (fun j => cs.getD j 0) z fm i (tabChN_of (movedChN hZ hw)) hfr hlo m meth c P g ig mk _ X hg hsize hdg hW hn ⟨r1, r2, rfl, hx, hi, sta_is al S, hz, sta_is al F, rf⟩
  exact ⟨v, B, X', ⟨[], ⟨hv, rfl, hh⟩, hl, hk, hs⟩, st⟩
/-- what backV says of its String, as the contracts of this text ask it: cs's low bytes, coder 0 -/
theorem codOf {cs : List Int32} {n : Nat} (hn : cs.length = n) (hb : ∀ c ∈ cs, ¬ 255 < c) : CodA cs 0 (Int32.ofNat n) ((cs.map lo8).map Value.int) := Or.inl ⟨rfl, by rw [hn], by simp [List.map_map, Function.comp_def], hb⟩
end StrChars.Road
end Jvm.Pilot.@@N@@
namespace Jvm.Pilot.@@N@@
open Jvm Jvm.ClassFile Sem Op Lib Jvm.Free Jvm.Stand Jvm.LawKit Jvm.RoadKit Bundle Jvm.Pilot.@@N@@.Jvm.D
/-! the walk, forward: own_G: from here the run comes to an end that meets P -/
def own_G (tb : Tables) (e : Env) (below : List Frame) (P : Outcome → State → Prop) (a : State) : Prop := ∃ s₂ o, Steps tb e below a s₂ ∧ s₂.status = .running ∧ Ended s₂ below o ∧ P o s₂
def own_c (x : Int32) : Int32 := x.toUInt32.toUInt16.toUInt32.toInt32
section OwnKit
variable {tb : Tables} {p : Program} {l : Launch} {e : Env} {R : Room} {s : State} {m : MethodId} {args : Array Value} {below : List Frame} {meth : Method} {c : Code} {T : State} {locs : List Loc} {cells slots : Nat} {P : Outcome → State → Prop} {a b : State} {h : Heap} {Z : State} {a0 : Array Value}
theorem own_w {d : Jvm.Cond} (hw : ∀ d ∈ tables_1, d.before a0 Z = true) (k : Nat) (h : tables_1[k]? = some d) : d.before a0 Z = true := hw _ (List.mem_of_getElem? h)
theorem own_G.go (h : ∀ t, Steps tb e below b t → Steps tb e below a t) (k : own_G tb e below P b) : own_G tb e below P a := by
  obtain ⟨s₂, o, h1, h2⟩ := k
  exact ⟨s₂, o, h _ h1, h2⟩
theorem own_G.via (h : Steps tb e below a b) (k : own_G tb e below P b) : own_G tb e below P a := own_G.go (fun _ q => h.trans q) k
theorem own_G.cast {g g' : JFrame} (q : g = g') (k : own_G tb e below P (T.setTop g')) : own_G tb e below P (T.setTop g) := q ▸ k
theorem own_G.end_ (X : Stand p l e R s m args below meth c T locs cells slots) (hlk : meth.locks = false) {v : Option Value} (hv : meth.sig.returnType = none → v = none)
    (st : ∀ fs, (∀ (f : JFrame) (acts : List Action), f.method = m → f.locked = none → f.entered = [] → (doReturn e (T.setTop f) acts v).1 = T.setFrames fs) → Steps p.tables e below a (T.setFrames fs))
    {Q : Option Value → Heap → List Loc → Prop} {rc rs : Nat} (eT : T.heap = h) (hQ : Q v h locs) (hc : cells ≤ rc) (hs : slots ≤ rs) :
    own_G p.tables e below (fun o t => ∃ v L, o = .returned v ∧ Q v t.heap L ∧ FrameEnd s o t L rc rs) a := by
  obtain ⟨fs, hr, hrun, hended, hW, hsame⟩ := X.leave hv
  subst eT
  exact ⟨_, _, st fs hr, hrun, hended, _, _, rfl, hQ, ⟨_, rfl⟩, hW, hsame.mono hc hs⟩
/-! calls by a payer of backOf's shape -/
theorem own_callS (X : Stand p l e R s m args below meth c T locs cells slots) (hx : p.tables.exec = Jvm.exec) {own : String} {index : Nat} {y : MethodName} {bytes : ByteArray} {maxL : Nat} {ret : Option FieldType}
    (hown : s.vm.findClass own = some m.cls) (hlink : (Jvm.Cond.methodLink own index y).before args s = true) (hstat : (Jvm.Cond.static y).before args s = true) (hinit : (Jvm.Cond.initialized y.cls).before args s = true) (hcode : (Jvm.Cond.code y bytes maxL ret).before args s = true)
    (hy : y.cls ≠ "java/lang/invoke/MethodHandle" ∧ y.cls ≠ "java/lang/invoke/VarHandle") {W rc rs : Nat} {as' : Array Value} {Q : Option Value → Heap → List Loc → Prop}
    (hK : Back l R p e below s args y 3 W (fun A a => a = as' ∧ A.U.heap = h ∧ A.cells + rc ≤ R.cells ∧ A.slots + rs ≤ R.slots) (fun A _ v B => ∃ L, Q v B.U.heap L ∧ B.locs = A.locs ++ L ∧ B.cells = A.cells + rc ∧ B.slots = A.slots + rs))
    {g : JFrame} (hg : g.method = m) (hsize : g.locals.size = c.maxLocals) {argsL rest : List Value} (hlen : ∀ sig, parseMethodDescriptor y.desc = some sig → argsL.length = sig.parameters.length)
    (hstack : g.stack = argsL.reverse ++ rest) (hW : 2 * g.monitorRoom + (rest.map fun v => v.category).sum ≤ W) (hdg : decode c.code g.pc = .ok (.invokestatic index, 3))
    (eT : T.heap = h) (has : argsL.toArray = as') (hc : cells + rc ≤ R.cells) (hs : slots + rs ≤ R.slots) :
    ∃ (v : Option Value) (T' : State) (L : List Loc), Q v T'.heap L ∧ Stand p l e R s m args below meth c T' (locs ++ L) (cells + rc) (slots + rs) ∧ Steps p.tables e below (T.setTop g) (T'.setTop { g with pc := g.pc + 3, stack := v.toList ++ rest }) := by
  obtain ⟨v, vm₁, ⟨T', L', k', n'⟩, -, X', ⟨L, hQ, l1, l2, l3⟩, st⟩ := Jvm.LawKit.callS X hx hown hlink hstat hinit hcode hy hK hg hsize hlen hstack hW hdg (fun _ _ => ⟨has, eT, hc, hs⟩)
  dsimp only [Pt.U, Pt.locs, Pt.cells, Pt.slots] at X' l1 l2 l3 st hQ
  subst l1 l2 l3
  exact ⟨v, T', L, hQ, X', st _ (Steps.refl _)⟩
theorem own_callI (X : Stand p l e R s m args below meth c T locs cells slots) (hx : p.tables.exec = Jvm.exec) {own : String} {index : Nat} {y : MethodName} (hy1 : y.name = "<init>") {bytes : ByteArray} {maxL : Nat}
    (hown : s.vm.findClass own = some m.cls) (hlink : (Jvm.Cond.methodLink own index y).before args s = true) (hinst : (Jvm.Cond.instanceMethod y).before args s = true) (hcode : (Jvm.Cond.code y bytes maxL none).before args s = true)
    (hy : y.cls ≠ "java/lang/invoke/MethodHandle" ∧ y.cls ≠ "java/lang/invoke/VarHandle") {W rc rs : Nat} {as' : Array Value} {Q : Option Value → Heap → List Loc → Prop}
    (hK : Back l R p e below s args y 3 W (fun A a => a = as' ∧ A.U.heap = h ∧ A.cells + rc ≤ R.cells ∧ A.slots + rs ≤ R.slots) (fun A _ v B => ∃ L, Q v B.U.heap L ∧ B.locs = A.locs ++ L ∧ B.cells = A.cells + rc ∧ B.slots = A.slots + rs))
    {a : Addr} {g : JFrame} (hg : g.method = m) (hsize : g.locals.size = c.maxLocals) {argsL rest : List Value} (hlen : ∀ sig, parseMethodDescriptor y.desc = some sig → argsL.length = sig.parameters.length)
    (hstack : g.stack = argsL.reverse ++ .ref a :: rest) (hW : 2 * g.monitorRoom + (rest.map fun v => v.category).sum ≤ W) (hdg : decode c.code g.pc = .ok (.invokespecial index, 3))
    (eT : T.heap = h) (has : (.ref a :: argsL).toArray = as') (hc : cells + rc ≤ R.cells) (hs : slots + rs ≤ R.slots) :
    ∃ (v : Option Value) (T' : State) (L : List Loc), Q v T'.heap L ∧ Stand p l e R s m args below meth c T' (locs ++ L) (cells + rc) (slots + rs) ∧ Steps p.tables e below (T.setTop g) (T'.setTop { g with pc := g.pc + 3, stack := v.toList ++ rest }) := by
  obtain ⟨v, vm₁, ⟨T', L', k', n'⟩, -, X', ⟨L, hQ, l1, l2, l3⟩, st⟩ := X.specialBack hx hy1 hown hlink hinst hcode hy hK hg hsize (Steps.refl _) hlen hstack hW hdg (fun _ _ => ⟨has, eT, hc, hs⟩)
  dsimp only [Pt.U, Pt.locs, Pt.cells, Pt.slots] at X' l1 l2 l3 st hQ
  subst l1 l2 l3
  exact ⟨v, T', L, hQ, X', st⟩
theorem own_callV (X : Stand p l e R s m args below meth c T locs cells slots) (hx : p.tables.exec = Jvm.exec) {own C : String} {index : Nat} {y z : MethodName}
    (hown : s.vm.findClass own = some m.cls) (hlink : (Jvm.Cond.methodLink own index y).before args s = true) (hdecl : (Jvm.Cond.declares y).before args s = true) (hnf : NotFace s y)
    (hsel : (Jvm.Cond.selects C y z).before args s = true) (hinst : (Jvm.Cond.instanceMethod z).before args s = true)
    (hy : y.cls ≠ "java/lang/invoke/MethodHandle" ∧ y.cls ≠ "java/lang/invoke/VarHandle") {W rc rs : Nat} {as' : Array Value} {Q : Option Value → Heap → List Loc → Prop}
    (hK : Back l R p e below s args z 3 W (fun A a => a = as' ∧ A.U.heap = h ∧ A.cells + rc ≤ R.cells ∧ A.slots + rs ≤ R.slots) (fun A _ v B => ∃ L, Q v B.U.heap L ∧ B.locs = A.locs ++ L ∧ B.cells = A.cells + rc ∧ B.slots = A.slots + rs))
    {b : Addr} {cB : ClassId} (hcB : s.vm.findClass C = some cB) (hrecv : IsOf cB T b)
    {g : JFrame} (hg : g.method = m) (hsize : g.locals.size = c.maxLocals) {argsL rest : List Value} (hlen : ∀ sig, parseMethodDescriptor y.desc = some sig → argsL.length = sig.parameters.length)
    (hstack : g.stack = argsL.reverse ++ .ref b :: rest) (hW : 2 * g.monitorRoom + (rest.map fun v => v.category).sum ≤ W) (hdg : decode c.code g.pc = .ok (.invokevirtual index, 3))
    (eT : T.heap = h) (has : (.ref b :: argsL).toArray = as') (hc : cells + rc ≤ R.cells) (hs : slots + rs ≤ R.slots) :
    ∃ (v : Option Value) (T' : State) (L : List Loc), Q v T'.heap L ∧ Stand p l e R s m args below meth c T' (locs ++ L) (cells + rc) (slots + rs) ∧ Steps p.tables e below (T.setTop g) (T'.setTop { g with pc := g.pc + 3, stack := v.toList ++ rest }) := by
  obtain ⟨v, vm₁, ⟨T', L', k', n'⟩, -, X', ⟨L, hQ, l1, l2, l3⟩, st⟩ := X.virtualBack hx hown hlink hdecl hnf hsel hinst hy hK hcB hrecv hg hsize (Steps.refl _) hlen hstack hW hdg (fun _ _ => ⟨has, eT, hc, hs⟩)
  dsimp only [Pt.U, Pt.locs, Pt.cells, Pt.slots] at X' l1 l2 l3 st hQ
  subst l1 l2 l3
  exact ⟨v, T', L, hQ, X', st⟩
/-! stores into an array whose values are known -/
theorem own_stC {k : ClassId} {n : Int32} {vs : List Value} {d : Value} {a : Addr} (X : Stand p l e R s m args below meth c T locs cells slots) (hx : p.tables.exec = Jvm.exec) (hZ : Z.Warmed39 s.vm) (eT : T.heap = h) (V : Arv Z h a k .char n vs d) {j x : Int32} (i : Nat) (hi : i < vs.length) (hji : j.toNatClampNeg = i) (hj : ¬ j < 0 ∧ j < n)
    {g : JFrame} (hg : g.method = m) {rest : List Value} (hs : g.stack = .int x :: .int j :: .ref a :: rest) (hd : decode c.code g.pc = .ok (.castore, 1)) :
    ∃ T' h', Stand p l e R s m args below meth c T' (locs ++ [⟨a, j.toNatClampNeg⟩]) cells slots ∧ T'.heap = h' ∧ Wr h h' a j.toNatClampNeg (.int (nar .char x)) ∧ Arv Z h' a k .char n (vs.set i (.int (nar .char x))) d ∧ ∀ target, Steps p.tables e below (T'.setTop { g with pc := g.pc + 1, stack := rest }) target → Steps p.tables e below (T.setTop g) target := by
  obtain ⟨cl, A, q, S, M, H, U⟩ := V
  obtain ⟨T', h', X', e', W', st⟩ := stC X hx hZ eT A (j := j) (inb_of S hj) hg hs hd
  exact ⟨T', h', X', e', W', Arv.set A q S M H U (fits_nar_char _) W' i hji hi, st⟩
theorem own_stB {k : ClassId} {n : Int32} {vs : List Value} {d : Value} {a : Addr} (X : Stand p l e R s m args below meth c T locs cells slots) (hx : p.tables.exec = Jvm.exec) (hZ : Z.Warmed39 s.vm) (eT : T.heap = h) (V : Arv Z h a k .byte n vs d) {j x : Int32} (i : Nat) (hi : i < vs.length) (hji : j.toNatClampNeg = i) (hj : ¬ j < 0 ∧ j < n)
    {g : JFrame} (hg : g.method = m) {rest : List Value} (hs : g.stack = .int x :: .int j :: .ref a :: rest) (hd : decode c.code g.pc = .ok (.bastore, 1)) :
    ∃ T' h', Stand p l e R s m args below meth c T' (locs ++ [⟨a, j.toNatClampNeg⟩]) cells slots ∧ T'.heap = h' ∧ Wr h h' a j.toNatClampNeg (.int (nar .byte x)) ∧ Arv Z h' a k .byte n (vs.set i (.int (nar .byte x))) d ∧ ∀ target, Steps p.tables e below (T'.setTop { g with pc := g.pc + 1, stack := rest }) target → Steps p.tables e below (T.setTop g) target := by
  obtain ⟨cl, A, q, S, M, H, U⟩ := V
  obtain ⟨T', h', X', e', W', st⟩ := stB X hx hZ eT A (j := j) (inb_of S hj) hg hs hd
  exact ⟨T', h', X', e', W', Arv.set A q S M H U (fits_nar_byte _) W' i hji hi, st⟩
theorem own_stI {k : ClassId} {n : Int32} {vs : List Value} {d : Value} {a : Addr} (X : Stand p l e R s m args below meth c T locs cells slots) (hx : p.tables.exec = Jvm.exec) (hZ : Z.Warmed39 s.vm) (eT : T.heap = h) (V : Arv Z h a k .int n vs d) {j x : Int32} (i : Nat) (hi : i < vs.length) (hji : j.toNatClampNeg = i) (hj : ¬ j < 0 ∧ j < n)
    {g : JFrame} (hg : g.method = m) {rest : List Value} (hs : g.stack = .int x :: .int j :: .ref a :: rest) (hd : decode c.code g.pc = .ok (.iastore, 1)) :
    ∃ T' h', Stand p l e R s m args below meth c T' (locs ++ [⟨a, j.toNatClampNeg⟩]) cells slots ∧ T'.heap = h' ∧ Wr h h' a j.toNatClampNeg (.int x) ∧ Arv Z h' a k .int n (vs.set i (.int x)) d ∧ ∀ target, Steps p.tables e below (T'.setTop { g with pc := g.pc + 1, stack := rest }) target → Steps p.tables e below (T.setTop g) target := by
  obtain ⟨cl, A, q, S, M, H, U⟩ := V
  obtain ⟨T', h', X', e', W', st⟩ := stI X hx hZ eT A (j := j) (inb_of S hj) hg hs hd
  exact ⟨T', h', X', e', W', Arv.set A q S M H U rfl W' i hji hi, st⟩
end OwnKit
/-! the same for walks that may load String constants (the frame is the wide one) -/
section OwnKitW
variable {p : Program} {l : Launch} {e : Env} {R : Room} {s : State} {m : MethodId} {args : Array Value} {below : List Frame} {meth : Method} {c : Code} {T : State} {locs : List Loc} {cells slots : Nat} {P : Outcome → State → Prop} {a b : State} {h : Heap} {Z : State} {a0 : Array Value} {vm0 : Vm} {k0 : Nat}
theorem own_since (s : State) (n : Nat) : s.Since s.vm n := (State.WarmedH.refl s).since n
theorem own_G.endW (X : Stand p l e R (s.setVm vm0) m args below meth c T locs cells slots) (hS : s.Since vm0 k0) (hn : k0 ≤ h.size) (hlk : meth.locks = false) {v : Option Value} (hv : meth.sig.returnType = none → v = none)
    (st : ∀ fs, (∀ (f : JFrame) (acts : List Action), f.method = m → f.locked = none → f.entered = [] → (doReturn e (T.setTop f) acts v).1 = T.setFrames fs) → Steps p.tables e below a (T.setFrames fs))
    {Q : Option Value → Heap → List Loc → Prop} {rc rs : Nat} (eT : T.heap = h) (hQ : Q v h locs) (hc : cells ≤ rc) (hs : slots ≤ rs) :
    own_G p.tables e below (fun o t => ∃ v L, o = .returned v ∧ Q v t.heap L ∧ ReturnedEndW s o t L rc rs) a := by
  subst eT
  obtain ⟨fs, hr, hrun, hended, r1, r2, r3, r4⟩ := X.leaveW hS hn hv hlk
  exact ⟨_, _, st fs hr, hrun, hended, _, _, rfl, hQ, r1, r2, r3, r4.mono hc hs⟩
theorem own_backS {y : MethodName} {len W rc rs : Nat} {as' : Array Value} {Q : Option Value → Heap → List Loc → Prop} {S : State}
    (hK : BackS l R p e below S args y len W (fun A a => a = as' ∧ A.U.heap = h ∧ A.cells + rc ≤ R.cells ∧ A.slots + rs ≤ R.slots) (fun A _ v B => ∃ L, Q v B.U.heap L ∧ B.locs = A.locs ++ L ∧ B.cells = A.cells + rc ∧ B.slots = A.slots + rs)) :
    BackS l R p e below S args y len W (fun A a => a = as' ∧ A.U.heap = h ∧ A.cells + rc ≤ R.cells ∧ A.slots + rs ≤ R.slots) (fun A _ v B => ∃ L, (fun v (U : State) L => Q v U.heap L) v B.U L ∧ B.locs = A.locs ++ L ∧ B.cells = A.cells + rc ∧ B.slots = A.slots + rs) := hK
theorem own_callIW (X : Stand p l e R (s.setVm vm0) m args below meth c T locs cells slots) (hx : p.tables.exec = Jvm.exec) (hS : s.Since vm0 k0) (hk : k0 ≤ h.size) (hZ : Z.Warmed39 vm0) {own : String} {index : Nat} {y : MethodName} (hy1 : y.name = "<init>") {bytes : ByteArray} {maxL : Nat}
    (hown : vm0.findClass own = some m.cls) (hlink : (Jvm.Cond.methodLink own index y).before args (s.setVm vm0) = true) (hinst : (Jvm.Cond.instanceMethod y).before args (s.setVm vm0) = true) (hcode : (Jvm.Cond.code y bytes maxL none).before args (s.setVm vm0) = true)
    (hy : y.cls ≠ "java/lang/invoke/MethodHandle" ∧ y.cls ≠ "java/lang/invoke/VarHandle") {W rc rs : Nat} {as' : Array Value} {Q : Option Value → State → List Loc → Prop}
    (hK : BackS l R p e below (s.setVm vm0) args y 3 W (fun A a => a = as' ∧ A.U.heap = h ∧ A.cells + rc ≤ R.cells ∧ A.slots + rs ≤ R.slots) (fun A _ v B => ∃ L, Q v B.U L ∧ B.locs = A.locs ++ L ∧ B.cells = A.cells + rc ∧ B.slots = A.slots + rs))
    {a : Addr} {g : JFrame} (hg : g.method = m) (hsize : g.locals.size = c.maxLocals) {argsL rest : List Value} (hlen : ∀ sig, parseMethodDescriptor y.desc = some sig → argsL.length = sig.parameters.length)
    (hstack : g.stack = argsL.reverse ++ .ref a :: rest) (hW : 2 * g.monitorRoom + (rest.map fun v => v.category).sum ≤ W) (hdg : decode c.code g.pc = .ok (.invokespecial index, 3))
    (eT : T.heap = h) (has : (.ref a :: argsL).toArray = as') (hc : cells + rc ≤ R.cells) (hs : slots + rs ≤ R.slots) :
    ∃ (v : Option Value) (T' : State) (L : List Loc), Q v T' L ∧ Stand p l e R (s.setVm T'.vm) m args below meth c T' (locs ++ L) (cells + rc) (slots + rs) ∧ s.Since T'.vm T'.heap.size ∧ Z.Warmed39 (s.setVm T'.vm).vm ∧ (s.setVm T'.vm).vm.findClass own = some m.cls ∧ Steps p.tables e below (T.setTop g) (T'.setTop { g with pc := g.pc + 3, stack := v.toList ++ rest }) := by
  subst eT
  obtain ⟨v, vm₁, ⟨T', L', k', n'⟩, -, X', h2, hgr, ⟨L, hQ, l1, l2, l3⟩, st⟩ := X.specialBackS hx hy1 hown hlink hinst hcode hy hK hg hsize (Steps.refl _) hlen hstack hW hdg (fun _ _ => ⟨has, rfl, hc, hs⟩)
  dsimp only [Pt.U, Pt.locs, Pt.cells, Pt.slots] at X' l1 l2 l3 st hQ h2 hgr
  subst l1 l2 l3
  obtain ⟨r1, r2, r3, r4⟩ := rebS hS hk X' h2 hgr hZ hown
  exact ⟨v, T', L, hQ, r1, r2, r3, r4, st⟩
theorem own_callSW (X : Stand p l e R (s.setVm vm0) m args below meth c T locs cells slots) (hx : p.tables.exec = Jvm.exec) (hS : s.Since vm0 k0) (hk : k0 ≤ h.size) (hZ : Z.Warmed39 vm0) {own : String} {index : Nat} {y : MethodName} {bytes : ByteArray} {maxL : Nat} {ret : Option FieldType}
    (hown : vm0.findClass own = some m.cls) (hlink : (Jvm.Cond.methodLink own index y).before args (s.setVm vm0) = true) (hstat : (Jvm.Cond.static y).before args (s.setVm vm0) = true) (hinit : (Jvm.Cond.initialized y.cls).before args (s.setVm vm0) = true) (hcode : (Jvm.Cond.code y bytes maxL ret).before args (s.setVm vm0) = true)
    (hy : y.cls ≠ "java/lang/invoke/MethodHandle" ∧ y.cls ≠ "java/lang/invoke/VarHandle") {W rc rs : Nat} {as' : Array Value} {Q : Option Value → State → List Loc → Prop}
    (hK : BackS l R p e below (s.setVm vm0) args y 3 W (fun A a => a = as' ∧ A.U.heap = h ∧ A.cells + rc ≤ R.cells ∧ A.slots + rs ≤ R.slots) (fun A _ v B => ∃ L, Q v B.U L ∧ B.locs = A.locs ++ L ∧ B.cells = A.cells + rc ∧ B.slots = A.slots + rs))
    {g : JFrame} (hg : g.method = m) (hsize : g.locals.size = c.maxLocals) {argsL rest : List Value} (hlen : ∀ sig, parseMethodDescriptor y.desc = some sig → argsL.length = sig.parameters.length)
    (hstack : g.stack = argsL.reverse ++ rest) (hW : 2 * g.monitorRoom + (rest.map fun v => v.category).sum ≤ W) (hdg : decode c.code g.pc = .ok (.invokestatic index, 3))
    (eT : T.heap = h) (has : argsL.toArray = as') (hc : cells + rc ≤ R.cells) (hs : slots + rs ≤ R.slots) :
    ∃ (v : Option Value) (T' : State) (L : List Loc), Q v T' L ∧ Stand p l e R (s.setVm T'.vm) m args below meth c T' (locs ++ L) (cells + rc) (slots + rs) ∧ s.Since T'.vm T'.heap.size ∧ Z.Warmed39 (s.setVm T'.vm).vm ∧ (s.setVm T'.vm).vm.findClass own = some m.cls ∧ Steps p.tables e below (T.setTop g) (T'.setTop { g with pc := g.pc + 3, stack := v.toList ++ rest }) := by
  subst eT
  obtain ⟨v, vm₁, ⟨T', L', k', n'⟩, -, X', h2, hgr, ⟨L, hQ, l1, l2, l3⟩, st⟩ := callSS X hx hown hlink hstat hinit hcode hy hK hg hsize hlen hstack hW hdg (fun _ _ => ⟨has, rfl, hc, hs⟩)
  dsimp only [Pt.U, Pt.locs, Pt.cells, Pt.slots] at X' l1 l2 l3 st hQ h2 hgr
  subst l1 l2 l3
  obtain ⟨r1, r2, r3, r4⟩ := rebS hS hk X' h2 hgr hZ hown
  exact ⟨v, T', L, hQ, r1, r2, r3, r4, st⟩
theorem own_callVW (X : Stand p l e R (s.setVm vm0) m args below meth c T locs cells slots) (hx : p.tables.exec = Jvm.exec) (hS : s.Since vm0 k0) (hk : k0 ≤ h.size) (hZ : Z.Warmed39 vm0) {own C : String} {index : Nat} {y z : MethodName}
    (hown : vm0.findClass own = some m.cls) (hlink : (Jvm.Cond.methodLink own index y).before args (s.setVm vm0) = true) (hdecl : (Jvm.Cond.declares y).before args (s.setVm vm0) = true) (hnf : NotFace (s.setVm vm0) y)
    (hsel : (Jvm.Cond.selects C y z).before args (s.setVm vm0) = true) (hinst : (Jvm.Cond.instanceMethod z).before args (s.setVm vm0) = true)
    (hy : y.cls ≠ "java/lang/invoke/MethodHandle" ∧ y.cls ≠ "java/lang/invoke/VarHandle") {W rc rs : Nat} {as' : Array Value} {Q : Option Value → State → List Loc → Prop}
    (hK : BackS l R p e below (s.setVm vm0) args z 3 W (fun A a => a = as' ∧ A.U.heap = h ∧ A.cells + rc ≤ R.cells ∧ A.slots + rs ≤ R.slots) (fun A _ v B => ∃ L, Q v B.U L ∧ B.locs = A.locs ++ L ∧ B.cells = A.cells + rc ∧ B.slots = A.slots + rs))
    {b : Addr} {cB : ClassId} (hcB : (s.setVm vm0).vm.findClass C = some cB) (hrecv : IsOf cB T b)
    {g : JFrame} (hg : g.method = m) (hsize : g.locals.size = c.maxLocals) {argsL rest : List Value} (hlen : ∀ sig, parseMethodDescriptor y.desc = some sig → argsL.length = sig.parameters.length)
    (hstack : g.stack = argsL.reverse ++ .ref b :: rest) (hW : 2 * g.monitorRoom + (rest.map fun v => v.category).sum ≤ W) (hdg : decode c.code g.pc = .ok (.invokevirtual index, 3))
    (eT : T.heap = h) (has : (.ref b :: argsL).toArray = as') (hc : cells + rc ≤ R.cells) (hs : slots + rs ≤ R.slots) :
    ∃ (v : Option Value) (T' : State) (L : List Loc), Q v T' L ∧ Stand p l e R (s.setVm T'.vm) m args below meth c T' (locs ++ L) (cells + rc) (slots + rs) ∧ s.Since T'.vm T'.heap.size ∧ Z.Warmed39 (s.setVm T'.vm).vm ∧ (s.setVm T'.vm).vm.findClass own = some m.cls ∧ Steps p.tables e below (T.setTop g) (T'.setTop { g with pc := g.pc + 3, stack := v.toList ++ rest }) := by
  subst eT
  obtain ⟨v, vm₁, ⟨T', L', k', n'⟩, -, X', h2, hgr, ⟨L, hQ, l1, l2, l3⟩, st⟩ := X.virtualBackS hx hown hlink hdecl hnf hsel hinst hy hK hcB hrecv hg hsize (Steps.refl _) hlen hstack hW hdg (fun _ _ => ⟨has, rfl, hc, hs⟩)
  dsimp only [Pt.U, Pt.locs, Pt.cells, Pt.slots] at X' l1 l2 l3 st hQ h2 hgr
  subst l1 l2 l3
  obtain ⟨r1, r2, r3, r4⟩ := rebS hS hk X' h2 hgr hZ hown
  exact ⟨v, T', L, hQ, r1, r2, r3, r4, st⟩
end OwnKitW
/-! walks that read String constants: the assumed words are kept as an invariant (CHv, CHr) -/
section OwnKitH
variable {p : Program} {l : Launch} {e : Env} {R : Room} {s : State} {m : MethodId} {args : Array Value} {below : List Frame} {meth : Method} {c : Code} {T : State} {locs : List Loc} {cells slots : Nat} {P : Outcome → State → Prop} {a b : State} {h : Heap} {Z : State} {a0 : Array Value} {vm0 : Vm} {k0 : Nat} {EL : List (String × Nat)}
theorem own_G.endH (X : Stand p l e R (s.setVm vm0) m args below meth c T locs cells slots) (hS : s.Since vm0 k0) (hn : k0 ≤ h.size) (hZ : Z.Warmed39 vm0) (hEW : EW Z a0 EL) (hC : CHr Z EL s.vm s.heap vm0 h) (hlk : meth.locks = false) {v : Option Value} (hv : meth.sig.returnType = none → v = none)
    (st : ∀ fs, (∀ (f : JFrame) (acts : List Action), f.method = m → f.locked = none → f.entered = [] → (doReturn e (T.setTop f) acts v).1 = T.setFrames fs) → Steps p.tables e below a (T.setFrames fs))
    {Q : Option Value → Heap → List Loc → Prop} {rc rs : Nat} (eT : T.heap = h) (hQ : Q v h locs) (hc : cells ≤ rc) (hs : slots ≤ rs) :
    own_G p.tables e below (fun o t => ∃ v L, o = .returned v ∧ Q v t.heap L ∧ CHr Z EL s.vm s.heap t.vm t.heap ∧ ReturnedEndW s o t L rc rs) a := by
  subst eT
  obtain ⟨fs, hr, hrun, hended, r1, r2, r3, r4⟩ := X.leaveW hS hn hv hlk
  exact ⟨_, _, st fs hr, hrun, hended, _, _, rfl, hQ, (show CHr Z EL s.vm s.heap T.vm T.heap from hC.trans (CHv.at X hZ hEW hC.1)), r1, r2, r3, r4.mono hc hs⟩
theorem own_backSH {y : MethodName} {len W rc rs : Nat} {as' : Array Value} {Q : Option Value → Heap → List Loc → Prop} {S : State}
    (hK : BackS l R p e below S args y len W (fun A a => a = as' ∧ A.U.heap = h ∧ A.cells + rc ≤ R.cells ∧ A.slots + rs ≤ R.slots) (fun A _ v B => ∃ L, Q v B.U.heap L ∧ B.locs = A.locs ++ L ∧ B.cells = A.cells + rc ∧ B.slots = A.slots + rs ∧ CHr Z EL vm0 h B.U.vm B.U.heap)) :
    BackS l R p e below S args y len W (fun A a => a = as' ∧ A.U.heap = h ∧ A.cells + rc ≤ R.cells ∧ A.slots + rs ≤ R.slots) (fun A _ v B => ∃ L, (fun v (U : State) L => Q v U.heap L ∧ CHr Z EL vm0 h U.vm U.heap) v B.U L ∧ B.locs = A.locs ++ L ∧ B.cells = A.cells + rc ∧ B.slots = A.slots + rs) := fun m meth c A g ig mk a X hg hsize hdg hW hn hp => by
  obtain ⟨v, B, X', q1, q2, ⟨L, h1, h2, h3, h4, h5⟩, hs⟩ := hK m meth c A g ig mk a X hg hsize hdg hW hn hp
  exact ⟨v, B, X', q1, q2, ⟨L, ⟨h1, h5⟩, h2, h3, h4⟩, hs⟩
end OwnKitH
def own_EL : List (String × Nat) := [("com/example/lease_lock/leaselock/LeaseLimits", 90)]
theorem own_EW {Z : State} {a0 : Array Value} (hw : ∀ d ∈ tables_1, d.before a0 Z = true) : EW Z a0 own_EL := (EW.cons (own_w hw 87 rfl) (by decide +kernel) EW.nil)
theorem own_lit0 : (∀ c ∈ ("._-:/" : String).toList, c.toNat < 256) ∧ ("._-:/" : String).toList.map (fun c => Value.int (Jvm.Lit.byteI c.toNat.toUInt16)) = ([(.int (46 : Int32)), (.int (95 : Int32)), (.int (45 : Int32)), (.int (58 : Int32)), (.int (47 : Int32))] : List Value) := by decide +kernel
theorem own_lt {x y : Int32} : x < y ↔ x.toInt < y.toInt := Int32.lt_iff_toInt_lt
theorem own_eq {x y : Int32} : x = y ↔ x.toInt = y.toInt := ⟨fun h => h ▸ rfl, fun h => Int32.toInt_inj.mp h⟩
def own_b (c : Int32) : Prop := ¬ c < 0 ∧ ¬ (255 : Int32) < c
theorem own_b_int {c : Int32} (h : own_b c) : 0 ≤ c.toInt ∧ c.toInt ≤ 255 := by
  obtain ⟨h1, h2⟩ := h
  rw [own_lt] at h1 h2
  have e1 : (0 : Int32).toInt = 0 := rfl
  have e2 : (255 : Int32).toInt = 255 := rfl
  omega
theorem own_b_of {c : Int32} (h : 0 ≤ c.toInt ∧ c.toInt ≤ 255) : own_b c := by
  unfold own_b
  rw [own_lt, own_lt]
  have e1 : (0 : Int32).toInt = 0 := rfl
  have e2 : (255 : Int32).toInt = 255 := rfl
  omega
theorem own_c_small {x : Int32} (h : 0 ≤ x.toInt ∧ x.toInt < 65536) : own_c x = x := by
  rw [own_eq]
  have := c_i2c x
  unfold own_c
  omega
theorem own_narc {x : Int32} (h : own_b x) : nar .char x = x := own_c_small (by have := own_b_int h; omega)
theorem own_mask (x : Int32) : own_b (own_c (x &&& (255 : Int32))) := by
  have h := c_mask x 255 8 (by decide) (by decide)
  rw [own_c_small (by omega)]
  exact own_b_of (by omega)
theorem own_up (cs : List Int32) (h : ∀ c ∈ cs, own_b c) : ∀ c ∈ cs, ¬ c < 0 ∧ ¬ (65535 : Int32) < c := fun c hc => ⟨(h c hc).1, fun q => (h c hc).2 (by rw [Int32.lt_iff_toInt_lt] at q ⊢; have e1 : (65535 : Int32).toInt = 65535 := rfl; have e2 : (255 : Int32).toInt = 255 := rfl; omega)⟩
theorem own_all1 {a : Int32} (h : own_b a) : ∀ c ∈ ([a] : List Int32), own_b c := fun c hc => by rw [List.mem_singleton] at hc; subst hc; exact h

def own_sp (c : Int32) : Prop := c = 46 ∨ c = 95 ∨ c = 45 ∨ c = 58 ∨ c = 47
def own_nm (c : Int32) : Prop := own_b c ∧ ((65 ≤ c.toInt ∧ c.toInt ≤ 90) ∨ (97 ≤ c.toInt ∧ c.toInt ≤ 122) ∨ (48 ≤ c.toInt ∧ c.toInt ≤ 57) ∨ own_sp c)
theorem own_sp_of {c : Int32} (h : own_nm c) (h1 : c < (65 : Int32) ∨ (90 : Int32) < c) (h2 : c < (97 : Int32) ∨ (122 : Int32) < c) (h3 : c < (48 : Int32) ∨ (57 : Int32) < c) : own_sp c := by
  simp only [own_lt] at h1 h2 h3
  have e1 : (65 : Int32).toInt = 65 := rfl
  have e2 : (90 : Int32).toInt = 90 := rfl
  have e3 : (97 : Int32).toInt = 97 := rfl
  have e4 : (122 : Int32).toInt = 122 := rfl
  have e5 : (48 : Int32).toInt = 48 := rfl
  have e6 : (57 : Int32).toInt = 57 := rfl
  obtain ⟨-, h | h | h | h⟩ := h
  · omega
  · omega
  · omega
  · exact h
def own_k (z : Int32) : Prop := 0 ≤ z.toInt ∧ z.toInt ≤ 66
theorem own_k_of (x : Int32) : own_k ((x &&& (2147483647 : Int32)) % (67 : Int32)) := by
  have h := c_mask x 2147483647 31 (by decide) (by decide)
  have h2 := (c_irem (x &&& (2147483647 : Int32)) (67 : Int32) 67 rfl).1 (by omega)
  unfold own_k
  omega
theorem own_cadd {b k : Int32} (hb : 0 ≤ b.toInt ∧ b.toInt ≤ 100) (hk : -100 ≤ k.toInt ∧ k.toInt ≤ 100) (hs : 0 ≤ b.toInt + k.toInt) : (nar .char (own_c (b + k))).toInt = b.toInt + k.toInt := by
  have h1 := c_iadd b k
  have h2 := rng32 (b + k)
  have h3 : (b + k).toInt = b.toInt + k.toInt := by omega
  have h4 : own_c (b + k) = b + k := own_c_small (by omega)
  have h5 : nar .char (b + k) = own_c (b + k) := rfl
  rw [h4, h5, h4, h3]
theorem own_sub' {x y : Int32} (h : 0 ≤ x.toInt ∧ x.toInt ≤ 100) (h' : 0 ≤ y.toInt ∧ y.toInt ≤ 100) : (x - y).toInt = x.toInt - y.toInt := by
  have h1 := c_isub x y
  have h2 := rng32 (x - y)
  omega
theorem own_nm_a {k : Int32} (hk : own_k k) (h : k < (26 : Int32)) : own_nm (nar .char (own_c ((65 : Int32) + k))) := by
  rw [own_lt] at h
  have e : (26 : Int32).toInt = 26 := rfl
  have e' : (65 : Int32).toInt = 65 := rfl
  unfold own_k at hk
  have q := own_cadd (b := 65) (k := k) (by decide) (by omega) (by omega)
  exact ⟨own_b_of (by omega), Or.inl (by omega)⟩
theorem own_nm_b {k : Int32} (hk : own_k k) (h0 : ¬ k < (26 : Int32)) (h : k < (52 : Int32)) : own_nm (nar .char (own_c ((97 : Int32) + (k - (26 : Int32))))) := by
  rw [own_lt] at h h0
  have e : (26 : Int32).toInt = 26 := rfl
  have e1 : (52 : Int32).toInt = 52 := rfl
  have e' : (97 : Int32).toInt = 97 := rfl
  unfold own_k at hk
  have s := own_sub' (x := k) (y := 26) (by omega) (by decide)
  have q := own_cadd (b := 97) (k := k - 26) (by decide) (by omega) (by omega)
  exact ⟨own_b_of (by omega), Or.inr (Or.inl (by omega))⟩
theorem own_nm_c {k : Int32} (hk : own_k k) (h0 : ¬ k < (52 : Int32)) (h : k < (62 : Int32)) : own_nm (nar .char (own_c ((48 : Int32) + (k - (52 : Int32))))) := by
  rw [own_lt] at h h0
  have e : (52 : Int32).toInt = 52 := rfl
  have e1 : (62 : Int32).toInt = 62 := rfl
  have e' : (48 : Int32).toInt = 48 := rfl
  unfold own_k at hk
  have s := own_sub' (x := k) (y := 52) (by omega) (by decide)
  have q := own_cadd (b := 48) (k := k - 52) (by decide) (by omega) (by omega)
  exact ⟨own_b_of (by omega), Or.inr (Or.inr (Or.inl (by omega)))⟩
theorem own_i2b {c : Int32} (h : own_sp c) : (c).toInt8.toInt32 = c := by rcases h with rfl | rfl | rfl | rfl | rfl <;> decide
theorem own_sp_b {c : Int32} (h : own_sp c) : own_b c := by rcases h with rfl | rfl | rfl | rfl | rfl <;> exact ⟨by decide, by decide⟩
theorem own_sp_ne {c : Int32} (h : own_sp c) (h0 : ¬ (46 : Int32) = c) (h1 : ¬ (95 : Int32) = c) (h2 : ¬ (45 : Int32) = c) (h3 : ¬ (58 : Int32) = c) (h4 : ¬ (47 : Int32) = c) : False := by
  rcases h with rfl | rfl | rfl | rfl | rfl
  · exact h0 rfl
  · exact h1 rfl
  · exact h2 rfl
  · exact h3 rfl
  · exact h4 rfl

theorem own_n4 {x : Int32} (h1 : ¬ (x &&& (3 : Int32)) + (1 : Int32) = (1 : Int32)) (h2 : ¬ (x &&& (3 : Int32)) + (1 : Int32) = (2 : Int32)) (h3 : ¬ (x &&& (3 : Int32)) + (1 : Int32) = (3 : Int32)) : (4 : Int32) = (x &&& (3 : Int32)) + (1 : Int32) := by
  rw [own_eq] at h1 h2 h3 ⊢
  have h := c_mask x 3 2 (by decide) (by decide)
  have a := c_iadd (x &&& (3 : Int32)) (1 : Int32)
  have r := rng32 ((x &&& (3 : Int32)) + (1 : Int32))
  have e1 : (1 : Int32).toInt = 1 := rfl
  have e2 : (2 : Int32).toInt = 2 := rfl
  have e3 : (3 : Int32).toInt = 3 := rfl
  have e4 : (4 : Int32).toInt = 4 := rfl
  omega
def Qp (r : Value) (h0 : Heap) (v : Option Value) (h : Heap) (L : List Loc) : Prop := v = some r ∧ L = [] ∧ h = h0
def Qnc (h0 : Heap) (v : Option Value) (h : Heap) (L : List Loc) : Prop := (∃ z : Int32, v = some (.int z) ∧ own_nm z) ∧ L = [] ∧ h = h0
theorem pn_1 : plainName "com/example/lease_lock/leaselock/LeaseLimitsRequireValidNamePinLaw" = true := by first | (simp [plainName, overriddenIn]; done) | decide +kernel
theorem d_rm_nc_0 : decode method_2_code 0 = .ok (.iload_n 0, 1) := by decide +kernel
theorem d_rm_nc_1 : decode method_2_code 1 = .ok (.ldc 7, 2) := by decide +kernel
theorem d_rm_nc_3 : decode method_2_code 3 = .ok (.iand, 1) := by decide +kernel
theorem d_rm_nc_4 : decode method_2_code 4 = .ok (.bipush 67, 2) := by decide +kernel
theorem d_rm_nc_6 : decode method_2_code 6 = .ok (.irem, 1) := by decide +kernel
theorem d_rm_nc_7 : decode method_2_code 7 = .ok (.istore_n 1, 1) := by decide +kernel
theorem d_rm_nc_8 : decode method_2_code 8 = .ok (.iload_n 1, 1) := by decide +kernel
theorem d_rm_nc_9 : decode method_2_code 9 = .ok (.bipush 26, 2) := by decide +kernel
theorem d_rm_nc_11 : decode method_2_code 11 = .ok (.if_icmp .ge 9, 3) := by decide +kernel
theorem d_rm_nc_14 : decode method_2_code 14 = .ok (.bipush 65, 2) := by decide +kernel
theorem d_rm_nc_16 : decode method_2_code 16 = .ok (.iload_n 1, 1) := by decide +kernel
theorem d_rm_nc_17 : decode method_2_code 17 = .ok (.iadd, 1) := by decide +kernel
theorem d_rm_nc_18 : decode method_2_code 18 = .ok (.i2c, 1) := by decide +kernel
theorem d_rm_nc_19 : decode method_2_code 19 = .ok (.ireturn, 1) := by decide +kernel
theorem d_rm_nc_20 : decode method_2_code 20 = .ok (.iload_n 1, 1) := by decide +kernel
theorem d_rm_nc_21 : decode method_2_code 21 = .ok (.bipush 52, 2) := by decide +kernel
theorem d_rm_nc_23 : decode method_2_code 23 = .ok (.if_icmp .ge 12, 3) := by decide +kernel
theorem d_rm_nc_26 : decode method_2_code 26 = .ok (.bipush 97, 2) := by decide +kernel
theorem d_rm_nc_28 : decode method_2_code 28 = .ok (.iload_n 1, 1) := by decide +kernel
theorem d_rm_nc_29 : decode method_2_code 29 = .ok (.bipush 26, 2) := by decide +kernel
theorem d_rm_nc_31 : decode method_2_code 31 = .ok (.isub, 1) := by decide +kernel
theorem d_rm_nc_32 : decode method_2_code 32 = .ok (.iadd, 1) := by decide +kernel
theorem d_rm_nc_33 : decode method_2_code 33 = .ok (.i2c, 1) := by decide +kernel
theorem d_rm_nc_34 : decode method_2_code 34 = .ok (.ireturn, 1) := by decide +kernel
theorem d_rm_nc_35 : decode method_2_code 35 = .ok (.iload_n 1, 1) := by decide +kernel
theorem d_rm_nc_36 : decode method_2_code 36 = .ok (.bipush 62, 2) := by decide +kernel
theorem d_rm_nc_38 : decode method_2_code 38 = .ok (.if_icmp .ge 12, 3) := by decide +kernel
theorem d_rm_nc_41 : decode method_2_code 41 = .ok (.bipush 48, 2) := by decide +kernel
theorem d_rm_nc_43 : decode method_2_code 43 = .ok (.iload_n 1, 1) := by decide +kernel
theorem d_rm_nc_44 : decode method_2_code 44 = .ok (.bipush 52, 2) := by decide +kernel
theorem d_rm_nc_46 : decode method_2_code 46 = .ok (.isub, 1) := by decide +kernel
theorem d_rm_nc_47 : decode method_2_code 47 = .ok (.iadd, 1) := by decide +kernel
theorem d_rm_nc_48 : decode method_2_code 48 = .ok (.i2c, 1) := by decide +kernel
theorem d_rm_nc_49 : decode method_2_code 49 = .ok (.ireturn, 1) := by decide +kernel
theorem d_rm_nc_50 : decode method_2_code 50 = .ok (.iload_n 1, 1) := by decide +kernel
theorem d_rm_nc_51 : decode method_2_code 51 = .ok (.bipush 62, 2) := by decide +kernel
theorem d_rm_nc_53 : decode method_2_code 53 = .ok (.if_icmp .ne 6, 3) := by decide +kernel
theorem d_rm_nc_56 : decode method_2_code 56 = .ok (.bipush 46, 2) := by decide +kernel
theorem d_rm_nc_58 : decode method_2_code 58 = .ok (.ireturn, 1) := by decide +kernel
theorem d_rm_nc_59 : decode method_2_code 59 = .ok (.iload_n 1, 1) := by decide +kernel
theorem d_rm_nc_60 : decode method_2_code 60 = .ok (.bipush 63, 2) := by decide +kernel
theorem d_rm_nc_62 : decode method_2_code 62 = .ok (.if_icmp .ne 6, 3) := by decide +kernel
theorem d_rm_nc_65 : decode method_2_code 65 = .ok (.bipush 95, 2) := by decide +kernel
theorem d_rm_nc_67 : decode method_2_code 67 = .ok (.ireturn, 1) := by decide +kernel
theorem d_rm_nc_68 : decode method_2_code 68 = .ok (.iload_n 1, 1) := by decide +kernel
theorem d_rm_nc_69 : decode method_2_code 69 = .ok (.bipush 64, 2) := by decide +kernel
theorem d_rm_nc_71 : decode method_2_code 71 = .ok (.if_icmp .ne 6, 3) := by decide +kernel
theorem d_rm_nc_74 : decode method_2_code 74 = .ok (.bipush 45, 2) := by decide +kernel
theorem d_rm_nc_76 : decode method_2_code 76 = .ok (.ireturn, 1) := by decide +kernel
theorem d_rm_nc_77 : decode method_2_code 77 = .ok (.iload_n 1, 1) := by decide +kernel
theorem d_rm_nc_78 : decode method_2_code 78 = .ok (.bipush 65, 2) := by decide +kernel
theorem d_rm_nc_80 : decode method_2_code 80 = .ok (.if_icmp .ne 6, 3) := by decide +kernel
theorem d_rm_nc_83 : decode method_2_code 83 = .ok (.bipush 58, 2) := by decide +kernel
theorem d_rm_nc_85 : decode method_2_code 85 = .ok (.ireturn, 1) := by decide +kernel
theorem d_rm_nc_86 : decode method_2_code 86 = .ok (.bipush 47, 2) := by decide +kernel
theorem d_rm_nc_88 : decode method_2_code 88 = .ok (.ireturn, 1) := by decide +kernel
set_option maxRecDepth 65536 in
set_option maxHeartbeats 40000000 in
theorem rm_nc (l : Launch) (Z : State) (a0 : Array Value) (hw : ∀ d ∈ tables_1, d.before a0 Z = true) (ws : List Jvm.Cond) (q0 : Int32) (h0 : Heap) (n0 : Nat) (Z0 : n0 ≤ h0.size)  :
    MetFree l (⟨"com/example/lease_lock/leaselock/LeaseLimitsRequireValidNamePinLaw", "nameChar", "(I)C"⟩ : MethodName) (head1 (Jvm.Cond.code (⟨"com/example/lease_lock/leaselock/LeaseLimitsRequireValidNamePinLaw", "nameChar", "(I)C"⟩ : MethodName) method_2_code 2 (some .char) :: ws) ({ frames := 0, cells := 0, slots := 0, locals := 0 } : Room)) (fun a_ U => a_ = #[(.int q0)] ∧ Z.Warmed39 U.vm ∧ U.heap = h0) (fun _ _ _ _ _ => True) (fun _ U o U' => ∃ v L, o = .returned v ∧ Qnc h0 v U'.heap L ∧ FrameEnd U o U' L ({ frames := 0, cells := 0, slots := 0, locals := 0 } : Room).cells ({ frames := 0, cells := 0, slots := 0, locals := 0 } : Room).slots) := by
  refine MetFree.of_bodySF (plainFor_of_name pn_1) hisR ?_
  intro p e s m args below meth c s₁ Bd hml0 hP hK
  obtain ⟨rfl, hZ, hh⟩ := hP
  have hx := Bd.exec
  have hby := Bd.bytes
  have hrt := Bd.returns
  have hlk : meth.locks = false := Bd.notSynchronized
  have hml : c.maxLocals = 2 := hml0
  have hown : s.vm.findClass "com/example/lease_lock/leaselock/LeaseLimitsRequireValidNamePinLaw" = some m.cls := findClass_of_methodNamed Bd.named
  have hnm := (name_of_methodNamed Bd.named Bd.method).1
  have X0 : Stand p l e ({ frames := 0, cells := 0, slots := 0, locals := 0 } : Room) s m #[(.int q0)] below meth c s₁ [] 0 0 := Stand.of_body Bd
  have e0 : s₁.heap = h0 := by rw [← hh, Bd.state]; rfl
  have N0 := Fr.nil n0
  show own_G p.tables e below (fun o t => ∃ v L, o = .returned v ∧ Qnc h0 v t.heap L ∧ FrameEnd s o t L ({ frames := 0, cells := 0, slots := 0, locals := 0 } : Room).cells ({ frames := 0, cells := 0, slots := 0, locals := 0 } : Room).slots) (s₁.setTop (entryFrame m #[(.int q0)] 2))
  refine own_G.cast (show entryFrame m #[(.int q0)] 2 = mkF m 0 #[.val (.int q0), .unset] [] from by first | (simp [entryFrame, mkF, argsToLocals, Value.category]; done) | rfl) ?_
  refine own_G.go (fun t_ k_ => XS.iloadN X0.here hx rfl (hb hby d_rm_nc_0) rfl k_) ?_
  show own_G _ _ _ _ (s₁.setTop (mkF m 1 #[.val (.int q0), .unset] [(.int q0)]))
  refine own_G.go (X0.ldcInt hx hown (mvT hZ (own_w hw 4 rfl)) (g := (mkF m 1 #[.val (.int q0), .unset] [(.int q0)])) rfl (hb hby d_rm_nc_1)) ?_
  show own_G _ _ _ _ (s₁.setTop (mkF m 3 #[.val (.int q0), .unset] [(.int (2147483647 : Int32)), (.int q0)]))
  refine own_G.go (fun t_ k_ => XS.iand X0.here hx rfl (hb hby d_rm_nc_3) rfl k_) ?_
  show own_G _ _ _ _ (s₁.setTop (mkF m 4 #[.val (.int q0), .unset] [(.int (q0 &&& (2147483647 : Int32)))]))
  refine own_G.go (fun t_ k_ => XS.bipush X0.here hx rfl (hb hby d_rm_nc_4) k_) ?_
  show own_G _ _ _ _ (s₁.setTop (mkF m 6 #[.val (.int q0), .unset] [(.int (67 : Int32)), (.int (q0 &&& (2147483647 : Int32)))]))
  refine own_G.go (fun t_ k_ => iremM X0 hx rfl (hb hby d_rm_nc_6) rfl (by decide) k_) ?_
  show own_G _ _ _ _ (s₁.setTop (mkF m 7 #[.val (.int q0), .unset] [(.int ((q0 &&& (2147483647 : Int32)) % (67 : Int32)))]))
  refine own_G.go (fun t_ k_ => XS.istoreN X0.here hx rfl (hb hby d_rm_nc_7) rfl (l' := #[.val (.int q0), .val (.int ((q0 &&& (2147483647 : Int32)) % (67 : Int32)))]) rfl k_) ?_
  show own_G _ _ _ _ (s₁.setTop (mkF m 8 #[.val (.int q0), .val (.int ((q0 &&& (2147483647 : Int32)) % (67 : Int32)))] []))
  obtain ⟨kk, hkk, hkb⟩ : ∃ z : Int32, ((q0 &&& (2147483647 : Int32)) % (67 : Int32)) = z ∧ own_k z := ⟨_, rfl, own_k_of _⟩
  rw [hkk]
  refine own_G.go (fun t_ k_ => XS.iloadN X0.here hx rfl (hb hby d_rm_nc_8) rfl k_) ?_
  show own_G _ _ _ _ (s₁.setTop (mkF m 9 #[.val (.int q0), .val (.int kk)] [(.int kk)]))
  refine own_G.go (fun t_ k_ => XS.bipush X0.here hx rfl (hb hby d_rm_nc_9) k_) ?_
  show own_G _ _ _ _ (s₁.setTop (mkF m 11 #[.val (.int q0), .val (.int kk)] [(.int (26 : Int32)), (.int kk)]))
  by_cases hk11 : kk < (26 : Int32)
  · refine own_G.go (fun t_ k_ => XS.icmpNo X0.here hx rfl (hb hby d_rm_nc_11) rfl (tlt hk11).2.1 k_) ?_
    show own_G _ _ _ _ (s₁.setTop (mkF m 14 #[.val (.int q0), .val (.int kk)] []))
    refine own_G.go (fun t_ k_ => XS.bipush X0.here hx rfl (hb hby d_rm_nc_14) k_) ?_
    show own_G _ _ _ _ (s₁.setTop (mkF m 16 #[.val (.int q0), .val (.int kk)] [(.int (65 : Int32))]))
    refine own_G.go (fun t_ k_ => XS.iloadN X0.here hx rfl (hb hby d_rm_nc_16) rfl k_) ?_
    show own_G _ _ _ _ (s₁.setTop (mkF m 17 #[.val (.int q0), .val (.int kk)] [(.int kk), (.int (65 : Int32))]))
    refine own_G.go (fun t_ k_ => XS.iadd X0.here hx rfl (hb hby d_rm_nc_17) rfl k_) ?_
    show own_G _ _ _ _ (s₁.setTop (mkF m 18 #[.val (.int q0), .val (.int kk)] [(.int ((65 : Int32) + kk))]))
    refine own_G.go (fun t_ k_ => XS.i2c X0.here hx rfl (hb hby d_rm_nc_18) rfl k_) ?_
    show own_G _ _ _ _ (s₁.setTop (mkF m 19 #[.val (.int q0), .val (.int kk)] [(.int (own_c ((65 : Int32) + kk)))]))
    exact own_G.end_ X0 hlk (v := (some (.int (nar .char (own_c ((65 : Int32) + kk)))))) (fun h => by rw [hrt] at h; cases h) (fun fs hr => retN X0 hx (z := (own_c ((65 : Int32) + kk))) (t := .char) hrt (by simp) (hb hby d_rm_nc_19) hr) e0 ⟨⟨_, rfl, own_nm_a hkb hk11⟩, rfl, rfl⟩ (by decide) (by decide)
  · refine own_G.go (fun t_ k_ => XS.icmpYes X0.here hx rfl (pc0 := 11) (pc' := 20) rfl (hb hby d_rm_nc_11) rfl (flt hk11).2.1 (by decide) (by decide) k_) ?_
    show own_G _ _ _ _ (s₁.setTop (mkF m 20 #[.val (.int q0), .val (.int kk)] []))
    refine own_G.go (fun t_ k_ => XS.iloadN X0.here hx rfl (hb hby d_rm_nc_20) rfl k_) ?_
    show own_G _ _ _ _ (s₁.setTop (mkF m 21 #[.val (.int q0), .val (.int kk)] [(.int kk)]))
    refine own_G.go (fun t_ k_ => XS.bipush X0.here hx rfl (hb hby d_rm_nc_21) k_) ?_
    show own_G _ _ _ _ (s₁.setTop (mkF m 23 #[.val (.int q0), .val (.int kk)] [(.int (52 : Int32)), (.int kk)]))
    by_cases hk23 : kk < (52 : Int32)
    · refine own_G.go (fun t_ k_ => XS.icmpNo X0.here hx rfl (hb hby d_rm_nc_23) rfl (tlt hk23).2.1 k_) ?_
      show own_G _ _ _ _ (s₁.setTop (mkF m 26 #[.val (.int q0), .val (.int kk)] []))
      refine own_G.go (fun t_ k_ => XS.bipush X0.here hx rfl (hb hby d_rm_nc_26) k_) ?_
      show own_G _ _ _ _ (s₁.setTop (mkF m 28 #[.val (.int q0), .val (.int kk)] [(.int (97 : Int32))]))
      refine own_G.go (fun t_ k_ => XS.iloadN X0.here hx rfl (hb hby d_rm_nc_28) rfl k_) ?_
      show own_G _ _ _ _ (s₁.setTop (mkF m 29 #[.val (.int q0), .val (.int kk)] [(.int kk), (.int (97 : Int32))]))
      refine own_G.go (fun t_ k_ => XS.bipush X0.here hx rfl (hb hby d_rm_nc_29) k_) ?_
      show own_G _ _ _ _ (s₁.setTop (mkF m 31 #[.val (.int q0), .val (.int kk)] [(.int (26 : Int32)), (.int kk), (.int (97 : Int32))]))
      refine own_G.go (fun t_ k_ => XS.isub X0.here hx rfl (hb hby d_rm_nc_31) rfl k_) ?_
      show own_G _ _ _ _ (s₁.setTop (mkF m 32 #[.val (.int q0), .val (.int kk)] [(.int (kk - (26 : Int32))), (.int (97 : Int32))]))
      refine own_G.go (fun t_ k_ => XS.iadd X0.here hx rfl (hb hby d_rm_nc_32) rfl k_) ?_
      show own_G _ _ _ _ (s₁.setTop (mkF m 33 #[.val (.int q0), .val (.int kk)] [(.int ((97 : Int32) + (kk - (26 : Int32))))]))
      refine own_G.go (fun t_ k_ => XS.i2c X0.here hx rfl (hb hby d_rm_nc_33) rfl k_) ?_
      show own_G _ _ _ _ (s₁.setTop (mkF m 34 #[.val (.int q0), .val (.int kk)] [(.int (own_c ((97 : Int32) + (kk - (26 : Int32)))))]))
      exact own_G.end_ X0 hlk (v := (some (.int (nar .char (own_c ((97 : Int32) + (kk - (26 : Int32)))))))) (fun h => by rw [hrt] at h; cases h) (fun fs hr => retN X0 hx (z := (own_c ((97 : Int32) + (kk - (26 : Int32))))) (t := .char) hrt (by simp) (hb hby d_rm_nc_34) hr) e0 ⟨⟨_, rfl, own_nm_b hkb hk11 hk23⟩, rfl, rfl⟩ (by decide) (by decide)
    · refine own_G.go (fun t_ k_ => XS.icmpYes X0.here hx rfl (pc0 := 23) (pc' := 35) rfl (hb hby d_rm_nc_23) rfl (flt hk23).2.1 (by decide) (by decide) k_) ?_
      show own_G _ _ _ _ (s₁.setTop (mkF m 35 #[.val (.int q0), .val (.int kk)] []))
      refine own_G.go (fun t_ k_ => XS.iloadN X0.here hx rfl (hb hby d_rm_nc_35) rfl k_) ?_
      show own_G _ _ _ _ (s₁.setTop (mkF m 36 #[.val (.int q0), .val (.int kk)] [(.int kk)]))
      refine own_G.go (fun t_ k_ => XS.bipush X0.here hx rfl (hb hby d_rm_nc_36) k_) ?_
      show own_G _ _ _ _ (s₁.setTop (mkF m 38 #[.val (.int q0), .val (.int kk)] [(.int (62 : Int32)), (.int kk)]))
      by_cases hk38 : kk < (62 : Int32)
      · refine own_G.go (fun t_ k_ => XS.icmpNo X0.here hx rfl (hb hby d_rm_nc_38) rfl (tlt hk38).2.1 k_) ?_
        show own_G _ _ _ _ (s₁.setTop (mkF m 41 #[.val (.int q0), .val (.int kk)] []))
        refine own_G.go (fun t_ k_ => XS.bipush X0.here hx rfl (hb hby d_rm_nc_41) k_) ?_
        show own_G _ _ _ _ (s₁.setTop (mkF m 43 #[.val (.int q0), .val (.int kk)] [(.int (48 : Int32))]))
        refine own_G.go (fun t_ k_ => XS.iloadN X0.here hx rfl (hb hby d_rm_nc_43) rfl k_) ?_
        show own_G _ _ _ _ (s₁.setTop (mkF m 44 #[.val (.int q0), .val (.int kk)] [(.int kk), (.int (48 : Int32))]))
        refine own_G.go (fun t_ k_ => XS.bipush X0.here hx rfl (hb hby d_rm_nc_44) k_) ?_
        show own_G _ _ _ _ (s₁.setTop (mkF m 46 #[.val (.int q0), .val (.int kk)] [(.int (52 : Int32)), (.int kk), (.int (48 : Int32))]))
        refine own_G.go (fun t_ k_ => XS.isub X0.here hx rfl (hb hby d_rm_nc_46) rfl k_) ?_
        show own_G _ _ _ _ (s₁.setTop (mkF m 47 #[.val (.int q0), .val (.int kk)] [(.int (kk - (52 : Int32))), (.int (48 : Int32))]))
        refine own_G.go (fun t_ k_ => XS.iadd X0.here hx rfl (hb hby d_rm_nc_47) rfl k_) ?_
        show own_G _ _ _ _ (s₁.setTop (mkF m 48 #[.val (.int q0), .val (.int kk)] [(.int ((48 : Int32) + (kk - (52 : Int32))))]))
        refine own_G.go (fun t_ k_ => XS.i2c X0.here hx rfl (hb hby d_rm_nc_48) rfl k_) ?_
        show own_G _ _ _ _ (s₁.setTop (mkF m 49 #[.val (.int q0), .val (.int kk)] [(.int (own_c ((48 : Int32) + (kk - (52 : Int32)))))]))
        exact own_G.end_ X0 hlk (v := (some (.int (nar .char (own_c ((48 : Int32) + (kk - (52 : Int32)))))))) (fun h => by rw [hrt] at h; cases h) (fun fs hr => retN X0 hx (z := (own_c ((48 : Int32) + (kk - (52 : Int32))))) (t := .char) hrt (by simp) (hb hby d_rm_nc_49) hr) e0 ⟨⟨_, rfl, own_nm_c hkb hk23 hk38⟩, rfl, rfl⟩ (by decide) (by decide)
      · refine own_G.go (fun t_ k_ => XS.icmpYes X0.here hx rfl (pc0 := 38) (pc' := 50) rfl (hb hby d_rm_nc_38) rfl (flt hk38).2.1 (by decide) (by decide) k_) ?_
        show own_G _ _ _ _ (s₁.setTop (mkF m 50 #[.val (.int q0), .val (.int kk)] []))
        refine own_G.go (fun t_ k_ => XS.iloadN X0.here hx rfl (hb hby d_rm_nc_50) rfl k_) ?_
        show own_G _ _ _ _ (s₁.setTop (mkF m 51 #[.val (.int q0), .val (.int kk)] [(.int kk)]))
        refine own_G.go (fun t_ k_ => XS.bipush X0.here hx rfl (hb hby d_rm_nc_51) k_) ?_
        show own_G _ _ _ _ (s₁.setTop (mkF m 53 #[.val (.int q0), .val (.int kk)] [(.int (62 : Int32)), (.int kk)]))
        by_cases hk53 : kk = (62 : Int32)
        · refine own_G.go (fun t_ k_ => XS.icmpNo X0.here hx rfl (hb hby d_rm_nc_53) rfl (teq hk53).2 k_) ?_
          show own_G _ _ _ _ (s₁.setTop (mkF m 56 #[.val (.int q0), .val (.int kk)] []))
          refine own_G.go (fun t_ k_ => XS.bipush X0.here hx rfl (hb hby d_rm_nc_56) k_) ?_
          show own_G _ _ _ _ (s₁.setTop (mkF m 58 #[.val (.int q0), .val (.int kk)] [(.int (46 : Int32))]))
          exact own_G.end_ X0 hlk (v := (some (.int (nar .char (46 : Int32))))) (fun h => by rw [hrt] at h; cases h) (fun fs hr => retN X0 hx (z := (46 : Int32)) (t := .char) hrt (by simp) (hb hby d_rm_nc_58) hr) e0 ⟨⟨_, rfl, ⟨⟨by decide, by decide⟩, Or.inr (Or.inr (Or.inr (by unfold own_sp; decide)))⟩⟩, rfl, rfl⟩ (by decide) (by decide)
        · refine own_G.go (fun t_ k_ => XS.icmpYes X0.here hx rfl (pc0 := 53) (pc' := 59) rfl (hb hby d_rm_nc_53) rfl (feq hk53).2 (by decide) (by decide) k_) ?_
          show own_G _ _ _ _ (s₁.setTop (mkF m 59 #[.val (.int q0), .val (.int kk)] []))
          refine own_G.go (fun t_ k_ => XS.iloadN X0.here hx rfl (hb hby d_rm_nc_59) rfl k_) ?_
          show own_G _ _ _ _ (s₁.setTop (mkF m 60 #[.val (.int q0), .val (.int kk)] [(.int kk)]))
          refine own_G.go (fun t_ k_ => XS.bipush X0.here hx rfl (hb hby d_rm_nc_60) k_) ?_
          show own_G _ _ _ _ (s₁.setTop (mkF m 62 #[.val (.int q0), .val (.int kk)] [(.int (63 : Int32)), (.int kk)]))
          by_cases hk62 : kk = (63 : Int32)
          · refine own_G.go (fun t_ k_ => XS.icmpNo X0.here hx rfl (hb hby d_rm_nc_62) rfl (teq hk62).2 k_) ?_
            show own_G _ _ _ _ (s₁.setTop (mkF m 65 #[.val (.int q0), .val (.int kk)] []))
            refine own_G.go (fun t_ k_ => XS.bipush X0.here hx rfl (hb hby d_rm_nc_65) k_) ?_
            show own_G _ _ _ _ (s₁.setTop (mkF m 67 #[.val (.int q0), .val (.int kk)] [(.int (95 : Int32))]))
            exact own_G.end_ X0 hlk (v := (some (.int (nar .char (95 : Int32))))) (fun h => by rw [hrt] at h; cases h) (fun fs hr => retN X0 hx (z := (95 : Int32)) (t := .char) hrt (by simp) (hb hby d_rm_nc_67) hr) e0 ⟨⟨_, rfl, ⟨⟨by decide, by decide⟩, Or.inr (Or.inr (Or.inr (by unfold own_sp; decide)))⟩⟩, rfl, rfl⟩ (by decide) (by decide)
          · refine own_G.go (fun t_ k_ => XS.icmpYes X0.here hx rfl (pc0 := 62) (pc' := 68) rfl (hb hby d_rm_nc_62) rfl (feq hk62).2 (by decide) (by decide) k_) ?_
            show own_G _ _ _ _ (s₁.setTop (mkF m 68 #[.val (.int q0), .val (.int kk)] []))
            refine own_G.go (fun t_ k_ => XS.iloadN X0.here hx rfl (hb hby d_rm_nc_68) rfl k_) ?_
            show own_G _ _ _ _ (s₁.setTop (mkF m 69 #[.val (.int q0), .val (.int kk)] [(.int kk)]))
            refine own_G.go (fun t_ k_ => XS.bipush X0.here hx rfl (hb hby d_rm_nc_69) k_) ?_
            show own_G _ _ _ _ (s₁.setTop (mkF m 71 #[.val (.int q0), .val (.int kk)] [(.int (64 : Int32)), (.int kk)]))
            by_cases hk71 : kk = (64 : Int32)
            · refine own_G.go (fun t_ k_ => XS.icmpNo X0.here hx rfl (hb hby d_rm_nc_71) rfl (teq hk71).2 k_) ?_
              show own_G _ _ _ _ (s₁.setTop (mkF m 74 #[.val (.int q0), .val (.int kk)] []))
              refine own_G.go (fun t_ k_ => XS.bipush X0.here hx rfl (hb hby d_rm_nc_74) k_) ?_
              show own_G _ _ _ _ (s₁.setTop (mkF m 76 #[.val (.int q0), .val (.int kk)] [(.int (45 : Int32))]))
              exact own_G.end_ X0 hlk (v := (some (.int (nar .char (45 : Int32))))) (fun h => by rw [hrt] at h; cases h) (fun fs hr => retN X0 hx (z := (45 : Int32)) (t := .char) hrt (by simp) (hb hby d_rm_nc_76) hr) e0 ⟨⟨_, rfl, ⟨⟨by decide, by decide⟩, Or.inr (Or.inr (Or.inr (by unfold own_sp; decide)))⟩⟩, rfl, rfl⟩ (by decide) (by decide)
            · refine own_G.go (fun t_ k_ => XS.icmpYes X0.here hx rfl (pc0 := 71) (pc' := 77) rfl (hb hby d_rm_nc_71) rfl (feq hk71).2 (by decide) (by decide) k_) ?_
              show own_G _ _ _ _ (s₁.setTop (mkF m 77 #[.val (.int q0), .val (.int kk)] []))
              refine own_G.go (fun t_ k_ => XS.iloadN X0.here hx rfl (hb hby d_rm_nc_77) rfl k_) ?_
              show own_G _ _ _ _ (s₁.setTop (mkF m 78 #[.val (.int q0), .val (.int kk)] [(.int kk)]))
              refine own_G.go (fun t_ k_ => XS.bipush X0.here hx rfl (hb hby d_rm_nc_78) k_) ?_
              show own_G _ _ _ _ (s₁.setTop (mkF m 80 #[.val (.int q0), .val (.int kk)] [(.int (65 : Int32)), (.int kk)]))
              by_cases hk80 : kk = (65 : Int32)
              · refine own_G.go (fun t_ k_ => XS.icmpNo X0.here hx rfl (hb hby d_rm_nc_80) rfl (teq hk80).2 k_) ?_
                show own_G _ _ _ _ (s₁.setTop (mkF m 83 #[.val (.int q0), .val (.int kk)] []))
                refine own_G.go (fun t_ k_ => XS.bipush X0.here hx rfl (hb hby d_rm_nc_83) k_) ?_
                show own_G _ _ _ _ (s₁.setTop (mkF m 85 #[.val (.int q0), .val (.int kk)] [(.int (58 : Int32))]))
                exact own_G.end_ X0 hlk (v := (some (.int (nar .char (58 : Int32))))) (fun h => by rw [hrt] at h; cases h) (fun fs hr => retN X0 hx (z := (58 : Int32)) (t := .char) hrt (by simp) (hb hby d_rm_nc_85) hr) e0 ⟨⟨_, rfl, ⟨⟨by decide, by decide⟩, Or.inr (Or.inr (Or.inr (by unfold own_sp; decide)))⟩⟩, rfl, rfl⟩ (by decide) (by decide)
              · refine own_G.go (fun t_ k_ => XS.icmpYes X0.here hx rfl (pc0 := 80) (pc' := 86) rfl (hb hby d_rm_nc_80) rfl (feq hk80).2 (by decide) (by decide) k_) ?_
                show own_G _ _ _ _ (s₁.setTop (mkF m 86 #[.val (.int q0), .val (.int kk)] []))
                refine own_G.go (fun t_ k_ => XS.bipush X0.here hx rfl (hb hby d_rm_nc_86) k_) ?_
                show own_G _ _ _ _ (s₁.setTop (mkF m 88 #[.val (.int q0), .val (.int kk)] [(.int (47 : Int32))]))
                exact own_G.end_ X0 hlk (v := (some (.int (nar .char (47 : Int32))))) (fun h => by rw [hrt] at h; cases h) (fun fs hr => retN X0 hx (z := (47 : Int32)) (t := .char) hrt (by simp) (hb hby d_rm_nc_88) hr) e0 ⟨⟨_, rfl, ⟨⟨by decide, by decide⟩, Or.inr (Or.inr (Or.inr (by unfold own_sp; decide)))⟩⟩, rfl, rfl⟩ (by decide) (by decide)
theorem pn_2 : plainName "java/lang/StringLatin1" = true := by first | (simp [plainName, overriddenIn]; done) | decide +kernel
theorem d_rm_ce_0 : decode jdk_43_method_4_code 0 = .ok (.iload_n 0, 1) := by decide +kernel
theorem d_rm_ce_1 : decode jdk_43_method_4_code 1 = .ok (.ifCond .lt 14, 3) := by decide +kernel
theorem d_rm_ce_4 : decode jdk_43_method_4_code 4 = .ok (.iload_n 0, 1) := by decide +kernel
theorem d_rm_ce_5 : decode jdk_43_method_4_code 5 = .ok (.sipush 255, 3) := by decide +kernel
theorem d_rm_ce_8 : decode jdk_43_method_4_code 8 = .ok (.if_icmp .gt 7, 3) := by decide +kernel
theorem d_rm_ce_11 : decode jdk_43_method_4_code 11 = .ok (.iconst 1, 1) := by decide +kernel
theorem d_rm_ce_12 : decode jdk_43_method_4_code 12 = .ok (.goto 4, 3) := by decide +kernel
theorem d_rm_ce_16 : decode jdk_43_method_4_code 16 = .ok (.ireturn, 1) := by decide +kernel
set_option maxRecDepth 65536 in
set_option maxHeartbeats 40000000 in
theorem rm_ce (l : Launch) (Z : State) (a0 : Array Value) (hw : ∀ d ∈ tables_1, d.before a0 Z = true) (ws : List Jvm.Cond) (ch : Int32) (h0 : Heap) (n0 : Nat) (Z0 : n0 ≤ h0.size) (hsp : own_sp ch) :
    MetFree l (⟨"java/lang/StringLatin1", "canEncode", "(I)Z"⟩ : MethodName) (head1 (Jvm.Cond.code (⟨"java/lang/StringLatin1", "canEncode", "(I)Z"⟩ : MethodName) jdk_43_method_4_code 1 (some .boolean) :: ws) ({ frames := 0, cells := 0, slots := 0, locals := 0 } : Room)) (fun a_ U => a_ = #[(.int ch)] ∧ Z.Warmed39 U.vm ∧ U.heap = h0) (fun _ _ _ _ _ => True) (fun _ U o U' => ∃ v L, o = .returned v ∧ Qp (.int (1 : Int32)) h0 v U'.heap L ∧ FrameEnd U o U' L ({ frames := 0, cells := 0, slots := 0, locals := 0 } : Room).cells ({ frames := 0, cells := 0, slots := 0, locals := 0 } : Room).slots) := by
  refine MetFree.of_bodySF (plainFor_of_name pn_2) hisR ?_
  intro p e s m args below meth c s₁ Bd hml0 hP hK
  obtain ⟨rfl, hZ, hh⟩ := hP
  have hx := Bd.exec
  have hby := Bd.bytes
  have hrt := Bd.returns
  have hlk : meth.locks = false := Bd.notSynchronized
  have hml : c.maxLocals = 1 := hml0
  have hown : s.vm.findClass "java/lang/StringLatin1" = some m.cls := findClass_of_methodNamed Bd.named
  have hnm := (name_of_methodNamed Bd.named Bd.method).1
  have X0 : Stand p l e ({ frames := 0, cells := 0, slots := 0, locals := 0 } : Room) s m #[(.int ch)] below meth c s₁ [] 0 0 := Stand.of_body Bd
  have e0 : s₁.heap = h0 := by rw [← hh, Bd.state]; rfl
  have N0 := Fr.nil n0
  show own_G p.tables e below (fun o t => ∃ v L, o = .returned v ∧ Qp (.int (1 : Int32)) h0 v t.heap L ∧ FrameEnd s o t L ({ frames := 0, cells := 0, slots := 0, locals := 0 } : Room).cells ({ frames := 0, cells := 0, slots := 0, locals := 0 } : Room).slots) (s₁.setTop (entryFrame m #[(.int ch)] 1))
  refine own_G.cast (show entryFrame m #[(.int ch)] 1 = mkF m 0 #[.val (.int ch)] [] from by first | (simp [entryFrame, mkF, argsToLocals, Value.category]; done) | rfl) ?_
  refine own_G.go (fun t_ k_ => XS.iloadN X0.here hx rfl (hb hby d_rm_ce_0) rfl k_) ?_
  show own_G _ _ _ _ (s₁.setTop (mkF m 1 #[.val (.int ch)] [(.int ch)]))
  refine own_G.go (fun t_ k_ => XS.ifNo X0.here hx rfl (hb hby d_rm_ce_1) rfl ((if0 _ _).trans (flt ((own_sp_b hsp).1 : ¬ ch < (0 : Int32))).1) k_) ?_
  show own_G _ _ _ _ (s₁.setTop (mkF m 4 #[.val (.int ch)] []))
  refine own_G.go (fun t_ k_ => XS.iloadN X0.here hx rfl (hb hby d_rm_ce_4) rfl k_) ?_
  show own_G _ _ _ _ (s₁.setTop (mkF m 5 #[.val (.int ch)] [(.int ch)]))
  refine own_G.go (fun t_ k_ => XS.sipush X0.here hx rfl (hb hby d_rm_ce_5) k_) ?_
  show own_G _ _ _ _ (s₁.setTop (mkF m 8 #[.val (.int ch)] [(.int (255 : Int32)), (.int ch)]))
  refine own_G.go (fun t_ k_ => XS.icmpNo X0.here hx rfl (hb hby d_rm_ce_8) rfl (flt ((own_sp_b hsp).2 : ¬ (255 : Int32) < ch)).2.2.1 k_) ?_
  show own_G _ _ _ _ (s₁.setTop (mkF m 11 #[.val (.int ch)] []))
  refine own_G.go (fun t_ k_ => XS.iconst X0.here hx rfl (hb hby d_rm_ce_11) k_) ?_
  show own_G _ _ _ _ (s₁.setTop (mkF m 12 #[.val (.int ch)] [(.int (1 : Int32))]))
  refine own_G.go (fun t_ k_ => XS.goto X0.here hx rfl (pc0 := 12) (pc' := 16) rfl (hb hby d_rm_ce_12) (by decide) (by decide) k_) ?_
  show own_G _ _ _ _ (s₁.setTop (mkF m 16 #[.val (.int ch)] [(.int (1 : Int32))]))
  exact own_G.end_ X0 hlk (v := (some (.int (1 : Int32)))) (fun h => by rw [hrt] at h; cases h) (fun fs hr => retN X0 hx (z := (1 : Int32)) (t := .boolean) hrt (by simp) (hb hby d_rm_ce_16) hr) e0 ⟨rfl, rfl, rfl⟩ (by decide) (by decide)
theorem d_rm_max_0 : decode jdk_29_method_65_code 0 = .ok (.iload_n 0, 1) := by decide +kernel
theorem d_rm_max_1 : decode jdk_29_method_65_code 1 = .ok (.iload_n 1, 1) := by decide +kernel
theorem d_rm_max_2 : decode jdk_29_method_65_code 2 = .ok (.if_icmp .lt 7, 3) := by decide +kernel
theorem d_rm_max_5 : decode jdk_29_method_65_code 5 = .ok (.iload_n 0, 1) := by decide +kernel
theorem d_rm_max_6 : decode jdk_29_method_65_code 6 = .ok (.goto 4, 3) := by decide +kernel
theorem d_rm_max_10 : decode jdk_29_method_65_code 10 = .ok (.ireturn, 1) := by decide +kernel
set_option maxRecDepth 65536 in
set_option maxHeartbeats 40000000 in
theorem rm_max (l : Launch) (Z : State) (a0 : Array Value) (hw : ∀ d ∈ tables_1, d.before a0 Z = true) (ws : List Jvm.Cond)  (h0 : Heap) (n0 : Nat) (Z0 : n0 ≤ h0.size)  :
    MetFree l (⟨"java/lang/Math", "max", "(II)I"⟩ : MethodName) (head1 (Jvm.Cond.code (⟨"java/lang/Math", "max", "(II)I"⟩ : MethodName) jdk_29_method_65_code 2 (some .int) :: ws) ({ frames := 0, cells := 0, slots := 0, locals := 0 } : Room)) (fun a_ U => a_ = #[(.int (0 : Int32)), (.int (0 : Int32))] ∧ Z.Warmed39 U.vm ∧ U.heap = h0) (fun _ _ _ _ _ => True) (fun _ U o U' => ∃ v L, o = .returned v ∧ Qp (.int (0 : Int32)) h0 v U'.heap L ∧ FrameEnd U o U' L ({ frames := 0, cells := 0, slots := 0, locals := 0 } : Room).cells ({ frames := 0, cells := 0, slots := 0, locals := 0 } : Room).slots) := by
  refine MetFree.of_bodySF (Jvm.Free.JP.mathPlain rfl (by decide +kernel)) hisR ?_
  intro p e s m args below meth c s₁ Bd hml0 hP hK
  obtain ⟨rfl, hZ, hh⟩ := hP
  have hx := Bd.exec
  have hby := Bd.bytes
  have hrt := Bd.returns
  have hlk : meth.locks = false := Bd.notSynchronized
  have hml : c.maxLocals = 2 := hml0
  have hown : s.vm.findClass "java/lang/Math" = some m.cls := findClass_of_methodNamed Bd.named
  have hnm := (name_of_methodNamed Bd.named Bd.method).1
  have X0 : Stand p l e ({ frames := 0, cells := 0, slots := 0, locals := 0 } : Room) s m #[(.int (0 : Int32)), (.int (0 : Int32))] below meth c s₁ [] 0 0 := Stand.of_body Bd
  have e0 : s₁.heap = h0 := by rw [← hh, Bd.state]; rfl
  have N0 := Fr.nil n0
  show own_G p.tables e below (fun o t => ∃ v L, o = .returned v ∧ Qp (.int (0 : Int32)) h0 v t.heap L ∧ FrameEnd s o t L ({ frames := 0, cells := 0, slots := 0, locals := 0 } : Room).cells ({ frames := 0, cells := 0, slots := 0, locals := 0 } : Room).slots) (s₁.setTop (entryFrame m #[(.int (0 : Int32)), (.int (0 : Int32))] 2))
  refine own_G.cast (show entryFrame m #[(.int (0 : Int32)), (.int (0 : Int32))] 2 = mkF m 0 #[.val (.int (0 : Int32)), .val (.int (0 : Int32))] [] from by first | (simp [entryFrame, mkF, argsToLocals, Value.category]; done) | rfl) ?_
  refine own_G.go (fun t_ k_ => XS.iloadN X0.here hx rfl (hb hby d_rm_max_0) rfl k_) ?_
  show own_G _ _ _ _ (s₁.setTop (mkF m 1 #[.val (.int (0 : Int32)), .val (.int (0 : Int32))] [(.int (0 : Int32))]))
  refine own_G.go (fun t_ k_ => XS.iloadN X0.here hx rfl (hb hby d_rm_max_1) rfl k_) ?_
  show own_G _ _ _ _ (s₁.setTop (mkF m 2 #[.val (.int (0 : Int32)), .val (.int (0 : Int32))] [(.int (0 : Int32)), (.int (0 : Int32))]))
  refine own_G.go (fun t_ k_ => XS.icmpNo X0.here hx rfl (hb hby d_rm_max_2) rfl (flt (by decide : ¬ ((0 : Int32) < (0 : Int32)))).1 k_) ?_
  show own_G _ _ _ _ (s₁.setTop (mkF m 5 #[.val (.int (0 : Int32)), .val (.int (0 : Int32))] []))
  refine own_G.go (fun t_ k_ => XS.iloadN X0.here hx rfl (hb hby d_rm_max_5) rfl k_) ?_
  show own_G _ _ _ _ (s₁.setTop (mkF m 6 #[.val (.int (0 : Int32)), .val (.int (0 : Int32))] [(.int (0 : Int32))]))
  refine own_G.go (fun t_ k_ => XS.goto X0.here hx rfl (pc0 := 6) (pc' := 10) rfl (hb hby d_rm_max_6) (by decide) (by decide) k_) ?_
  show own_G _ _ _ _ (s₁.setTop (mkF m 10 #[.val (.int (0 : Int32)), .val (.int (0 : Int32))] [(.int (0 : Int32))]))
  exact own_G.end_ X0 hlk (v := (some (.int (0 : Int32)))) (fun h => by rw [hrt] at h; cases h) (fun fs hr => retOut X0 hx hrt rfl (Or.inl ⟨rfl, Or.inl rfl, _, rfl⟩) (hb hby d_rm_max_10) hr) e0 ⟨rfl, rfl, rfl⟩ (by decide) (by decide)
theorem d_rm_min_0 : decode jdk_29_method_69_code 0 = .ok (.iload_n 0, 1) := by decide +kernel
theorem d_rm_min_1 : decode jdk_29_method_69_code 1 = .ok (.iload_n 1, 1) := by decide +kernel
theorem d_rm_min_2 : decode jdk_29_method_69_code 2 = .ok (.if_icmp .gt 7, 3) := by decide +kernel
theorem d_rm_min_5 : decode jdk_29_method_69_code 5 = .ok (.iload_n 0, 1) := by decide +kernel
theorem d_rm_min_6 : decode jdk_29_method_69_code 6 = .ok (.goto 4, 3) := by decide +kernel
theorem d_rm_min_10 : decode jdk_29_method_69_code 10 = .ok (.ireturn, 1) := by decide +kernel
set_option maxRecDepth 65536 in
set_option maxHeartbeats 40000000 in
theorem rm_min (l : Launch) (Z : State) (a0 : Array Value) (hw : ∀ d ∈ tables_1, d.before a0 Z = true) (ws : List Jvm.Cond)  (h0 : Heap) (n0 : Nat) (Z0 : n0 ≤ h0.size)  :
    MetFree l (⟨"java/lang/Math", "min", "(II)I"⟩ : MethodName) (head1 (Jvm.Cond.code (⟨"java/lang/Math", "min", "(II)I"⟩ : MethodName) jdk_29_method_69_code 2 (some .int) :: ws) ({ frames := 0, cells := 0, slots := 0, locals := 0 } : Room)) (fun a_ U => a_ = #[(.int (5 : Int32)), (.int (5 : Int32))] ∧ Z.Warmed39 U.vm ∧ U.heap = h0) (fun _ _ _ _ _ => True) (fun _ U o U' => ∃ v L, o = .returned v ∧ Qp (.int (5 : Int32)) h0 v U'.heap L ∧ FrameEnd U o U' L ({ frames := 0, cells := 0, slots := 0, locals := 0 } : Room).cells ({ frames := 0, cells := 0, slots := 0, locals := 0 } : Room).slots) := by
  refine MetFree.of_bodySF (Jvm.Free.JP.mathPlain rfl (by decide +kernel)) hisR ?_
  intro p e s m args below meth c s₁ Bd hml0 hP hK
  obtain ⟨rfl, hZ, hh⟩ := hP
  have hx := Bd.exec
  have hby := Bd.bytes
  have hrt := Bd.returns
  have hlk : meth.locks = false := Bd.notSynchronized
  have hml : c.maxLocals = 2 := hml0
  have hown : s.vm.findClass "java/lang/Math" = some m.cls := findClass_of_methodNamed Bd.named
  have hnm := (name_of_methodNamed Bd.named Bd.method).1
  have X0 : Stand p l e ({ frames := 0, cells := 0, slots := 0, locals := 0 } : Room) s m #[(.int (5 : Int32)), (.int (5 : Int32))] below meth c s₁ [] 0 0 := Stand.of_body Bd
  have e0 : s₁.heap = h0 := by rw [← hh, Bd.state]; rfl
  have N0 := Fr.nil n0
  show own_G p.tables e below (fun o t => ∃ v L, o = .returned v ∧ Qp (.int (5 : Int32)) h0 v t.heap L ∧ FrameEnd s o t L ({ frames := 0, cells := 0, slots := 0, locals := 0 } : Room).cells ({ frames := 0, cells := 0, slots := 0, locals := 0 } : Room).slots) (s₁.setTop (entryFrame m #[(.int (5 : Int32)), (.int (5 : Int32))] 2))
  refine own_G.cast (show entryFrame m #[(.int (5 : Int32)), (.int (5 : Int32))] 2 = mkF m 0 #[.val (.int (5 : Int32)), .val (.int (5 : Int32))] [] from by first | (simp [entryFrame, mkF, argsToLocals, Value.category]; done) | rfl) ?_
  refine own_G.go (fun t_ k_ => XS.iloadN X0.here hx rfl (hb hby d_rm_min_0) rfl k_) ?_
  show own_G _ _ _ _ (s₁.setTop (mkF m 1 #[.val (.int (5 : Int32)), .val (.int (5 : Int32))] [(.int (5 : Int32))]))
  refine own_G.go (fun t_ k_ => XS.iloadN X0.here hx rfl (hb hby d_rm_min_1) rfl k_) ?_
  show own_G _ _ _ _ (s₁.setTop (mkF m 2 #[.val (.int (5 : Int32)), .val (.int (5 : Int32))] [(.int (5 : Int32)), (.int (5 : Int32))]))
  refine own_G.go (fun t_ k_ => XS.icmpNo X0.here hx rfl (hb hby d_rm_min_2) rfl (flt (by decide : ¬ ((5 : Int32) < (5 : Int32)))).2.2.1 k_) ?_
  show own_G _ _ _ _ (s₁.setTop (mkF m 5 #[.val (.int (5 : Int32)), .val (.int (5 : Int32))] []))
  refine own_G.go (fun t_ k_ => XS.iloadN X0.here hx rfl (hb hby d_rm_min_5) rfl k_) ?_
  show own_G _ _ _ _ (s₁.setTop (mkF m 6 #[.val (.int (5 : Int32)), .val (.int (5 : Int32))] [(.int (5 : Int32))]))
  refine own_G.go (fun t_ k_ => XS.goto X0.here hx rfl (pc0 := 6) (pc' := 10) rfl (hb hby d_rm_min_6) (by decide) (by decide) k_) ?_
  show own_G _ _ _ _ (s₁.setTop (mkF m 10 #[.val (.int (5 : Int32)), .val (.int (5 : Int32))] [(.int (5 : Int32))]))
  exact own_G.end_ X0 hlk (v := (some (.int (5 : Int32)))) (fun h => by rw [hrt] at h; cases h) (fun fs hr => retOut X0 hx hrt rfl (Or.inl ⟨rfl, Or.inl rfl, _, rfl⟩) (hb hby d_rm_min_10) hr) e0 ⟨rfl, rfl, rfl⟩ (by decide) (by decide)
def Qix (h0 : Heap) (v : Option Value) (h : Heap) (L : List Loc) : Prop := (∃ z : Int32, v = some (.int z) ∧ ¬ z < 0) ∧ L = [] ∧ h = h0
theorem d_rm_ioc_0 : decode jdk_43_method_23_code 0 = .ok (.iload_n 1, 1) := by decide +kernel
theorem d_rm_ioc_1 : decode jdk_43_method_23_code 1 = .ok (.i2b, 1) := by decide +kernel
theorem d_rm_ioc_2 : decode jdk_43_method_23_code 2 = .ok (.istore 4, 2) := by decide +kernel
theorem d_rm_ioc_4 : decode jdk_43_method_23_code 4 = .ok (.iload_n 2, 1) := by decide +kernel
theorem d_rm_ioc_5 : decode jdk_43_method_23_code 5 = .ok (.istore 5, 2) := by decide +kernel
theorem d_rm_ioc_7 : decode jdk_43_method_23_code 7 = .ok (.iload 5, 2) := by decide +kernel
theorem d_rm_ioc_9 : decode jdk_43_method_23_code 9 = .ok (.iload_n 3, 1) := by decide +kernel
theorem d_rm_ioc_10 : decode jdk_43_method_23_code 10 = .ok (.if_icmp .ge 21, 3) := by decide +kernel
theorem d_rm_ioc_13 : decode jdk_43_method_23_code 13 = .ok (.aload_n 0, 1) := by decide +kernel
theorem d_rm_ioc_14 : decode jdk_43_method_23_code 14 = .ok (.iload 5, 2) := by decide +kernel
theorem d_rm_ioc_16 : decode jdk_43_method_23_code 16 = .ok (.baload, 1) := by decide +kernel
theorem d_rm_ioc_17 : decode jdk_43_method_23_code 17 = .ok (.iload 4, 2) := by decide +kernel
theorem d_rm_ioc_19 : decode jdk_43_method_23_code 19 = .ok (.if_icmp .ne 6, 3) := by decide +kernel
theorem d_rm_ioc_22 : decode jdk_43_method_23_code 22 = .ok (.iload 5, 2) := by decide +kernel
theorem d_rm_ioc_24 : decode jdk_43_method_23_code 24 = .ok (.ireturn, 1) := by decide +kernel
theorem d_rm_ioc_25 : decode jdk_43_method_23_code 25 = .ok (.iinc 5 1, 3) := by decide +kernel
theorem d_rm_ioc_28 : decode jdk_43_method_23_code 28 = .ok (.goto (-21), 3) := by decide +kernel
set_option maxRecDepth 65536 in
set_option maxHeartbeats 40000000 in
theorem rm_ioc (l : Launch) (Z : State) (a0 : Array Value) (hw : ∀ d ∈ tables_1, d.before a0 Z = true) (ws : List Jvm.Cond) (b : Addr) (kb : ClassId) (ch : Int32) (h0 : Heap) (n0 : Nat) (Z0 : n0 ≤ h0.size) (VB : Arv Z h0 b kb .byte (5 : Int32) ([(.int (46 : Int32)), (.int (95 : Int32)), (.int (45 : Int32)), (.int (58 : Int32)), (.int (47 : Int32))] : List Value) (.int 0)) (hsp : own_sp ch) :
    MetFree l (⟨"java/lang/StringLatin1", "indexOfChar", "([BIII)I"⟩ : MethodName) (head1 (Jvm.Cond.code (⟨"java/lang/StringLatin1", "indexOfChar", "([BIII)I"⟩ : MethodName) jdk_43_method_23_code 6 (some .int) :: ws) ({ frames := 0, cells := 0, slots := 0, locals := 0 } : Room)) (fun a_ U => a_ = #[(.ref b), (.int ch), (.int (0 : Int32)), (.int (5 : Int32))] ∧ Z.Warmed39 U.vm ∧ U.heap = h0) (fun _ _ _ _ _ => True) (fun _ U o U' => ∃ v L, o = .returned v ∧ Qix h0 v U'.heap L ∧ FrameEnd U o U' L ({ frames := 0, cells := 0, slots := 0, locals := 0 } : Room).cells ({ frames := 0, cells := 0, slots := 0, locals := 0 } : Room).slots) := by
  refine MetFree.of_bodySF (plainFor_of_name pn_2) hisR ?_
  intro p e s m args below meth c s₁ Bd hml0 hP hK
  obtain ⟨rfl, hZ, hh⟩ := hP
  have hx := Bd.exec
  have hby := Bd.bytes
  have hrt := Bd.returns
  have hlk : meth.locks = false := Bd.notSynchronized
  have hml : c.maxLocals = 6 := hml0
  have hown : s.vm.findClass "java/lang/StringLatin1" = some m.cls := findClass_of_methodNamed Bd.named
  have hnm := (name_of_methodNamed Bd.named Bd.method).1
  have X0 : Stand p l e ({ frames := 0, cells := 0, slots := 0, locals := 0 } : Room) s m #[(.ref b), (.int ch), (.int (0 : Int32)), (.int (5 : Int32))] below meth c s₁ [] 0 0 := Stand.of_body Bd
  have e0 : s₁.heap = h0 := by rw [← hh, Bd.state]; rfl
  have N0 := Fr.nil n0
  show own_G p.tables e below (fun o t => ∃ v L, o = .returned v ∧ Qix h0 v t.heap L ∧ FrameEnd s o t L ({ frames := 0, cells := 0, slots := 0, locals := 0 } : Room).cells ({ frames := 0, cells := 0, slots := 0, locals := 0 } : Room).slots) (s₁.setTop (entryFrame m #[(.ref b), (.int ch), (.int (0 : Int32)), (.int (5 : Int32))] 6))
  refine own_G.cast (show entryFrame m #[(.ref b), (.int ch), (.int (0 : Int32)), (.int (5 : Int32))] 6 = mkF m 0 #[.val (.ref b), .val (.int ch), .val (.int (0 : Int32)), .val (.int (5 : Int32)), .unset, .unset] [] from by first | (simp [entryFrame, mkF, argsToLocals, Value.category]; done) | rfl) ?_
  refine own_G.go (fun t_ k_ => XS.iloadN X0.here hx rfl (hb hby d_rm_ioc_0) rfl k_) ?_
  show own_G _ _ _ _ (s₁.setTop (mkF m 1 #[.val (.ref b), .val (.int ch), .val (.int (0 : Int32)), .val (.int (5 : Int32)), .unset, .unset] [(.int ch)]))
  refine own_G.go (fun t_ k_ => XS.i2b X0.here hx rfl (hb hby d_rm_ioc_1) rfl k_) ?_
  show own_G _ _ _ _ (s₁.setTop (mkF m 2 #[.val (.ref b), .val (.int ch), .val (.int (0 : Int32)), .val (.int (5 : Int32)), .unset, .unset] [(.int (ch).toInt8.toInt32)]))
  refine own_G.go (fun t_ k_ => XS.istore X0.here hx rfl (hb hby d_rm_ioc_2) rfl (l' := #[.val (.ref b), .val (.int ch), .val (.int (0 : Int32)), .val (.int (5 : Int32)), .val (.int (ch).toInt8.toInt32), .unset]) rfl k_) ?_
  show own_G _ _ _ _ (s₁.setTop (mkF m 4 #[.val (.ref b), .val (.int ch), .val (.int (0 : Int32)), .val (.int (5 : Int32)), .val (.int (ch).toInt8.toInt32), .unset] []))
  rw [own_i2b hsp]
  show own_G _ _ _ _ (s₁.setTop (mkF m 4 #[.val (.ref b), .val (.int ch), .val (.int (0 : Int32)), .val (.int (5 : Int32)), .val (.int ch), .unset] []))
  refine own_G.go (fun t_ k_ => XS.iloadN X0.here hx rfl (hb hby d_rm_ioc_4) rfl k_) ?_
  show own_G _ _ _ _ (s₁.setTop (mkF m 5 #[.val (.ref b), .val (.int ch), .val (.int (0 : Int32)), .val (.int (5 : Int32)), .val (.int ch), .unset] [(.int (0 : Int32))]))
  refine own_G.go (fun t_ k_ => XS.istore X0.here hx rfl (hb hby d_rm_ioc_5) rfl (l' := #[.val (.ref b), .val (.int ch), .val (.int (0 : Int32)), .val (.int (5 : Int32)), .val (.int ch), .val (.int (0 : Int32))]) rfl k_) ?_
  show own_G _ _ _ _ (s₁.setTop (mkF m 7 #[.val (.ref b), .val (.int ch), .val (.int (0 : Int32)), .val (.int (5 : Int32)), .val (.int ch), .val (.int (0 : Int32))] []))
  refine own_G.go (fun t_ k_ => XS.iload X0.here hx rfl (hb hby d_rm_ioc_7) rfl k_) ?_
  show own_G _ _ _ _ (s₁.setTop (mkF m 9 #[.val (.ref b), .val (.int ch), .val (.int (0 : Int32)), .val (.int (5 : Int32)), .val (.int ch), .val (.int (0 : Int32))] [(.int (0 : Int32))]))
  refine own_G.go (fun t_ k_ => XS.iloadN X0.here hx rfl (hb hby d_rm_ioc_9) rfl k_) ?_
  show own_G _ _ _ _ (s₁.setTop (mkF m 10 #[.val (.ref b), .val (.int ch), .val (.int (0 : Int32)), .val (.int (5 : Int32)), .val (.int ch), .val (.int (0 : Int32))] [(.int (5 : Int32)), (.int (0 : Int32))]))
  refine own_G.go (fun t_ k_ => XS.icmpNo X0.here hx rfl (hb hby d_rm_ioc_10) rfl (tlt (by decide : (0 : Int32) < (5 : Int32))).2.1 k_) ?_
  show own_G _ _ _ _ (s₁.setTop (mkF m 13 #[.val (.ref b), .val (.int ch), .val (.int (0 : Int32)), .val (.int (5 : Int32)), .val (.int ch), .val (.int (0 : Int32))] []))
  refine own_G.go (fun t_ k_ => XS.aloadN X0.here hx rfl (hb hby d_rm_ioc_13) rfl rfl k_) ?_
  show own_G _ _ _ _ (s₁.setTop (mkF m 14 #[.val (.ref b), .val (.int ch), .val (.int (0 : Int32)), .val (.int (5 : Int32)), .val (.int ch), .val (.int (0 : Int32))] [(.ref b)]))
  refine own_G.go (fun t_ k_ => XS.iload X0.here hx rfl (hb hby d_rm_ioc_14) rfl k_) ?_
  show own_G _ _ _ _ (s₁.setTop (mkF m 16 #[.val (.ref b), .val (.int ch), .val (.int (0 : Int32)), .val (.int (5 : Int32)), .val (.int ch), .val (.int (0 : Int32))] [(.int (0 : Int32)), (.ref b)]))
  obtain ⟨cel_1, A_1, -, S_1, M_1, H_1, -⟩ := id VB
  have I_1 : ¬ ((0 : Int32) < 0 ∨ cel_1.slots.size ≤ ((0 : Int32)).toNatClampNeg) := inb_of S_1 ⟨(by decide), (by decide : (0 : Int32) < (5 : Int32))⟩
  refine own_G.go (X0.baloadBytes hx (j := (0 : Int32)) (v := (.int (46 : Int32))) (by rw [e0]; exact A_1.1) (State.isArrayOf_alike hZ.alike A_1.2.1) A_1.2.2 I_1 (H_1.at I_1 rfl) (g := (mkF m 16 #[.val (.ref b), .val (.int ch), .val (.int (0 : Int32)), .val (.int (5 : Int32)), .val (.int ch), .val (.int (0 : Int32))] [(.int (0 : Int32)), (.ref b)])) rfl rfl (hb hby d_rm_ioc_16)) ?_
  show own_G _ _ _ _ (s₁.setTop (mkF m 17 #[.val (.ref b), .val (.int ch), .val (.int (0 : Int32)), .val (.int (5 : Int32)), .val (.int ch), .val (.int (0 : Int32))] [(.int (46 : Int32))]))
  refine own_G.go (fun t_ k_ => XS.iload X0.here hx rfl (hb hby d_rm_ioc_17) rfl k_) ?_
  show own_G _ _ _ _ (s₁.setTop (mkF m 19 #[.val (.ref b), .val (.int ch), .val (.int (0 : Int32)), .val (.int (5 : Int32)), .val (.int ch), .val (.int (0 : Int32))] [(.int ch), (.int (46 : Int32))]))
  by_cases hm0 : (46 : Int32) = ch
  · refine own_G.go (fun t_ k_ => XS.icmpNo X0.here hx rfl (hb hby d_rm_ioc_19) rfl (teq hm0).2 k_) ?_
    show own_G _ _ _ _ (s₁.setTop (mkF m 22 #[.val (.ref b), .val (.int ch), .val (.int (0 : Int32)), .val (.int (5 : Int32)), .val (.int ch), .val (.int (0 : Int32))] []))
    refine own_G.go (fun t_ k_ => XS.iload X0.here hx rfl (hb hby d_rm_ioc_22) rfl k_) ?_
    show own_G _ _ _ _ (s₁.setTop (mkF m 24 #[.val (.ref b), .val (.int ch), .val (.int (0 : Int32)), .val (.int (5 : Int32)), .val (.int ch), .val (.int (0 : Int32))] [(.int (0 : Int32))]))
    exact own_G.end_ X0 hlk (v := (some (.int (0 : Int32)))) (fun h => by rw [hrt] at h; cases h) (fun fs hr => retOut X0 hx hrt rfl (Or.inl ⟨rfl, Or.inl rfl, _, rfl⟩) (hb hby d_rm_ioc_24) hr) e0 ⟨⟨_, rfl, by decide⟩, rfl, rfl⟩ (by decide) (by decide)
  · refine own_G.go (fun t_ k_ => XS.icmpYes X0.here hx rfl (pc0 := 19) (pc' := 25) rfl (hb hby d_rm_ioc_19) rfl (feq hm0).2 (by decide) (by decide) k_) ?_
    show own_G _ _ _ _ (s₁.setTop (mkF m 25 #[.val (.ref b), .val (.int ch), .val (.int (0 : Int32)), .val (.int (5 : Int32)), .val (.int ch), .val (.int (0 : Int32))] []))
    refine own_G.go (fun t_ k_ => XS.iinc X0.here hx rfl (hb hby d_rm_ioc_25) rfl (l' := #[.val (.ref b), .val (.int ch), .val (.int (0 : Int32)), .val (.int (5 : Int32)), .val (.int ch), .val (.int (1 : Int32))]) rfl k_) ?_
    show own_G _ _ _ _ (s₁.setTop (mkF m 28 #[.val (.ref b), .val (.int ch), .val (.int (0 : Int32)), .val (.int (5 : Int32)), .val (.int ch), .val (.int (1 : Int32))] []))
    refine own_G.go (fun t_ k_ => XS.goto X0.here hx rfl (pc0 := 28) (pc' := 7) rfl (hb hby d_rm_ioc_28) (by decide) (by decide) k_) ?_
    show own_G _ _ _ _ (s₁.setTop (mkF m 7 #[.val (.ref b), .val (.int ch), .val (.int (0 : Int32)), .val (.int (5 : Int32)), .val (.int ch), .val (.int (1 : Int32))] []))
    refine own_G.go (fun t_ k_ => XS.iload X0.here hx rfl (hb hby d_rm_ioc_7) rfl k_) ?_
    show own_G _ _ _ _ (s₁.setTop (mkF m 9 #[.val (.ref b), .val (.int ch), .val (.int (0 : Int32)), .val (.int (5 : Int32)), .val (.int ch), .val (.int (1 : Int32))] [(.int (1 : Int32))]))
    refine own_G.go (fun t_ k_ => XS.iloadN X0.here hx rfl (hb hby d_rm_ioc_9) rfl k_) ?_
    show own_G _ _ _ _ (s₁.setTop (mkF m 10 #[.val (.ref b), .val (.int ch), .val (.int (0 : Int32)), .val (.int (5 : Int32)), .val (.int ch), .val (.int (1 : Int32))] [(.int (5 : Int32)), (.int (1 : Int32))]))
    refine own_G.go (fun t_ k_ => XS.icmpNo X0.here hx rfl (hb hby d_rm_ioc_10) rfl (tlt (by decide : (1 : Int32) < (5 : Int32))).2.1 k_) ?_
    show own_G _ _ _ _ (s₁.setTop (mkF m 13 #[.val (.ref b), .val (.int ch), .val (.int (0 : Int32)), .val (.int (5 : Int32)), .val (.int ch), .val (.int (1 : Int32))] []))
    refine own_G.go (fun t_ k_ => XS.aloadN X0.here hx rfl (hb hby d_rm_ioc_13) rfl rfl k_) ?_
    show own_G _ _ _ _ (s₁.setTop (mkF m 14 #[.val (.ref b), .val (.int ch), .val (.int (0 : Int32)), .val (.int (5 : Int32)), .val (.int ch), .val (.int (1 : Int32))] [(.ref b)]))
    refine own_G.go (fun t_ k_ => XS.iload X0.here hx rfl (hb hby d_rm_ioc_14) rfl k_) ?_
    show own_G _ _ _ _ (s₁.setTop (mkF m 16 #[.val (.ref b), .val (.int ch), .val (.int (0 : Int32)), .val (.int (5 : Int32)), .val (.int ch), .val (.int (1 : Int32))] [(.int (1 : Int32)), (.ref b)]))
    obtain ⟨cel_2, A_2, -, S_2, M_2, H_2, -⟩ := id VB
    have I_2 : ¬ ((1 : Int32) < 0 ∨ cel_2.slots.size ≤ ((1 : Int32)).toNatClampNeg) := inb_of S_2 ⟨(by decide), (by decide : (1 : Int32) < (5 : Int32))⟩
    refine own_G.go (X0.baloadBytes hx (j := (1 : Int32)) (v := (.int (95 : Int32))) (by rw [e0]; exact A_2.1) (State.isArrayOf_alike hZ.alike A_2.2.1) A_2.2.2 I_2 (H_2.at I_2 rfl) (g := (mkF m 16 #[.val (.ref b), .val (.int ch), .val (.int (0 : Int32)), .val (.int (5 : Int32)), .val (.int ch), .val (.int (1 : Int32))] [(.int (1 : Int32)), (.ref b)])) rfl rfl (hb hby d_rm_ioc_16)) ?_
    show own_G _ _ _ _ (s₁.setTop (mkF m 17 #[.val (.ref b), .val (.int ch), .val (.int (0 : Int32)), .val (.int (5 : Int32)), .val (.int ch), .val (.int (1 : Int32))] [(.int (95 : Int32))]))
    refine own_G.go (fun t_ k_ => XS.iload X0.here hx rfl (hb hby d_rm_ioc_17) rfl k_) ?_
    show own_G _ _ _ _ (s₁.setTop (mkF m 19 #[.val (.ref b), .val (.int ch), .val (.int (0 : Int32)), .val (.int (5 : Int32)), .val (.int ch), .val (.int (1 : Int32))] [(.int ch), (.int (95 : Int32))]))
    by_cases hm1 : (95 : Int32) = ch
    · refine own_G.go (fun t_ k_ => XS.icmpNo X0.here hx rfl (hb hby d_rm_ioc_19) rfl (teq hm1).2 k_) ?_
      show own_G _ _ _ _ (s₁.setTop (mkF m 22 #[.val (.ref b), .val (.int ch), .val (.int (0 : Int32)), .val (.int (5 : Int32)), .val (.int ch), .val (.int (1 : Int32))] []))
      refine own_G.go (fun t_ k_ => XS.iload X0.here hx rfl (hb hby d_rm_ioc_22) rfl k_) ?_
      show own_G _ _ _ _ (s₁.setTop (mkF m 24 #[.val (.ref b), .val (.int ch), .val (.int (0 : Int32)), .val (.int (5 : Int32)), .val (.int ch), .val (.int (1 : Int32))] [(.int (1 : Int32))]))
      exact own_G.end_ X0 hlk (v := (some (.int (1 : Int32)))) (fun h => by rw [hrt] at h; cases h) (fun fs hr => retOut X0 hx hrt rfl (Or.inl ⟨rfl, Or.inl rfl, _, rfl⟩) (hb hby d_rm_ioc_24) hr) e0 ⟨⟨_, rfl, by decide⟩, rfl, rfl⟩ (by decide) (by decide)
    · refine own_G.go (fun t_ k_ => XS.icmpYes X0.here hx rfl (pc0 := 19) (pc' := 25) rfl (hb hby d_rm_ioc_19) rfl (feq hm1).2 (by decide) (by decide) k_) ?_
      show own_G _ _ _ _ (s₁.setTop (mkF m 25 #[.val (.ref b), .val (.int ch), .val (.int (0 : Int32)), .val (.int (5 : Int32)), .val (.int ch), .val (.int (1 : Int32))] []))
      refine own_G.go (fun t_ k_ => XS.iinc X0.here hx rfl (hb hby d_rm_ioc_25) rfl (l' := #[.val (.ref b), .val (.int ch), .val (.int (0 : Int32)), .val (.int (5 : Int32)), .val (.int ch), .val (.int (2 : Int32))]) rfl k_) ?_
      show own_G _ _ _ _ (s₁.setTop (mkF m 28 #[.val (.ref b), .val (.int ch), .val (.int (0 : Int32)), .val (.int (5 : Int32)), .val (.int ch), .val (.int (2 : Int32))] []))
      refine own_G.go (fun t_ k_ => XS.goto X0.here hx rfl (pc0 := 28) (pc' := 7) rfl (hb hby d_rm_ioc_28) (by decide) (by decide) k_) ?_
      show own_G _ _ _ _ (s₁.setTop (mkF m 7 #[.val (.ref b), .val (.int ch), .val (.int (0 : Int32)), .val (.int (5 : Int32)), .val (.int ch), .val (.int (2 : Int32))] []))
      refine own_G.go (fun t_ k_ => XS.iload X0.here hx rfl (hb hby d_rm_ioc_7) rfl k_) ?_
      show own_G _ _ _ _ (s₁.setTop (mkF m 9 #[.val (.ref b), .val (.int ch), .val (.int (0 : Int32)), .val (.int (5 : Int32)), .val (.int ch), .val (.int (2 : Int32))] [(.int (2 : Int32))]))
      refine own_G.go (fun t_ k_ => XS.iloadN X0.here hx rfl (hb hby d_rm_ioc_9) rfl k_) ?_
      show own_G _ _ _ _ (s₁.setTop (mkF m 10 #[.val (.ref b), .val (.int ch), .val (.int (0 : Int32)), .val (.int (5 : Int32)), .val (.int ch), .val (.int (2 : Int32))] [(.int (5 : Int32)), (.int (2 : Int32))]))
      refine own_G.go (fun t_ k_ => XS.icmpNo X0.here hx rfl (hb hby d_rm_ioc_10) rfl (tlt (by decide : (2 : Int32) < (5 : Int32))).2.1 k_) ?_
      show own_G _ _ _ _ (s₁.setTop (mkF m 13 #[.val (.ref b), .val (.int ch), .val (.int (0 : Int32)), .val (.int (5 : Int32)), .val (.int ch), .val (.int (2 : Int32))] []))
      refine own_G.go (fun t_ k_ => XS.aloadN X0.here hx rfl (hb hby d_rm_ioc_13) rfl rfl k_) ?_
      show own_G _ _ _ _ (s₁.setTop (mkF m 14 #[.val (.ref b), .val (.int ch), .val (.int (0 : Int32)), .val (.int (5 : Int32)), .val (.int ch), .val (.int (2 : Int32))] [(.ref b)]))
      refine own_G.go (fun t_ k_ => XS.iload X0.here hx rfl (hb hby d_rm_ioc_14) rfl k_) ?_
      show own_G _ _ _ _ (s₁.setTop (mkF m 16 #[.val (.ref b), .val (.int ch), .val (.int (0 : Int32)), .val (.int (5 : Int32)), .val (.int ch), .val (.int (2 : Int32))] [(.int (2 : Int32)), (.ref b)]))
      obtain ⟨cel_3, A_3, -, S_3, M_3, H_3, -⟩ := id VB
      have I_3 : ¬ ((2 : Int32) < 0 ∨ cel_3.slots.size ≤ ((2 : Int32)).toNatClampNeg) := inb_of S_3 ⟨(by decide), (by decide : (2 : Int32) < (5 : Int32))⟩
      refine own_G.go (X0.baloadBytes hx (j := (2 : Int32)) (v := (.int (45 : Int32))) (by rw [e0]; exact A_3.1) (State.isArrayOf_alike hZ.alike A_3.2.1) A_3.2.2 I_3 (H_3.at I_3 rfl) (g := (mkF m 16 #[.val (.ref b), .val (.int ch), .val (.int (0 : Int32)), .val (.int (5 : Int32)), .val (.int ch), .val (.int (2 : Int32))] [(.int (2 : Int32)), (.ref b)])) rfl rfl (hb hby d_rm_ioc_16)) ?_
      show own_G _ _ _ _ (s₁.setTop (mkF m 17 #[.val (.ref b), .val (.int ch), .val (.int (0 : Int32)), .val (.int (5 : Int32)), .val (.int ch), .val (.int (2 : Int32))] [(.int (45 : Int32))]))
      refine own_G.go (fun t_ k_ => XS.iload X0.here hx rfl (hb hby d_rm_ioc_17) rfl k_) ?_
      show own_G _ _ _ _ (s₁.setTop (mkF m 19 #[.val (.ref b), .val (.int ch), .val (.int (0 : Int32)), .val (.int (5 : Int32)), .val (.int ch), .val (.int (2 : Int32))] [(.int ch), (.int (45 : Int32))]))
      by_cases hm2 : (45 : Int32) = ch
      · refine own_G.go (fun t_ k_ => XS.icmpNo X0.here hx rfl (hb hby d_rm_ioc_19) rfl (teq hm2).2 k_) ?_
        show own_G _ _ _ _ (s₁.setTop (mkF m 22 #[.val (.ref b), .val (.int ch), .val (.int (0 : Int32)), .val (.int (5 : Int32)), .val (.int ch), .val (.int (2 : Int32))] []))
        refine own_G.go (fun t_ k_ => XS.iload X0.here hx rfl (hb hby d_rm_ioc_22) rfl k_) ?_
        show own_G _ _ _ _ (s₁.setTop (mkF m 24 #[.val (.ref b), .val (.int ch), .val (.int (0 : Int32)), .val (.int (5 : Int32)), .val (.int ch), .val (.int (2 : Int32))] [(.int (2 : Int32))]))
        exact own_G.end_ X0 hlk (v := (some (.int (2 : Int32)))) (fun h => by rw [hrt] at h; cases h) (fun fs hr => retOut X0 hx hrt rfl (Or.inl ⟨rfl, Or.inl rfl, _, rfl⟩) (hb hby d_rm_ioc_24) hr) e0 ⟨⟨_, rfl, by decide⟩, rfl, rfl⟩ (by decide) (by decide)
      · refine own_G.go (fun t_ k_ => XS.icmpYes X0.here hx rfl (pc0 := 19) (pc' := 25) rfl (hb hby d_rm_ioc_19) rfl (feq hm2).2 (by decide) (by decide) k_) ?_
        show own_G _ _ _ _ (s₁.setTop (mkF m 25 #[.val (.ref b), .val (.int ch), .val (.int (0 : Int32)), .val (.int (5 : Int32)), .val (.int ch), .val (.int (2 : Int32))] []))
        refine own_G.go (fun t_ k_ => XS.iinc X0.here hx rfl (hb hby d_rm_ioc_25) rfl (l' := #[.val (.ref b), .val (.int ch), .val (.int (0 : Int32)), .val (.int (5 : Int32)), .val (.int ch), .val (.int (3 : Int32))]) rfl k_) ?_
        show own_G _ _ _ _ (s₁.setTop (mkF m 28 #[.val (.ref b), .val (.int ch), .val (.int (0 : Int32)), .val (.int (5 : Int32)), .val (.int ch), .val (.int (3 : Int32))] []))
        refine own_G.go (fun t_ k_ => XS.goto X0.here hx rfl (pc0 := 28) (pc' := 7) rfl (hb hby d_rm_ioc_28) (by decide) (by decide) k_) ?_
        show own_G _ _ _ _ (s₁.setTop (mkF m 7 #[.val (.ref b), .val (.int ch), .val (.int (0 : Int32)), .val (.int (5 : Int32)), .val (.int ch), .val (.int (3 : Int32))] []))
        refine own_G.go (fun t_ k_ => XS.iload X0.here hx rfl (hb hby d_rm_ioc_7) rfl k_) ?_
        show own_G _ _ _ _ (s₁.setTop (mkF m 9 #[.val (.ref b), .val (.int ch), .val (.int (0 : Int32)), .val (.int (5 : Int32)), .val (.int ch), .val (.int (3 : Int32))] [(.int (3 : Int32))]))
        refine own_G.go (fun t_ k_ => XS.iloadN X0.here hx rfl (hb hby d_rm_ioc_9) rfl k_) ?_
        show own_G _ _ _ _ (s₁.setTop (mkF m 10 #[.val (.ref b), .val (.int ch), .val (.int (0 : Int32)), .val (.int (5 : Int32)), .val (.int ch), .val (.int (3 : Int32))] [(.int (5 : Int32)), (.int (3 : Int32))]))
        refine own_G.go (fun t_ k_ => XS.icmpNo X0.here hx rfl (hb hby d_rm_ioc_10) rfl (tlt (by decide : (3 : Int32) < (5 : Int32))).2.1 k_) ?_
        show own_G _ _ _ _ (s₁.setTop (mkF m 13 #[.val (.ref b), .val (.int ch), .val (.int (0 : Int32)), .val (.int (5 : Int32)), .val (.int ch), .val (.int (3 : Int32))] []))
        refine own_G.go (fun t_ k_ => XS.aloadN X0.here hx rfl (hb hby d_rm_ioc_13) rfl rfl k_) ?_
        show own_G _ _ _ _ (s₁.setTop (mkF m 14 #[.val (.ref b), .val (.int ch), .val (.int (0 : Int32)), .val (.int (5 : Int32)), .val (.int ch), .val (.int (3 : Int32))] [(.ref b)]))
        refine own_G.go (fun t_ k_ => XS.iload X0.here hx rfl (hb hby d_rm_ioc_14) rfl k_) ?_
        show own_G _ _ _ _ (s₁.setTop (mkF m 16 #[.val (.ref b), .val (.int ch), .val (.int (0 : Int32)), .val (.int (5 : Int32)), .val (.int ch), .val (.int (3 : Int32))] [(.int (3 : Int32)), (.ref b)]))
        obtain ⟨cel_4, A_4, -, S_4, M_4, H_4, -⟩ := id VB
        have I_4 : ¬ ((3 : Int32) < 0 ∨ cel_4.slots.size ≤ ((3 : Int32)).toNatClampNeg) := inb_of S_4 ⟨(by decide), (by decide : (3 : Int32) < (5 : Int32))⟩
        refine own_G.go (X0.baloadBytes hx (j := (3 : Int32)) (v := (.int (58 : Int32))) (by rw [e0]; exact A_4.1) (State.isArrayOf_alike hZ.alike A_4.2.1) A_4.2.2 I_4 (H_4.at I_4 rfl) (g := (mkF m 16 #[.val (.ref b), .val (.int ch), .val (.int (0 : Int32)), .val (.int (5 : Int32)), .val (.int ch), .val (.int (3 : Int32))] [(.int (3 : Int32)), (.ref b)])) rfl rfl (hb hby d_rm_ioc_16)) ?_
        show own_G _ _ _ _ (s₁.setTop (mkF m 17 #[.val (.ref b), .val (.int ch), .val (.int (0 : Int32)), .val (.int (5 : Int32)), .val (.int ch), .val (.int (3 : Int32))] [(.int (58 : Int32))]))
        refine own_G.go (fun t_ k_ => XS.iload X0.here hx rfl (hb hby d_rm_ioc_17) rfl k_) ?_
        show own_G _ _ _ _ (s₁.setTop (mkF m 19 #[.val (.ref b), .val (.int ch), .val (.int (0 : Int32)), .val (.int (5 : Int32)), .val (.int ch), .val (.int (3 : Int32))] [(.int ch), (.int (58 : Int32))]))
        by_cases hm3 : (58 : Int32) = ch
        · refine own_G.go (fun t_ k_ => XS.icmpNo X0.here hx rfl (hb hby d_rm_ioc_19) rfl (teq hm3).2 k_) ?_
          show own_G _ _ _ _ (s₁.setTop (mkF m 22 #[.val (.ref b), .val (.int ch), .val (.int (0 : Int32)), .val (.int (5 : Int32)), .val (.int ch), .val (.int (3 : Int32))] []))
          refine own_G.go (fun t_ k_ => XS.iload X0.here hx rfl (hb hby d_rm_ioc_22) rfl k_) ?_
          show own_G _ _ _ _ (s₁.setTop (mkF m 24 #[.val (.ref b), .val (.int ch), .val (.int (0 : Int32)), .val (.int (5 : Int32)), .val (.int ch), .val (.int (3 : Int32))] [(.int (3 : Int32))]))
          exact own_G.end_ X0 hlk (v := (some (.int (3 : Int32)))) (fun h => by rw [hrt] at h; cases h) (fun fs hr => retOut X0 hx hrt rfl (Or.inl ⟨rfl, Or.inl rfl, _, rfl⟩) (hb hby d_rm_ioc_24) hr) e0 ⟨⟨_, rfl, by decide⟩, rfl, rfl⟩ (by decide) (by decide)
        · refine own_G.go (fun t_ k_ => XS.icmpYes X0.here hx rfl (pc0 := 19) (pc' := 25) rfl (hb hby d_rm_ioc_19) rfl (feq hm3).2 (by decide) (by decide) k_) ?_
          show own_G _ _ _ _ (s₁.setTop (mkF m 25 #[.val (.ref b), .val (.int ch), .val (.int (0 : Int32)), .val (.int (5 : Int32)), .val (.int ch), .val (.int (3 : Int32))] []))
          refine own_G.go (fun t_ k_ => XS.iinc X0.here hx rfl (hb hby d_rm_ioc_25) rfl (l' := #[.val (.ref b), .val (.int ch), .val (.int (0 : Int32)), .val (.int (5 : Int32)), .val (.int ch), .val (.int (4 : Int32))]) rfl k_) ?_
          show own_G _ _ _ _ (s₁.setTop (mkF m 28 #[.val (.ref b), .val (.int ch), .val (.int (0 : Int32)), .val (.int (5 : Int32)), .val (.int ch), .val (.int (4 : Int32))] []))
          refine own_G.go (fun t_ k_ => XS.goto X0.here hx rfl (pc0 := 28) (pc' := 7) rfl (hb hby d_rm_ioc_28) (by decide) (by decide) k_) ?_
          show own_G _ _ _ _ (s₁.setTop (mkF m 7 #[.val (.ref b), .val (.int ch), .val (.int (0 : Int32)), .val (.int (5 : Int32)), .val (.int ch), .val (.int (4 : Int32))] []))
          refine own_G.go (fun t_ k_ => XS.iload X0.here hx rfl (hb hby d_rm_ioc_7) rfl k_) ?_
          show own_G _ _ _ _ (s₁.setTop (mkF m 9 #[.val (.ref b), .val (.int ch), .val (.int (0 : Int32)), .val (.int (5 : Int32)), .val (.int ch), .val (.int (4 : Int32))] [(.int (4 : Int32))]))
          refine own_G.go (fun t_ k_ => XS.iloadN X0.here hx rfl (hb hby d_rm_ioc_9) rfl k_) ?_
          show own_G _ _ _ _ (s₁.setTop (mkF m 10 #[.val (.ref b), .val (.int ch), .val (.int (0 : Int32)), .val (.int (5 : Int32)), .val (.int ch), .val (.int (4 : Int32))] [(.int (5 : Int32)), (.int (4 : Int32))]))
          refine own_G.go (fun t_ k_ => XS.icmpNo X0.here hx rfl (hb hby d_rm_ioc_10) rfl (tlt (by decide : (4 : Int32) < (5 : Int32))).2.1 k_) ?_
          show own_G _ _ _ _ (s₁.setTop (mkF m 13 #[.val (.ref b), .val (.int ch), .val (.int (0 : Int32)), .val (.int (5 : Int32)), .val (.int ch), .val (.int (4 : Int32))] []))
          refine own_G.go (fun t_ k_ => XS.aloadN X0.here hx rfl (hb hby d_rm_ioc_13) rfl rfl k_) ?_
          show own_G _ _ _ _ (s₁.setTop (mkF m 14 #[.val (.ref b), .val (.int ch), .val (.int (0 : Int32)), .val (.int (5 : Int32)), .val (.int ch), .val (.int (4 : Int32))] [(.ref b)]))
          refine own_G.go (fun t_ k_ => XS.iload X0.here hx rfl (hb hby d_rm_ioc_14) rfl k_) ?_
          show own_G _ _ _ _ (s₁.setTop (mkF m 16 #[.val (.ref b), .val (.int ch), .val (.int (0 : Int32)), .val (.int (5 : Int32)), .val (.int ch), .val (.int (4 : Int32))] [(.int (4 : Int32)), (.ref b)]))
          obtain ⟨cel_5, A_5, -, S_5, M_5, H_5, -⟩ := id VB
          have I_5 : ¬ ((4 : Int32) < 0 ∨ cel_5.slots.size ≤ ((4 : Int32)).toNatClampNeg) := inb_of S_5 ⟨(by decide), (by decide : (4 : Int32) < (5 : Int32))⟩
          refine own_G.go (X0.baloadBytes hx (j := (4 : Int32)) (v := (.int (47 : Int32))) (by rw [e0]; exact A_5.1) (State.isArrayOf_alike hZ.alike A_5.2.1) A_5.2.2 I_5 (H_5.at I_5 rfl) (g := (mkF m 16 #[.val (.ref b), .val (.int ch), .val (.int (0 : Int32)), .val (.int (5 : Int32)), .val (.int ch), .val (.int (4 : Int32))] [(.int (4 : Int32)), (.ref b)])) rfl rfl (hb hby d_rm_ioc_16)) ?_
          show own_G _ _ _ _ (s₁.setTop (mkF m 17 #[.val (.ref b), .val (.int ch), .val (.int (0 : Int32)), .val (.int (5 : Int32)), .val (.int ch), .val (.int (4 : Int32))] [(.int (47 : Int32))]))
          refine own_G.go (fun t_ k_ => XS.iload X0.here hx rfl (hb hby d_rm_ioc_17) rfl k_) ?_
          show own_G _ _ _ _ (s₁.setTop (mkF m 19 #[.val (.ref b), .val (.int ch), .val (.int (0 : Int32)), .val (.int (5 : Int32)), .val (.int ch), .val (.int (4 : Int32))] [(.int ch), (.int (47 : Int32))]))
          by_cases hm4 : (47 : Int32) = ch
          · refine own_G.go (fun t_ k_ => XS.icmpNo X0.here hx rfl (hb hby d_rm_ioc_19) rfl (teq hm4).2 k_) ?_
            show own_G _ _ _ _ (s₁.setTop (mkF m 22 #[.val (.ref b), .val (.int ch), .val (.int (0 : Int32)), .val (.int (5 : Int32)), .val (.int ch), .val (.int (4 : Int32))] []))
            refine own_G.go (fun t_ k_ => XS.iload X0.here hx rfl (hb hby d_rm_ioc_22) rfl k_) ?_
            show own_G _ _ _ _ (s₁.setTop (mkF m 24 #[.val (.ref b), .val (.int ch), .val (.int (0 : Int32)), .val (.int (5 : Int32)), .val (.int ch), .val (.int (4 : Int32))] [(.int (4 : Int32))]))
            exact own_G.end_ X0 hlk (v := (some (.int (4 : Int32)))) (fun h => by rw [hrt] at h; cases h) (fun fs hr => retOut X0 hx hrt rfl (Or.inl ⟨rfl, Or.inl rfl, _, rfl⟩) (hb hby d_rm_ioc_24) hr) e0 ⟨⟨_, rfl, by decide⟩, rfl, rfl⟩ (by decide) (by decide)
          · refine own_G.go (fun t_ k_ => XS.icmpYes X0.here hx rfl (pc0 := 19) (pc' := 25) rfl (hb hby d_rm_ioc_19) rfl (feq hm4).2 (by decide) (by decide) k_) ?_
            show own_G _ _ _ _ (s₁.setTop (mkF m 25 #[.val (.ref b), .val (.int ch), .val (.int (0 : Int32)), .val (.int (5 : Int32)), .val (.int ch), .val (.int (4 : Int32))] []))
            refine own_G.go (fun t_ k_ => XS.iinc X0.here hx rfl (hb hby d_rm_ioc_25) rfl (l' := #[.val (.ref b), .val (.int ch), .val (.int (0 : Int32)), .val (.int (5 : Int32)), .val (.int ch), .val (.int (5 : Int32))]) rfl k_) ?_
            show own_G _ _ _ _ (s₁.setTop (mkF m 28 #[.val (.ref b), .val (.int ch), .val (.int (0 : Int32)), .val (.int (5 : Int32)), .val (.int ch), .val (.int (5 : Int32))] []))
            refine own_G.go (fun t_ k_ => XS.goto X0.here hx rfl (pc0 := 28) (pc' := 7) rfl (hb hby d_rm_ioc_28) (by decide) (by decide) k_) ?_
            show own_G _ _ _ _ (s₁.setTop (mkF m 7 #[.val (.ref b), .val (.int ch), .val (.int (0 : Int32)), .val (.int (5 : Int32)), .val (.int ch), .val (.int (5 : Int32))] []))
            refine own_G.go (fun t_ k_ => XS.iload X0.here hx rfl (hb hby d_rm_ioc_7) rfl k_) ?_
            show own_G _ _ _ _ (s₁.setTop (mkF m 9 #[.val (.ref b), .val (.int ch), .val (.int (0 : Int32)), .val (.int (5 : Int32)), .val (.int ch), .val (.int (5 : Int32))] [(.int (5 : Int32))]))
            refine own_G.go (fun t_ k_ => XS.iloadN X0.here hx rfl (hb hby d_rm_ioc_9) rfl k_) ?_
            show own_G _ _ _ _ (s₁.setTop (mkF m 10 #[.val (.ref b), .val (.int ch), .val (.int (0 : Int32)), .val (.int (5 : Int32)), .val (.int ch), .val (.int (5 : Int32))] [(.int (5 : Int32)), (.int (5 : Int32))]))
            refine own_G.go (fun t_ k_ => XS.icmpYes X0.here hx rfl (pc0 := 10) (pc' := 31) rfl (hb hby d_rm_ioc_10) rfl (flt (by decide : ¬ ((5 : Int32) < (5 : Int32)))).2.1 (by decide) (by decide) k_) ?_
            show own_G _ _ _ _ (s₁.setTop (mkF m 31 #[.val (.ref b), .val (.int ch), .val (.int (0 : Int32)), .val (.int (5 : Int32)), .val (.int ch), .val (.int (5 : Int32))] []))
            exact absurd (own_sp_ne hsp hm0 hm1 hm2 hm3 hm4) id
theorem pd_1 : parseMethodDescriptor "(I)Z" = some ⟨[.int], some .boolean⟩ := by decide +kernel
theorem pd_2 : parseMethodDescriptor "(II)I" = some ⟨[.int, .int], some .int⟩ := by decide +kernel
theorem pd_3 : parseMethodDescriptor "([BIII)I" = some ⟨[(.array .byte), .int, .int, .int], some .int⟩ := by decide +kernel
theorem d_rm_io4_0 : decode jdk_43_method_22_code 0 = .ok (.iload_n 1, 1) := by decide +kernel
theorem d_rm_io4_1 : decode jdk_43_method_22_code 1 = .ok (.invokestatic 88, 3) := by decide +kernel
theorem d_rm_io4_4 : decode jdk_43_method_22_code 4 = .ok (.ifCond .ne 5, 3) := by decide +kernel
theorem d_rm_io4_9 : decode jdk_43_method_22_code 9 = .ok (.iload_n 2, 1) := by decide +kernel
theorem d_rm_io4_10 : decode jdk_43_method_22_code 10 = .ok (.iconst 0, 1) := by decide +kernel
theorem d_rm_io4_11 : decode jdk_43_method_22_code 11 = .ok (.invokestatic 92, 3) := by decide +kernel
theorem d_rm_io4_14 : decode jdk_43_method_22_code 14 = .ok (.istore_n 2, 1) := by decide +kernel
theorem d_rm_io4_15 : decode jdk_43_method_22_code 15 = .ok (.iload_n 3, 1) := by decide +kernel
theorem d_rm_io4_16 : decode jdk_43_method_22_code 16 = .ok (.aload_n 0, 1) := by decide +kernel
theorem d_rm_io4_17 : decode jdk_43_method_22_code 17 = .ok (.arraylength, 1) := by decide +kernel
theorem d_rm_io4_18 : decode jdk_43_method_22_code 18 = .ok (.invokestatic 38, 3) := by decide +kernel
theorem d_rm_io4_21 : decode jdk_43_method_22_code 21 = .ok (.istore_n 3, 1) := by decide +kernel
theorem d_rm_io4_22 : decode jdk_43_method_22_code 22 = .ok (.iload_n 2, 1) := by decide +kernel
theorem d_rm_io4_23 : decode jdk_43_method_22_code 23 = .ok (.iload_n 3, 1) := by decide +kernel
theorem d_rm_io4_24 : decode jdk_43_method_22_code 24 = .ok (.if_icmp .lt 5, 3) := by decide +kernel
theorem d_rm_io4_29 : decode jdk_43_method_22_code 29 = .ok (.aload_n 0, 1) := by decide +kernel
theorem d_rm_io4_30 : decode jdk_43_method_22_code 30 = .ok (.iload_n 1, 1) := by decide +kernel
theorem d_rm_io4_31 : decode jdk_43_method_22_code 31 = .ok (.iload_n 2, 1) := by decide +kernel
theorem d_rm_io4_32 : decode jdk_43_method_22_code 32 = .ok (.iload_n 3, 1) := by decide +kernel
theorem d_rm_io4_33 : decode jdk_43_method_22_code 33 = .ok (.invokestatic 95, 3) := by decide +kernel
theorem d_rm_io4_36 : decode jdk_43_method_22_code 36 = .ok (.ireturn, 1) := by decide +kernel
set_option maxRecDepth 65536 in
set_option maxHeartbeats 40000000 in
theorem rm_io4 (l : Launch) (Z : State) (a0 : Array Value) (hw : ∀ d ∈ tables_1, d.before a0 Z = true) (ws : List Jvm.Cond) (b : Addr) (kb : ClassId) (ch : Int32) (h0 : Heap) (n0 : Nat) (Z0 : n0 ≤ h0.size) (VB : Arv Z h0 b kb .byte (5 : Int32) ([(.int (46 : Int32)), (.int (95 : Int32)), (.int (45 : Int32)), (.int (58 : Int32)), (.int (47 : Int32))] : List Value) (.int 0)) (hsp : own_sp ch) :
    MetFree l (⟨"java/lang/StringLatin1", "indexOf", "([BIII)I"⟩ : MethodName) (head1 (Jvm.Cond.code (⟨"java/lang/StringLatin1", "indexOf", "([BIII)I"⟩ : MethodName) jdk_43_method_22_code 4 (some .int) :: ws) ({ frames := 1, cells := 0, slots := 0, locals := 19 } : Room)) (fun a_ U => a_ = #[(.ref b), (.int ch), (.int (0 : Int32)), (.int (5 : Int32))] ∧ Z.Warmed39 U.vm ∧ U.heap = h0) (fun _ _ _ _ _ => True) (fun _ U o U' => ∃ v L, o = .returned v ∧ Qix h0 v U'.heap L ∧ FrameEnd U o U' L ({ frames := 1, cells := 0, slots := 0, locals := 19 } : Room).cells ({ frames := 1, cells := 0, slots := 0, locals := 19 } : Room).slots) := by
  refine MetFree.of_bodySF (plainFor_of_name pn_2) hisR ?_
  intro p e s m args below meth c s₁ Bd hml0 hP hK
  obtain ⟨rfl, hZ, hh⟩ := hP
  have hx := Bd.exec
  have hby := Bd.bytes
  have hrt := Bd.returns
  have hlk : meth.locks = false := Bd.notSynchronized
  have hml : c.maxLocals = 4 := hml0
  have hown : s.vm.findClass "java/lang/StringLatin1" = some m.cls := findClass_of_methodNamed Bd.named
  have hnm := (name_of_methodNamed Bd.named Bd.method).1
  have X0 : Stand p l e ({ frames := 1, cells := 0, slots := 0, locals := 19 } : Room) s m #[(.ref b), (.int ch), (.int (0 : Int32)), (.int (5 : Int32))] below meth c s₁ [] 0 0 := Stand.of_body Bd
  have e0 : s₁.heap = h0 := by rw [← hh, Bd.state]; rfl
  have N0 := Fr.nil n0
  show own_G p.tables e below (fun o t => ∃ v L, o = .returned v ∧ Qix h0 v t.heap L ∧ FrameEnd s o t L ({ frames := 1, cells := 0, slots := 0, locals := 19 } : Room).cells ({ frames := 1, cells := 0, slots := 0, locals := 19 } : Room).slots) (s₁.setTop (entryFrame m #[(.ref b), (.int ch), (.int (0 : Int32)), (.int (5 : Int32))] 4))
  refine own_G.cast (show entryFrame m #[(.ref b), (.int ch), (.int (0 : Int32)), (.int (5 : Int32))] 4 = mkF m 0 #[.val (.ref b), .val (.int ch), .val (.int (0 : Int32)), .val (.int (5 : Int32))] [] from by first | (simp [entryFrame, mkF, argsToLocals, Value.category]; done) | rfl) ?_
  refine own_G.go (fun t_ k_ => XS.iloadN X0.here hx rfl (hb hby d_rm_io4_0) rfl k_) ?_
  show own_G _ _ _ _ (s₁.setTop (mkF m 1 #[.val (.ref b), .val (.int ch), .val (.int (0 : Int32)), .val (.int (5 : Int32))] [(.int ch)]))
  obtain ⟨_, T_1, L_1, Q_1, X_1, st_1⟩ := own_callS X0 hx hown (mvT hZ (own_w hw 102 rfl)) (mvT hZ (own_w hw 103 rfl)) (mvT hZ (own_w hw 73 rfl)) (mvT hZ (own_w hw 104 rfl)) (by decide) (Q := (Qp (.int (1 : Int32)) h0)) (backOf (W := 0) (rm_ce l Z a0 hw [] ch h0 n0 Z0 hsp) hZ (own_w hw 104 rfl) (own_w hw 73 rfl) (by decide) (by decide)) (g := (mkF m 1 #[.val (.ref b), .val (.int ch), .val (.int (0 : Int32)), .val (.int (5 : Int32))] [(.int ch)])) rfl (by rw [hml]; rfl) (argsL := [(.int ch)]) (rest := []) (lenOf pd_1 rfl) rfl (by show 2 * 0 + _ ≤ _; exact Nat.le_of_eq rfl) (hb hby d_rm_io4_1) e0 rfl (by decide) (by decide)
  obtain ⟨rfl, rfl, eh_1⟩ := Q_1
  refine own_G.via st_1 ?_
  have N_1 := Fr.app N0 (Fr.nil n0)
  show own_G _ _ _ _ (T_1.setTop (mkF m 4 #[.val (.ref b), .val (.int ch), .val (.int (0 : Int32)), .val (.int (5 : Int32))] [(.int (1 : Int32))]))
  refine own_G.go (fun t_ k_ => XS.ifYes X_1.here hx rfl (pc0 := 4) (pc' := 9) rfl (hb hby d_rm_io4_4) rfl ((if0 _ _).trans (feq (by decide : ¬ ((1 : Int32) = (0 : Int32)))).2) (by decide) (by decide) k_) ?_
  show own_G _ _ _ _ (T_1.setTop (mkF m 9 #[.val (.ref b), .val (.int ch), .val (.int (0 : Int32)), .val (.int (5 : Int32))] []))
  refine own_G.go (fun t_ k_ => XS.iloadN X_1.here hx rfl (hb hby d_rm_io4_9) rfl k_) ?_
  show own_G _ _ _ _ (T_1.setTop (mkF m 10 #[.val (.ref b), .val (.int ch), .val (.int (0 : Int32)), .val (.int (5 : Int32))] [(.int (0 : Int32))]))
  refine own_G.go (fun t_ k_ => XS.iconst X_1.here hx rfl (hb hby d_rm_io4_10) k_) ?_
  show own_G _ _ _ _ (T_1.setTop (mkF m 11 #[.val (.ref b), .val (.int ch), .val (.int (0 : Int32)), .val (.int (5 : Int32))] [(.int (0 : Int32)), (.int (0 : Int32))]))
  obtain ⟨_, T_2, L_2, Q_2, X_2, st_2⟩ := own_callS X_1 hx hown (mvT hZ (own_w hw 105 rfl)) (mvT hZ (own_w hw 106 rfl)) (mvT hZ (own_w hw 107 rfl)) (mvT hZ (own_w hw 108 rfl)) (by decide) (Q := (Qp (.int (0 : Int32)) h0)) (backOf (W := 0) (rm_max l Z a0 hw []  h0 n0 Z0 ) hZ (own_w hw 108 rfl) (own_w hw 107 rfl) (by decide) (by decide)) (g := (mkF m 11 #[.val (.ref b), .val (.int ch), .val (.int (0 : Int32)), .val (.int (5 : Int32))] [(.int (0 : Int32)), (.int (0 : Int32))])) rfl (by rw [hml]; rfl) (argsL := [(.int (0 : Int32)), (.int (0 : Int32))]) (rest := []) (lenOf pd_2 rfl) rfl (by show 2 * 0 + _ ≤ _; exact Nat.le_of_eq rfl) (hb hby d_rm_io4_11) eh_1 rfl (by decide) (by decide)
  obtain ⟨rfl, rfl, eh_2⟩ := Q_2
  refine own_G.via st_2 ?_
  have N_2 := Fr.app N_1 (Fr.nil n0)
  show own_G _ _ _ _ (T_2.setTop (mkF m 14 #[.val (.ref b), .val (.int ch), .val (.int (0 : Int32)), .val (.int (5 : Int32))] [(.int (0 : Int32))]))
  refine own_G.go (fun t_ k_ => XS.istoreN X_2.here hx rfl (hb hby d_rm_io4_14) rfl (l' := #[.val (.ref b), .val (.int ch), .val (.int (0 : Int32)), .val (.int (5 : Int32))]) rfl k_) ?_
  show own_G _ _ _ _ (T_2.setTop (mkF m 15 #[.val (.ref b), .val (.int ch), .val (.int (0 : Int32)), .val (.int (5 : Int32))] []))
  refine own_G.go (fun t_ k_ => XS.iloadN X_2.here hx rfl (hb hby d_rm_io4_15) rfl k_) ?_
  show own_G _ _ _ _ (T_2.setTop (mkF m 16 #[.val (.ref b), .val (.int ch), .val (.int (0 : Int32)), .val (.int (5 : Int32))] [(.int (5 : Int32))]))
  refine own_G.go (fun t_ k_ => XS.aloadN X_2.here hx rfl (hb hby d_rm_io4_16) rfl rfl k_) ?_
  show own_G _ _ _ _ (T_2.setTop (mkF m 17 #[.val (.ref b), .val (.int ch), .val (.int (0 : Int32)), .val (.int (5 : Int32))] [(.ref b), (.int (5 : Int32))]))
  obtain ⟨cel_3, A_3, -, S_3, M_3, -, -⟩ := id VB
  refine own_G.go (X_2.arraylength hx (by rw [eh_2]; exact A_3.1) (State.isArrayOf_alike hZ.alike A_3.2.1) (g := (mkF m 17 #[.val (.ref b), .val (.int ch), .val (.int (0 : Int32)), .val (.int (5 : Int32))] [(.ref b), (.int (5 : Int32))])) rfl rfl (hb hby d_rm_io4_17)) ?_
  rw [len_of S_3 M_3]
  show own_G _ _ _ _ (T_2.setTop (mkF m 18 #[.val (.ref b), .val (.int ch), .val (.int (0 : Int32)), .val (.int (5 : Int32))] [(.int (5 : Int32)), (.int (5 : Int32))]))
  obtain ⟨_, T_4, L_4, Q_4, X_4, st_4⟩ := own_callS X_2 hx hown (mvT hZ (own_w hw 109 rfl)) (mvT hZ (own_w hw 110 rfl)) (mvT hZ (own_w hw 107 rfl)) (mvT hZ (own_w hw 111 rfl)) (by decide) (Q := (Qp (.int (5 : Int32)) h0)) (backOf (W := 0) (rm_min l Z a0 hw []  h0 n0 Z0 ) hZ (own_w hw 111 rfl) (own_w hw 107 rfl) (by decide) (by decide)) (g := (mkF m 18 #[.val (.ref b), .val (.int ch), .val (.int (0 : Int32)), .val (.int (5 : Int32))] [(.int (5 : Int32)), (.int (5 : Int32))])) rfl (by rw [hml]; rfl) (argsL := [(.int (5 : Int32)), (.int (5 : Int32))]) (rest := []) (lenOf pd_2 rfl) rfl (by show 2 * 0 + _ ≤ _; exact Nat.le_of_eq rfl) (hb hby d_rm_io4_18) eh_2 rfl (by decide) (by decide)
  obtain ⟨rfl, rfl, eh_4⟩ := Q_4
  refine own_G.via st_4 ?_
  have N_4 := Fr.app N_2 (Fr.nil n0)
  show own_G _ _ _ _ (T_4.setTop (mkF m 21 #[.val (.ref b), .val (.int ch), .val (.int (0 : Int32)), .val (.int (5 : Int32))] [(.int (5 : Int32))]))
  refine own_G.go (fun t_ k_ => XS.istoreN X_4.here hx rfl (hb hby d_rm_io4_21) rfl (l' := #[.val (.ref b), .val (.int ch), .val (.int (0 : Int32)), .val (.int (5 : Int32))]) rfl k_) ?_
  show own_G _ _ _ _ (T_4.setTop (mkF m 22 #[.val (.ref b), .val (.int ch), .val (.int (0 : Int32)), .val (.int (5 : Int32))] []))
  refine own_G.go (fun t_ k_ => XS.iloadN X_4.here hx rfl (hb hby d_rm_io4_22) rfl k_) ?_
  show own_G _ _ _ _ (T_4.setTop (mkF m 23 #[.val (.ref b), .val (.int ch), .val (.int (0 : Int32)), .val (.int (5 : Int32))] [(.int (0 : Int32))]))
  refine own_G.go (fun t_ k_ => XS.iloadN X_4.here hx rfl (hb hby d_rm_io4_23) rfl k_) ?_
  show own_G _ _ _ _ (T_4.setTop (mkF m 24 #[.val (.ref b), .val (.int ch), .val (.int (0 : Int32)), .val (.int (5 : Int32))] [(.int (5 : Int32)), (.int (0 : Int32))]))
  refine own_G.go (fun t_ k_ => XS.icmpYes X_4.here hx rfl (pc0 := 24) (pc' := 29) rfl (hb hby d_rm_io4_24) rfl (tlt (by decide : (0 : Int32) < (5 : Int32))).1 (by decide) (by decide) k_) ?_
  show own_G _ _ _ _ (T_4.setTop (mkF m 29 #[.val (.ref b), .val (.int ch), .val (.int (0 : Int32)), .val (.int (5 : Int32))] []))
  refine own_G.go (fun t_ k_ => XS.aloadN X_4.here hx rfl (hb hby d_rm_io4_29) rfl rfl k_) ?_
  show own_G _ _ _ _ (T_4.setTop (mkF m 30 #[.val (.ref b), .val (.int ch), .val (.int (0 : Int32)), .val (.int (5 : Int32))] [(.ref b)]))
  refine own_G.go (fun t_ k_ => XS.iloadN X_4.here hx rfl (hb hby d_rm_io4_30) rfl k_) ?_
  show own_G _ _ _ _ (T_4.setTop (mkF m 31 #[.val (.ref b), .val (.int ch), .val (.int (0 : Int32)), .val (.int (5 : Int32))] [(.int ch), (.ref b)]))
  refine own_G.go (fun t_ k_ => XS.iloadN X_4.here hx rfl (hb hby d_rm_io4_31) rfl k_) ?_
  show own_G _ _ _ _ (T_4.setTop (mkF m 32 #[.val (.ref b), .val (.int ch), .val (.int (0 : Int32)), .val (.int (5 : Int32))] [(.int (0 : Int32)), (.int ch), (.ref b)]))
  refine own_G.go (fun t_ k_ => XS.iloadN X_4.here hx rfl (hb hby d_rm_io4_32) rfl k_) ?_
  show own_G _ _ _ _ (T_4.setTop (mkF m 33 #[.val (.ref b), .val (.int ch), .val (.int (0 : Int32)), .val (.int (5 : Int32))] [(.int (5 : Int32)), (.int (0 : Int32)), (.int ch), (.ref b)]))
  obtain ⟨_, T_5, L_5, Q_5, X_5, st_5⟩ := own_callS X_4 hx hown (mvT hZ (own_w hw 112 rfl)) (mvT hZ (own_w hw 113 rfl)) (mvT hZ (own_w hw 73 rfl)) (mvT hZ (own_w hw 114 rfl)) (by decide) (Q := (Qix h0)) (backOf (W := 0) (rm_ioc l Z a0 hw [] b kb ch h0 n0 Z0 VB hsp) hZ (own_w hw 114 rfl) (own_w hw 73 rfl) (by decide) (by decide)) (g := (mkF m 33 #[.val (.ref b), .val (.int ch), .val (.int (0 : Int32)), .val (.int (5 : Int32))] [(.int (5 : Int32)), (.int (0 : Int32)), (.int ch), (.ref b)])) rfl (by rw [hml]; rfl) (argsL := [(.ref b), (.int ch), (.int (0 : Int32)), (.int (5 : Int32))]) (rest := []) (lenOf pd_3 rfl) rfl (by show 2 * 0 + _ ≤ _; exact Nat.le_of_eq rfl) (hb hby d_rm_io4_33) eh_4 rfl (by decide) (by decide)
  obtain ⟨⟨z_5, rfl, hz_5⟩, rfl, eh_5⟩ := Q_5
  refine own_G.via st_5 ?_
  have N_5 := Fr.app N_4 (Fr.nil n0)
  show own_G _ _ _ _ (T_5.setTop (mkF m 36 #[.val (.ref b), .val (.int ch), .val (.int (0 : Int32)), .val (.int (5 : Int32))] [(.int z_5)]))
  exact own_G.end_ X_5 hlk (v := (some (.int z_5))) (fun h => by rw [hrt] at h; cases h) (fun fs hr => retOut X_5 hx hrt rfl (Or.inl ⟨rfl, Or.inl rfl, _, rfl⟩) (hb hby d_rm_io4_36) hr) eh_5 ⟨⟨_, rfl, hz_5⟩, rfl, rfl⟩ (by decide) (by decide)
theorem pn_3 : plainName "java/lang/String" = true := by first | (simp [plainName, overriddenIn]; done) | decide +kernel
theorem d_rm_l1_0 : decode jdk_42_method_154_code 0 = .ok (.getstatic 38, 3) := by decide +kernel
theorem d_rm_l1_3 : decode jdk_42_method_154_code 3 = .ok (.ifCond .eq 14, 3) := by decide +kernel
theorem d_rm_l1_6 : decode jdk_42_method_154_code 6 = .ok (.aload_n 0, 1) := by decide +kernel
theorem d_rm_l1_7 : decode jdk_42_method_154_code 7 = .ok (.getfield 15, 3) := by decide +kernel
theorem d_rm_l1_10 : decode jdk_42_method_154_code 10 = .ok (.ifCond .ne 7, 3) := by decide +kernel
theorem d_rm_l1_13 : decode jdk_42_method_154_code 13 = .ok (.iconst 1, 1) := by decide +kernel
theorem d_rm_l1_14 : decode jdk_42_method_154_code 14 = .ok (.goto 4, 3) := by decide +kernel
theorem d_rm_l1_18 : decode jdk_42_method_154_code 18 = .ok (.ireturn, 1) := by decide +kernel
set_option maxRecDepth 65536 in
set_option maxHeartbeats 40000000 in
theorem rm_l1 (l : Launch) (Z : State) (a0 : Array Value) (hw : ∀ d ∈ tables_1, d.before a0 Z = true) (ws : List Jvm.Cond) (x : Addr) (zc : Int32) (h0 : Heap) (n0 : Nat) (Z0 : n0 ≤ h0.size) (C0 : Fld Z h0 x "java/lang/String" "coder" "B" (.int (0 : Int32))) (O2 : Sta Z Z.heap "java/lang/String" "COMPACT_STRINGS" "Z" (.int zc)) (P5 : ¬ (zc = (0 : Int32))) (X00 : Old Z n0 h0) :
    MetFree l (⟨"java/lang/String", "isLatin1", "()Z"⟩ : MethodName) (head1 (Jvm.Cond.code (⟨"java/lang/String", "isLatin1", "()Z"⟩ : MethodName) jdk_42_method_154_code 1 (some .boolean) :: ws) ({ frames := 0, cells := 0, slots := 0, locals := 0 } : Room)) (fun a_ U => a_ = #[(.ref x)] ∧ Z.Warmed39 U.vm ∧ U.heap = h0) (fun _ _ _ _ _ => True) (fun _ U o U' => ∃ v L, o = .returned v ∧ Qp (.int (1 : Int32)) h0 v U'.heap L ∧ FrameEnd U o U' L ({ frames := 0, cells := 0, slots := 0, locals := 0 } : Room).cells ({ frames := 0, cells := 0, slots := 0, locals := 0 } : Room).slots) := by
  refine MetFree.of_bodySF (plainFor_of_name pn_3) hisR ?_
  intro p e s m args below meth c s₁ Bd hml0 hP hK
  obtain ⟨rfl, hZ, hh⟩ := hP
  have hx := Bd.exec
  have hby := Bd.bytes
  have hrt := Bd.returns
  have hlk : meth.locks = false := Bd.notSynchronized
  have hml : c.maxLocals = 1 := hml0
  have hown : s.vm.findClass "java/lang/String" = some m.cls := findClass_of_methodNamed Bd.named
  have hnm := (name_of_methodNamed Bd.named Bd.method).1
  have X0 : Stand p l e ({ frames := 0, cells := 0, slots := 0, locals := 0 } : Room) s m #[(.ref x)] below meth c s₁ [] 0 0 := Stand.of_body Bd
  have e0 : s₁.heap = h0 := by rw [← hh, Bd.state]; rfl
  have N0 := Fr.nil n0
  show own_G p.tables e below (fun o t => ∃ v L, o = .returned v ∧ Qp (.int (1 : Int32)) h0 v t.heap L ∧ FrameEnd s o t L ({ frames := 0, cells := 0, slots := 0, locals := 0 } : Room).cells ({ frames := 0, cells := 0, slots := 0, locals := 0 } : Room).slots) (s₁.setTop (entryFrame m #[(.ref x)] 1))
  refine own_G.cast (show entryFrame m #[(.ref x)] 1 = mkF m 0 #[.val (.ref x)] [] from by first | (simp [entryFrame, mkF, argsToLocals, Value.category]; done) | rfl) ?_
  obtain ⟨T_1, X_1, e_1, st_1⟩ := getS2 X0 hx hZ hown (host := "") (Or.inl (own_w hw 19 rfl)) Via.refl e0 (O2.ext X00.2) (g := (mkF m 0 #[.val (.ref x)] [])) rfl (hb hby d_rm_l1_0)
  refine own_G.go st_1 ?_
  show own_G _ _ _ _ (T_1.setTop (mkF m 3 #[.val (.ref x)] [(.int zc)]))
  refine own_G.go (fun t_ k_ => XS.ifNo X_1.here hx rfl (hb hby d_rm_l1_3) rfl ((if0 _ _).trans (feq (P5 : ¬ zc = (0 : Int32))).1) k_) ?_
  show own_G _ _ _ _ (T_1.setTop (mkF m 6 #[.val (.ref x)] []))
  refine own_G.go (fun t_ k_ => XS.aloadN X_1.here hx rfl (hb hby d_rm_l1_6) rfl rfl k_) ?_
  show own_G _ _ _ _ (T_1.setTop (mkF m 7 #[.val (.ref x)] [(.ref x)]))
  obtain ⟨T_2, X_2, e_2, st_2⟩ := getF X_1 hx hZ hown (host := "") (Or.inl (own_w hw 31 rfl)) Via.refl e_1 C0 (g := (mkF m 7 #[.val (.ref x)] [(.ref x)])) rfl rfl (hb hby d_rm_l1_7)
  refine own_G.go st_2 ?_
  show own_G _ _ _ _ (T_2.setTop (mkF m 10 #[.val (.ref x)] [(.int (0 : Int32))]))
  refine own_G.go (fun t_ k_ => XS.ifNo X_2.here hx rfl (hb hby d_rm_l1_10) rfl ((if0 _ _).trans (teq (by decide : (0 : Int32) = (0 : Int32))).2) k_) ?_
  show own_G _ _ _ _ (T_2.setTop (mkF m 13 #[.val (.ref x)] []))
  refine own_G.go (fun t_ k_ => XS.iconst X_2.here hx rfl (hb hby d_rm_l1_13) k_) ?_
  show own_G _ _ _ _ (T_2.setTop (mkF m 14 #[.val (.ref x)] [(.int (1 : Int32))]))
  refine own_G.go (fun t_ k_ => XS.goto X_2.here hx rfl (pc0 := 14) (pc' := 18) rfl (hb hby d_rm_l1_14) (by decide) (by decide) k_) ?_
  show own_G _ _ _ _ (T_2.setTop (mkF m 18 #[.val (.ref x)] [(.int (1 : Int32))]))
  exact own_G.end_ X_2 hlk (v := (some (.int (1 : Int32)))) (fun h => by rw [hrt] at h; cases h) (fun fs hr => retN X_2 hx (z := (1 : Int32)) (t := .boolean) hrt (by simp) (hb hby d_rm_l1_18) hr) e_2 ⟨rfl, rfl, rfl⟩ (by decide) (by decide)
theorem pd_4 : parseMethodDescriptor "()Z" = some ⟨[], some .boolean⟩ := by decide +kernel
theorem pd_5 : parseMethodDescriptor "()I" = some ⟨[], some .int⟩ := by decide +kernel
theorem d_rm_io3_0 : decode jdk_42_method_80_code 0 = .ok (.aload_n 0, 1) := by decide +kernel
theorem d_rm_io3_1 : decode jdk_42_method_80_code 1 = .ok (.invokevirtual 492, 3) := by decide +kernel
theorem d_rm_io3_4 : decode jdk_42_method_80_code 4 = .ok (.ifCond .eq 19, 3) := by decide +kernel
theorem d_rm_io3_7 : decode jdk_42_method_80_code 7 = .ok (.aload_n 0, 1) := by decide +kernel
theorem d_rm_io3_8 : decode jdk_42_method_80_code 8 = .ok (.getfield 9, 3) := by decide +kernel
theorem d_rm_io3_11 : decode jdk_42_method_80_code 11 = .ok (.iload_n 1, 1) := by decide +kernel
theorem d_rm_io3_12 : decode jdk_42_method_80_code 12 = .ok (.iload_n 2, 1) := by decide +kernel
theorem d_rm_io3_13 : decode jdk_42_method_80_code 13 = .ok (.aload_n 0, 1) := by decide +kernel
theorem d_rm_io3_14 : decode jdk_42_method_80_code 14 = .ok (.invokevirtual 505, 3) := by decide +kernel
theorem d_rm_io3_17 : decode jdk_42_method_80_code 17 = .ok (.invokestatic 637, 3) := by decide +kernel
theorem d_rm_io3_20 : decode jdk_42_method_80_code 20 = .ok (.goto 16, 3) := by decide +kernel
theorem d_rm_io3_36 : decode jdk_42_method_80_code 36 = .ok (.ireturn, 1) := by decide +kernel
set_option maxRecDepth 65536 in
set_option maxHeartbeats 40000000 in
theorem rm_io3 (l : Launch) (Z : State) (a0 : Array Value) (hw : ∀ d ∈ tables_1, d.before a0 Z = true) (ws : List Jvm.Cond) (x b : Addr) (kb : ClassId) (ch : Int32) (zc : Int32) (h0 : Heap) (n0 : Nat) (Z0 : n0 ≤ h0.size) (E0 : Exa Z h0 x "java/lang/String") (V0 : Fld Z h0 x "java/lang/String" "value" "[B" (.ref b)) (C0 : Fld Z h0 x "java/lang/String" "coder" "B" (.int (0 : Int32))) (VB : Arv Z h0 b kb .byte (5 : Int32) ([(.int (46 : Int32)), (.int (95 : Int32)), (.int (45 : Int32)), (.int (58 : Int32)), (.int (47 : Int32))] : List Value) (.int 0)) (hsp : own_sp ch) (O2 : Sta Z Z.heap "java/lang/String" "COMPACT_STRINGS" "Z" (.int zc)) (P5 : ¬ (zc = (0 : Int32))) (X00 : Old Z n0 h0) :
    MetFree l (⟨"java/lang/String", "indexOf", "(II)I"⟩ : MethodName) (head1 (Jvm.Cond.code (⟨"java/lang/String", "indexOf", "(II)I"⟩ : MethodName) jdk_42_method_80_code 3 (some .int) :: ws) ({ frames := 2, cells := 0, slots := 0, locals := 40 } : Room)) (fun a_ U => a_ = #[(.ref x), (.int ch), (.int (0 : Int32))] ∧ Z.Warmed39 U.vm ∧ U.heap = h0) (fun _ _ _ _ _ => True) (fun _ U o U' => ∃ v L, o = .returned v ∧ Qix h0 v U'.heap L ∧ FrameEnd U o U' L ({ frames := 2, cells := 0, slots := 0, locals := 40 } : Room).cells ({ frames := 2, cells := 0, slots := 0, locals := 40 } : Room).slots) := by
  refine MetFree.of_bodySF (plainFor_of_name pn_3) hisR ?_
  intro p e s m args below meth c s₁ Bd hml0 hP hK
  obtain ⟨rfl, hZ, hh⟩ := hP
  have hx := Bd.exec
  have hby := Bd.bytes
  have hrt := Bd.returns
  have hlk : meth.locks = false := Bd.notSynchronized
  have hml : c.maxLocals = 3 := hml0
  have hown : s.vm.findClass "java/lang/String" = some m.cls := findClass_of_methodNamed Bd.named
  have hnm := (name_of_methodNamed Bd.named Bd.method).1
  have X0 : Stand p l e ({ frames := 2, cells := 0, slots := 0, locals := 40 } : Room) s m #[(.ref x), (.int ch), (.int (0 : Int32))] below meth c s₁ [] 0 0 := Stand.of_body Bd
  have e0 : s₁.heap = h0 := by rw [← hh, Bd.state]; rfl
  have N0 := Fr.nil n0
  show own_G p.tables e below (fun o t => ∃ v L, o = .returned v ∧ Qix h0 v t.heap L ∧ FrameEnd s o t L ({ frames := 2, cells := 0, slots := 0, locals := 40 } : Room).cells ({ frames := 2, cells := 0, slots := 0, locals := 40 } : Room).slots) (s₁.setTop (entryFrame m #[(.ref x), (.int ch), (.int (0 : Int32))] 3))
  refine own_G.cast (show entryFrame m #[(.ref x), (.int ch), (.int (0 : Int32))] 3 = mkF m 0 #[.val (.ref x), .val (.int ch), .val (.int (0 : Int32))] [] from by first | (simp [entryFrame, mkF, argsToLocals, Value.category]; done) | rfl) ?_
  have hln : ∀ d ∈ StrChars.Road.wordsLen, d.before a0 Z = true := fun d hd => hw d ((by decide +kernel : ∀ d ∈ StrChars.Road.wordsLen, d ∈ tables_1) d hd)
  have hcd : StrChars.Road.CodA ([46, 95, 45, 58, 47] : List Int32) 0 (5 : Int32) ([(.int (46 : Int32)), (.int (95 : Int32)), (.int (45 : Int32)), (.int (58 : Int32)), (.int (47 : Int32))] : List Value) := Or.inl ⟨rfl, rfl, rfl, by decide⟩
  have hbd : ∀ c ∈ ([46, 95, 45, 58, 47] : List Int32), ¬ c < 0 ∧ ¬ (65535 : Int32) < c := by decide
  refine own_G.go (fun t_ k_ => XS.aloadN X0.here hx rfl (hb hby d_rm_io3_0) rfl rfl k_) ?_
  show own_G _ _ _ _ (s₁.setTop (mkF m 1 #[.val (.ref x), .val (.int ch), .val (.int (0 : Int32))] [(.ref x)]))
  obtain ⟨cq_1, kq_1, q_1a, q_1b, q_1c⟩ := isOf hZ e0 E0
  obtain ⟨_, T_1, L_1, Q_1, X_1, st_1⟩ := own_callV X0 hx (z := (⟨"java/lang/String", "isLatin1", "()Z"⟩ : MethodName)) hown (mvT hZ (own_w hw 66 rfl)) (mvT hZ (own_w hw 67 rfl)) (notFace_of_selects (args := #[]) (mvT hZ (own_w hw 69 rfl))) (mvT hZ (own_w hw 69 rfl)) (mvT hZ (own_w hw 68 rfl)) (by decide) (Q := (Qp (.int (1 : Int32)) h0)) (backOf (W := 0) (rm_l1 l Z a0 hw [] x zc h0 n0 Z0 C0 O2 P5 X00) hZ (own_w hw 70 rfl) (own_w hw 7 rfl) (by decide) (by decide)) q_1a q_1c (g := (mkF m 1 #[.val (.ref x), .val (.int ch), .val (.int (0 : Int32))] [(.ref x)])) rfl (by rw [hml]; rfl) (argsL := []) (rest := []) (lenOf pd_4 rfl) rfl (by show 2 * 0 + _ ≤ _; exact Nat.le_of_eq rfl) (hb hby d_rm_io3_1) e0 rfl (by decide) (by decide)
  obtain ⟨rfl, rfl, eh_1⟩ := Q_1
  refine own_G.via st_1 ?_
  have N_1 := Fr.app N0 (Fr.nil n0)
  show own_G _ _ _ _ (T_1.setTop (mkF m 4 #[.val (.ref x), .val (.int ch), .val (.int (0 : Int32))] [(.int (1 : Int32))]))
  refine own_G.go (fun t_ k_ => XS.ifNo X_1.here hx rfl (hb hby d_rm_io3_4) rfl ((if0 _ _).trans (feq (by decide : ¬ ((1 : Int32) = (0 : Int32)))).1) k_) ?_
  show own_G _ _ _ _ (T_1.setTop (mkF m 7 #[.val (.ref x), .val (.int ch), .val (.int (0 : Int32))] []))
  refine own_G.go (fun t_ k_ => XS.aloadN X_1.here hx rfl (hb hby d_rm_io3_7) rfl rfl k_) ?_
  show own_G _ _ _ _ (T_1.setTop (mkF m 8 #[.val (.ref x), .val (.int ch), .val (.int (0 : Int32))] [(.ref x)]))
  obtain ⟨T_2, X_2, e_2, st_2⟩ := getF X_1 hx hZ hown (host := "") (Or.inl (own_w hw 33 rfl)) Via.refl eh_1 V0 (g := (mkF m 8 #[.val (.ref x), .val (.int ch), .val (.int (0 : Int32))] [(.ref x)])) rfl rfl (hb hby d_rm_io3_8)
  refine own_G.go st_2 ?_
  show own_G _ _ _ _ (T_2.setTop (mkF m 11 #[.val (.ref x), .val (.int ch), .val (.int (0 : Int32))] [(.ref b)]))
  refine own_G.go (fun t_ k_ => XS.iloadN X_2.here hx rfl (hb hby d_rm_io3_11) rfl k_) ?_
  show own_G _ _ _ _ (T_2.setTop (mkF m 12 #[.val (.ref x), .val (.int ch), .val (.int (0 : Int32))] [(.int ch), (.ref b)]))
  refine own_G.go (fun t_ k_ => XS.iloadN X_2.here hx rfl (hb hby d_rm_io3_12) rfl k_) ?_
  show own_G _ _ _ _ (T_2.setTop (mkF m 13 #[.val (.ref x), .val (.int ch), .val (.int (0 : Int32))] [(.int (0 : Int32)), (.int ch), (.ref b)]))
  refine own_G.go (fun t_ k_ => XS.aloadN X_2.here hx rfl (hb hby d_rm_io3_13) rfl rfl k_) ?_
  show own_G _ _ _ _ (T_2.setTop (mkF m 14 #[.val (.ref x), .val (.int ch), .val (.int (0 : Int32))] [(.ref x), (.int (0 : Int32)), (.int ch), (.ref b)]))
  obtain ⟨cq_3, kq_3, q_3a, q_3b, q_3c⟩ := isOf hZ e_2 E0
  obtain ⟨_, T_3, L_3, Q_3, X_3, st_3⟩ := own_callV X_2 hx (z := (⟨"java/lang/String", "length", "()I"⟩ : MethodName)) hown (mvT hZ (own_w hw 98 rfl)) (mvT hZ (own_w hw 52 rfl)) (notFace_of_selects (args := #[]) (mvT hZ (own_w hw 54 rfl))) (mvT hZ (own_w hw 54 rfl)) (mvT hZ (own_w hw 53 rfl)) (by decide) (Q := (fun v h' L => v = some (.int (Int32.ofNat ([46, 95, 45, 58, 47] : List Int32).length)) ∧ L = [] ∧ h' = h0)) (StrChars.Road.lenW (W := 3) hZ hln (kI := 4) (own_w hw 6 rfl) E0 V0 C0 VB hcd hbd (O2.ext X00.2) P5 (Nat.le_of_ble_eq_true rfl) (by decide) (by decide)) q_3a q_3c (g := (mkF m 14 #[.val (.ref x), .val (.int ch), .val (.int (0 : Int32))] [(.ref x), (.int (0 : Int32)), (.int ch), (.ref b)])) rfl (by rw [hml]; rfl) (argsL := []) (rest := [(.int (0 : Int32)), (.int ch), (.ref b)]) (lenOf pd_5 rfl) rfl (by show 2 * 0 + _ ≤ _; exact Nat.le_of_eq rfl) (hb hby d_rm_io3_14) e_2 rfl (by decide) (by decide)
  obtain ⟨rfl, rfl, eh_3⟩ := Q_3
  refine own_G.via st_3 ?_
  have N_3 := Fr.app N_1 (Fr.nil n0)
  show own_G _ _ _ _ (T_3.setTop (mkF m 17 #[.val (.ref x), .val (.int ch), .val (.int (0 : Int32))] [(.int (5 : Int32)), (.int (0 : Int32)), (.int ch), (.ref b)]))
  obtain ⟨_, T_4, L_4, Q_4, X_4, st_4⟩ := own_callS X_3 hx hown (mvT hZ (own_w hw 99 rfl)) (mvT hZ (own_w hw 100 rfl)) (mvT hZ (own_w hw 73 rfl)) (mvT hZ (own_w hw 101 rfl)) (by decide) (Q := (Qix h0)) (backOf (W := 0) (rm_io4 l Z a0 hw [] b kb ch h0 n0 Z0 VB hsp) hZ (own_w hw 101 rfl) (own_w hw 73 rfl) (by decide) (by decide)) (g := (mkF m 17 #[.val (.ref x), .val (.int ch), .val (.int (0 : Int32))] [(.int (5 : Int32)), (.int (0 : Int32)), (.int ch), (.ref b)])) rfl (by rw [hml]; rfl) (argsL := [(.ref b), (.int ch), (.int (0 : Int32)), (.int (5 : Int32))]) (rest := []) (lenOf pd_3 rfl) rfl (by show 2 * 0 + _ ≤ _; exact Nat.le_of_eq rfl) (hb hby d_rm_io3_17) eh_3 rfl (by decide) (by decide)
  obtain ⟨⟨z_4, rfl, hz_4⟩, rfl, eh_4⟩ := Q_4
  refine own_G.via st_4 ?_
  have N_4 := Fr.app N_3 (Fr.nil n0)
  show own_G _ _ _ _ (T_4.setTop (mkF m 20 #[.val (.ref x), .val (.int ch), .val (.int (0 : Int32))] [(.int z_4)]))
  refine own_G.go (fun t_ k_ => XS.goto X_4.here hx rfl (pc0 := 20) (pc' := 36) rfl (hb hby d_rm_io3_20) (by decide) (by decide) k_) ?_
  show own_G _ _ _ _ (T_4.setTop (mkF m 36 #[.val (.ref x), .val (.int ch), .val (.int (0 : Int32))] [(.int z_4)]))
  exact own_G.end_ X_4 hlk (v := (some (.int z_4))) (fun h => by rw [hrt] at h; cases h) (fun fs hr => retOut X_4 hx hrt rfl (Or.inl ⟨rfl, Or.inl rfl, _, rfl⟩) (hb hby d_rm_io3_36) hr) eh_4 ⟨⟨_, rfl, hz_4⟩, rfl, rfl⟩ (by decide) (by decide)
theorem d_rm_io2_0 : decode jdk_42_method_79_code 0 = .ok (.aload_n 0, 1) := by decide +kernel
theorem d_rm_io2_1 : decode jdk_42_method_79_code 1 = .ok (.iload_n 1, 1) := by decide +kernel
theorem d_rm_io2_2 : decode jdk_42_method_79_code 2 = .ok (.iconst 0, 1) := by decide +kernel
theorem d_rm_io2_3 : decode jdk_42_method_79_code 3 = .ok (.invokevirtual 633, 3) := by decide +kernel
theorem d_rm_io2_6 : decode jdk_42_method_79_code 6 = .ok (.ireturn, 1) := by decide +kernel
set_option maxRecDepth 65536 in
set_option maxHeartbeats 40000000 in
theorem rm_io2 (l : Launch) (Z : State) (a0 : Array Value) (hw : ∀ d ∈ tables_1, d.before a0 Z = true) (ws : List Jvm.Cond) (x b : Addr) (kb : ClassId) (ch : Int32) (zc : Int32) (h0 : Heap) (n0 : Nat) (Z0 : n0 ≤ h0.size) (E0 : Exa Z h0 x "java/lang/String") (V0 : Fld Z h0 x "java/lang/String" "value" "[B" (.ref b)) (C0 : Fld Z h0 x "java/lang/String" "coder" "B" (.int (0 : Int32))) (VB : Arv Z h0 b kb .byte (5 : Int32) ([(.int (46 : Int32)), (.int (95 : Int32)), (.int (45 : Int32)), (.int (58 : Int32)), (.int (47 : Int32))] : List Value) (.int 0)) (hsp : own_sp ch) (O2 : Sta Z Z.heap "java/lang/String" "COMPACT_STRINGS" "Z" (.int zc)) (P5 : ¬ (zc = (0 : Int32))) (X00 : Old Z n0 h0) :
    MetFree l (⟨"java/lang/String", "indexOf", "(I)I"⟩ : MethodName) (head1 (Jvm.Cond.code (⟨"java/lang/String", "indexOf", "(I)I"⟩ : MethodName) jdk_42_method_79_code 2 (some .int) :: ws) ({ frames := 3, cells := 0, slots := 0, locals := 60 } : Room)) (fun a_ U => a_ = #[(.ref x), (.int ch)] ∧ Z.Warmed39 U.vm ∧ U.heap = h0) (fun _ _ _ _ _ => True) (fun _ U o U' => ∃ v L, o = .returned v ∧ Qix h0 v U'.heap L ∧ FrameEnd U o U' L ({ frames := 3, cells := 0, slots := 0, locals := 60 } : Room).cells ({ frames := 3, cells := 0, slots := 0, locals := 60 } : Room).slots) := by
  refine MetFree.of_bodySF (plainFor_of_name pn_3) hisR ?_
  intro p e s m args below meth c s₁ Bd hml0 hP hK
  obtain ⟨rfl, hZ, hh⟩ := hP
  have hx := Bd.exec
  have hby := Bd.bytes
  have hrt := Bd.returns
  have hlk : meth.locks = false := Bd.notSynchronized
  have hml : c.maxLocals = 2 := hml0
  have hown : s.vm.findClass "java/lang/String" = some m.cls := findClass_of_methodNamed Bd.named
  have hnm := (name_of_methodNamed Bd.named Bd.method).1
  have X0 : Stand p l e ({ frames := 3, cells := 0, slots := 0, locals := 60 } : Room) s m #[(.ref x), (.int ch)] below meth c s₁ [] 0 0 := Stand.of_body Bd
  have e0 : s₁.heap = h0 := by rw [← hh, Bd.state]; rfl
  have N0 := Fr.nil n0
  show own_G p.tables e below (fun o t => ∃ v L, o = .returned v ∧ Qix h0 v t.heap L ∧ FrameEnd s o t L ({ frames := 3, cells := 0, slots := 0, locals := 60 } : Room).cells ({ frames := 3, cells := 0, slots := 0, locals := 60 } : Room).slots) (s₁.setTop (entryFrame m #[(.ref x), (.int ch)] 2))
  refine own_G.cast (show entryFrame m #[(.ref x), (.int ch)] 2 = mkF m 0 #[.val (.ref x), .val (.int ch)] [] from by first | (simp [entryFrame, mkF, argsToLocals, Value.category]; done) | rfl) ?_
  refine own_G.go (fun t_ k_ => XS.aloadN X0.here hx rfl (hb hby d_rm_io2_0) rfl rfl k_) ?_
  show own_G _ _ _ _ (s₁.setTop (mkF m 1 #[.val (.ref x), .val (.int ch)] [(.ref x)]))
  refine own_G.go (fun t_ k_ => XS.iloadN X0.here hx rfl (hb hby d_rm_io2_1) rfl k_) ?_
  show own_G _ _ _ _ (s₁.setTop (mkF m 2 #[.val (.ref x), .val (.int ch)] [(.int ch), (.ref x)]))
  refine own_G.go (fun t_ k_ => XS.iconst X0.here hx rfl (hb hby d_rm_io2_2) k_) ?_
  show own_G _ _ _ _ (s₁.setTop (mkF m 3 #[.val (.ref x), .val (.int ch)] [(.int (0 : Int32)), (.int ch), (.ref x)]))
  obtain ⟨cq_1, kq_1, q_1a, q_1b, q_1c⟩ := isOf hZ e0 E0
  obtain ⟨_, T_1, L_1, Q_1, X_1, st_1⟩ := own_callV X0 hx (z := (⟨"java/lang/String", "indexOf", "(II)I"⟩ : MethodName)) hown (mvT hZ (own_w hw 93 rfl)) (mvT hZ (own_w hw 94 rfl)) (notFace_of_selects (args := #[]) (mvT hZ (own_w hw 96 rfl))) (mvT hZ (own_w hw 96 rfl)) (mvT hZ (own_w hw 95 rfl)) (by decide) (Q := (Qix h0)) (backOf (W := 0) (rm_io3 l Z a0 hw [] x b kb ch zc h0 n0 Z0 E0 V0 C0 VB hsp O2 P5 X00) hZ (own_w hw 97 rfl) (own_w hw 7 rfl) (by decide) (by decide)) q_1a q_1c (g := (mkF m 3 #[.val (.ref x), .val (.int ch)] [(.int (0 : Int32)), (.int ch), (.ref x)])) rfl (by rw [hml]; rfl) (argsL := [(.int ch), (.int (0 : Int32))]) (rest := []) (lenOf pd_2 rfl) rfl (by show 2 * 0 + _ ≤ _; exact Nat.le_of_eq rfl) (hb hby d_rm_io2_3) e0 rfl (by decide) (by decide)
  obtain ⟨⟨z_1, rfl, hz_1⟩, rfl, eh_1⟩ := Q_1
  refine own_G.via st_1 ?_
  have N_1 := Fr.app N0 (Fr.nil n0)
  show own_G _ _ _ _ (T_1.setTop (mkF m 6 #[.val (.ref x), .val (.int ch)] [(.int z_1)]))
  exact own_G.end_ X_1 hlk (v := (some (.int z_1))) (fun h => by rw [hrt] at h; cases h) (fun fs hr => retOut X_1 hx hrt rfl (Or.inl ⟨rfl, Or.inl rfl, _, rfl⟩) (hb hby d_rm_io2_6) hr) eh_1 ⟨⟨_, rfl, hz_1⟩, rfl, rfl⟩ (by decide) (by decide)
def Qnch (h0 : Heap) (n0 : Nat) (v : Option Value) (h : Heap) (L : List Loc) : Prop := v = some (.int (1 : Int32)) ∧ Fr n0 L ∧ Keep h0 h []
theorem pn_4 : plainName "com/example/lease_lock/leaselock/LeaseLimits" = true := by first | (simp [plainName, overriddenIn]; done) | decide +kernel
theorem pd_6 : parseMethodDescriptor "(I)I" = some ⟨[.int], some .int⟩ := by decide +kernel
theorem d_rm_inc_0 : decode prog_3_method_4_code 0 = .ok (.iload_n 0, 1) := by decide +kernel
theorem d_rm_inc_1 : decode prog_3_method_4_code 1 = .ok (.bipush 65, 2) := by decide +kernel
theorem d_rm_inc_3 : decode prog_3_method_4_code 3 = .ok (.if_icmp .lt 9, 3) := by decide +kernel
theorem d_rm_inc_6 : decode prog_3_method_4_code 6 = .ok (.iload_n 0, 1) := by decide +kernel
theorem d_rm_inc_7 : decode prog_3_method_4_code 7 = .ok (.bipush 90, 2) := by decide +kernel
theorem d_rm_inc_9 : decode prog_3_method_4_code 9 = .ok (.if_icmp .le 27, 3) := by decide +kernel
theorem d_rm_inc_12 : decode prog_3_method_4_code 12 = .ok (.iload_n 0, 1) := by decide +kernel
theorem d_rm_inc_13 : decode prog_3_method_4_code 13 = .ok (.bipush 97, 2) := by decide +kernel
theorem d_rm_inc_15 : decode prog_3_method_4_code 15 = .ok (.if_icmp .lt 9, 3) := by decide +kernel
theorem d_rm_inc_18 : decode prog_3_method_4_code 18 = .ok (.iload_n 0, 1) := by decide +kernel
theorem d_rm_inc_19 : decode prog_3_method_4_code 19 = .ok (.bipush 122, 2) := by decide +kernel
theorem d_rm_inc_21 : decode prog_3_method_4_code 21 = .ok (.if_icmp .le 15, 3) := by decide +kernel
theorem d_rm_inc_24 : decode prog_3_method_4_code 24 = .ok (.iload_n 0, 1) := by decide +kernel
theorem d_rm_inc_25 : decode prog_3_method_4_code 25 = .ok (.bipush 48, 2) := by decide +kernel
theorem d_rm_inc_27 : decode prog_3_method_4_code 27 = .ok (.if_icmp .lt 13, 3) := by decide +kernel
theorem d_rm_inc_30 : decode prog_3_method_4_code 30 = .ok (.iload_n 0, 1) := by decide +kernel
theorem d_rm_inc_31 : decode prog_3_method_4_code 31 = .ok (.bipush 57, 2) := by decide +kernel
theorem d_rm_inc_33 : decode prog_3_method_4_code 33 = .ok (.if_icmp .gt 7, 3) := by decide +kernel
theorem d_rm_inc_36 : decode prog_3_method_4_code 36 = .ok (.iconst 1, 1) := by decide +kernel
theorem d_rm_inc_37 : decode prog_3_method_4_code 37 = .ok (.goto 4, 3) := by decide +kernel
theorem d_rm_inc_40 : decode prog_3_method_4_code 40 = .ok (.iconst 0, 1) := by decide +kernel
theorem d_rm_inc_41 : decode prog_3_method_4_code 41 = .ok (.istore_n 1, 1) := by decide +kernel
theorem d_rm_inc_42 : decode prog_3_method_4_code 42 = .ok (.iload_n 1, 1) := by decide +kernel
theorem d_rm_inc_43 : decode prog_3_method_4_code 43 = .ok (.ifCond .ne 12, 3) := by decide +kernel
theorem d_rm_inc_46 : decode prog_3_method_4_code 46 = .ok (.ldc 90, 2) := by decide +kernel
theorem d_rm_inc_48 : decode prog_3_method_4_code 48 = .ok (.iload_n 0, 1) := by decide +kernel
theorem d_rm_inc_49 : decode prog_3_method_4_code 49 = .ok (.invokevirtual 92, 3) := by decide +kernel
theorem d_rm_inc_52 : decode prog_3_method_4_code 52 = .ok (.ifCond .lt 7, 3) := by decide +kernel
theorem d_rm_inc_55 : decode prog_3_method_4_code 55 = .ok (.iconst 1, 1) := by decide +kernel
theorem d_rm_inc_56 : decode prog_3_method_4_code 56 = .ok (.goto 4, 3) := by decide +kernel
theorem d_rm_inc_60 : decode prog_3_method_4_code 60 = .ok (.ireturn, 1) := by decide +kernel
set_option maxRecDepth 65536 in
set_option maxHeartbeats 40000000 in
theorem rm_inc (l : Launch) (Z : State) (a0 : Array Value) (hw : ∀ d ∈ tables_1, d.before a0 Z = true) (ws : List Jvm.Cond) (ch : Int32) (zc : Int32) (h0 : Heap) (n0 : Nat) (Z0 : n0 ≤ h0.size) (hnmc : own_nm ch) (O2 : Sta Z Z.heap "java/lang/String" "COMPACT_STRINGS" "Z" (.int zc)) (P5 : ¬ (zc = (0 : Int32))) (X00 : Old Z n0 h0) :
    MetFree l (⟨"com/example/lease_lock/leaselock/LeaseLimits", "isNameCharacter", "(C)Z"⟩ : MethodName) (head1 (Jvm.Cond.code (⟨"com/example/lease_lock/leaselock/LeaseLimits", "isNameCharacter", "(C)Z"⟩ : MethodName) prog_3_method_4_code 2 (some .boolean) :: ws) ({ frames := 4, cells := 2, slots := 24, locals := 80 } : Room)) (fun a_ U => a_ = #[(.int ch)] ∧ Z.Warmed39 U.vm ∧ U.heap = h0 ∧ CHv Z own_EL U.vm h0) (fun _ _ _ _ _ => True) (fun _ U o U' => ∃ v L, o = .returned v ∧ Qnch h0 n0 v U'.heap L ∧ CHr Z own_EL U.vm U.heap U'.vm U'.heap ∧ ReturnedEndW U o U' L ({ frames := 4, cells := 2, slots := 24, locals := 80 } : Room).cells ({ frames := 4, cells := 2, slots := 24, locals := 80 } : Room).slots) := by
  refine MetFree.of_bodySF (plainFor_of_name pn_4) hisR ?_
  intro p e s m args below meth c s₁ Bd hml0 hP hK
  obtain ⟨rfl, hZ, hh, hCH⟩ := hP
  have hx := Bd.exec
  have hby := Bd.bytes
  have hrt := Bd.returns
  have hlk : meth.locks = false := Bd.notSynchronized
  have hml : c.maxLocals = 2 := hml0
  have hown : s.vm.findClass "com/example/lease_lock/leaselock/LeaseLimits" = some m.cls := findClass_of_methodNamed Bd.named
  have hnm := (name_of_methodNamed Bd.named Bd.method).1
  have X0 : Stand p l e ({ frames := 4, cells := 2, slots := 24, locals := 80 } : Room) (s.setVm s.vm) m #[(.int ch)] below meth c s₁ [] 0 0 := Stand.of_body Bd
  have e0 : s₁.heap = h0 := by rw [← hh, Bd.state]; rfl
  have N0 := Fr.nil n0
  have hS0 : s.Since s.vm 0 := own_since s 0
  have hstr : ∀ d ∈ Bundle.stringAtoms, d.before a0 Z = true := fun d hd => hw d ((by decide +kernel : ∀ d ∈ Bundle.stringAtoms, d ∈ tables_1) d hd)
  have hEW : EW Z a0 own_EL := own_EW hw
  have CH0 : CHr Z own_EL s.vm h0 s.vm h0 := CHr.refl hCH
  show own_G p.tables e below (fun o t => ∃ v L, o = .returned v ∧ Qnch h0 n0 v t.heap L ∧ CHr Z own_EL s.vm s.heap t.vm t.heap ∧ ReturnedEndW s o t L ({ frames := 4, cells := 2, slots := 24, locals := 80 } : Room).cells ({ frames := 4, cells := 2, slots := 24, locals := 80 } : Room).slots) (s₁.setTop (entryFrame m #[(.int ch)] 2))
  refine own_G.cast (show entryFrame m #[(.int ch)] 2 = mkF m 0 #[.val (.int ch), .unset] [] from by first | (simp [entryFrame, mkF, argsToLocals, Value.category]; done) | rfl) ?_
  have J40 : ∀ (hsp : own_sp ch), own_G p.tables e below (fun o t => ∃ v L, o = .returned v ∧ Qnch h0 n0 v t.heap L ∧ CHr Z own_EL s.vm s.heap t.vm t.heap ∧ ReturnedEndW s o t L ({ frames := 4, cells := 2, slots := 24, locals := 80 } : Room).cells ({ frames := 4, cells := 2, slots := 24, locals := 80 } : Room).slots) (s₁.setTop (mkF m 40 #[.val (.int ch), .unset] [])) := by
    intro hsp
    refine own_G.go (fun t_ k_ => XS.iconst X0.here hx rfl (hb hby d_rm_inc_40) k_) ?_
    show own_G _ _ _ _ (s₁.setTop (mkF m 41 #[.val (.int ch), .unset] [(.int (0 : Int32))]))
    refine own_G.go (fun t_ k_ => XS.istoreN X0.here hx rfl (hb hby d_rm_inc_41) rfl (l' := #[.val (.int ch), .val (.int (0 : Int32))]) rfl k_) ?_
    show own_G _ _ _ _ (s₁.setTop (mkF m 42 #[.val (.int ch), .val (.int (0 : Int32))] []))
    refine own_G.go (fun t_ k_ => XS.iloadN X0.here hx rfl (hb hby d_rm_inc_42) rfl k_) ?_
    show own_G _ _ _ _ (s₁.setTop (mkF m 43 #[.val (.int ch), .val (.int (0 : Int32))] [(.int (0 : Int32))]))
    refine own_G.go (fun t_ k_ => XS.ifNo X0.here hx rfl (hb hby d_rm_inc_43) rfl ((if0 _ _).trans (teq (by decide : (0 : Int32) = (0 : Int32))).2) k_) ?_
    show own_G _ _ _ _ (s₁.setTop (mkF m 46 #[.val (.int ch), .val (.int (0 : Int32))] []))
    obtain ⟨al_1, T_1, h_1, k_1, bl_1, kl_1, X_1, e_1, E_1, hS_1, hk_1, hZ_1, hown_1, Ex_1, Fc_1, Fv_1, Va_1, lta_1, ltb_1, Cr_1, -, hne_1, st_1⟩ := ldcCH X0 hx hZ hown (own_w hw 87 rfl) hstr e0 hS0 (Nat.zero_le _) hEW (by simp [own_EL]) CH0.1 (vs := ([(.int (46 : Int32)), (.int (95 : Int32)), (.int (45 : Int32)), (.int (58 : Int32)), (.int (47 : Int32))] : List Value)) (z := (5 : Int32)) (own_lit0) (by decide) (by decide) (g := (mkF m 46 #[.val (.int ch), .val (.int (0 : Int32))] [])) rfl (hb hby d_rm_inc_46) (n := 20) (by decide +kernel) (by decide) (by decide) (by decide)
    refine own_G.go st_1 ?_
    have CH_2 : CHr Z own_EL s.vm h0 T_1.vm h_1 := CH0.trans Cr_1
    show own_G _ _ _ _ (T_1.setTop (mkF m 48 #[.val (.int ch), .val (.int (0 : Int32))] [(.ref al_1)]))
    refine own_G.go (fun t_ k_ => XS.iloadN X_1.here hx rfl (hb hby d_rm_inc_48) rfl k_) ?_
    show own_G _ _ _ _ (T_1.setTop (mkF m 49 #[.val (.int ch), .val (.int (0 : Int32))] [(.int ch), (.ref al_1)]))
    have O_3d : Old Z n0 h_1 := (X00.ext E_1)
    obtain ⟨cq_4, kq_4, q_4a, q_4b, q_4c⟩ := isOf hZ_1 e_1 Ex_1
    obtain ⟨_, T_4, L_4, Q_4, X_4, st_4⟩ := own_callV X_1 hx (z := (⟨"java/lang/String", "indexOf", "(I)I"⟩ : MethodName)) hown_1 (mvT hZ_1 (own_w hw 88 rfl)) (mvT hZ_1 (own_w hw 89 rfl)) (notFace_of_selects (args := #[]) (mvT hZ_1 (own_w hw 91 rfl))) (mvT hZ_1 (own_w hw 91 rfl)) (mvT hZ_1 (own_w hw 90 rfl)) (by decide) (Q := (Qix h_1)) (backOf (W := 0) (rm_io2 l Z a0 hw [] al_1 bl_1 kl_1 ch zc h_1 n0 (Nat.le_trans Z0 E_1.1) Ex_1 Fv_1 Fc_1 Va_1 hsp O2 P5 O_3d) hZ_1 (own_w hw 92 rfl) (own_w hw 7 rfl) (by decide) (by decide)) q_4a q_4c (g := (mkF m 49 #[.val (.int ch), .val (.int (0 : Int32))] [(.int ch), (.ref al_1)])) rfl (by rw [hml]; rfl) (argsL := [(.int ch)]) (rest := []) (lenOf pd_6 rfl) rfl (by show 2 * 0 + _ ≤ _; exact Nat.le_of_eq rfl) (hb hby d_rm_inc_49) e_1 rfl (by decide) (by decide)
    obtain ⟨⟨z_4, rfl, hz_4⟩, rfl, eh_4⟩ := Q_4
    refine own_G.via st_4 ?_
    have N_4 := Fr.app N0 (Fr.nil n0)
    show own_G _ _ _ _ (T_4.setTop (mkF m 52 #[.val (.int ch), .val (.int (0 : Int32))] [(.int z_4)]))
    refine own_G.go (fun t_ k_ => XS.ifNo X_4.here hx rfl (hb hby d_rm_inc_52) rfl ((if0 _ _).trans (flt (hz_4 : ¬ z_4 < (0 : Int32))).1) k_) ?_
    show own_G _ _ _ _ (T_4.setTop (mkF m 55 #[.val (.int ch), .val (.int (0 : Int32))] []))
    refine own_G.go (fun t_ k_ => XS.iconst X_4.here hx rfl (hb hby d_rm_inc_55) k_) ?_
    show own_G _ _ _ _ (T_4.setTop (mkF m 56 #[.val (.int ch), .val (.int (0 : Int32))] [(.int (1 : Int32))]))
    refine own_G.go (fun t_ k_ => XS.goto X_4.here hx rfl (pc0 := 56) (pc' := 60) rfl (hb hby d_rm_inc_56) (by decide) (by decide) k_) ?_
    show own_G _ _ _ _ (T_4.setTop (mkF m 60 #[.val (.int ch), .val (.int (0 : Int32))] [(.int (1 : Int32))]))
    exact own_G.endH X_4 hS_1 hk_1 hZ_1 hEW (hh ▸ CH_2) hlk (v := (some (.int (1 : Int32)))) (fun h => by rw [hrt] at h; cases h) (fun fs hr => retN X_4 hx (z := (1 : Int32)) (t := .boolean) hrt (by simp) (hb hby d_rm_inc_60) hr) eh_4 ⟨rfl, N_4, ((Keep.refl h0 []).ext E_1)⟩ (by decide) (by decide)
  have J36 : ∀ (_u : True), own_G p.tables e below (fun o t => ∃ v L, o = .returned v ∧ Qnch h0 n0 v t.heap L ∧ CHr Z own_EL s.vm s.heap t.vm t.heap ∧ ReturnedEndW s o t L ({ frames := 4, cells := 2, slots := 24, locals := 80 } : Room).cells ({ frames := 4, cells := 2, slots := 24, locals := 80 } : Room).slots) (s₁.setTop (mkF m 36 #[.val (.int ch), .unset] [])) := by
    intro _u
    refine own_G.go (fun t_ k_ => XS.iconst X0.here hx rfl (hb hby d_rm_inc_36) k_) ?_
    show own_G _ _ _ _ (s₁.setTop (mkF m 37 #[.val (.int ch), .unset] [(.int (1 : Int32))]))
    refine own_G.go (fun t_ k_ => XS.goto X0.here hx rfl (pc0 := 37) (pc' := 41) rfl (hb hby d_rm_inc_37) (by decide) (by decide) k_) ?_
    show own_G _ _ _ _ (s₁.setTop (mkF m 41 #[.val (.int ch), .unset] [(.int (1 : Int32))]))
    refine own_G.go (fun t_ k_ => XS.istoreN X0.here hx rfl (hb hby d_rm_inc_41) rfl (l' := #[.val (.int ch), .val (.int (1 : Int32))]) rfl k_) ?_
    show own_G _ _ _ _ (s₁.setTop (mkF m 42 #[.val (.int ch), .val (.int (1 : Int32))] []))
    refine own_G.go (fun t_ k_ => XS.iloadN X0.here hx rfl (hb hby d_rm_inc_42) rfl k_) ?_
    show own_G _ _ _ _ (s₁.setTop (mkF m 43 #[.val (.int ch), .val (.int (1 : Int32))] [(.int (1 : Int32))]))
    refine own_G.go (fun t_ k_ => XS.ifYes X0.here hx rfl (pc0 := 43) (pc' := 55) rfl (hb hby d_rm_inc_43) rfl ((if0 _ _).trans (feq (by decide : ¬ ((1 : Int32) = (0 : Int32)))).2) (by decide) (by decide) k_) ?_
    show own_G _ _ _ _ (s₁.setTop (mkF m 55 #[.val (.int ch), .val (.int (1 : Int32))] []))
    refine own_G.go (fun t_ k_ => XS.iconst X0.here hx rfl (hb hby d_rm_inc_55) k_) ?_
    show own_G _ _ _ _ (s₁.setTop (mkF m 56 #[.val (.int ch), .val (.int (1 : Int32))] [(.int (1 : Int32))]))
    refine own_G.go (fun t_ k_ => XS.goto X0.here hx rfl (pc0 := 56) (pc' := 60) rfl (hb hby d_rm_inc_56) (by decide) (by decide) k_) ?_
    show own_G _ _ _ _ (s₁.setTop (mkF m 60 #[.val (.int ch), .val (.int (1 : Int32))] [(.int (1 : Int32))]))
    exact own_G.endH X0 hS0 (Nat.zero_le _) hZ hEW (hh ▸ CH0) hlk (v := (some (.int (1 : Int32)))) (fun h => by rw [hrt] at h; cases h) (fun fs hr => retN X0 hx (z := (1 : Int32)) (t := .boolean) hrt (by simp) (hb hby d_rm_inc_60) hr) e0 ⟨rfl, N0, (Keep.refl h0 [])⟩ (by decide) (by decide)
  refine own_G.go (fun t_ k_ => XS.iloadN X0.here hx rfl (hb hby d_rm_inc_0) rfl k_) ?_
  show own_G _ _ _ _ (s₁.setTop (mkF m 1 #[.val (.int ch), .unset] [(.int ch)]))
  refine own_G.go (fun t_ k_ => XS.bipush X0.here hx rfl (hb hby d_rm_inc_1) k_) ?_
  show own_G _ _ _ _ (s₁.setTop (mkF m 3 #[.val (.int ch), .unset] [(.int (65 : Int32)), (.int ch)]))
  by_cases h3 : ch < (65 : Int32)
  · refine own_G.go (fun t_ k_ => XS.icmpYes X0.here hx rfl (pc0 := 3) (pc' := 12) rfl (hb hby d_rm_inc_3) rfl (tlt h3).1 (by decide) (by decide) k_) ?_
    show own_G _ _ _ _ (s₁.setTop (mkF m 12 #[.val (.int ch), .unset] []))
    refine own_G.go (fun t_ k_ => XS.iloadN X0.here hx rfl (hb hby d_rm_inc_12) rfl k_) ?_
    show own_G _ _ _ _ (s₁.setTop (mkF m 13 #[.val (.int ch), .unset] [(.int ch)]))
    refine own_G.go (fun t_ k_ => XS.bipush X0.here hx rfl (hb hby d_rm_inc_13) k_) ?_
    show own_G _ _ _ _ (s₁.setTop (mkF m 15 #[.val (.int ch), .unset] [(.int (97 : Int32)), (.int ch)]))
    by_cases h15 : ch < (97 : Int32)
    · refine own_G.go (fun t_ k_ => XS.icmpYes X0.here hx rfl (pc0 := 15) (pc' := 24) rfl (hb hby d_rm_inc_15) rfl (tlt h15).1 (by decide) (by decide) k_) ?_
      show own_G _ _ _ _ (s₁.setTop (mkF m 24 #[.val (.int ch), .unset] []))
      refine own_G.go (fun t_ k_ => XS.iloadN X0.here hx rfl (hb hby d_rm_inc_24) rfl k_) ?_
      show own_G _ _ _ _ (s₁.setTop (mkF m 25 #[.val (.int ch), .unset] [(.int ch)]))
      refine own_G.go (fun t_ k_ => XS.bipush X0.here hx rfl (hb hby d_rm_inc_25) k_) ?_
      show own_G _ _ _ _ (s₁.setTop (mkF m 27 #[.val (.int ch), .unset] [(.int (48 : Int32)), (.int ch)]))
      by_cases h27 : ch < (48 : Int32)
      · refine own_G.go (fun t_ k_ => XS.icmpYes X0.here hx rfl (pc0 := 27) (pc' := 40) rfl (hb hby d_rm_inc_27) rfl (tlt h27).1 (by decide) (by decide) k_) ?_
        show own_G _ _ _ _ (s₁.setTop (mkF m 40 #[.val (.int ch), .unset] []))
        exact J40 (own_sp_of hnmc (Or.inl h3) (Or.inl h15) (Or.inl h27))
      · refine own_G.go (fun t_ k_ => XS.icmpNo X0.here hx rfl (hb hby d_rm_inc_27) rfl (flt h27).1 k_) ?_
        show own_G _ _ _ _ (s₁.setTop (mkF m 30 #[.val (.int ch), .unset] []))
        refine own_G.go (fun t_ k_ => XS.iloadN X0.here hx rfl (hb hby d_rm_inc_30) rfl k_) ?_
        show own_G _ _ _ _ (s₁.setTop (mkF m 31 #[.val (.int ch), .unset] [(.int ch)]))
        refine own_G.go (fun t_ k_ => XS.bipush X0.here hx rfl (hb hby d_rm_inc_31) k_) ?_
        show own_G _ _ _ _ (s₁.setTop (mkF m 33 #[.val (.int ch), .unset] [(.int (57 : Int32)), (.int ch)]))
        by_cases h33 : (57 : Int32) < ch
        · refine own_G.go (fun t_ k_ => XS.icmpYes X0.here hx rfl (pc0 := 33) (pc' := 40) rfl (hb hby d_rm_inc_33) rfl (tlt h33).2.2.1 (by decide) (by decide) k_) ?_
          show own_G _ _ _ _ (s₁.setTop (mkF m 40 #[.val (.int ch), .unset] []))
          exact J40 (own_sp_of hnmc (Or.inl h3) (Or.inl h15) (Or.inr h33))
        · refine own_G.go (fun t_ k_ => XS.icmpNo X0.here hx rfl (hb hby d_rm_inc_33) rfl (flt h33).2.2.1 k_) ?_
          show own_G _ _ _ _ (s₁.setTop (mkF m 36 #[.val (.int ch), .unset] []))
          exact J36 trivial
    · refine own_G.go (fun t_ k_ => XS.icmpNo X0.here hx rfl (hb hby d_rm_inc_15) rfl (flt h15).1 k_) ?_
      show own_G _ _ _ _ (s₁.setTop (mkF m 18 #[.val (.int ch), .unset] []))
      refine own_G.go (fun t_ k_ => XS.iloadN X0.here hx rfl (hb hby d_rm_inc_18) rfl k_) ?_
      show own_G _ _ _ _ (s₁.setTop (mkF m 19 #[.val (.int ch), .unset] [(.int ch)]))
      refine own_G.go (fun t_ k_ => XS.bipush X0.here hx rfl (hb hby d_rm_inc_19) k_) ?_
      show own_G _ _ _ _ (s₁.setTop (mkF m 21 #[.val (.int ch), .unset] [(.int (122 : Int32)), (.int ch)]))
      by_cases h21 : (122 : Int32) < ch
      · refine own_G.go (fun t_ k_ => XS.icmpNo X0.here hx rfl (hb hby d_rm_inc_21) rfl (tlt h21).2.2.2 k_) ?_
        show own_G _ _ _ _ (s₁.setTop (mkF m 24 #[.val (.int ch), .unset] []))
        refine own_G.go (fun t_ k_ => XS.iloadN X0.here hx rfl (hb hby d_rm_inc_24) rfl k_) ?_
        show own_G _ _ _ _ (s₁.setTop (mkF m 25 #[.val (.int ch), .unset] [(.int ch)]))
        refine own_G.go (fun t_ k_ => XS.bipush X0.here hx rfl (hb hby d_rm_inc_25) k_) ?_
        show own_G _ _ _ _ (s₁.setTop (mkF m 27 #[.val (.int ch), .unset] [(.int (48 : Int32)), (.int ch)]))
        by_cases h27 : ch < (48 : Int32)
        · refine own_G.go (fun t_ k_ => XS.icmpYes X0.here hx rfl (pc0 := 27) (pc' := 40) rfl (hb hby d_rm_inc_27) rfl (tlt h27).1 (by decide) (by decide) k_) ?_
          show own_G _ _ _ _ (s₁.setTop (mkF m 40 #[.val (.int ch), .unset] []))
          exact J40 (own_sp_of hnmc (Or.inl h3) (Or.inr h21) (Or.inl h27))
        · refine own_G.go (fun t_ k_ => XS.icmpNo X0.here hx rfl (hb hby d_rm_inc_27) rfl (flt h27).1 k_) ?_
          show own_G _ _ _ _ (s₁.setTop (mkF m 30 #[.val (.int ch), .unset] []))
          refine own_G.go (fun t_ k_ => XS.iloadN X0.here hx rfl (hb hby d_rm_inc_30) rfl k_) ?_
          show own_G _ _ _ _ (s₁.setTop (mkF m 31 #[.val (.int ch), .unset] [(.int ch)]))
          refine own_G.go (fun t_ k_ => XS.bipush X0.here hx rfl (hb hby d_rm_inc_31) k_) ?_
          show own_G _ _ _ _ (s₁.setTop (mkF m 33 #[.val (.int ch), .unset] [(.int (57 : Int32)), (.int ch)]))
          by_cases h33 : (57 : Int32) < ch
          · refine own_G.go (fun t_ k_ => XS.icmpYes X0.here hx rfl (pc0 := 33) (pc' := 40) rfl (hb hby d_rm_inc_33) rfl (tlt h33).2.2.1 (by decide) (by decide) k_) ?_
            show own_G _ _ _ _ (s₁.setTop (mkF m 40 #[.val (.int ch), .unset] []))
            exact J40 (own_sp_of hnmc (Or.inl h3) (Or.inr h21) (Or.inr h33))
          · refine own_G.go (fun t_ k_ => XS.icmpNo X0.here hx rfl (hb hby d_rm_inc_33) rfl (flt h33).2.2.1 k_) ?_
            show own_G _ _ _ _ (s₁.setTop (mkF m 36 #[.val (.int ch), .unset] []))
            exact J36 trivial
      · refine own_G.go (fun t_ k_ => XS.icmpYes X0.here hx rfl (pc0 := 21) (pc' := 36) rfl (hb hby d_rm_inc_21) rfl (flt h21).2.2.2 (by decide) (by decide) k_) ?_
        show own_G _ _ _ _ (s₁.setTop (mkF m 36 #[.val (.int ch), .unset] []))
        exact J36 trivial
  · refine own_G.go (fun t_ k_ => XS.icmpNo X0.here hx rfl (hb hby d_rm_inc_3) rfl (flt h3).1 k_) ?_
    show own_G _ _ _ _ (s₁.setTop (mkF m 6 #[.val (.int ch), .unset] []))
    refine own_G.go (fun t_ k_ => XS.iloadN X0.here hx rfl (hb hby d_rm_inc_6) rfl k_) ?_
    show own_G _ _ _ _ (s₁.setTop (mkF m 7 #[.val (.int ch), .unset] [(.int ch)]))
    refine own_G.go (fun t_ k_ => XS.bipush X0.here hx rfl (hb hby d_rm_inc_7) k_) ?_
    show own_G _ _ _ _ (s₁.setTop (mkF m 9 #[.val (.int ch), .unset] [(.int (90 : Int32)), (.int ch)]))
    by_cases h9 : (90 : Int32) < ch
    · refine own_G.go (fun t_ k_ => XS.icmpNo X0.here hx rfl (hb hby d_rm_inc_9) rfl (tlt h9).2.2.2 k_) ?_
      show own_G _ _ _ _ (s₁.setTop (mkF m 12 #[.val (.int ch), .unset] []))
      refine own_G.go (fun t_ k_ => XS.iloadN X0.here hx rfl (hb hby d_rm_inc_12) rfl k_) ?_
      show own_G _ _ _ _ (s₁.setTop (mkF m 13 #[.val (.int ch), .unset] [(.int ch)]))
      refine own_G.go (fun t_ k_ => XS.bipush X0.here hx rfl (hb hby d_rm_inc_13) k_) ?_
      show own_G _ _ _ _ (s₁.setTop (mkF m 15 #[.val (.int ch), .unset] [(.int (97 : Int32)), (.int ch)]))
      by_cases h15 : ch < (97 : Int32)
      · refine own_G.go (fun t_ k_ => XS.icmpYes X0.here hx rfl (pc0 := 15) (pc' := 24) rfl (hb hby d_rm_inc_15) rfl (tlt h15).1 (by decide) (by decide) k_) ?_
        show own_G _ _ _ _ (s₁.setTop (mkF m 24 #[.val (.int ch), .unset] []))
        refine own_G.go (fun t_ k_ => XS.iloadN X0.here hx rfl (hb hby d_rm_inc_24) rfl k_) ?_
        show own_G _ _ _ _ (s₁.setTop (mkF m 25 #[.val (.int ch), .unset] [(.int ch)]))
        refine own_G.go (fun t_ k_ => XS.bipush X0.here hx rfl (hb hby d_rm_inc_25) k_) ?_
        show own_G _ _ _ _ (s₁.setTop (mkF m 27 #[.val (.int ch), .unset] [(.int (48 : Int32)), (.int ch)]))
        by_cases h27 : ch < (48 : Int32)
        · refine own_G.go (fun t_ k_ => XS.icmpYes X0.here hx rfl (pc0 := 27) (pc' := 40) rfl (hb hby d_rm_inc_27) rfl (tlt h27).1 (by decide) (by decide) k_) ?_
          show own_G _ _ _ _ (s₁.setTop (mkF m 40 #[.val (.int ch), .unset] []))
          exact J40 (own_sp_of hnmc (Or.inr h9) (Or.inl h15) (Or.inl h27))
        · refine own_G.go (fun t_ k_ => XS.icmpNo X0.here hx rfl (hb hby d_rm_inc_27) rfl (flt h27).1 k_) ?_
          show own_G _ _ _ _ (s₁.setTop (mkF m 30 #[.val (.int ch), .unset] []))
          refine own_G.go (fun t_ k_ => XS.iloadN X0.here hx rfl (hb hby d_rm_inc_30) rfl k_) ?_
          show own_G _ _ _ _ (s₁.setTop (mkF m 31 #[.val (.int ch), .unset] [(.int ch)]))
          refine own_G.go (fun t_ k_ => XS.bipush X0.here hx rfl (hb hby d_rm_inc_31) k_) ?_
          show own_G _ _ _ _ (s₁.setTop (mkF m 33 #[.val (.int ch), .unset] [(.int (57 : Int32)), (.int ch)]))
          by_cases h33 : (57 : Int32) < ch
          · refine own_G.go (fun t_ k_ => XS.icmpYes X0.here hx rfl (pc0 := 33) (pc' := 40) rfl (hb hby d_rm_inc_33) rfl (tlt h33).2.2.1 (by decide) (by decide) k_) ?_
            show own_G _ _ _ _ (s₁.setTop (mkF m 40 #[.val (.int ch), .unset] []))
            exact J40 (own_sp_of hnmc (Or.inr h9) (Or.inl h15) (Or.inr h33))
          · refine own_G.go (fun t_ k_ => XS.icmpNo X0.here hx rfl (hb hby d_rm_inc_33) rfl (flt h33).2.2.1 k_) ?_
            show own_G _ _ _ _ (s₁.setTop (mkF m 36 #[.val (.int ch), .unset] []))
            exact J36 trivial
      · refine own_G.go (fun t_ k_ => XS.icmpNo X0.here hx rfl (hb hby d_rm_inc_15) rfl (flt h15).1 k_) ?_
        show own_G _ _ _ _ (s₁.setTop (mkF m 18 #[.val (.int ch), .unset] []))
        refine own_G.go (fun t_ k_ => XS.iloadN X0.here hx rfl (hb hby d_rm_inc_18) rfl k_) ?_
        show own_G _ _ _ _ (s₁.setTop (mkF m 19 #[.val (.int ch), .unset] [(.int ch)]))
        refine own_G.go (fun t_ k_ => XS.bipush X0.here hx rfl (hb hby d_rm_inc_19) k_) ?_
        show own_G _ _ _ _ (s₁.setTop (mkF m 21 #[.val (.int ch), .unset] [(.int (122 : Int32)), (.int ch)]))
        by_cases h21 : (122 : Int32) < ch
        · refine own_G.go (fun t_ k_ => XS.icmpNo X0.here hx rfl (hb hby d_rm_inc_21) rfl (tlt h21).2.2.2 k_) ?_
          show own_G _ _ _ _ (s₁.setTop (mkF m 24 #[.val (.int ch), .unset] []))
          refine own_G.go (fun t_ k_ => XS.iloadN X0.here hx rfl (hb hby d_rm_inc_24) rfl k_) ?_
          show own_G _ _ _ _ (s₁.setTop (mkF m 25 #[.val (.int ch), .unset] [(.int ch)]))
          refine own_G.go (fun t_ k_ => XS.bipush X0.here hx rfl (hb hby d_rm_inc_25) k_) ?_
          show own_G _ _ _ _ (s₁.setTop (mkF m 27 #[.val (.int ch), .unset] [(.int (48 : Int32)), (.int ch)]))
          by_cases h27 : ch < (48 : Int32)
          · refine own_G.go (fun t_ k_ => XS.icmpYes X0.here hx rfl (pc0 := 27) (pc' := 40) rfl (hb hby d_rm_inc_27) rfl (tlt h27).1 (by decide) (by decide) k_) ?_
            show own_G _ _ _ _ (s₁.setTop (mkF m 40 #[.val (.int ch), .unset] []))
            exact J40 (own_sp_of hnmc (Or.inr h9) (Or.inr h21) (Or.inl h27))
          · refine own_G.go (fun t_ k_ => XS.icmpNo X0.here hx rfl (hb hby d_rm_inc_27) rfl (flt h27).1 k_) ?_
            show own_G _ _ _ _ (s₁.setTop (mkF m 30 #[.val (.int ch), .unset] []))
            refine own_G.go (fun t_ k_ => XS.iloadN X0.here hx rfl (hb hby d_rm_inc_30) rfl k_) ?_
            show own_G _ _ _ _ (s₁.setTop (mkF m 31 #[.val (.int ch), .unset] [(.int ch)]))
            refine own_G.go (fun t_ k_ => XS.bipush X0.here hx rfl (hb hby d_rm_inc_31) k_) ?_
            show own_G _ _ _ _ (s₁.setTop (mkF m 33 #[.val (.int ch), .unset] [(.int (57 : Int32)), (.int ch)]))
            by_cases h33 : (57 : Int32) < ch
            · refine own_G.go (fun t_ k_ => XS.icmpYes X0.here hx rfl (pc0 := 33) (pc' := 40) rfl (hb hby d_rm_inc_33) rfl (tlt h33).2.2.1 (by decide) (by decide) k_) ?_
              show own_G _ _ _ _ (s₁.setTop (mkF m 40 #[.val (.int ch), .unset] []))
              exact J40 (own_sp_of hnmc (Or.inr h9) (Or.inr h21) (Or.inr h33))
            · refine own_G.go (fun t_ k_ => XS.icmpNo X0.here hx rfl (hb hby d_rm_inc_33) rfl (flt h33).2.2.1 k_) ?_
              show own_G _ _ _ _ (s₁.setTop (mkF m 36 #[.val (.int ch), .unset] []))
              exact J36 trivial
        · refine own_G.go (fun t_ k_ => XS.icmpYes X0.here hx rfl (pc0 := 21) (pc' := 36) rfl (hb hby d_rm_inc_21) rfl (flt h21).2.2.2 (by decide) (by decide) k_) ?_
          show own_G _ _ _ _ (s₁.setTop (mkF m 36 #[.val (.int ch), .unset] []))
          exact J36 trivial
    · refine own_G.go (fun t_ k_ => XS.icmpYes X0.here hx rfl (pc0 := 9) (pc' := 36) rfl (hb hby d_rm_inc_9) rfl (flt h9).2.2.2 (by decide) (by decide) k_) ?_
      show own_G _ _ _ _ (s₁.setTop (mkF m 36 #[.val (.int ch), .unset] []))
      exact J36 trivial
theorem pn_5 : plainName "java/util/Objects" = true := by first | (simp [plainName, overriddenIn]; done) | decide +kernel
theorem d_rm_rnn_0 : decode jdk_31_method_11_code 0 = .ok (.aload_n 0, 1) := by decide +kernel
theorem d_rm_rnn_1 : decode jdk_31_method_11_code 1 = .ok (.ifnonnull 12, 3) := by decide +kernel
theorem d_rm_rnn_13 : decode jdk_31_method_11_code 13 = .ok (.aload_n 0, 1) := by decide +kernel
theorem d_rm_rnn_14 : decode jdk_31_method_11_code 14 = .ok (.areturn, 1) := by decide +kernel
set_option maxRecDepth 65536 in
set_option maxHeartbeats 40000000 in
theorem rm_rnn (l : Launch) (Z : State) (a0 : Array Value) (hw : ∀ d ∈ tables_1, d.before a0 Z = true) (ws : List Jvm.Cond) (a b : Addr) (h0 : Heap) (n0 : Nat) (Z0 : n0 ≤ h0.size)  :
    MetFree l (⟨"java/util/Objects", "requireNonNull", "(Ljava/lang/Object;Ljava/lang/String;)Ljava/lang/Object;"⟩ : MethodName) (head1 (Jvm.Cond.code (⟨"java/util/Objects", "requireNonNull", "(Ljava/lang/Object;Ljava/lang/String;)Ljava/lang/Object;"⟩ : MethodName) jdk_31_method_11_code 2 (some (.object "java/lang/Object")) :: ws) ({ frames := 0, cells := 0, slots := 0, locals := 0 } : Room)) (fun a_ U => a_ = #[(.ref a), (.ref b)] ∧ Z.Warmed39 U.vm ∧ U.heap = h0) (fun _ _ _ _ _ => True) (fun _ U o U' => ∃ v L, o = .returned v ∧ Qp (.ref a) h0 v U'.heap L ∧ FrameEnd U o U' L ({ frames := 0, cells := 0, slots := 0, locals := 0 } : Room).cells ({ frames := 0, cells := 0, slots := 0, locals := 0 } : Room).slots) := by
  refine MetFree.of_bodySF (plainFor_of_name pn_5) hisR ?_
  intro p e s m args below meth c s₁ Bd hml0 hP hK
  obtain ⟨rfl, hZ, hh⟩ := hP
  have hx := Bd.exec
  have hby := Bd.bytes
  have hrt := Bd.returns
  have hlk : meth.locks = false := Bd.notSynchronized
  have hml : c.maxLocals = 2 := hml0
  have hown : s.vm.findClass "java/util/Objects" = some m.cls := findClass_of_methodNamed Bd.named
  have hnm := (name_of_methodNamed Bd.named Bd.method).1
  have X0 : Stand p l e ({ frames := 0, cells := 0, slots := 0, locals := 0 } : Room) s m #[(.ref a), (.ref b)] below meth c s₁ [] 0 0 := Stand.of_body Bd
  have e0 : s₁.heap = h0 := by rw [← hh, Bd.state]; rfl
  have N0 := Fr.nil n0
  show own_G p.tables e below (fun o t => ∃ v L, o = .returned v ∧ Qp (.ref a) h0 v t.heap L ∧ FrameEnd s o t L ({ frames := 0, cells := 0, slots := 0, locals := 0 } : Room).cells ({ frames := 0, cells := 0, slots := 0, locals := 0 } : Room).slots) (s₁.setTop (entryFrame m #[(.ref a), (.ref b)] 2))
  refine own_G.cast (show entryFrame m #[(.ref a), (.ref b)] 2 = mkF m 0 #[.val (.ref a), .val (.ref b)] [] from by first | (simp [entryFrame, mkF, argsToLocals, Value.category]; done) | rfl) ?_
  refine own_G.go (fun t_ k_ => XS.aloadN X0.here hx rfl (hb hby d_rm_rnn_0) rfl rfl k_) ?_
  show own_G _ _ _ _ (s₁.setTop (mkF m 1 #[.val (.ref a), .val (.ref b)] [(.ref a)]))
  refine own_G.go (fun t_ k_ => XS.ifnonnullYes X0.here hx rfl (pc0 := 1) (pc' := 13) rfl (hb hby d_rm_rnn_1) rfl (by decide) (by decide) k_) ?_
  show own_G _ _ _ _ (s₁.setTop (mkF m 13 #[.val (.ref a), .val (.ref b)] []))
  refine own_G.go (fun t_ k_ => XS.aloadN X0.here hx rfl (hb hby d_rm_rnn_13) rfl rfl k_) ?_
  show own_G _ _ _ _ (s₁.setTop (mkF m 14 #[.val (.ref a), .val (.ref b)] [(.ref a)]))
  exact own_G.end_ X0 hlk (v := (some (.ref a))) (fun h => by rw [hrt] at h; cases h) (fun fs hr => retOut X0 hx hrt rfl (Or.inr (Or.inr (Or.inr (Or.inr ⟨rfl, rfl, rfl⟩)))) (hb hby d_rm_rnn_14) hr) e0 ⟨rfl, rfl, rfl⟩ (by decide) (by decide)
def Qrv (x : Addr) (h0 : Heap) (n0 : Nat) (v : Option Value) (h : Heap) (L : List Loc) : Prop := v = some (.ref x) ∧ Fr n0 L ∧ Keep h0 h []
theorem pd_7 : parseMethodDescriptor "(Ljava/lang/Object;Ljava/lang/String;)Ljava/lang/Object;" = some ⟨[(.object "java/lang/Object"), (.object "java/lang/String")], some (.object "java/lang/Object")⟩ := by decide +kernel
theorem pd_8 : parseMethodDescriptor "(I)C" = some ⟨[.int], some .char⟩ := by decide +kernel
theorem pd_9 : parseMethodDescriptor "(C)Z" = some ⟨[.char], some .boolean⟩ := by decide +kernel
theorem d_rm_rv1_0 : decode prog_3_method_2_code 0 = .ok (.aload_n 0, 1) := by decide +kernel
theorem d_rm_rv1_1 : decode prog_3_method_2_code 1 = .ok (.ldc 7, 2) := by decide +kernel
theorem d_rm_rv1_3 : decode prog_3_method_2_code 3 = .ok (.invokestatic 9, 3) := by decide +kernel
theorem d_rm_rv1_6 : decode prog_3_method_2_code 6 = .ok (.pop, 1) := by decide +kernel
theorem d_rm_rv1_7 : decode prog_3_method_2_code 7 = .ok (.aload_n 0, 1) := by decide +kernel
theorem d_rm_rv1_8 : decode prog_3_method_2_code 8 = .ok (.invokevirtual 15, 3) := by decide +kernel
theorem d_rm_rv1_11 : decode prog_3_method_2_code 11 = .ok (.ifCond .eq 13, 3) := by decide +kernel
theorem d_rm_rv1_24 : decode prog_3_method_2_code 24 = .ok (.iconst 0, 1) := by decide +kernel
theorem d_rm_rv1_25 : decode prog_3_method_2_code 25 = .ok (.istore_n 1, 1) := by decide +kernel
theorem d_rm_rv1_26 : decode prog_3_method_2_code 26 = .ok (.iload_n 1, 1) := by decide +kernel
theorem d_rm_rv1_27 : decode prog_3_method_2_code 27 = .ok (.aload_n 0, 1) := by decide +kernel
theorem d_rm_rv1_28 : decode prog_3_method_2_code 28 = .ok (.invokevirtual 28, 3) := by decide +kernel
theorem d_rm_rv1_31 : decode prog_3_method_2_code 31 = .ok (.if_icmp .ge 55, 3) := by decide +kernel
theorem d_rm_rv1_34 : decode prog_3_method_2_code 34 = .ok (.aload_n 0, 1) := by decide +kernel
theorem d_rm_rv1_35 : decode prog_3_method_2_code 35 = .ok (.iload_n 1, 1) := by decide +kernel
theorem d_rm_rv1_36 : decode prog_3_method_2_code 36 = .ok (.invokevirtual 32, 3) := by decide +kernel
theorem d_rm_rv1_39 : decode prog_3_method_2_code 39 = .ok (.invokestatic 36, 3) := by decide +kernel
theorem d_rm_rv1_42 : decode prog_3_method_2_code 42 = .ok (.ifCond .ne 38, 3) := by decide +kernel
theorem d_rm_rv1_80 : decode prog_3_method_2_code 80 = .ok (.iinc 1 1, 3) := by decide +kernel
theorem d_rm_rv1_83 : decode prog_3_method_2_code 83 = .ok (.goto (-57), 3) := by decide +kernel
theorem d_rm_rv1_86 : decode prog_3_method_2_code 86 = .ok (.aload_n 0, 1) := by decide +kernel
theorem d_rm_rv1_87 : decode prog_3_method_2_code 87 = .ok (.invokevirtual 28, 3) := by decide +kernel
theorem d_rm_rv1_90 : decode prog_3_method_2_code 90 = .ok (.sipush 191, 3) := by decide +kernel
theorem d_rm_rv1_93 : decode prog_3_method_2_code 93 = .ok (.if_icmp .le 20, 3) := by decide +kernel
theorem d_rm_rv1_113 : decode prog_3_method_2_code 113 = .ok (.aload_n 0, 1) := by decide +kernel
theorem d_rm_rv1_114 : decode prog_3_method_2_code 114 = .ok (.areturn, 1) := by decide +kernel
set_option maxRecDepth 65536 in
set_option maxHeartbeats 40000000 in
theorem rm_rv1 (l : Launch) (Z : State) (a0 : Array Value) (hw : ∀ d ∈ tables_1, d.before a0 Z = true) (ws : List Jvm.Cond) (x t : Addr) (kb : ClassId) (c0 : Int32) (zc : Int32) (fm : Value) (h0 : Heap) (n0 : Nat) (Z0 : n0 ≤ h0.size) (E0 : Exa Z h0 x "java/lang/String") (V0 : Fld Z h0 x "java/lang/String" "value" "[B" (.ref t)) (C0 : Fld Z h0 x "java/lang/String" "coder" "B" (.int 0)) (K0 : Arv Z h0 t kb .byte (1 : Int32) ((([c0] : List Int32).map (fun c => c.toInt8.toInt32)).map Value.int) (.int 0)) (nn0 : own_nm c0) (O2 : Sta Z Z.heap "java/lang/String" "COMPACT_STRINGS" "Z" (.int zc)) (O4 : Sta Z Z.heap "jdk/internal/util/Preconditions" "SIOOBE_FORMATTER" "Ljava/util/function/BiFunction;" fm) (P5 : ¬ (zc = (0 : Int32))) (rfm : fm.isRef = true) (X00 : Old Z n0 h0) :
    MetFree l (⟨"com/example/lease_lock/leaselock/LeaseLimits", "requireValidName", "(Ljava/lang/String;)Ljava/lang/String;"⟩ : MethodName) (head1 (Jvm.Cond.code (⟨"com/example/lease_lock/leaselock/LeaseLimits", "requireValidName", "(Ljava/lang/String;)Ljava/lang/String;"⟩ : MethodName) prog_3_method_2_code 2 (some (.object "java/lang/String")) :: ws) ({ frames := 5, cells := 4, slots := 44, locals := 100 } : Room)) (fun a_ U => a_ = #[(.ref x)] ∧ Z.Warmed39 U.vm ∧ U.heap = h0 ∧ CHv Z own_EL U.vm h0) (fun _ _ _ _ _ => True) (fun _ U o U' => ∃ v L, o = .returned v ∧ Qrv x h0 n0 v U'.heap L ∧ CHr Z own_EL U.vm U.heap U'.vm U'.heap ∧ ReturnedEndW U o U' L ({ frames := 5, cells := 4, slots := 44, locals := 100 } : Room).cells ({ frames := 5, cells := 4, slots := 44, locals := 100 } : Room).slots) := by
  refine MetFree.of_bodySF (plainFor_of_name pn_4) hisR ?_
  intro p e s m args below meth c s₁ Bd hml0 hP hK
  obtain ⟨rfl, hZ, hh, hCH⟩ := hP
  have hx := Bd.exec
  have hby := Bd.bytes
  have hrt := Bd.returns
  have hlk : meth.locks = false := Bd.notSynchronized
  have hml : c.maxLocals = 2 := hml0
  have hown : s.vm.findClass "com/example/lease_lock/leaselock/LeaseLimits" = some m.cls := findClass_of_methodNamed Bd.named
  have hnm := (name_of_methodNamed Bd.named Bd.method).1
  have X0 : Stand p l e ({ frames := 5, cells := 4, slots := 44, locals := 100 } : Room) (s.setVm s.vm) m #[(.ref x)] below meth c s₁ [] 0 0 := Stand.of_body Bd
  have e0 : s₁.heap = h0 := by rw [← hh, Bd.state]; rfl
  have N0 := Fr.nil n0
  have hS0 : s.Since s.vm 0 := own_since s 0
  have hstr : ∀ d ∈ Bundle.stringAtoms, d.before a0 Z = true := fun d hd => hw d ((by decide +kernel : ∀ d ∈ Bundle.stringAtoms, d ∈ tables_1) d hd)
  have hEW : EW Z a0 own_EL := own_EW hw
  have CH0 : CHr Z own_EL s.vm h0 s.vm h0 := CHr.refl hCH
  show own_G p.tables e below (fun o t => ∃ v L, o = .returned v ∧ Qrv x h0 n0 v t.heap L ∧ CHr Z own_EL s.vm s.heap t.vm t.heap ∧ ReturnedEndW s o t L ({ frames := 5, cells := 4, slots := 44, locals := 100 } : Room).cells ({ frames := 5, cells := 4, slots := 44, locals := 100 } : Room).slots) (s₁.setTop (entryFrame m #[(.ref x)] 2))
  refine own_G.cast (show entryFrame m #[(.ref x)] 2 = mkF m 0 #[.val (.ref x), .unset] [] from by first | (simp [entryFrame, mkF, argsToLocals, Value.category]; done) | rfl) ?_
  have hLen : ∀ d ∈ StrChars.Road.wordsLen, d.before a0 Z = true := fun d hd => hw d ((by decide +kernel : ∀ d ∈ StrChars.Road.wordsLen, d ∈ tables_1) d hd)
  have hChN : ∀ d ∈ StrChars.Road.wordsChN, d.before a0 Z = true := fun d hd => hw d ((by decide +kernel : ∀ d ∈ StrChars.Road.wordsChN, d ∈ tables_1) d hd)
  have hEmp : ∀ d ∈ StrChars.Road.wordsEmp, d.before a0 Z = true := fun d hd => hw d ((by decide +kernel : ∀ d ∈ StrChars.Road.wordsEmp, d ∈ tables_1) d hd)
  have hp : ∀ c ∈ ([c0] : List Int32), own_b c := by
    intro c hc
    simp only [List.mem_cons, List.not_mem_nil, or_false] at hc
    rcases hc with rfl
    · exact nn0.1
  have hcd := StrChars.Road.codOf (cs := ([c0] : List Int32)) (n := 1) rfl (fun c hc => (hp c hc).2)
  have hbd := own_up _ hp
  refine own_G.go (fun t_ k_ => XS.aloadN X0.here hx rfl (hb hby d_rm_rv1_0) rfl rfl k_) ?_
  show own_G _ _ _ _ (s₁.setTop (mkF m 1 #[.val (.ref x), .unset] [(.ref x)]))
  obtain ⟨al_1, T_1, h_1, k_1, X_1, e_1, E_1, hS_1, hk_1, hZ_1, hown_1, Cr_1, -, st_1⟩ := ldcOH X0 hx hZ hown (own_w hw 39 rfl) hstr e0 hS0 (Nat.zero_le _) hEW CH0.1 (g := (mkF m 1 #[.val (.ref x), .unset] [(.ref x)])) rfl (hb hby d_rm_rv1_1) (n := 16) (by decide +kernel) (by decide) (by decide) (by decide)
  refine own_G.go st_1 ?_
  have CH_2 : CHr Z own_EL s.vm h0 T_1.vm h_1 := CH0.trans Cr_1
  show own_G _ _ _ _ (T_1.setTop (mkF m 3 #[.val (.ref x), .unset] [(.ref al_1), (.ref x)]))
  obtain ⟨_, T_3, L_3, Q_3, X_3, st_3⟩ := own_callS X_1 hx hown_1 (mvT hZ_1 (own_w hw 42 rfl)) (mvT hZ_1 (own_w hw 43 rfl)) (mvT hZ_1 (own_w hw 44 rfl)) (mvT hZ_1 (own_w hw 45 rfl)) (by decide) (Q := (Qp (.ref x) h_1)) (backOf (W := 0) (rm_rnn l Z a0 hw [] x al_1 h_1 n0 (Nat.le_trans Z0 E_1.1) ) hZ_1 (own_w hw 45 rfl) (own_w hw 44 rfl) (by decide) (by decide)) (g := (mkF m 3 #[.val (.ref x), .unset] [(.ref al_1), (.ref x)])) rfl (by rw [hml]; rfl) (argsL := [(.ref x), (.ref al_1)]) (rest := []) (lenOf pd_7 rfl) rfl (by show 2 * 0 + _ ≤ _; exact Nat.le_of_eq rfl) (hb hby d_rm_rv1_3) e_1 rfl (by decide) (by decide)
  obtain ⟨rfl, rfl, eh_3⟩ := Q_3
  refine own_G.via st_3 ?_
  have N_3 := Fr.app N0 (Fr.nil n0)
  show own_G _ _ _ _ (T_3.setTop (mkF m 6 #[.val (.ref x), .unset] [(.ref x)]))
  refine own_G.go (fun t_ k_ => XS.pop X_3.here hx rfl (hb hby d_rm_rv1_6) rfl rfl k_) ?_
  show own_G _ _ _ _ (T_3.setTop (mkF m 7 #[.val (.ref x), .unset] []))
  refine own_G.go (fun t_ k_ => XS.aloadN X_3.here hx rfl (hb hby d_rm_rv1_7) rfl rfl k_) ?_
  show own_G _ _ _ _ (T_3.setTop (mkF m 8 #[.val (.ref x), .unset] [(.ref x)]))
  have E0'_4 : Exa Z h_1 x "java/lang/String" := (E0.ext E_1)
  have V0'_5 : Fld Z h_1 x "java/lang/String" "value" "[B" (.ref t) := (V0.ext E_1)
  have C0'_6 : Fld Z h_1 x "java/lang/String" "coder" "B" (.int 0) := (C0.ext E_1)
  have K0'_7 : Arv Z h_1 t kb .byte (1 : Int32) ((([c0] : List Int32).map (fun c => c.toInt8.toInt32)).map Value.int) (.int 0) := (K0.ext E_1)
  obtain ⟨cq_8, kq_8, q_8a, q_8b, q_8c⟩ := isOf hZ_1 eh_3 E0'_4
  obtain ⟨_, T_8, L_8, Q_8, X_8, st_8⟩ := own_callV X_3 hx (z := (⟨"java/lang/String", "isEmpty", "()Z"⟩ : MethodName)) hown_1 (mvT hZ_1 (own_w hw 46 rfl)) (mvT hZ_1 (own_w hw 47 rfl)) (notFace_of_selects (args := #[]) (mvT hZ_1 (own_w hw 49 rfl))) (mvT hZ_1 (own_w hw 49 rfl)) (mvT hZ_1 (own_w hw 48 rfl)) (by decide) (Q := (fun v h' L => v = some (.int (if ([c0] : List Int32).length = 0 then 1 else 0)) ∧ L = [] ∧ h' = h_1)) (StrChars.Road.empW (W := 0) hZ_1 hEmp (kI := 4) (own_w hw 6 rfl) E0'_4 V0'_5 C0'_6 K0'_7 hcd hbd (Nat.le_of_ble_eq_true rfl) (by decide) (by decide)) q_8a q_8c (g := (mkF m 8 #[.val (.ref x), .unset] [(.ref x)])) rfl (by rw [hml]; rfl) (argsL := []) (rest := []) (lenOf pd_4 rfl) rfl (by show 2 * 0 + _ ≤ _; exact Nat.le_of_eq rfl) (hb hby d_rm_rv1_8) eh_3 rfl (by decide) (by decide)
  obtain ⟨rfl, rfl, eh_8⟩ := Q_8
  refine own_G.via st_8 ?_
  have N_8 := Fr.app N_3 (Fr.nil n0)
  show own_G _ _ _ _ (T_8.setTop (mkF m 11 #[.val (.ref x), .unset] [(.int (0 : Int32))]))
  refine own_G.go (fun t_ k_ => XS.ifYes X_8.here hx rfl (pc0 := 11) (pc' := 24) rfl (hb hby d_rm_rv1_11) rfl ((if0 _ _).trans (teq (by decide : (0 : Int32) = (0 : Int32))).1) (by decide) (by decide) k_) ?_
  show own_G _ _ _ _ (T_8.setTop (mkF m 24 #[.val (.ref x), .unset] []))
  refine own_G.go (fun t_ k_ => XS.iconst X_8.here hx rfl (hb hby d_rm_rv1_24) k_) ?_
  show own_G _ _ _ _ (T_8.setTop (mkF m 25 #[.val (.ref x), .unset] [(.int (0 : Int32))]))
  refine own_G.go (fun t_ k_ => XS.istoreN X_8.here hx rfl (hb hby d_rm_rv1_25) rfl (l' := #[.val (.ref x), .val (.int (0 : Int32))]) rfl k_) ?_
  show own_G _ _ _ _ (T_8.setTop (mkF m 26 #[.val (.ref x), .val (.int (0 : Int32))] []))
  refine own_G.go (fun t_ k_ => XS.iloadN X_8.here hx rfl (hb hby d_rm_rv1_26) rfl k_) ?_
  show own_G _ _ _ _ (T_8.setTop (mkF m 27 #[.val (.ref x), .val (.int (0 : Int32))] [(.int (0 : Int32))]))
  refine own_G.go (fun t_ k_ => XS.aloadN X_8.here hx rfl (hb hby d_rm_rv1_27) rfl rfl k_) ?_
  show own_G _ _ _ _ (T_8.setTop (mkF m 28 #[.val (.ref x), .val (.int (0 : Int32))] [(.ref x), (.int (0 : Int32))]))
  have O_9d : Old Z n0 h_1 := (X00.ext E_1)
  obtain ⟨cq_10, kq_10, q_10a, q_10b, q_10c⟩ := isOf hZ_1 eh_8 E0'_4
  obtain ⟨_, T_10, L_10, Q_10, X_10, st_10⟩ := own_callV X_8 hx (z := (⟨"java/lang/String", "length", "()I"⟩ : MethodName)) hown_1 (mvT hZ_1 (own_w hw 51 rfl)) (mvT hZ_1 (own_w hw 52 rfl)) (notFace_of_selects (args := #[]) (mvT hZ_1 (own_w hw 54 rfl))) (mvT hZ_1 (own_w hw 54 rfl)) (mvT hZ_1 (own_w hw 53 rfl)) (by decide) (Q := (fun v h' L => v = some (.int (Int32.ofNat ([c0] : List Int32).length)) ∧ L = [] ∧ h' = h_1)) (StrChars.Road.lenW (W := 1) hZ_1 hLen (kI := 4) (own_w hw 6 rfl) E0'_4 V0'_5 C0'_6 K0'_7 hcd hbd (O2.ext O_9d.2) P5 (Nat.le_of_ble_eq_true rfl) (by decide) (by decide)) q_10a q_10c (g := (mkF m 28 #[.val (.ref x), .val (.int (0 : Int32))] [(.ref x), (.int (0 : Int32))])) rfl (by rw [hml]; rfl) (argsL := []) (rest := [(.int (0 : Int32))]) (lenOf pd_5 rfl) rfl (by show 2 * 0 + _ ≤ _; exact Nat.le_of_eq rfl) (hb hby d_rm_rv1_28) eh_8 rfl (by decide) (by decide)
  obtain ⟨rfl, rfl, eh_10⟩ := Q_10
  refine own_G.via st_10 ?_
  have N_10 := Fr.app N_8 (Fr.nil n0)
  show own_G _ _ _ _ (T_10.setTop (mkF m 31 #[.val (.ref x), .val (.int (0 : Int32))] [(.int (1 : Int32)), (.int (0 : Int32))]))
  refine own_G.go (fun t_ k_ => XS.icmpNo X_10.here hx rfl (hb hby d_rm_rv1_31) rfl (tlt (by decide : (0 : Int32) < (1 : Int32))).2.1 k_) ?_
  show own_G _ _ _ _ (T_10.setTop (mkF m 34 #[.val (.ref x), .val (.int (0 : Int32))] []))
  refine own_G.go (fun t_ k_ => XS.aloadN X_10.here hx rfl (hb hby d_rm_rv1_34) rfl rfl k_) ?_
  show own_G _ _ _ _ (T_10.setTop (mkF m 35 #[.val (.ref x), .val (.int (0 : Int32))] [(.ref x)]))
  refine own_G.go (fun t_ k_ => XS.iloadN X_10.here hx rfl (hb hby d_rm_rv1_35) rfl k_) ?_
  show own_G _ _ _ _ (T_10.setTop (mkF m 36 #[.val (.ref x), .val (.int (0 : Int32))] [(.int (0 : Int32)), (.ref x)]))
  obtain ⟨cq_11, kq_11, q_11a, q_11b, q_11c⟩ := isOf hZ_1 eh_10 E0'_4
  obtain ⟨_, T_11, L_11, Q_11, X_11, st_11⟩ := own_callV X_10 hx (z := (⟨"java/lang/String", "charAt", "(I)C"⟩ : MethodName)) hown_1 (mvT hZ_1 (own_w hw 61 rfl)) (mvT hZ_1 (own_w hw 62 rfl)) (notFace_of_selects (args := #[]) (mvT hZ_1 (own_w hw 64 rfl))) (mvT hZ_1 (own_w hw 64 rfl)) (mvT hZ_1 (own_w hw 63 rfl)) (by decide) (Q := (fun v h' L => v = some (.int (([c0] : List Int32).getD 0 0)) ∧ L = [] ∧ h' = h_1)) (StrChars.Road.chN (W := 0) hZ_1 hChN (kI := 4) (own_w hw 6 rfl) E0'_4 V0'_5 C0'_6 K0'_7 hcd hbd (O2.ext O_9d.2) P5 (O4.ext O_9d.2) rfm (Nat.le_of_ble_eq_true rfl) (i := 0) (Nat.le_of_ble_eq_true rfl) (j := (0 : Int32)) rfl (by decide) (by decide)) q_11a q_11c (g := (mkF m 36 #[.val (.ref x), .val (.int (0 : Int32))] [(.int (0 : Int32)), (.ref x)])) rfl (by rw [hml]; rfl) (argsL := [(.int (0 : Int32))]) (rest := []) (lenOf pd_8 rfl) rfl (by show 2 * 0 + _ ≤ _; exact Nat.le_of_eq rfl) (hb hby d_rm_rv1_36) eh_10 rfl (by decide) (by decide)
  obtain ⟨rfl, rfl, eh_11⟩ := Q_11
  refine own_G.via st_11 ?_
  have N_11 := Fr.app N_10 (Fr.nil n0)
  show own_G _ _ _ _ (T_11.setTop (mkF m 39 #[.val (.ref x), .val (.int (0 : Int32))] [(.int c0)]))
  obtain ⟨_, T_12, L_12, Q_12, X_12, hS_12, hZ_12, hown_12, st_12⟩ := own_callSW X_11 hx hS_1 hk_1 hZ_1 hown_1 (mvT hZ_1 (own_w hw 83 rfl)) (mvT hZ_1 (own_w hw 84 rfl)) (mvT hZ_1 (own_w hw 37 rfl)) (mvT hZ_1 (own_w hw 85 rfl)) (by decide) (Q := (fun v (U : State) L => Qnch h_1 n0 v U.heap L ∧ CHr Z own_EL T_1.vm h_1 U.vm U.heap)) (own_backSH (backOfSH (W := 0) (rm_inc l Z a0 hw [] c0 zc h_1 n0 (Nat.le_trans Z0 E_1.1) nn0 O2 P5 O_9d) hZ_1 (own_w hw 85 rfl) (own_w hw 37 rfl) (by decide) (by decide) hEW CH_2.1)) (g := (mkF m 39 #[.val (.ref x), .val (.int (0 : Int32))] [(.int c0)])) rfl (by rw [hml]; rfl) (argsL := [(.int c0)]) (rest := []) (lenOf pd_9 rfl) rfl (by show 2 * 0 + _ ≤ _; exact Nat.le_of_eq rfl) (hb hby d_rm_rv1_39) eh_11 rfl (by decide) (by decide)
  obtain ⟨⟨rfl, Nq_12, K_12⟩, Ch_12⟩ := Q_12
  refine own_G.via st_12 ?_
  have CH_13 : CHr Z own_EL s.vm h0 T_12.vm T_12.heap := CH_2.trans Ch_12
  have N_12 := Fr.app N_11 Nq_12
  show own_G _ _ _ _ (T_12.setTop (mkF m 42 #[.val (.ref x), .val (.int (0 : Int32))] [(.int (1 : Int32))]))
  refine own_G.go (fun t_ k_ => XS.ifYes X_12.here hx rfl (pc0 := 42) (pc' := 80) rfl (hb hby d_rm_rv1_42) rfl ((if0 _ _).trans (feq (by decide : ¬ ((1 : Int32) = (0 : Int32)))).2) (by decide) (by decide) k_) ?_
  show own_G _ _ _ _ (T_12.setTop (mkF m 80 #[.val (.ref x), .val (.int (0 : Int32))] []))
  refine own_G.go (fun t_ k_ => XS.iinc X_12.here hx rfl (hb hby d_rm_rv1_80) rfl (l' := #[.val (.ref x), .val (.int (1 : Int32))]) rfl k_) ?_
  show own_G _ _ _ _ (T_12.setTop (mkF m 83 #[.val (.ref x), .val (.int (1 : Int32))] []))
  refine own_G.go (fun t_ k_ => XS.goto X_12.here hx rfl (pc0 := 83) (pc' := 26) rfl (hb hby d_rm_rv1_83) (by decide) (by decide) k_) ?_
  show own_G _ _ _ _ (T_12.setTop (mkF m 26 #[.val (.ref x), .val (.int (1 : Int32))] []))
  refine own_G.go (fun t_ k_ => XS.iloadN X_12.here hx rfl (hb hby d_rm_rv1_26) rfl k_) ?_
  show own_G _ _ _ _ (T_12.setTop (mkF m 27 #[.val (.ref x), .val (.int (1 : Int32))] [(.int (1 : Int32))]))
  refine own_G.go (fun t_ k_ => XS.aloadN X_12.here hx rfl (hb hby d_rm_rv1_27) rfl rfl k_) ?_
  show own_G _ _ _ _ (T_12.setTop (mkF m 28 #[.val (.ref x), .val (.int (1 : Int32))] [(.ref x), (.int (1 : Int32))]))
  have E0'_14 : Exa Z T_12.heap x "java/lang/String" := (E0'_4.keep K_12)
  have V0'_15 : Fld Z T_12.heap x "java/lang/String" "value" "[B" (.ref t) := (V0'_5.keep K_12 nin0)
  have C0'_16 : Fld Z T_12.heap x "java/lang/String" "coder" "B" (.int 0) := (C0'_6.keep K_12 nin0)
  have K0'_17 : Arv Z T_12.heap t kb .byte (1 : Int32) ((([c0] : List Int32).map (fun c => c.toInt8.toInt32)).map Value.int) (.int 0) := (K0'_7.keep K_12 nin0)
  have O_18d : Old Z n0 T_12.heap := (O_9d.keep K_12 all0)
  obtain ⟨cq_19, kq_19, q_19a, q_19b, q_19c⟩ := isOf hZ_12 rfl E0'_14
  obtain ⟨_, T_19, L_19, Q_19, X_19, st_19⟩ := own_callV X_12 hx (z := (⟨"java/lang/String", "length", "()I"⟩ : MethodName)) hown_12 (mvT hZ_12 (own_w hw 51 rfl)) (mvT hZ_12 (own_w hw 52 rfl)) (notFace_of_selects (args := #[]) (mvT hZ_12 (own_w hw 54 rfl))) (mvT hZ_12 (own_w hw 54 rfl)) (mvT hZ_12 (own_w hw 53 rfl)) (by decide) (Q := (fun v h' L => v = some (.int (Int32.ofNat ([c0] : List Int32).length)) ∧ L = [] ∧ h' = T_12.heap)) (StrChars.Road.lenW (W := 1) hZ_12 hLen (kI := 4) (own_w hw 6 rfl) E0'_14 V0'_15 C0'_16 K0'_17 hcd hbd (O2.ext O_18d.2) P5 (Nat.le_of_ble_eq_true rfl) (by decide) (by decide)) q_19a q_19c (g := (mkF m 28 #[.val (.ref x), .val (.int (1 : Int32))] [(.ref x), (.int (1 : Int32))])) rfl (by rw [hml]; rfl) (argsL := []) (rest := [(.int (1 : Int32))]) (lenOf pd_5 rfl) rfl (by show 2 * 0 + _ ≤ _; exact Nat.le_of_eq rfl) (hb hby d_rm_rv1_28) rfl rfl (by decide) (by decide)
  obtain ⟨rfl, rfl, eh_19⟩ := Q_19
  refine own_G.via st_19 ?_
  have N_19 := Fr.app N_12 (Fr.nil n0)
  show own_G _ _ _ _ (T_19.setTop (mkF m 31 #[.val (.ref x), .val (.int (1 : Int32))] [(.int (1 : Int32)), (.int (1 : Int32))]))
  refine own_G.go (fun t_ k_ => XS.icmpYes X_19.here hx rfl (pc0 := 31) (pc' := 86) rfl (hb hby d_rm_rv1_31) rfl (flt (by decide : ¬ ((1 : Int32) < (1 : Int32)))).2.1 (by decide) (by decide) k_) ?_
  show own_G _ _ _ _ (T_19.setTop (mkF m 86 #[.val (.ref x), .val (.int (1 : Int32))] []))
  refine own_G.go (fun t_ k_ => XS.aloadN X_19.here hx rfl (hb hby d_rm_rv1_86) rfl rfl k_) ?_
  show own_G _ _ _ _ (T_19.setTop (mkF m 87 #[.val (.ref x), .val (.int (1 : Int32))] [(.ref x)]))
  obtain ⟨cq_20, kq_20, q_20a, q_20b, q_20c⟩ := isOf hZ_12 eh_19 E0'_14
  obtain ⟨_, T_20, L_20, Q_20, X_20, st_20⟩ := own_callV X_19 hx (z := (⟨"java/lang/String", "length", "()I"⟩ : MethodName)) hown_12 (mvT hZ_12 (own_w hw 51 rfl)) (mvT hZ_12 (own_w hw 52 rfl)) (notFace_of_selects (args := #[]) (mvT hZ_12 (own_w hw 54 rfl))) (mvT hZ_12 (own_w hw 54 rfl)) (mvT hZ_12 (own_w hw 53 rfl)) (by decide) (Q := (fun v h' L => v = some (.int (Int32.ofNat ([c0] : List Int32).length)) ∧ L = [] ∧ h' = T_12.heap)) (StrChars.Road.lenW (W := 0) hZ_12 hLen (kI := 4) (own_w hw 6 rfl) E0'_14 V0'_15 C0'_16 K0'_17 hcd hbd (O2.ext O_18d.2) P5 (Nat.le_of_ble_eq_true rfl) (by decide) (by decide)) q_20a q_20c (g := (mkF m 87 #[.val (.ref x), .val (.int (1 : Int32))] [(.ref x)])) rfl (by rw [hml]; rfl) (argsL := []) (rest := []) (lenOf pd_5 rfl) rfl (by show 2 * 0 + _ ≤ _; exact Nat.le_of_eq rfl) (hb hby d_rm_rv1_87) eh_19 rfl (by decide) (by decide)
  obtain ⟨rfl, rfl, eh_20⟩ := Q_20
  refine own_G.via st_20 ?_
  have N_20 := Fr.app N_19 (Fr.nil n0)
  show own_G _ _ _ _ (T_20.setTop (mkF m 90 #[.val (.ref x), .val (.int (1 : Int32))] [(.int (1 : Int32))]))
  refine own_G.go (fun t_ k_ => XS.sipush X_20.here hx rfl (hb hby d_rm_rv1_90) k_) ?_
  show own_G _ _ _ _ (T_20.setTop (mkF m 93 #[.val (.ref x), .val (.int (1 : Int32))] [(.int (191 : Int32)), (.int (1 : Int32))]))
  refine own_G.go (fun t_ k_ => XS.icmpYes X_20.here hx rfl (pc0 := 93) (pc' := 113) rfl (hb hby d_rm_rv1_93) rfl (flt (by decide : ¬ ((191 : Int32) < (1 : Int32)))).2.2.2 (by decide) (by decide) k_) ?_
  show own_G _ _ _ _ (T_20.setTop (mkF m 113 #[.val (.ref x), .val (.int (1 : Int32))] []))
  refine own_G.go (fun t_ k_ => XS.aloadN X_20.here hx rfl (hb hby d_rm_rv1_113) rfl rfl k_) ?_
  show own_G _ _ _ _ (T_20.setTop (mkF m 114 #[.val (.ref x), .val (.int (1 : Int32))] [(.ref x)]))
  exact own_G.endH X_20 hS_12 (Nat.le_refl _) hZ_12 hEW (hh ▸ CH_13) hlk (v := (some (.ref x))) (fun h => by rw [hrt] at h; cases h) (fun fs hr => retOut X_20 hx hrt rfl (Or.inr (Or.inr (Or.inr (Or.inr ⟨rfl, rfl, rfl⟩)))) (hb hby d_rm_rv1_114) hr) eh_20 ⟨rfl, N_20, (((Keep.refl h0 []).ext E_1).trans K_12 all0)⟩ (by decide) (by decide)
theorem d_rm_rv2_0 : decode prog_3_method_2_code 0 = .ok (.aload_n 0, 1) := by decide +kernel
theorem d_rm_rv2_1 : decode prog_3_method_2_code 1 = .ok (.ldc 7, 2) := by decide +kernel
theorem d_rm_rv2_3 : decode prog_3_method_2_code 3 = .ok (.invokestatic 9, 3) := by decide +kernel
theorem d_rm_rv2_6 : decode prog_3_method_2_code 6 = .ok (.pop, 1) := by decide +kernel
theorem d_rm_rv2_7 : decode prog_3_method_2_code 7 = .ok (.aload_n 0, 1) := by decide +kernel
theorem d_rm_rv2_8 : decode prog_3_method_2_code 8 = .ok (.invokevirtual 15, 3) := by decide +kernel
theorem d_rm_rv2_11 : decode prog_3_method_2_code 11 = .ok (.ifCond .eq 13, 3) := by decide +kernel
theorem d_rm_rv2_24 : decode prog_3_method_2_code 24 = .ok (.iconst 0, 1) := by decide +kernel
theorem d_rm_rv2_25 : decode prog_3_method_2_code 25 = .ok (.istore_n 1, 1) := by decide +kernel
theorem d_rm_rv2_26 : decode prog_3_method_2_code 26 = .ok (.iload_n 1, 1) := by decide +kernel
theorem d_rm_rv2_27 : decode prog_3_method_2_code 27 = .ok (.aload_n 0, 1) := by decide +kernel
theorem d_rm_rv2_28 : decode prog_3_method_2_code 28 = .ok (.invokevirtual 28, 3) := by decide +kernel
theorem d_rm_rv2_31 : decode prog_3_method_2_code 31 = .ok (.if_icmp .ge 55, 3) := by decide +kernel
theorem d_rm_rv2_34 : decode prog_3_method_2_code 34 = .ok (.aload_n 0, 1) := by decide +kernel
theorem d_rm_rv2_35 : decode prog_3_method_2_code 35 = .ok (.iload_n 1, 1) := by decide +kernel
theorem d_rm_rv2_36 : decode prog_3_method_2_code 36 = .ok (.invokevirtual 32, 3) := by decide +kernel
theorem d_rm_rv2_39 : decode prog_3_method_2_code 39 = .ok (.invokestatic 36, 3) := by decide +kernel
theorem d_rm_rv2_42 : decode prog_3_method_2_code 42 = .ok (.ifCond .ne 38, 3) := by decide +kernel
theorem d_rm_rv2_80 : decode prog_3_method_2_code 80 = .ok (.iinc 1 1, 3) := by decide +kernel
theorem d_rm_rv2_83 : decode prog_3_method_2_code 83 = .ok (.goto (-57), 3) := by decide +kernel
theorem d_rm_rv2_86 : decode prog_3_method_2_code 86 = .ok (.aload_n 0, 1) := by decide +kernel
theorem d_rm_rv2_87 : decode prog_3_method_2_code 87 = .ok (.invokevirtual 28, 3) := by decide +kernel
theorem d_rm_rv2_90 : decode prog_3_method_2_code 90 = .ok (.sipush 191, 3) := by decide +kernel
theorem d_rm_rv2_93 : decode prog_3_method_2_code 93 = .ok (.if_icmp .le 20, 3) := by decide +kernel
theorem d_rm_rv2_113 : decode prog_3_method_2_code 113 = .ok (.aload_n 0, 1) := by decide +kernel
theorem d_rm_rv2_114 : decode prog_3_method_2_code 114 = .ok (.areturn, 1) := by decide +kernel
set_option maxRecDepth 65536 in
set_option maxHeartbeats 40000000 in
theorem rm_rv2 (l : Launch) (Z : State) (a0 : Array Value) (hw : ∀ d ∈ tables_1, d.before a0 Z = true) (ws : List Jvm.Cond) (x t : Addr) (kb : ClassId) (c0 c1 : Int32) (zc : Int32) (fm : Value) (h0 : Heap) (n0 : Nat) (Z0 : n0 ≤ h0.size) (E0 : Exa Z h0 x "java/lang/String") (V0 : Fld Z h0 x "java/lang/String" "value" "[B" (.ref t)) (C0 : Fld Z h0 x "java/lang/String" "coder" "B" (.int 0)) (K0 : Arv Z h0 t kb .byte (2 : Int32) ((([c0, c1] : List Int32).map (fun c => c.toInt8.toInt32)).map Value.int) (.int 0)) (nn0 : own_nm c0) (nn1 : own_nm c1) (O2 : Sta Z Z.heap "java/lang/String" "COMPACT_STRINGS" "Z" (.int zc)) (O4 : Sta Z Z.heap "jdk/internal/util/Preconditions" "SIOOBE_FORMATTER" "Ljava/util/function/BiFunction;" fm) (P5 : ¬ (zc = (0 : Int32))) (rfm : fm.isRef = true) (X00 : Old Z n0 h0) :
    MetFree l (⟨"com/example/lease_lock/leaselock/LeaseLimits", "requireValidName", "(Ljava/lang/String;)Ljava/lang/String;"⟩ : MethodName) (head1 (Jvm.Cond.code (⟨"com/example/lease_lock/leaselock/LeaseLimits", "requireValidName", "(Ljava/lang/String;)Ljava/lang/String;"⟩ : MethodName) prog_3_method_2_code 2 (some (.object "java/lang/String")) :: ws) ({ frames := 5, cells := 6, slots := 68, locals := 100 } : Room)) (fun a_ U => a_ = #[(.ref x)] ∧ Z.Warmed39 U.vm ∧ U.heap = h0 ∧ CHv Z own_EL U.vm h0) (fun _ _ _ _ _ => True) (fun _ U o U' => ∃ v L, o = .returned v ∧ Qrv x h0 n0 v U'.heap L ∧ CHr Z own_EL U.vm U.heap U'.vm U'.heap ∧ ReturnedEndW U o U' L ({ frames := 5, cells := 6, slots := 68, locals := 100 } : Room).cells ({ frames := 5, cells := 6, slots := 68, locals := 100 } : Room).slots) := by
  refine MetFree.of_bodySF (plainFor_of_name pn_4) hisR ?_
  intro p e s m args below meth c s₁ Bd hml0 hP hK
  obtain ⟨rfl, hZ, hh, hCH⟩ := hP
  have hx := Bd.exec
  have hby := Bd.bytes
  have hrt := Bd.returns
  have hlk : meth.locks = false := Bd.notSynchronized
  have hml : c.maxLocals = 2 := hml0
  have hown : s.vm.findClass "com/example/lease_lock/leaselock/LeaseLimits" = some m.cls := findClass_of_methodNamed Bd.named
  have hnm := (name_of_methodNamed Bd.named Bd.method).1
  have X0 : Stand p l e ({ frames := 5, cells := 6, slots := 68, locals := 100 } : Room) (s.setVm s.vm) m #[(.ref x)] below meth c s₁ [] 0 0 := Stand.of_body Bd
  have e0 : s₁.heap = h0 := by rw [← hh, Bd.state]; rfl
  have N0 := Fr.nil n0
  have hS0 : s.Since s.vm 0 := own_since s 0
  have hstr : ∀ d ∈ Bundle.stringAtoms, d.before a0 Z = true := fun d hd => hw d ((by decide +kernel : ∀ d ∈ Bundle.stringAtoms, d ∈ tables_1) d hd)
  have hEW : EW Z a0 own_EL := own_EW hw
  have CH0 : CHr Z own_EL s.vm h0 s.vm h0 := CHr.refl hCH
  show own_G p.tables e below (fun o t => ∃ v L, o = .returned v ∧ Qrv x h0 n0 v t.heap L ∧ CHr Z own_EL s.vm s.heap t.vm t.heap ∧ ReturnedEndW s o t L ({ frames := 5, cells := 6, slots := 68, locals := 100 } : Room).cells ({ frames := 5, cells := 6, slots := 68, locals := 100 } : Room).slots) (s₁.setTop (entryFrame m #[(.ref x)] 2))
  refine own_G.cast (show entryFrame m #[(.ref x)] 2 = mkF m 0 #[.val (.ref x), .unset] [] from by first | (simp [entryFrame, mkF, argsToLocals, Value.category]; done) | rfl) ?_
  have hLen : ∀ d ∈ StrChars.Road.wordsLen, d.before a0 Z = true := fun d hd => hw d ((by decide +kernel : ∀ d ∈ StrChars.Road.wordsLen, d ∈ tables_1) d hd)
  have hChN : ∀ d ∈ StrChars.Road.wordsChN, d.before a0 Z = true := fun d hd => hw d ((by decide +kernel : ∀ d ∈ StrChars.Road.wordsChN, d ∈ tables_1) d hd)
  have hEmp : ∀ d ∈ StrChars.Road.wordsEmp, d.before a0 Z = true := fun d hd => hw d ((by decide +kernel : ∀ d ∈ StrChars.Road.wordsEmp, d ∈ tables_1) d hd)
  have hp : ∀ c ∈ ([c0, c1] : List Int32), own_b c := by
    intro c hc
    simp only [List.mem_cons, List.not_mem_nil, or_false] at hc
    rcases hc with rfl | rfl
    · exact nn0.1
    · exact nn1.1
  have hcd := StrChars.Road.codOf (cs := ([c0, c1] : List Int32)) (n := 2) rfl (fun c hc => (hp c hc).2)
  have hbd := own_up _ hp
  refine own_G.go (fun t_ k_ => XS.aloadN X0.here hx rfl (hb hby d_rm_rv2_0) rfl rfl k_) ?_
  show own_G _ _ _ _ (s₁.setTop (mkF m 1 #[.val (.ref x), .unset] [(.ref x)]))
  obtain ⟨al_1, T_1, h_1, k_1, X_1, e_1, E_1, hS_1, hk_1, hZ_1, hown_1, Cr_1, -, st_1⟩ := ldcOH X0 hx hZ hown (own_w hw 39 rfl) hstr e0 hS0 (Nat.zero_le _) hEW CH0.1 (g := (mkF m 1 #[.val (.ref x), .unset] [(.ref x)])) rfl (hb hby d_rm_rv2_1) (n := 16) (by decide +kernel) (by decide) (by decide) (by decide)
  refine own_G.go st_1 ?_
  have CH_2 : CHr Z own_EL s.vm h0 T_1.vm h_1 := CH0.trans Cr_1
  show own_G _ _ _ _ (T_1.setTop (mkF m 3 #[.val (.ref x), .unset] [(.ref al_1), (.ref x)]))
  obtain ⟨_, T_3, L_3, Q_3, X_3, st_3⟩ := own_callS X_1 hx hown_1 (mvT hZ_1 (own_w hw 42 rfl)) (mvT hZ_1 (own_w hw 43 rfl)) (mvT hZ_1 (own_w hw 44 rfl)) (mvT hZ_1 (own_w hw 45 rfl)) (by decide) (Q := (Qp (.ref x) h_1)) (backOf (W := 0) (rm_rnn l Z a0 hw [] x al_1 h_1 n0 (Nat.le_trans Z0 E_1.1) ) hZ_1 (own_w hw 45 rfl) (own_w hw 44 rfl) (by decide) (by decide)) (g := (mkF m 3 #[.val (.ref x), .unset] [(.ref al_1), (.ref x)])) rfl (by rw [hml]; rfl) (argsL := [(.ref x), (.ref al_1)]) (rest := []) (lenOf pd_7 rfl) rfl (by show 2 * 0 + _ ≤ _; exact Nat.le_of_eq rfl) (hb hby d_rm_rv2_3) e_1 rfl (by decide) (by decide)
  obtain ⟨rfl, rfl, eh_3⟩ := Q_3
  refine own_G.via st_3 ?_
  have N_3 := Fr.app N0 (Fr.nil n0)
  show own_G _ _ _ _ (T_3.setTop (mkF m 6 #[.val (.ref x), .unset] [(.ref x)]))
  refine own_G.go (fun t_ k_ => XS.pop X_3.here hx rfl (hb hby d_rm_rv2_6) rfl rfl k_) ?_
  show own_G _ _ _ _ (T_3.setTop (mkF m 7 #[.val (.ref x), .unset] []))
  refine own_G.go (fun t_ k_ => XS.aloadN X_3.here hx rfl (hb hby d_rm_rv2_7) rfl rfl k_) ?_
  show own_G _ _ _ _ (T_3.setTop (mkF m 8 #[.val (.ref x), .unset] [(.ref x)]))
  have E0'_4 : Exa Z h_1 x "java/lang/String" := (E0.ext E_1)
  have V0'_5 : Fld Z h_1 x "java/lang/String" "value" "[B" (.ref t) := (V0.ext E_1)
  have C0'_6 : Fld Z h_1 x "java/lang/String" "coder" "B" (.int 0) := (C0.ext E_1)
  have K0'_7 : Arv Z h_1 t kb .byte (2 : Int32) ((([c0, c1] : List Int32).map (fun c => c.toInt8.toInt32)).map Value.int) (.int 0) := (K0.ext E_1)
  obtain ⟨cq_8, kq_8, q_8a, q_8b, q_8c⟩ := isOf hZ_1 eh_3 E0'_4
  obtain ⟨_, T_8, L_8, Q_8, X_8, st_8⟩ := own_callV X_3 hx (z := (⟨"java/lang/String", "isEmpty", "()Z"⟩ : MethodName)) hown_1 (mvT hZ_1 (own_w hw 46 rfl)) (mvT hZ_1 (own_w hw 47 rfl)) (notFace_of_selects (args := #[]) (mvT hZ_1 (own_w hw 49 rfl))) (mvT hZ_1 (own_w hw 49 rfl)) (mvT hZ_1 (own_w hw 48 rfl)) (by decide) (Q := (fun v h' L => v = some (.int (if ([c0, c1] : List Int32).length = 0 then 1 else 0)) ∧ L = [] ∧ h' = h_1)) (StrChars.Road.empW (W := 0) hZ_1 hEmp (kI := 4) (own_w hw 6 rfl) E0'_4 V0'_5 C0'_6 K0'_7 hcd hbd (Nat.le_of_ble_eq_true rfl) (by decide) (by decide)) q_8a q_8c (g := (mkF m 8 #[.val (.ref x), .unset] [(.ref x)])) rfl (by rw [hml]; rfl) (argsL := []) (rest := []) (lenOf pd_4 rfl) rfl (by show 2 * 0 + _ ≤ _; exact Nat.le_of_eq rfl) (hb hby d_rm_rv2_8) eh_3 rfl (by decide) (by decide)
  obtain ⟨rfl, rfl, eh_8⟩ := Q_8
  refine own_G.via st_8 ?_
  have N_8 := Fr.app N_3 (Fr.nil n0)
  show own_G _ _ _ _ (T_8.setTop (mkF m 11 #[.val (.ref x), .unset] [(.int (0 : Int32))]))
  refine own_G.go (fun t_ k_ => XS.ifYes X_8.here hx rfl (pc0 := 11) (pc' := 24) rfl (hb hby d_rm_rv2_11) rfl ((if0 _ _).trans (teq (by decide : (0 : Int32) = (0 : Int32))).1) (by decide) (by decide) k_) ?_
  show own_G _ _ _ _ (T_8.setTop (mkF m 24 #[.val (.ref x), .unset] []))
  refine own_G.go (fun t_ k_ => XS.iconst X_8.here hx rfl (hb hby d_rm_rv2_24) k_) ?_
  show own_G _ _ _ _ (T_8.setTop (mkF m 25 #[.val (.ref x), .unset] [(.int (0 : Int32))]))
  refine own_G.go (fun t_ k_ => XS.istoreN X_8.here hx rfl (hb hby d_rm_rv2_25) rfl (l' := #[.val (.ref x), .val (.int (0 : Int32))]) rfl k_) ?_
  show own_G _ _ _ _ (T_8.setTop (mkF m 26 #[.val (.ref x), .val (.int (0 : Int32))] []))
  refine own_G.go (fun t_ k_ => XS.iloadN X_8.here hx rfl (hb hby d_rm_rv2_26) rfl k_) ?_
  show own_G _ _ _ _ (T_8.setTop (mkF m 27 #[.val (.ref x), .val (.int (0 : Int32))] [(.int (0 : Int32))]))
  refine own_G.go (fun t_ k_ => XS.aloadN X_8.here hx rfl (hb hby d_rm_rv2_27) rfl rfl k_) ?_
  show own_G _ _ _ _ (T_8.setTop (mkF m 28 #[.val (.ref x), .val (.int (0 : Int32))] [(.ref x), (.int (0 : Int32))]))
  have O_9d : Old Z n0 h_1 := (X00.ext E_1)
  obtain ⟨cq_10, kq_10, q_10a, q_10b, q_10c⟩ := isOf hZ_1 eh_8 E0'_4
  obtain ⟨_, T_10, L_10, Q_10, X_10, st_10⟩ := own_callV X_8 hx (z := (⟨"java/lang/String", "length", "()I"⟩ : MethodName)) hown_1 (mvT hZ_1 (own_w hw 51 rfl)) (mvT hZ_1 (own_w hw 52 rfl)) (notFace_of_selects (args := #[]) (mvT hZ_1 (own_w hw 54 rfl))) (mvT hZ_1 (own_w hw 54 rfl)) (mvT hZ_1 (own_w hw 53 rfl)) (by decide) (Q := (fun v h' L => v = some (.int (Int32.ofNat ([c0, c1] : List Int32).length)) ∧ L = [] ∧ h' = h_1)) (StrChars.Road.lenW (W := 1) hZ_1 hLen (kI := 4) (own_w hw 6 rfl) E0'_4 V0'_5 C0'_6 K0'_7 hcd hbd (O2.ext O_9d.2) P5 (Nat.le_of_ble_eq_true rfl) (by decide) (by decide)) q_10a q_10c (g := (mkF m 28 #[.val (.ref x), .val (.int (0 : Int32))] [(.ref x), (.int (0 : Int32))])) rfl (by rw [hml]; rfl) (argsL := []) (rest := [(.int (0 : Int32))]) (lenOf pd_5 rfl) rfl (by show 2 * 0 + _ ≤ _; exact Nat.le_of_eq rfl) (hb hby d_rm_rv2_28) eh_8 rfl (by decide) (by decide)
  obtain ⟨rfl, rfl, eh_10⟩ := Q_10
  refine own_G.via st_10 ?_
  have N_10 := Fr.app N_8 (Fr.nil n0)
  show own_G _ _ _ _ (T_10.setTop (mkF m 31 #[.val (.ref x), .val (.int (0 : Int32))] [(.int (2 : Int32)), (.int (0 : Int32))]))
  refine own_G.go (fun t_ k_ => XS.icmpNo X_10.here hx rfl (hb hby d_rm_rv2_31) rfl (tlt (by decide : (0 : Int32) < (2 : Int32))).2.1 k_) ?_
  show own_G _ _ _ _ (T_10.setTop (mkF m 34 #[.val (.ref x), .val (.int (0 : Int32))] []))
  refine own_G.go (fun t_ k_ => XS.aloadN X_10.here hx rfl (hb hby d_rm_rv2_34) rfl rfl k_) ?_
  show own_G _ _ _ _ (T_10.setTop (mkF m 35 #[.val (.ref x), .val (.int (0 : Int32))] [(.ref x)]))
  refine own_G.go (fun t_ k_ => XS.iloadN X_10.here hx rfl (hb hby d_rm_rv2_35) rfl k_) ?_
  show own_G _ _ _ _ (T_10.setTop (mkF m 36 #[.val (.ref x), .val (.int (0 : Int32))] [(.int (0 : Int32)), (.ref x)]))
  obtain ⟨cq_11, kq_11, q_11a, q_11b, q_11c⟩ := isOf hZ_1 eh_10 E0'_4
  obtain ⟨_, T_11, L_11, Q_11, X_11, st_11⟩ := own_callV X_10 hx (z := (⟨"java/lang/String", "charAt", "(I)C"⟩ : MethodName)) hown_1 (mvT hZ_1 (own_w hw 61 rfl)) (mvT hZ_1 (own_w hw 62 rfl)) (notFace_of_selects (args := #[]) (mvT hZ_1 (own_w hw 64 rfl))) (mvT hZ_1 (own_w hw 64 rfl)) (mvT hZ_1 (own_w hw 63 rfl)) (by decide) (Q := (fun v h' L => v = some (.int (([c0, c1] : List Int32).getD 0 0)) ∧ L = [] ∧ h' = h_1)) (StrChars.Road.chN (W := 0) hZ_1 hChN (kI := 4) (own_w hw 6 rfl) E0'_4 V0'_5 C0'_6 K0'_7 hcd hbd (O2.ext O_9d.2) P5 (O4.ext O_9d.2) rfm (Nat.le_of_ble_eq_true rfl) (i := 0) (Nat.le_of_ble_eq_true rfl) (j := (0 : Int32)) rfl (by decide) (by decide)) q_11a q_11c (g := (mkF m 36 #[.val (.ref x), .val (.int (0 : Int32))] [(.int (0 : Int32)), (.ref x)])) rfl (by rw [hml]; rfl) (argsL := [(.int (0 : Int32))]) (rest := []) (lenOf pd_8 rfl) rfl (by show 2 * 0 + _ ≤ _; exact Nat.le_of_eq rfl) (hb hby d_rm_rv2_36) eh_10 rfl (by decide) (by decide)
  obtain ⟨rfl, rfl, eh_11⟩ := Q_11
  refine own_G.via st_11 ?_
  have N_11 := Fr.app N_10 (Fr.nil n0)
  show own_G _ _ _ _ (T_11.setTop (mkF m 39 #[.val (.ref x), .val (.int (0 : Int32))] [(.int c0)]))
  obtain ⟨_, T_12, L_12, Q_12, X_12, hS_12, hZ_12, hown_12, st_12⟩ := own_callSW X_11 hx hS_1 hk_1 hZ_1 hown_1 (mvT hZ_1 (own_w hw 83 rfl)) (mvT hZ_1 (own_w hw 84 rfl)) (mvT hZ_1 (own_w hw 37 rfl)) (mvT hZ_1 (own_w hw 85 rfl)) (by decide) (Q := (fun v (U : State) L => Qnch h_1 n0 v U.heap L ∧ CHr Z own_EL T_1.vm h_1 U.vm U.heap)) (own_backSH (backOfSH (W := 0) (rm_inc l Z a0 hw [] c0 zc h_1 n0 (Nat.le_trans Z0 E_1.1) nn0 O2 P5 O_9d) hZ_1 (own_w hw 85 rfl) (own_w hw 37 rfl) (by decide) (by decide) hEW CH_2.1)) (g := (mkF m 39 #[.val (.ref x), .val (.int (0 : Int32))] [(.int c0)])) rfl (by rw [hml]; rfl) (argsL := [(.int c0)]) (rest := []) (lenOf pd_9 rfl) rfl (by show 2 * 0 + _ ≤ _; exact Nat.le_of_eq rfl) (hb hby d_rm_rv2_39) eh_11 rfl (by decide) (by decide)
  obtain ⟨⟨rfl, Nq_12, K_12⟩, Ch_12⟩ := Q_12
  refine own_G.via st_12 ?_
  have CH_13 : CHr Z own_EL s.vm h0 T_12.vm T_12.heap := CH_2.trans Ch_12
  have N_12 := Fr.app N_11 Nq_12
  show own_G _ _ _ _ (T_12.setTop (mkF m 42 #[.val (.ref x), .val (.int (0 : Int32))] [(.int (1 : Int32))]))
  refine own_G.go (fun t_ k_ => XS.ifYes X_12.here hx rfl (pc0 := 42) (pc' := 80) rfl (hb hby d_rm_rv2_42) rfl ((if0 _ _).trans (feq (by decide : ¬ ((1 : Int32) = (0 : Int32)))).2) (by decide) (by decide) k_) ?_
  show own_G _ _ _ _ (T_12.setTop (mkF m 80 #[.val (.ref x), .val (.int (0 : Int32))] []))
  refine own_G.go (fun t_ k_ => XS.iinc X_12.here hx rfl (hb hby d_rm_rv2_80) rfl (l' := #[.val (.ref x), .val (.int (1 : Int32))]) rfl k_) ?_
  show own_G _ _ _ _ (T_12.setTop (mkF m 83 #[.val (.ref x), .val (.int (1 : Int32))] []))
  refine own_G.go (fun t_ k_ => XS.goto X_12.here hx rfl (pc0 := 83) (pc' := 26) rfl (hb hby d_rm_rv2_83) (by decide) (by decide) k_) ?_
  show own_G _ _ _ _ (T_12.setTop (mkF m 26 #[.val (.ref x), .val (.int (1 : Int32))] []))
  refine own_G.go (fun t_ k_ => XS.iloadN X_12.here hx rfl (hb hby d_rm_rv2_26) rfl k_) ?_
  show own_G _ _ _ _ (T_12.setTop (mkF m 27 #[.val (.ref x), .val (.int (1 : Int32))] [(.int (1 : Int32))]))
  refine own_G.go (fun t_ k_ => XS.aloadN X_12.here hx rfl (hb hby d_rm_rv2_27) rfl rfl k_) ?_
  show own_G _ _ _ _ (T_12.setTop (mkF m 28 #[.val (.ref x), .val (.int (1 : Int32))] [(.ref x), (.int (1 : Int32))]))
  have E0'_14 : Exa Z T_12.heap x "java/lang/String" := (E0'_4.keep K_12)
  have V0'_15 : Fld Z T_12.heap x "java/lang/String" "value" "[B" (.ref t) := (V0'_5.keep K_12 nin0)
  have C0'_16 : Fld Z T_12.heap x "java/lang/String" "coder" "B" (.int 0) := (C0'_6.keep K_12 nin0)
  have K0'_17 : Arv Z T_12.heap t kb .byte (2 : Int32) ((([c0, c1] : List Int32).map (fun c => c.toInt8.toInt32)).map Value.int) (.int 0) := (K0'_7.keep K_12 nin0)
  have O_18d : Old Z n0 T_12.heap := (O_9d.keep K_12 all0)
  obtain ⟨cq_19, kq_19, q_19a, q_19b, q_19c⟩ := isOf hZ_12 rfl E0'_14
  obtain ⟨_, T_19, L_19, Q_19, X_19, st_19⟩ := own_callV X_12 hx (z := (⟨"java/lang/String", "length", "()I"⟩ : MethodName)) hown_12 (mvT hZ_12 (own_w hw 51 rfl)) (mvT hZ_12 (own_w hw 52 rfl)) (notFace_of_selects (args := #[]) (mvT hZ_12 (own_w hw 54 rfl))) (mvT hZ_12 (own_w hw 54 rfl)) (mvT hZ_12 (own_w hw 53 rfl)) (by decide) (Q := (fun v h' L => v = some (.int (Int32.ofNat ([c0, c1] : List Int32).length)) ∧ L = [] ∧ h' = T_12.heap)) (StrChars.Road.lenW (W := 1) hZ_12 hLen (kI := 4) (own_w hw 6 rfl) E0'_14 V0'_15 C0'_16 K0'_17 hcd hbd (O2.ext O_18d.2) P5 (Nat.le_of_ble_eq_true rfl) (by decide) (by decide)) q_19a q_19c (g := (mkF m 28 #[.val (.ref x), .val (.int (1 : Int32))] [(.ref x), (.int (1 : Int32))])) rfl (by rw [hml]; rfl) (argsL := []) (rest := [(.int (1 : Int32))]) (lenOf pd_5 rfl) rfl (by show 2 * 0 + _ ≤ _; exact Nat.le_of_eq rfl) (hb hby d_rm_rv2_28) rfl rfl (by decide) (by decide)
  obtain ⟨rfl, rfl, eh_19⟩ := Q_19
  refine own_G.via st_19 ?_
  have N_19 := Fr.app N_12 (Fr.nil n0)
  show own_G _ _ _ _ (T_19.setTop (mkF m 31 #[.val (.ref x), .val (.int (1 : Int32))] [(.int (2 : Int32)), (.int (1 : Int32))]))
  refine own_G.go (fun t_ k_ => XS.icmpNo X_19.here hx rfl (hb hby d_rm_rv2_31) rfl (tlt (by decide : (1 : Int32) < (2 : Int32))).2.1 k_) ?_
  show own_G _ _ _ _ (T_19.setTop (mkF m 34 #[.val (.ref x), .val (.int (1 : Int32))] []))
  refine own_G.go (fun t_ k_ => XS.aloadN X_19.here hx rfl (hb hby d_rm_rv2_34) rfl rfl k_) ?_
  show own_G _ _ _ _ (T_19.setTop (mkF m 35 #[.val (.ref x), .val (.int (1 : Int32))] [(.ref x)]))
  refine own_G.go (fun t_ k_ => XS.iloadN X_19.here hx rfl (hb hby d_rm_rv2_35) rfl k_) ?_
  show own_G _ _ _ _ (T_19.setTop (mkF m 36 #[.val (.ref x), .val (.int (1 : Int32))] [(.int (1 : Int32)), (.ref x)]))
  obtain ⟨cq_20, kq_20, q_20a, q_20b, q_20c⟩ := isOf hZ_12 eh_19 E0'_14
  obtain ⟨_, T_20, L_20, Q_20, X_20, st_20⟩ := own_callV X_19 hx (z := (⟨"java/lang/String", "charAt", "(I)C"⟩ : MethodName)) hown_12 (mvT hZ_12 (own_w hw 61 rfl)) (mvT hZ_12 (own_w hw 62 rfl)) (notFace_of_selects (args := #[]) (mvT hZ_12 (own_w hw 64 rfl))) (mvT hZ_12 (own_w hw 64 rfl)) (mvT hZ_12 (own_w hw 63 rfl)) (by decide) (Q := (fun v h' L => v = some (.int (([c0, c1] : List Int32).getD 1 0)) ∧ L = [] ∧ h' = T_12.heap)) (StrChars.Road.chN (W := 0) hZ_12 hChN (kI := 4) (own_w hw 6 rfl) E0'_14 V0'_15 C0'_16 K0'_17 hcd hbd (O2.ext O_18d.2) P5 (O4.ext O_18d.2) rfm (Nat.le_of_ble_eq_true rfl) (i := 1) (Nat.le_of_ble_eq_true rfl) (j := (1 : Int32)) rfl (by decide) (by decide)) q_20a q_20c (g := (mkF m 36 #[.val (.ref x), .val (.int (1 : Int32))] [(.int (1 : Int32)), (.ref x)])) rfl (by rw [hml]; rfl) (argsL := [(.int (1 : Int32))]) (rest := []) (lenOf pd_8 rfl) rfl (by show 2 * 0 + _ ≤ _; exact Nat.le_of_eq rfl) (hb hby d_rm_rv2_36) eh_19 rfl (by decide) (by decide)
  obtain ⟨rfl, rfl, eh_20⟩ := Q_20
  refine own_G.via st_20 ?_
  have N_20 := Fr.app N_19 (Fr.nil n0)
  show own_G _ _ _ _ (T_20.setTop (mkF m 39 #[.val (.ref x), .val (.int (1 : Int32))] [(.int c1)]))
  obtain ⟨_, T_21, L_21, Q_21, X_21, hS_21, hZ_21, hown_21, st_21⟩ := own_callSW X_20 hx hS_12 (Nat.le_refl _) hZ_12 hown_12 (mvT hZ_12 (own_w hw 83 rfl)) (mvT hZ_12 (own_w hw 84 rfl)) (mvT hZ_12 (own_w hw 37 rfl)) (mvT hZ_12 (own_w hw 85 rfl)) (by decide) (Q := (fun v (U : State) L => Qnch T_12.heap n0 v U.heap L ∧ CHr Z own_EL T_12.vm T_12.heap U.vm U.heap)) (own_backSH (backOfSH (W := 0) (rm_inc l Z a0 hw [] c1 zc T_12.heap n0 (Nat.le_trans Z0 (Nat.le_trans E_1.1 K_12.1)) nn1 O2 P5 O_18d) hZ_12 (own_w hw 85 rfl) (own_w hw 37 rfl) (by decide) (by decide) hEW CH_13.1)) (g := (mkF m 39 #[.val (.ref x), .val (.int (1 : Int32))] [(.int c1)])) rfl (by rw [hml]; rfl) (argsL := [(.int c1)]) (rest := []) (lenOf pd_9 rfl) rfl (by show 2 * 0 + _ ≤ _; exact Nat.le_of_eq rfl) (hb hby d_rm_rv2_39) eh_20 rfl (by decide) (by decide)
  obtain ⟨⟨rfl, Nq_21, K_21⟩, Ch_21⟩ := Q_21
  refine own_G.via st_21 ?_
  have CH_22 : CHr Z own_EL s.vm h0 T_21.vm T_21.heap := CH_13.trans Ch_21
  have N_21 := Fr.app N_20 Nq_21
  show own_G _ _ _ _ (T_21.setTop (mkF m 42 #[.val (.ref x), .val (.int (1 : Int32))] [(.int (1 : Int32))]))
  refine own_G.go (fun t_ k_ => XS.ifYes X_21.here hx rfl (pc0 := 42) (pc' := 80) rfl (hb hby d_rm_rv2_42) rfl ((if0 _ _).trans (feq (by decide : ¬ ((1 : Int32) = (0 : Int32)))).2) (by decide) (by decide) k_) ?_
  show own_G _ _ _ _ (T_21.setTop (mkF m 80 #[.val (.ref x), .val (.int (1 : Int32))] []))
  refine own_G.go (fun t_ k_ => XS.iinc X_21.here hx rfl (hb hby d_rm_rv2_80) rfl (l' := #[.val (.ref x), .val (.int (2 : Int32))]) rfl k_) ?_
  show own_G _ _ _ _ (T_21.setTop (mkF m 83 #[.val (.ref x), .val (.int (2 : Int32))] []))
  refine own_G.go (fun t_ k_ => XS.goto X_21.here hx rfl (pc0 := 83) (pc' := 26) rfl (hb hby d_rm_rv2_83) (by decide) (by decide) k_) ?_
  show own_G _ _ _ _ (T_21.setTop (mkF m 26 #[.val (.ref x), .val (.int (2 : Int32))] []))
  refine own_G.go (fun t_ k_ => XS.iloadN X_21.here hx rfl (hb hby d_rm_rv2_26) rfl k_) ?_
  show own_G _ _ _ _ (T_21.setTop (mkF m 27 #[.val (.ref x), .val (.int (2 : Int32))] [(.int (2 : Int32))]))
  refine own_G.go (fun t_ k_ => XS.aloadN X_21.here hx rfl (hb hby d_rm_rv2_27) rfl rfl k_) ?_
  show own_G _ _ _ _ (T_21.setTop (mkF m 28 #[.val (.ref x), .val (.int (2 : Int32))] [(.ref x), (.int (2 : Int32))]))
  have E0'_23 : Exa Z T_21.heap x "java/lang/String" := (E0'_14.keep K_21)
  have V0'_24 : Fld Z T_21.heap x "java/lang/String" "value" "[B" (.ref t) := (V0'_15.keep K_21 nin0)
  have C0'_25 : Fld Z T_21.heap x "java/lang/String" "coder" "B" (.int 0) := (C0'_16.keep K_21 nin0)
  have K0'_26 : Arv Z T_21.heap t kb .byte (2 : Int32) ((([c0, c1] : List Int32).map (fun c => c.toInt8.toInt32)).map Value.int) (.int 0) := (K0'_17.keep K_21 nin0)
  have O_27d : Old Z n0 T_21.heap := (O_18d.keep K_21 all0)
  obtain ⟨cq_28, kq_28, q_28a, q_28b, q_28c⟩ := isOf hZ_21 rfl E0'_23
  obtain ⟨_, T_28, L_28, Q_28, X_28, st_28⟩ := own_callV X_21 hx (z := (⟨"java/lang/String", "length", "()I"⟩ : MethodName)) hown_21 (mvT hZ_21 (own_w hw 51 rfl)) (mvT hZ_21 (own_w hw 52 rfl)) (notFace_of_selects (args := #[]) (mvT hZ_21 (own_w hw 54 rfl))) (mvT hZ_21 (own_w hw 54 rfl)) (mvT hZ_21 (own_w hw 53 rfl)) (by decide) (Q := (fun v h' L => v = some (.int (Int32.ofNat ([c0, c1] : List Int32).length)) ∧ L = [] ∧ h' = T_21.heap)) (StrChars.Road.lenW (W := 1) hZ_21 hLen (kI := 4) (own_w hw 6 rfl) E0'_23 V0'_24 C0'_25 K0'_26 hcd hbd (O2.ext O_27d.2) P5 (Nat.le_of_ble_eq_true rfl) (by decide) (by decide)) q_28a q_28c (g := (mkF m 28 #[.val (.ref x), .val (.int (2 : Int32))] [(.ref x), (.int (2 : Int32))])) rfl (by rw [hml]; rfl) (argsL := []) (rest := [(.int (2 : Int32))]) (lenOf pd_5 rfl) rfl (by show 2 * 0 + _ ≤ _; exact Nat.le_of_eq rfl) (hb hby d_rm_rv2_28) rfl rfl (by decide) (by decide)
  obtain ⟨rfl, rfl, eh_28⟩ := Q_28
  refine own_G.via st_28 ?_
  have N_28 := Fr.app N_21 (Fr.nil n0)
  show own_G _ _ _ _ (T_28.setTop (mkF m 31 #[.val (.ref x), .val (.int (2 : Int32))] [(.int (2 : Int32)), (.int (2 : Int32))]))
  refine own_G.go (fun t_ k_ => XS.icmpYes X_28.here hx rfl (pc0 := 31) (pc' := 86) rfl (hb hby d_rm_rv2_31) rfl (flt (by decide : ¬ ((2 : Int32) < (2 : Int32)))).2.1 (by decide) (by decide) k_) ?_
  show own_G _ _ _ _ (T_28.setTop (mkF m 86 #[.val (.ref x), .val (.int (2 : Int32))] []))
  refine own_G.go (fun t_ k_ => XS.aloadN X_28.here hx rfl (hb hby d_rm_rv2_86) rfl rfl k_) ?_
  show own_G _ _ _ _ (T_28.setTop (mkF m 87 #[.val (.ref x), .val (.int (2 : Int32))] [(.ref x)]))
  obtain ⟨cq_29, kq_29, q_29a, q_29b, q_29c⟩ := isOf hZ_21 eh_28 E0'_23
  obtain ⟨_, T_29, L_29, Q_29, X_29, st_29⟩ := own_callV X_28 hx (z := (⟨"java/lang/String", "length", "()I"⟩ : MethodName)) hown_21 (mvT hZ_21 (own_w hw 51 rfl)) (mvT hZ_21 (own_w hw 52 rfl)) (notFace_of_selects (args := #[]) (mvT hZ_21 (own_w hw 54 rfl))) (mvT hZ_21 (own_w hw 54 rfl)) (mvT hZ_21 (own_w hw 53 rfl)) (by decide) (Q := (fun v h' L => v = some (.int (Int32.ofNat ([c0, c1] : List Int32).length)) ∧ L = [] ∧ h' = T_21.heap)) (StrChars.Road.lenW (W := 0) hZ_21 hLen (kI := 4) (own_w hw 6 rfl) E0'_23 V0'_24 C0'_25 K0'_26 hcd hbd (O2.ext O_27d.2) P5 (Nat.le_of_ble_eq_true rfl) (by decide) (by decide)) q_29a q_29c (g := (mkF m 87 #[.val (.ref x), .val (.int (2 : Int32))] [(.ref x)])) rfl (by rw [hml]; rfl) (argsL := []) (rest := []) (lenOf pd_5 rfl) rfl (by show 2 * 0 + _ ≤ _; exact Nat.le_of_eq rfl) (hb hby d_rm_rv2_87) eh_28 rfl (by decide) (by decide)
  obtain ⟨rfl, rfl, eh_29⟩ := Q_29
  refine own_G.via st_29 ?_
  have N_29 := Fr.app N_28 (Fr.nil n0)
  show own_G _ _ _ _ (T_29.setTop (mkF m 90 #[.val (.ref x), .val (.int (2 : Int32))] [(.int (2 : Int32))]))
  refine own_G.go (fun t_ k_ => XS.sipush X_29.here hx rfl (hb hby d_rm_rv2_90) k_) ?_
  show own_G _ _ _ _ (T_29.setTop (mkF m 93 #[.val (.ref x), .val (.int (2 : Int32))] [(.int (191 : Int32)), (.int (2 : Int32))]))
  refine own_G.go (fun t_ k_ => XS.icmpYes X_29.here hx rfl (pc0 := 93) (pc' := 113) rfl (hb hby d_rm_rv2_93) rfl (flt (by decide : ¬ ((191 : Int32) < (2 : Int32)))).2.2.2 (by decide) (by decide) k_) ?_
  show own_G _ _ _ _ (T_29.setTop (mkF m 113 #[.val (.ref x), .val (.int (2 : Int32))] []))
  refine own_G.go (fun t_ k_ => XS.aloadN X_29.here hx rfl (hb hby d_rm_rv2_113) rfl rfl k_) ?_
  show own_G _ _ _ _ (T_29.setTop (mkF m 114 #[.val (.ref x), .val (.int (2 : Int32))] [(.ref x)]))
  exact own_G.endH X_29 hS_21 (Nat.le_refl _) hZ_21 hEW (hh ▸ CH_22) hlk (v := (some (.ref x))) (fun h => by rw [hrt] at h; cases h) (fun fs hr => retOut X_29 hx hrt rfl (Or.inr (Or.inr (Or.inr (Or.inr ⟨rfl, rfl, rfl⟩)))) (hb hby d_rm_rv2_114) hr) eh_29 ⟨rfl, N_29, ((((Keep.refl h0 []).ext E_1).trans K_12 all0).trans K_21 all0)⟩ (by decide) (by decide)
theorem d_rm_rv3_0 : decode prog_3_method_2_code 0 = .ok (.aload_n 0, 1) := by decide +kernel
theorem d_rm_rv3_1 : decode prog_3_method_2_code 1 = .ok (.ldc 7, 2) := by decide +kernel
theorem d_rm_rv3_3 : decode prog_3_method_2_code 3 = .ok (.invokestatic 9, 3) := by decide +kernel
theorem d_rm_rv3_6 : decode prog_3_method_2_code 6 = .ok (.pop, 1) := by decide +kernel
theorem d_rm_rv3_7 : decode prog_3_method_2_code 7 = .ok (.aload_n 0, 1) := by decide +kernel
theorem d_rm_rv3_8 : decode prog_3_method_2_code 8 = .ok (.invokevirtual 15, 3) := by decide +kernel
theorem d_rm_rv3_11 : decode prog_3_method_2_code 11 = .ok (.ifCond .eq 13, 3) := by decide +kernel
theorem d_rm_rv3_24 : decode prog_3_method_2_code 24 = .ok (.iconst 0, 1) := by decide +kernel
theorem d_rm_rv3_25 : decode prog_3_method_2_code 25 = .ok (.istore_n 1, 1) := by decide +kernel
theorem d_rm_rv3_26 : decode prog_3_method_2_code 26 = .ok (.iload_n 1, 1) := by decide +kernel
theorem d_rm_rv3_27 : decode prog_3_method_2_code 27 = .ok (.aload_n 0, 1) := by decide +kernel
theorem d_rm_rv3_28 : decode prog_3_method_2_code 28 = .ok (.invokevirtual 28, 3) := by decide +kernel
theorem d_rm_rv3_31 : decode prog_3_method_2_code 31 = .ok (.if_icmp .ge 55, 3) := by decide +kernel
theorem d_rm_rv3_34 : decode prog_3_method_2_code 34 = .ok (.aload_n 0, 1) := by decide +kernel
theorem d_rm_rv3_35 : decode prog_3_method_2_code 35 = .ok (.iload_n 1, 1) := by decide +kernel
theorem d_rm_rv3_36 : decode prog_3_method_2_code 36 = .ok (.invokevirtual 32, 3) := by decide +kernel
theorem d_rm_rv3_39 : decode prog_3_method_2_code 39 = .ok (.invokestatic 36, 3) := by decide +kernel
theorem d_rm_rv3_42 : decode prog_3_method_2_code 42 = .ok (.ifCond .ne 38, 3) := by decide +kernel
theorem d_rm_rv3_80 : decode prog_3_method_2_code 80 = .ok (.iinc 1 1, 3) := by decide +kernel
theorem d_rm_rv3_83 : decode prog_3_method_2_code 83 = .ok (.goto (-57), 3) := by decide +kernel
theorem d_rm_rv3_86 : decode prog_3_method_2_code 86 = .ok (.aload_n 0, 1) := by decide +kernel
theorem d_rm_rv3_87 : decode prog_3_method_2_code 87 = .ok (.invokevirtual 28, 3) := by decide +kernel
theorem d_rm_rv3_90 : decode prog_3_method_2_code 90 = .ok (.sipush 191, 3) := by decide +kernel
theorem d_rm_rv3_93 : decode prog_3_method_2_code 93 = .ok (.if_icmp .le 20, 3) := by decide +kernel
theorem d_rm_rv3_113 : decode prog_3_method_2_code 113 = .ok (.aload_n 0, 1) := by decide +kernel
theorem d_rm_rv3_114 : decode prog_3_method_2_code 114 = .ok (.areturn, 1) := by decide +kernel
set_option maxRecDepth 65536 in
set_option maxHeartbeats 40000000 in
theorem rm_rv3 (l : Launch) (Z : State) (a0 : Array Value) (hw : ∀ d ∈ tables_1, d.before a0 Z = true) (ws : List Jvm.Cond) (x t : Addr) (kb : ClassId) (c0 c1 c2 : Int32) (zc : Int32) (fm : Value) (h0 : Heap) (n0 : Nat) (Z0 : n0 ≤ h0.size) (E0 : Exa Z h0 x "java/lang/String") (V0 : Fld Z h0 x "java/lang/String" "value" "[B" (.ref t)) (C0 : Fld Z h0 x "java/lang/String" "coder" "B" (.int 0)) (K0 : Arv Z h0 t kb .byte (3 : Int32) ((([c0, c1, c2] : List Int32).map (fun c => c.toInt8.toInt32)).map Value.int) (.int 0)) (nn0 : own_nm c0) (nn1 : own_nm c1) (nn2 : own_nm c2) (O2 : Sta Z Z.heap "java/lang/String" "COMPACT_STRINGS" "Z" (.int zc)) (O4 : Sta Z Z.heap "jdk/internal/util/Preconditions" "SIOOBE_FORMATTER" "Ljava/util/function/BiFunction;" fm) (P5 : ¬ (zc = (0 : Int32))) (rfm : fm.isRef = true) (X00 : Old Z n0 h0) :
    MetFree l (⟨"com/example/lease_lock/leaselock/LeaseLimits", "requireValidName", "(Ljava/lang/String;)Ljava/lang/String;"⟩ : MethodName) (head1 (Jvm.Cond.code (⟨"com/example/lease_lock/leaselock/LeaseLimits", "requireValidName", "(Ljava/lang/String;)Ljava/lang/String;"⟩ : MethodName) prog_3_method_2_code 2 (some (.object "java/lang/String")) :: ws) ({ frames := 5, cells := 8, slots := 92, locals := 100 } : Room)) (fun a_ U => a_ = #[(.ref x)] ∧ Z.Warmed39 U.vm ∧ U.heap = h0 ∧ CHv Z own_EL U.vm h0) (fun _ _ _ _ _ => True) (fun _ U o U' => ∃ v L, o = .returned v ∧ Qrv x h0 n0 v U'.heap L ∧ CHr Z own_EL U.vm U.heap U'.vm U'.heap ∧ ReturnedEndW U o U' L ({ frames := 5, cells := 8, slots := 92, locals := 100 } : Room).cells ({ frames := 5, cells := 8, slots := 92, locals := 100 } : Room).slots) := by
  refine MetFree.of_bodySF (plainFor_of_name pn_4) hisR ?_
  intro p e s m args below meth c s₁ Bd hml0 hP hK
  obtain ⟨rfl, hZ, hh, hCH⟩ := hP
  have hx := Bd.exec
  have hby := Bd.bytes
  have hrt := Bd.returns
  have hlk : meth.locks = false := Bd.notSynchronized
  have hml : c.maxLocals = 2 := hml0
  have hown : s.vm.findClass "com/example/lease_lock/leaselock/LeaseLimits" = some m.cls := findClass_of_methodNamed Bd.named
  have hnm := (name_of_methodNamed Bd.named Bd.method).1
  have X0 : Stand p l e ({ frames := 5, cells := 8, slots := 92, locals := 100 } : Room) (s.setVm s.vm) m #[(.ref x)] below meth c s₁ [] 0 0 := Stand.of_body Bd
  have e0 : s₁.heap = h0 := by rw [← hh, Bd.state]; rfl
  have N0 := Fr.nil n0
  have hS0 : s.Since s.vm 0 := own_since s 0
  have hstr : ∀ d ∈ Bundle.stringAtoms, d.before a0 Z = true := fun d hd => hw d ((by decide +kernel : ∀ d ∈ Bundle.stringAtoms, d ∈ tables_1) d hd)
  have hEW : EW Z a0 own_EL := own_EW hw
  have CH0 : CHr Z own_EL s.vm h0 s.vm h0 := CHr.refl hCH
  show own_G p.tables e below (fun o t => ∃ v L, o = .returned v ∧ Qrv x h0 n0 v t.heap L ∧ CHr Z own_EL s.vm s.heap t.vm t.heap ∧ ReturnedEndW s o t L ({ frames := 5, cells := 8, slots := 92, locals := 100 } : Room).cells ({ frames := 5, cells := 8, slots := 92, locals := 100 } : Room).slots) (s₁.setTop (entryFrame m #[(.ref x)] 2))
  refine own_G.cast (show entryFrame m #[(.ref x)] 2 = mkF m 0 #[.val (.ref x), .unset] [] from by first | (simp [entryFrame, mkF, argsToLocals, Value.category]; done) | rfl) ?_
  have hLen : ∀ d ∈ StrChars.Road.wordsLen, d.before a0 Z = true := fun d hd => hw d ((by decide +kernel : ∀ d ∈ StrChars.Road.wordsLen, d ∈ tables_1) d hd)
  have hChN : ∀ d ∈ StrChars.Road.wordsChN, d.before a0 Z = true := fun d hd => hw d ((by decide +kernel : ∀ d ∈ StrChars.Road.wordsChN, d ∈ tables_1) d hd)
  have hEmp : ∀ d ∈ StrChars.Road.wordsEmp, d.before a0 Z = true := fun d hd => hw d ((by decide +kernel : ∀ d ∈ StrChars.Road.wordsEmp, d ∈ tables_1) d hd)
  have hp : ∀ c ∈ ([c0, c1, c2] : List Int32), own_b c := by
    intro c hc
    simp only [List.mem_cons, List.not_mem_nil, or_false] at hc
    rcases hc with rfl | rfl | rfl
    · exact nn0.1
    · exact nn1.1
    · exact nn2.1
  have hcd := StrChars.Road.codOf (cs := ([c0, c1, c2] : List Int32)) (n := 3) rfl (fun c hc => (hp c hc).2)
  have hbd := own_up _ hp
  refine own_G.go (fun t_ k_ => XS.aloadN X0.here hx rfl (hb hby d_rm_rv3_0) rfl rfl k_) ?_
  show own_G _ _ _ _ (s₁.setTop (mkF m 1 #[.val (.ref x), .unset] [(.ref x)]))
  obtain ⟨al_1, T_1, h_1, k_1, X_1, e_1, E_1, hS_1, hk_1, hZ_1, hown_1, Cr_1, -, st_1⟩ := ldcOH X0 hx hZ hown (own_w hw 39 rfl) hstr e0 hS0 (Nat.zero_le _) hEW CH0.1 (g := (mkF m 1 #[.val (.ref x), .unset] [(.ref x)])) rfl (hb hby d_rm_rv3_1) (n := 16) (by decide +kernel) (by decide) (by decide) (by decide)
  refine own_G.go st_1 ?_
  have CH_2 : CHr Z own_EL s.vm h0 T_1.vm h_1 := CH0.trans Cr_1
  show own_G _ _ _ _ (T_1.setTop (mkF m 3 #[.val (.ref x), .unset] [(.ref al_1), (.ref x)]))
  obtain ⟨_, T_3, L_3, Q_3, X_3, st_3⟩ := own_callS X_1 hx hown_1 (mvT hZ_1 (own_w hw 42 rfl)) (mvT hZ_1 (own_w hw 43 rfl)) (mvT hZ_1 (own_w hw 44 rfl)) (mvT hZ_1 (own_w hw 45 rfl)) (by decide) (Q := (Qp (.ref x) h_1)) (backOf (W := 0) (rm_rnn l Z a0 hw [] x al_1 h_1 n0 (Nat.le_trans Z0 E_1.1) ) hZ_1 (own_w hw 45 rfl) (own_w hw 44 rfl) (by decide) (by decide)) (g := (mkF m 3 #[.val (.ref x), .unset] [(.ref al_1), (.ref x)])) rfl (by rw [hml]; rfl) (argsL := [(.ref x), (.ref al_1)]) (rest := []) (lenOf pd_7 rfl) rfl (by show 2 * 0 + _ ≤ _; exact Nat.le_of_eq rfl) (hb hby d_rm_rv3_3) e_1 rfl (by decide) (by decide)
  obtain ⟨rfl, rfl, eh_3⟩ := Q_3
  refine own_G.via st_3 ?_
  have N_3 := Fr.app N0 (Fr.nil n0)
  show own_G _ _ _ _ (T_3.setTop (mkF m 6 #[.val (.ref x), .unset] [(.ref x)]))
  refine own_G.go (fun t_ k_ => XS.pop X_3.here hx rfl (hb hby d_rm_rv3_6) rfl rfl k_) ?_
  show own_G _ _ _ _ (T_3.setTop (mkF m 7 #[.val (.ref x), .unset] []))
  refine own_G.go (fun t_ k_ => XS.aloadN X_3.here hx rfl (hb hby d_rm_rv3_7) rfl rfl k_) ?_
  show own_G _ _ _ _ (T_3.setTop (mkF m 8 #[.val (.ref x), .unset] [(.ref x)]))
  have E0'_4 : Exa Z h_1 x "java/lang/String" := (E0.ext E_1)
  have V0'_5 : Fld Z h_1 x "java/lang/String" "value" "[B" (.ref t) := (V0.ext E_1)
  have C0'_6 : Fld Z h_1 x "java/lang/String" "coder" "B" (.int 0) := (C0.ext E_1)
  have K0'_7 : Arv Z h_1 t kb .byte (3 : Int32) ((([c0, c1, c2] : List Int32).map (fun c => c.toInt8.toInt32)).map Value.int) (.int 0) := (K0.ext E_1)
  obtain ⟨cq_8, kq_8, q_8a, q_8b, q_8c⟩ := isOf hZ_1 eh_3 E0'_4
  obtain ⟨_, T_8, L_8, Q_8, X_8, st_8⟩ := own_callV X_3 hx (z := (⟨"java/lang/String", "isEmpty", "()Z"⟩ : MethodName)) hown_1 (mvT hZ_1 (own_w hw 46 rfl)) (mvT hZ_1 (own_w hw 47 rfl)) (notFace_of_selects (args := #[]) (mvT hZ_1 (own_w hw 49 rfl))) (mvT hZ_1 (own_w hw 49 rfl)) (mvT hZ_1 (own_w hw 48 rfl)) (by decide) (Q := (fun v h' L => v = some (.int (if ([c0, c1, c2] : List Int32).length = 0 then 1 else 0)) ∧ L = [] ∧ h' = h_1)) (StrChars.Road.empW (W := 0) hZ_1 hEmp (kI := 4) (own_w hw 6 rfl) E0'_4 V0'_5 C0'_6 K0'_7 hcd hbd (Nat.le_of_ble_eq_true rfl) (by decide) (by decide)) q_8a q_8c (g := (mkF m 8 #[.val (.ref x), .unset] [(.ref x)])) rfl (by rw [hml]; rfl) (argsL := []) (rest := []) (lenOf pd_4 rfl) rfl (by show 2 * 0 + _ ≤ _; exact Nat.le_of_eq rfl) (hb hby d_rm_rv3_8) eh_3 rfl (by decide) (by decide)
  obtain ⟨rfl, rfl, eh_8⟩ := Q_8
  refine own_G.via st_8 ?_
  have N_8 := Fr.app N_3 (Fr.nil n0)
  show own_G _ _ _ _ (T_8.setTop (mkF m 11 #[.val (.ref x), .unset] [(.int (0 : Int32))]))
  refine own_G.go (fun t_ k_ => XS.ifYes X_8.here hx rfl (pc0 := 11) (pc' := 24) rfl (hb hby d_rm_rv3_11) rfl ((if0 _ _).trans (teq (by decide : (0 : Int32) = (0 : Int32))).1) (by decide) (by decide) k_) ?_
  show own_G _ _ _ _ (T_8.setTop (mkF m 24 #[.val (.ref x), .unset] []))
  refine own_G.go (fun t_ k_ => XS.iconst X_8.here hx rfl (hb hby d_rm_rv3_24) k_) ?_
  show own_G _ _ _ _ (T_8.setTop (mkF m 25 #[.val (.ref x), .unset] [(.int (0 : Int32))]))
  refine own_G.go (fun t_ k_ => XS.istoreN X_8.here hx rfl (hb hby d_rm_rv3_25) rfl (l' := #[.val (.ref x), .val (.int (0 : Int32))]) rfl k_) ?_
  show own_G _ _ _ _ (T_8.setTop (mkF m 26 #[.val (.ref x), .val (.int (0 : Int32))] []))
  refine own_G.go (fun t_ k_ => XS.iloadN X_8.here hx rfl (hb hby d_rm_rv3_26) rfl k_) ?_
  show own_G _ _ _ _ (T_8.setTop (mkF m 27 #[.val (.ref x), .val (.int (0 : Int32))] [(.int (0 : Int32))]))
  refine own_G.go (fun t_ k_ => XS.aloadN X_8.here hx rfl (hb hby d_rm_rv3_27) rfl rfl k_) ?_
  show own_G _ _ _ _ (T_8.setTop (mkF m 28 #[.val (.ref x), .val (.int (0 : Int32))] [(.ref x), (.int (0 : Int32))]))
  have O_9d : Old Z n0 h_1 := (X00.ext E_1)
  obtain ⟨cq_10, kq_10, q_10a, q_10b, q_10c⟩ := isOf hZ_1 eh_8 E0'_4
  obtain ⟨_, T_10, L_10, Q_10, X_10, st_10⟩ := own_callV X_8 hx (z := (⟨"java/lang/String", "length", "()I"⟩ : MethodName)) hown_1 (mvT hZ_1 (own_w hw 51 rfl)) (mvT hZ_1 (own_w hw 52 rfl)) (notFace_of_selects (args := #[]) (mvT hZ_1 (own_w hw 54 rfl))) (mvT hZ_1 (own_w hw 54 rfl)) (mvT hZ_1 (own_w hw 53 rfl)) (by decide) (Q := (fun v h' L => v = some (.int (Int32.ofNat ([c0, c1, c2] : List Int32).length)) ∧ L = [] ∧ h' = h_1)) (StrChars.Road.lenW (W := 1) hZ_1 hLen (kI := 4) (own_w hw 6 rfl) E0'_4 V0'_5 C0'_6 K0'_7 hcd hbd (O2.ext O_9d.2) P5 (Nat.le_of_ble_eq_true rfl) (by decide) (by decide)) q_10a q_10c (g := (mkF m 28 #[.val (.ref x), .val (.int (0 : Int32))] [(.ref x), (.int (0 : Int32))])) rfl (by rw [hml]; rfl) (argsL := []) (rest := [(.int (0 : Int32))]) (lenOf pd_5 rfl) rfl (by show 2 * 0 + _ ≤ _; exact Nat.le_of_eq rfl) (hb hby d_rm_rv3_28) eh_8 rfl (by decide) (by decide)
  obtain ⟨rfl, rfl, eh_10⟩ := Q_10
  refine own_G.via st_10 ?_
  have N_10 := Fr.app N_8 (Fr.nil n0)
  show own_G _ _ _ _ (T_10.setTop (mkF m 31 #[.val (.ref x), .val (.int (0 : Int32))] [(.int (3 : Int32)), (.int (0 : Int32))]))
  refine own_G.go (fun t_ k_ => XS.icmpNo X_10.here hx rfl (hb hby d_rm_rv3_31) rfl (tlt (by decide : (0 : Int32) < (3 : Int32))).2.1 k_) ?_
  show own_G _ _ _ _ (T_10.setTop (mkF m 34 #[.val (.ref x), .val (.int (0 : Int32))] []))
  refine own_G.go (fun t_ k_ => XS.aloadN X_10.here hx rfl (hb hby d_rm_rv3_34) rfl rfl k_) ?_
  show own_G _ _ _ _ (T_10.setTop (mkF m 35 #[.val (.ref x), .val (.int (0 : Int32))] [(.ref x)]))
  refine own_G.go (fun t_ k_ => XS.iloadN X_10.here hx rfl (hb hby d_rm_rv3_35) rfl k_) ?_
  show own_G _ _ _ _ (T_10.setTop (mkF m 36 #[.val (.ref x), .val (.int (0 : Int32))] [(.int (0 : Int32)), (.ref x)]))
  obtain ⟨cq_11, kq_11, q_11a, q_11b, q_11c⟩ := isOf hZ_1 eh_10 E0'_4
  obtain ⟨_, T_11, L_11, Q_11, X_11, st_11⟩ := own_callV X_10 hx (z := (⟨"java/lang/String", "charAt", "(I)C"⟩ : MethodName)) hown_1 (mvT hZ_1 (own_w hw 61 rfl)) (mvT hZ_1 (own_w hw 62 rfl)) (notFace_of_selects (args := #[]) (mvT hZ_1 (own_w hw 64 rfl))) (mvT hZ_1 (own_w hw 64 rfl)) (mvT hZ_1 (own_w hw 63 rfl)) (by decide) (Q := (fun v h' L => v = some (.int (([c0, c1, c2] : List Int32).getD 0 0)) ∧ L = [] ∧ h' = h_1)) (StrChars.Road.chN (W := 0) hZ_1 hChN (kI := 4) (own_w hw 6 rfl) E0'_4 V0'_5 C0'_6 K0'_7 hcd hbd (O2.ext O_9d.2) P5 (O4.ext O_9d.2) rfm (Nat.le_of_ble_eq_true rfl) (i := 0) (Nat.le_of_ble_eq_true rfl) (j := (0 : Int32)) rfl (by decide) (by decide)) q_11a q_11c (g := (mkF m 36 #[.val (.ref x), .val (.int (0 : Int32))] [(.int (0 : Int32)), (.ref x)])) rfl (by rw [hml]; rfl) (argsL := [(.int (0 : Int32))]) (rest := []) (lenOf pd_8 rfl) rfl (by show 2 * 0 + _ ≤ _; exact Nat.le_of_eq rfl) (hb hby d_rm_rv3_36) eh_10 rfl (by decide) (by decide)
  obtain ⟨rfl, rfl, eh_11⟩ := Q_11
  refine own_G.via st_11 ?_
  have N_11 := Fr.app N_10 (Fr.nil n0)
  show own_G _ _ _ _ (T_11.setTop (mkF m 39 #[.val (.ref x), .val (.int (0 : Int32))] [(.int c0)]))
  obtain ⟨_, T_12, L_12, Q_12, X_12, hS_12, hZ_12, hown_12, st_12⟩ := own_callSW X_11 hx hS_1 hk_1 hZ_1 hown_1 (mvT hZ_1 (own_w hw 83 rfl)) (mvT hZ_1 (own_w hw 84 rfl)) (mvT hZ_1 (own_w hw 37 rfl)) (mvT hZ_1 (own_w hw 85 rfl)) (by decide) (Q := (fun v (U : State) L => Qnch h_1 n0 v U.heap L ∧ CHr Z own_EL T_1.vm h_1 U.vm U.heap)) (own_backSH (backOfSH (W := 0) (rm_inc l Z a0 hw [] c0 zc h_1 n0 (Nat.le_trans Z0 E_1.1) nn0 O2 P5 O_9d) hZ_1 (own_w hw 85 rfl) (own_w hw 37 rfl) (by decide) (by decide) hEW CH_2.1)) (g := (mkF m 39 #[.val (.ref x), .val (.int (0 : Int32))] [(.int c0)])) rfl (by rw [hml]; rfl) (argsL := [(.int c0)]) (rest := []) (lenOf pd_9 rfl) rfl (by show 2 * 0 + _ ≤ _; exact Nat.le_of_eq rfl) (hb hby d_rm_rv3_39) eh_11 rfl (by decide) (by decide)
  obtain ⟨⟨rfl, Nq_12, K_12⟩, Ch_12⟩ := Q_12
  refine own_G.via st_12 ?_
  have CH_13 : CHr Z own_EL s.vm h0 T_12.vm T_12.heap := CH_2.trans Ch_12
  have N_12 := Fr.app N_11 Nq_12
  show own_G _ _ _ _ (T_12.setTop (mkF m 42 #[.val (.ref x), .val (.int (0 : Int32))] [(.int (1 : Int32))]))
  refine own_G.go (fun t_ k_ => XS.ifYes X_12.here hx rfl (pc0 := 42) (pc' := 80) rfl (hb hby d_rm_rv3_42) rfl ((if0 _ _).trans (feq (by decide : ¬ ((1 : Int32) = (0 : Int32)))).2) (by decide) (by decide) k_) ?_
  show own_G _ _ _ _ (T_12.setTop (mkF m 80 #[.val (.ref x), .val (.int (0 : Int32))] []))
  refine own_G.go (fun t_ k_ => XS.iinc X_12.here hx rfl (hb hby d_rm_rv3_80) rfl (l' := #[.val (.ref x), .val (.int (1 : Int32))]) rfl k_) ?_
  show own_G _ _ _ _ (T_12.setTop (mkF m 83 #[.val (.ref x), .val (.int (1 : Int32))] []))
  refine own_G.go (fun t_ k_ => XS.goto X_12.here hx rfl (pc0 := 83) (pc' := 26) rfl (hb hby d_rm_rv3_83) (by decide) (by decide) k_) ?_
  show own_G _ _ _ _ (T_12.setTop (mkF m 26 #[.val (.ref x), .val (.int (1 : Int32))] []))
  refine own_G.go (fun t_ k_ => XS.iloadN X_12.here hx rfl (hb hby d_rm_rv3_26) rfl k_) ?_
  show own_G _ _ _ _ (T_12.setTop (mkF m 27 #[.val (.ref x), .val (.int (1 : Int32))] [(.int (1 : Int32))]))
  refine own_G.go (fun t_ k_ => XS.aloadN X_12.here hx rfl (hb hby d_rm_rv3_27) rfl rfl k_) ?_
  show own_G _ _ _ _ (T_12.setTop (mkF m 28 #[.val (.ref x), .val (.int (1 : Int32))] [(.ref x), (.int (1 : Int32))]))
  have E0'_14 : Exa Z T_12.heap x "java/lang/String" := (E0'_4.keep K_12)
  have V0'_15 : Fld Z T_12.heap x "java/lang/String" "value" "[B" (.ref t) := (V0'_5.keep K_12 nin0)
  have C0'_16 : Fld Z T_12.heap x "java/lang/String" "coder" "B" (.int 0) := (C0'_6.keep K_12 nin0)
  have K0'_17 : Arv Z T_12.heap t kb .byte (3 : Int32) ((([c0, c1, c2] : List Int32).map (fun c => c.toInt8.toInt32)).map Value.int) (.int 0) := (K0'_7.keep K_12 nin0)
  have O_18d : Old Z n0 T_12.heap := (O_9d.keep K_12 all0)
  obtain ⟨cq_19, kq_19, q_19a, q_19b, q_19c⟩ := isOf hZ_12 rfl E0'_14
  obtain ⟨_, T_19, L_19, Q_19, X_19, st_19⟩ := own_callV X_12 hx (z := (⟨"java/lang/String", "length", "()I"⟩ : MethodName)) hown_12 (mvT hZ_12 (own_w hw 51 rfl)) (mvT hZ_12 (own_w hw 52 rfl)) (notFace_of_selects (args := #[]) (mvT hZ_12 (own_w hw 54 rfl))) (mvT hZ_12 (own_w hw 54 rfl)) (mvT hZ_12 (own_w hw 53 rfl)) (by decide) (Q := (fun v h' L => v = some (.int (Int32.ofNat ([c0, c1, c2] : List Int32).length)) ∧ L = [] ∧ h' = T_12.heap)) (StrChars.Road.lenW (W := 1) hZ_12 hLen (kI := 4) (own_w hw 6 rfl) E0'_14 V0'_15 C0'_16 K0'_17 hcd hbd (O2.ext O_18d.2) P5 (Nat.le_of_ble_eq_true rfl) (by decide) (by decide)) q_19a q_19c (g := (mkF m 28 #[.val (.ref x), .val (.int (1 : Int32))] [(.ref x), (.int (1 : Int32))])) rfl (by rw [hml]; rfl) (argsL := []) (rest := [(.int (1 : Int32))]) (lenOf pd_5 rfl) rfl (by show 2 * 0 + _ ≤ _; exact Nat.le_of_eq rfl) (hb hby d_rm_rv3_28) rfl rfl (by decide) (by decide)
  obtain ⟨rfl, rfl, eh_19⟩ := Q_19
  refine own_G.via st_19 ?_
  have N_19 := Fr.app N_12 (Fr.nil n0)
  show own_G _ _ _ _ (T_19.setTop (mkF m 31 #[.val (.ref x), .val (.int (1 : Int32))] [(.int (3 : Int32)), (.int (1 : Int32))]))
  refine own_G.go (fun t_ k_ => XS.icmpNo X_19.here hx rfl (hb hby d_rm_rv3_31) rfl (tlt (by decide : (1 : Int32) < (3 : Int32))).2.1 k_) ?_
  show own_G _ _ _ _ (T_19.setTop (mkF m 34 #[.val (.ref x), .val (.int (1 : Int32))] []))
  refine own_G.go (fun t_ k_ => XS.aloadN X_19.here hx rfl (hb hby d_rm_rv3_34) rfl rfl k_) ?_
  show own_G _ _ _ _ (T_19.setTop (mkF m 35 #[.val (.ref x), .val (.int (1 : Int32))] [(.ref x)]))
  refine own_G.go (fun t_ k_ => XS.iloadN X_19.here hx rfl (hb hby d_rm_rv3_35) rfl k_) ?_
  show own_G _ _ _ _ (T_19.setTop (mkF m 36 #[.val (.ref x), .val (.int (1 : Int32))] [(.int (1 : Int32)), (.ref x)]))
  obtain ⟨cq_20, kq_20, q_20a, q_20b, q_20c⟩ := isOf hZ_12 eh_19 E0'_14
  obtain ⟨_, T_20, L_20, Q_20, X_20, st_20⟩ := own_callV X_19 hx (z := (⟨"java/lang/String", "charAt", "(I)C"⟩ : MethodName)) hown_12 (mvT hZ_12 (own_w hw 61 rfl)) (mvT hZ_12 (own_w hw 62 rfl)) (notFace_of_selects (args := #[]) (mvT hZ_12 (own_w hw 64 rfl))) (mvT hZ_12 (own_w hw 64 rfl)) (mvT hZ_12 (own_w hw 63 rfl)) (by decide) (Q := (fun v h' L => v = some (.int (([c0, c1, c2] : List Int32).getD 1 0)) ∧ L = [] ∧ h' = T_12.heap)) (StrChars.Road.chN (W := 0) hZ_12 hChN (kI := 4) (own_w hw 6 rfl) E0'_14 V0'_15 C0'_16 K0'_17 hcd hbd (O2.ext O_18d.2) P5 (O4.ext O_18d.2) rfm (Nat.le_of_ble_eq_true rfl) (i := 1) (Nat.le_of_ble_eq_true rfl) (j := (1 : Int32)) rfl (by decide) (by decide)) q_20a q_20c (g := (mkF m 36 #[.val (.ref x), .val (.int (1 : Int32))] [(.int (1 : Int32)), (.ref x)])) rfl (by rw [hml]; rfl) (argsL := [(.int (1 : Int32))]) (rest := []) (lenOf pd_8 rfl) rfl (by show 2 * 0 + _ ≤ _; exact Nat.le_of_eq rfl) (hb hby d_rm_rv3_36) eh_19 rfl (by decide) (by decide)
  obtain ⟨rfl, rfl, eh_20⟩ := Q_20
  refine own_G.via st_20 ?_
  have N_20 := Fr.app N_19 (Fr.nil n0)
  show own_G _ _ _ _ (T_20.setTop (mkF m 39 #[.val (.ref x), .val (.int (1 : Int32))] [(.int c1)]))
  obtain ⟨_, T_21, L_21, Q_21, X_21, hS_21, hZ_21, hown_21, st_21⟩ := own_callSW X_20 hx hS_12 (Nat.le_refl _) hZ_12 hown_12 (mvT hZ_12 (own_w hw 83 rfl)) (mvT hZ_12 (own_w hw 84 rfl)) (mvT hZ_12 (own_w hw 37 rfl)) (mvT hZ_12 (own_w hw 85 rfl)) (by decide) (Q := (fun v (U : State) L => Qnch T_12.heap n0 v U.heap L ∧ CHr Z own_EL T_12.vm T_12.heap U.vm U.heap)) (own_backSH (backOfSH (W := 0) (rm_inc l Z a0 hw [] c1 zc T_12.heap n0 (Nat.le_trans Z0 (Nat.le_trans E_1.1 K_12.1)) nn1 O2 P5 O_18d) hZ_12 (own_w hw 85 rfl) (own_w hw 37 rfl) (by decide) (by decide) hEW CH_13.1)) (g := (mkF m 39 #[.val (.ref x), .val (.int (1 : Int32))] [(.int c1)])) rfl (by rw [hml]; rfl) (argsL := [(.int c1)]) (rest := []) (lenOf pd_9 rfl) rfl (by show 2 * 0 + _ ≤ _; exact Nat.le_of_eq rfl) (hb hby d_rm_rv3_39) eh_20 rfl (by decide) (by decide)
  obtain ⟨⟨rfl, Nq_21, K_21⟩, Ch_21⟩ := Q_21
  refine own_G.via st_21 ?_
  have CH_22 : CHr Z own_EL s.vm h0 T_21.vm T_21.heap := CH_13.trans Ch_21
  have N_21 := Fr.app N_20 Nq_21
  show own_G _ _ _ _ (T_21.setTop (mkF m 42 #[.val (.ref x), .val (.int (1 : Int32))] [(.int (1 : Int32))]))
  refine own_G.go (fun t_ k_ => XS.ifYes X_21.here hx rfl (pc0 := 42) (pc' := 80) rfl (hb hby d_rm_rv3_42) rfl ((if0 _ _).trans (feq (by decide : ¬ ((1 : Int32) = (0 : Int32)))).2) (by decide) (by decide) k_) ?_
  show own_G _ _ _ _ (T_21.setTop (mkF m 80 #[.val (.ref x), .val (.int (1 : Int32))] []))
  refine own_G.go (fun t_ k_ => XS.iinc X_21.here hx rfl (hb hby d_rm_rv3_80) rfl (l' := #[.val (.ref x), .val (.int (2 : Int32))]) rfl k_) ?_
  show own_G _ _ _ _ (T_21.setTop (mkF m 83 #[.val (.ref x), .val (.int (2 : Int32))] []))
  refine own_G.go (fun t_ k_ => XS.goto X_21.here hx rfl (pc0 := 83) (pc' := 26) rfl (hb hby d_rm_rv3_83) (by decide) (by decide) k_) ?_
  show own_G _ _ _ _ (T_21.setTop (mkF m 26 #[.val (.ref x), .val (.int (2 : Int32))] []))
  refine own_G.go (fun t_ k_ => XS.iloadN X_21.here hx rfl (hb hby d_rm_rv3_26) rfl k_) ?_
  show own_G _ _ _ _ (T_21.setTop (mkF m 27 #[.val (.ref x), .val (.int (2 : Int32))] [(.int (2 : Int32))]))
  refine own_G.go (fun t_ k_ => XS.aloadN X_21.here hx rfl (hb hby d_rm_rv3_27) rfl rfl k_) ?_
  show own_G _ _ _ _ (T_21.setTop (mkF m 28 #[.val (.ref x), .val (.int (2 : Int32))] [(.ref x), (.int (2 : Int32))]))
  have E0'_23 : Exa Z T_21.heap x "java/lang/String" := (E0'_14.keep K_21)
  have V0'_24 : Fld Z T_21.heap x "java/lang/String" "value" "[B" (.ref t) := (V0'_15.keep K_21 nin0)
  have C0'_25 : Fld Z T_21.heap x "java/lang/String" "coder" "B" (.int 0) := (C0'_16.keep K_21 nin0)
  have K0'_26 : Arv Z T_21.heap t kb .byte (3 : Int32) ((([c0, c1, c2] : List Int32).map (fun c => c.toInt8.toInt32)).map Value.int) (.int 0) := (K0'_17.keep K_21 nin0)
  have O_27d : Old Z n0 T_21.heap := (O_18d.keep K_21 all0)
  obtain ⟨cq_28, kq_28, q_28a, q_28b, q_28c⟩ := isOf hZ_21 rfl E0'_23
  obtain ⟨_, T_28, L_28, Q_28, X_28, st_28⟩ := own_callV X_21 hx (z := (⟨"java/lang/String", "length", "()I"⟩ : MethodName)) hown_21 (mvT hZ_21 (own_w hw 51 rfl)) (mvT hZ_21 (own_w hw 52 rfl)) (notFace_of_selects (args := #[]) (mvT hZ_21 (own_w hw 54 rfl))) (mvT hZ_21 (own_w hw 54 rfl)) (mvT hZ_21 (own_w hw 53 rfl)) (by decide) (Q := (fun v h' L => v = some (.int (Int32.ofNat ([c0, c1, c2] : List Int32).length)) ∧ L = [] ∧ h' = T_21.heap)) (StrChars.Road.lenW (W := 1) hZ_21 hLen (kI := 4) (own_w hw 6 rfl) E0'_23 V0'_24 C0'_25 K0'_26 hcd hbd (O2.ext O_27d.2) P5 (Nat.le_of_ble_eq_true rfl) (by decide) (by decide)) q_28a q_28c (g := (mkF m 28 #[.val (.ref x), .val (.int (2 : Int32))] [(.ref x), (.int (2 : Int32))])) rfl (by rw [hml]; rfl) (argsL := []) (rest := [(.int (2 : Int32))]) (lenOf pd_5 rfl) rfl (by show 2 * 0 + _ ≤ _; exact Nat.le_of_eq rfl) (hb hby d_rm_rv3_28) rfl rfl (by decide) (by decide)
  obtain ⟨rfl, rfl, eh_28⟩ := Q_28
  refine own_G.via st_28 ?_
  have N_28 := Fr.app N_21 (Fr.nil n0)
  show own_G _ _ _ _ (T_28.setTop (mkF m 31 #[.val (.ref x), .val (.int (2 : Int32))] [(.int (3 : Int32)), (.int (2 : Int32))]))
  refine own_G.go (fun t_ k_ => XS.icmpNo X_28.here hx rfl (hb hby d_rm_rv3_31) rfl (tlt (by decide : (2 : Int32) < (3 : Int32))).2.1 k_) ?_
  show own_G _ _ _ _ (T_28.setTop (mkF m 34 #[.val (.ref x), .val (.int (2 : Int32))] []))
  refine own_G.go (fun t_ k_ => XS.aloadN X_28.here hx rfl (hb hby d_rm_rv3_34) rfl rfl k_) ?_
  show own_G _ _ _ _ (T_28.setTop (mkF m 35 #[.val (.ref x), .val (.int (2 : Int32))] [(.ref x)]))
  refine own_G.go (fun t_ k_ => XS.iloadN X_28.here hx rfl (hb hby d_rm_rv3_35) rfl k_) ?_
  show own_G _ _ _ _ (T_28.setTop (mkF m 36 #[.val (.ref x), .val (.int (2 : Int32))] [(.int (2 : Int32)), (.ref x)]))
  obtain ⟨cq_29, kq_29, q_29a, q_29b, q_29c⟩ := isOf hZ_21 eh_28 E0'_23
  obtain ⟨_, T_29, L_29, Q_29, X_29, st_29⟩ := own_callV X_28 hx (z := (⟨"java/lang/String", "charAt", "(I)C"⟩ : MethodName)) hown_21 (mvT hZ_21 (own_w hw 61 rfl)) (mvT hZ_21 (own_w hw 62 rfl)) (notFace_of_selects (args := #[]) (mvT hZ_21 (own_w hw 64 rfl))) (mvT hZ_21 (own_w hw 64 rfl)) (mvT hZ_21 (own_w hw 63 rfl)) (by decide) (Q := (fun v h' L => v = some (.int (([c0, c1, c2] : List Int32).getD 2 0)) ∧ L = [] ∧ h' = T_21.heap)) (StrChars.Road.chN (W := 0) hZ_21 hChN (kI := 4) (own_w hw 6 rfl) E0'_23 V0'_24 C0'_25 K0'_26 hcd hbd (O2.ext O_27d.2) P5 (O4.ext O_27d.2) rfm (Nat.le_of_ble_eq_true rfl) (i := 2) (Nat.le_of_ble_eq_true rfl) (j := (2 : Int32)) rfl (by decide) (by decide)) q_29a q_29c (g := (mkF m 36 #[.val (.ref x), .val (.int (2 : Int32))] [(.int (2 : Int32)), (.ref x)])) rfl (by rw [hml]; rfl) (argsL := [(.int (2 : Int32))]) (rest := []) (lenOf pd_8 rfl) rfl (by show 2 * 0 + _ ≤ _; exact Nat.le_of_eq rfl) (hb hby d_rm_rv3_36) eh_28 rfl (by decide) (by decide)
  obtain ⟨rfl, rfl, eh_29⟩ := Q_29
  refine own_G.via st_29 ?_
  have N_29 := Fr.app N_28 (Fr.nil n0)
  show own_G _ _ _ _ (T_29.setTop (mkF m 39 #[.val (.ref x), .val (.int (2 : Int32))] [(.int c2)]))
  obtain ⟨_, T_30, L_30, Q_30, X_30, hS_30, hZ_30, hown_30, st_30⟩ := own_callSW X_29 hx hS_21 (Nat.le_refl _) hZ_21 hown_21 (mvT hZ_21 (own_w hw 83 rfl)) (mvT hZ_21 (own_w hw 84 rfl)) (mvT hZ_21 (own_w hw 37 rfl)) (mvT hZ_21 (own_w hw 85 rfl)) (by decide) (Q := (fun v (U : State) L => Qnch T_21.heap n0 v U.heap L ∧ CHr Z own_EL T_21.vm T_21.heap U.vm U.heap)) (own_backSH (backOfSH (W := 0) (rm_inc l Z a0 hw [] c2 zc T_21.heap n0 (Nat.le_trans Z0 (Nat.le_trans (Nat.le_trans E_1.1 K_12.1) K_21.1)) nn2 O2 P5 O_27d) hZ_21 (own_w hw 85 rfl) (own_w hw 37 rfl) (by decide) (by decide) hEW CH_22.1)) (g := (mkF m 39 #[.val (.ref x), .val (.int (2 : Int32))] [(.int c2)])) rfl (by rw [hml]; rfl) (argsL := [(.int c2)]) (rest := []) (lenOf pd_9 rfl) rfl (by show 2 * 0 + _ ≤ _; exact Nat.le_of_eq rfl) (hb hby d_rm_rv3_39) eh_29 rfl (by decide) (by decide)
  obtain ⟨⟨rfl, Nq_30, K_30⟩, Ch_30⟩ := Q_30
  refine own_G.via st_30 ?_
  have CH_31 : CHr Z own_EL s.vm h0 T_30.vm T_30.heap := CH_22.trans Ch_30
  have N_30 := Fr.app N_29 Nq_30
  show own_G _ _ _ _ (T_30.setTop (mkF m 42 #[.val (.ref x), .val (.int (2 : Int32))] [(.int (1 : Int32))]))
  refine own_G.go (fun t_ k_ => XS.ifYes X_30.here hx rfl (pc0 := 42) (pc' := 80) rfl (hb hby d_rm_rv3_42) rfl ((if0 _ _).trans (feq (by decide : ¬ ((1 : Int32) = (0 : Int32)))).2) (by decide) (by decide) k_) ?_
  show own_G _ _ _ _ (T_30.setTop (mkF m 80 #[.val (.ref x), .val (.int (2 : Int32))] []))
  refine own_G.go (fun t_ k_ => XS.iinc X_30.here hx rfl (hb hby d_rm_rv3_80) rfl (l' := #[.val (.ref x), .val (.int (3 : Int32))]) rfl k_) ?_
  show own_G _ _ _ _ (T_30.setTop (mkF m 83 #[.val (.ref x), .val (.int (3 : Int32))] []))
  refine own_G.go (fun t_ k_ => XS.goto X_30.here hx rfl (pc0 := 83) (pc' := 26) rfl (hb hby d_rm_rv3_83) (by decide) (by decide) k_) ?_
  show own_G _ _ _ _ (T_30.setTop (mkF m 26 #[.val (.ref x), .val (.int (3 : Int32))] []))
  refine own_G.go (fun t_ k_ => XS.iloadN X_30.here hx rfl (hb hby d_rm_rv3_26) rfl k_) ?_
  show own_G _ _ _ _ (T_30.setTop (mkF m 27 #[.val (.ref x), .val (.int (3 : Int32))] [(.int (3 : Int32))]))
  refine own_G.go (fun t_ k_ => XS.aloadN X_30.here hx rfl (hb hby d_rm_rv3_27) rfl rfl k_) ?_
  show own_G _ _ _ _ (T_30.setTop (mkF m 28 #[.val (.ref x), .val (.int (3 : Int32))] [(.ref x), (.int (3 : Int32))]))
  have E0'_32 : Exa Z T_30.heap x "java/lang/String" := (E0'_23.keep K_30)
  have V0'_33 : Fld Z T_30.heap x "java/lang/String" "value" "[B" (.ref t) := (V0'_24.keep K_30 nin0)
  have C0'_34 : Fld Z T_30.heap x "java/lang/String" "coder" "B" (.int 0) := (C0'_25.keep K_30 nin0)
  have K0'_35 : Arv Z T_30.heap t kb .byte (3 : Int32) ((([c0, c1, c2] : List Int32).map (fun c => c.toInt8.toInt32)).map Value.int) (.int 0) := (K0'_26.keep K_30 nin0)
  have O_36d : Old Z n0 T_30.heap := (O_27d.keep K_30 all0)
  obtain ⟨cq_37, kq_37, q_37a, q_37b, q_37c⟩ := isOf hZ_30 rfl E0'_32
  obtain ⟨_, T_37, L_37, Q_37, X_37, st_37⟩ := own_callV X_30 hx (z := (⟨"java/lang/String", "length", "()I"⟩ : MethodName)) hown_30 (mvT hZ_30 (own_w hw 51 rfl)) (mvT hZ_30 (own_w hw 52 rfl)) (notFace_of_selects (args := #[]) (mvT hZ_30 (own_w hw 54 rfl))) (mvT hZ_30 (own_w hw 54 rfl)) (mvT hZ_30 (own_w hw 53 rfl)) (by decide) (Q := (fun v h' L => v = some (.int (Int32.ofNat ([c0, c1, c2] : List Int32).length)) ∧ L = [] ∧ h' = T_30.heap)) (StrChars.Road.lenW (W := 1) hZ_30 hLen (kI := 4) (own_w hw 6 rfl) E0'_32 V0'_33 C0'_34 K0'_35 hcd hbd (O2.ext O_36d.2) P5 (Nat.le_of_ble_eq_true rfl) (by decide) (by decide)) q_37a q_37c (g := (mkF m 28 #[.val (.ref x), .val (.int (3 : Int32))] [(.ref x), (.int (3 : Int32))])) rfl (by rw [hml]; rfl) (argsL := []) (rest := [(.int (3 : Int32))]) (lenOf pd_5 rfl) rfl (by show 2 * 0 + _ ≤ _; exact Nat.le_of_eq rfl) (hb hby d_rm_rv3_28) rfl rfl (by decide) (by decide)
  obtain ⟨rfl, rfl, eh_37⟩ := Q_37
  refine own_G.via st_37 ?_
  have N_37 := Fr.app N_30 (Fr.nil n0)
  show own_G _ _ _ _ (T_37.setTop (mkF m 31 #[.val (.ref x), .val (.int (3 : Int32))] [(.int (3 : Int32)), (.int (3 : Int32))]))
  refine own_G.go (fun t_ k_ => XS.icmpYes X_37.here hx rfl (pc0 := 31) (pc' := 86) rfl (hb hby d_rm_rv3_31) rfl (flt (by decide : ¬ ((3 : Int32) < (3 : Int32)))).2.1 (by decide) (by decide) k_) ?_
  show own_G _ _ _ _ (T_37.setTop (mkF m 86 #[.val (.ref x), .val (.int (3 : Int32))] []))
  refine own_G.go (fun t_ k_ => XS.aloadN X_37.here hx rfl (hb hby d_rm_rv3_86) rfl rfl k_) ?_
  show own_G _ _ _ _ (T_37.setTop (mkF m 87 #[.val (.ref x), .val (.int (3 : Int32))] [(.ref x)]))
  obtain ⟨cq_38, kq_38, q_38a, q_38b, q_38c⟩ := isOf hZ_30 eh_37 E0'_32
  obtain ⟨_, T_38, L_38, Q_38, X_38, st_38⟩ := own_callV X_37 hx (z := (⟨"java/lang/String", "length", "()I"⟩ : MethodName)) hown_30 (mvT hZ_30 (own_w hw 51 rfl)) (mvT hZ_30 (own_w hw 52 rfl)) (notFace_of_selects (args := #[]) (mvT hZ_30 (own_w hw 54 rfl))) (mvT hZ_30 (own_w hw 54 rfl)) (mvT hZ_30 (own_w hw 53 rfl)) (by decide) (Q := (fun v h' L => v = some (.int (Int32.ofNat ([c0, c1, c2] : List Int32).length)) ∧ L = [] ∧ h' = T_30.heap)) (StrChars.Road.lenW (W := 0) hZ_30 hLen (kI := 4) (own_w hw 6 rfl) E0'_32 V0'_33 C0'_34 K0'_35 hcd hbd (O2.ext O_36d.2) P5 (Nat.le_of_ble_eq_true rfl) (by decide) (by decide)) q_38a q_38c (g := (mkF m 87 #[.val (.ref x), .val (.int (3 : Int32))] [(.ref x)])) rfl (by rw [hml]; rfl) (argsL := []) (rest := []) (lenOf pd_5 rfl) rfl (by show 2 * 0 + _ ≤ _; exact Nat.le_of_eq rfl) (hb hby d_rm_rv3_87) eh_37 rfl (by decide) (by decide)
  obtain ⟨rfl, rfl, eh_38⟩ := Q_38
  refine own_G.via st_38 ?_
  have N_38 := Fr.app N_37 (Fr.nil n0)
  show own_G _ _ _ _ (T_38.setTop (mkF m 90 #[.val (.ref x), .val (.int (3 : Int32))] [(.int (3 : Int32))]))
  refine own_G.go (fun t_ k_ => XS.sipush X_38.here hx rfl (hb hby d_rm_rv3_90) k_) ?_
  show own_G _ _ _ _ (T_38.setTop (mkF m 93 #[.val (.ref x), .val (.int (3 : Int32))] [(.int (191 : Int32)), (.int (3 : Int32))]))
  refine own_G.go (fun t_ k_ => XS.icmpYes X_38.here hx rfl (pc0 := 93) (pc' := 113) rfl (hb hby d_rm_rv3_93) rfl (flt (by decide : ¬ ((191 : Int32) < (3 : Int32)))).2.2.2 (by decide) (by decide) k_) ?_
  show own_G _ _ _ _ (T_38.setTop (mkF m 113 #[.val (.ref x), .val (.int (3 : Int32))] []))
  refine own_G.go (fun t_ k_ => XS.aloadN X_38.here hx rfl (hb hby d_rm_rv3_113) rfl rfl k_) ?_
  show own_G _ _ _ _ (T_38.setTop (mkF m 114 #[.val (.ref x), .val (.int (3 : Int32))] [(.ref x)]))
  exact own_G.endH X_38 hS_30 (Nat.le_refl _) hZ_30 hEW (hh ▸ CH_31) hlk (v := (some (.ref x))) (fun h => by rw [hrt] at h; cases h) (fun fs hr => retOut X_38 hx hrt rfl (Or.inr (Or.inr (Or.inr (Or.inr ⟨rfl, rfl, rfl⟩)))) (hb hby d_rm_rv3_114) hr) eh_38 ⟨rfl, N_38, (((((Keep.refl h0 []).ext E_1).trans K_12 all0).trans K_21 all0).trans K_30 all0)⟩ (by decide) (by decide)
theorem d_rm_rv4_0 : decode prog_3_method_2_code 0 = .ok (.aload_n 0, 1) := by decide +kernel
theorem d_rm_rv4_1 : decode prog_3_method_2_code 1 = .ok (.ldc 7, 2) := by decide +kernel
theorem d_rm_rv4_3 : decode prog_3_method_2_code 3 = .ok (.invokestatic 9, 3) := by decide +kernel
theorem d_rm_rv4_6 : decode prog_3_method_2_code 6 = .ok (.pop, 1) := by decide +kernel
theorem d_rm_rv4_7 : decode prog_3_method_2_code 7 = .ok (.aload_n 0, 1) := by decide +kernel
theorem d_rm_rv4_8 : decode prog_3_method_2_code 8 = .ok (.invokevirtual 15, 3) := by decide +kernel
theorem d_rm_rv4_11 : decode prog_3_method_2_code 11 = .ok (.ifCond .eq 13, 3) := by decide +kernel
theorem d_rm_rv4_24 : decode prog_3_method_2_code 24 = .ok (.iconst 0, 1) := by decide +kernel
theorem d_rm_rv4_25 : decode prog_3_method_2_code 25 = .ok (.istore_n 1, 1) := by decide +kernel
theorem d_rm_rv4_26 : decode prog_3_method_2_code 26 = .ok (.iload_n 1, 1) := by decide +kernel
theorem d_rm_rv4_27 : decode prog_3_method_2_code 27 = .ok (.aload_n 0, 1) := by decide +kernel
theorem d_rm_rv4_28 : decode prog_3_method_2_code 28 = .ok (.invokevirtual 28, 3) := by decide +kernel
theorem d_rm_rv4_31 : decode prog_3_method_2_code 31 = .ok (.if_icmp .ge 55, 3) := by decide +kernel
theorem d_rm_rv4_34 : decode prog_3_method_2_code 34 = .ok (.aload_n 0, 1) := by decide +kernel
theorem d_rm_rv4_35 : decode prog_3_method_2_code 35 = .ok (.iload_n 1, 1) := by decide +kernel
theorem d_rm_rv4_36 : decode prog_3_method_2_code 36 = .ok (.invokevirtual 32, 3) := by decide +kernel
theorem d_rm_rv4_39 : decode prog_3_method_2_code 39 = .ok (.invokestatic 36, 3) := by decide +kernel
theorem d_rm_rv4_42 : decode prog_3_method_2_code 42 = .ok (.ifCond .ne 38, 3) := by decide +kernel
theorem d_rm_rv4_80 : decode prog_3_method_2_code 80 = .ok (.iinc 1 1, 3) := by decide +kernel
theorem d_rm_rv4_83 : decode prog_3_method_2_code 83 = .ok (.goto (-57), 3) := by decide +kernel
theorem d_rm_rv4_86 : decode prog_3_method_2_code 86 = .ok (.aload_n 0, 1) := by decide +kernel
theorem d_rm_rv4_87 : decode prog_3_method_2_code 87 = .ok (.invokevirtual 28, 3) := by decide +kernel
theorem d_rm_rv4_90 : decode prog_3_method_2_code 90 = .ok (.sipush 191, 3) := by decide +kernel
theorem d_rm_rv4_93 : decode prog_3_method_2_code 93 = .ok (.if_icmp .le 20, 3) := by decide +kernel
theorem d_rm_rv4_113 : decode prog_3_method_2_code 113 = .ok (.aload_n 0, 1) := by decide +kernel
theorem d_rm_rv4_114 : decode prog_3_method_2_code 114 = .ok (.areturn, 1) := by decide +kernel
set_option maxRecDepth 65536 in
set_option maxHeartbeats 40000000 in
theorem rm_rv4 (l : Launch) (Z : State) (a0 : Array Value) (hw : ∀ d ∈ tables_1, d.before a0 Z = true) (ws : List Jvm.Cond) (x t : Addr) (kb : ClassId) (c0 c1 c2 c3 : Int32) (zc : Int32) (fm : Value) (h0 : Heap) (n0 : Nat) (Z0 : n0 ≤ h0.size) (E0 : Exa Z h0 x "java/lang/String") (V0 : Fld Z h0 x "java/lang/String" "value" "[B" (.ref t)) (C0 : Fld Z h0 x "java/lang/String" "coder" "B" (.int 0)) (K0 : Arv Z h0 t kb .byte (4 : Int32) ((([c0, c1, c2, c3] : List Int32).map (fun c => c.toInt8.toInt32)).map Value.int) (.int 0)) (nn0 : own_nm c0) (nn1 : own_nm c1) (nn2 : own_nm c2) (nn3 : own_nm c3) (O2 : Sta Z Z.heap "java/lang/String" "COMPACT_STRINGS" "Z" (.int zc)) (O4 : Sta Z Z.heap "jdk/internal/util/Preconditions" "SIOOBE_FORMATTER" "Ljava/util/function/BiFunction;" fm) (P5 : ¬ (zc = (0 : Int32))) (rfm : fm.isRef = true) (X00 : Old Z n0 h0) :
    MetFree l (⟨"com/example/lease_lock/leaselock/LeaseLimits", "requireValidName", "(Ljava/lang/String;)Ljava/lang/String;"⟩ : MethodName) (head1 (Jvm.Cond.code (⟨"com/example/lease_lock/leaselock/LeaseLimits", "requireValidName", "(Ljava/lang/String;)Ljava/lang/String;"⟩ : MethodName) prog_3_method_2_code 2 (some (.object "java/lang/String")) :: ws) ({ frames := 5, cells := 10, slots := 116, locals := 100 } : Room)) (fun a_ U => a_ = #[(.ref x)] ∧ Z.Warmed39 U.vm ∧ U.heap = h0 ∧ CHv Z own_EL U.vm h0) (fun _ _ _ _ _ => True) (fun _ U o U' => ∃ v L, o = .returned v ∧ Qrv x h0 n0 v U'.heap L ∧ CHr Z own_EL U.vm U.heap U'.vm U'.heap ∧ ReturnedEndW U o U' L ({ frames := 5, cells := 10, slots := 116, locals := 100 } : Room).cells ({ frames := 5, cells := 10, slots := 116, locals := 100 } : Room).slots) := by
  refine MetFree.of_bodySF (plainFor_of_name pn_4) hisR ?_
  intro p e s m args below meth c s₁ Bd hml0 hP hK
  obtain ⟨rfl, hZ, hh, hCH⟩ := hP
  have hx := Bd.exec
  have hby := Bd.bytes
  have hrt := Bd.returns
  have hlk : meth.locks = false := Bd.notSynchronized
  have hml : c.maxLocals = 2 := hml0
  have hown : s.vm.findClass "com/example/lease_lock/leaselock/LeaseLimits" = some m.cls := findClass_of_methodNamed Bd.named
  have hnm := (name_of_methodNamed Bd.named Bd.method).1
  have X0 : Stand p l e ({ frames := 5, cells := 10, slots := 116, locals := 100 } : Room) (s.setVm s.vm) m #[(.ref x)] below meth c s₁ [] 0 0 := Stand.of_body Bd
  have e0 : s₁.heap = h0 := by rw [← hh, Bd.state]; rfl
  have N0 := Fr.nil n0
  have hS0 : s.Since s.vm 0 := own_since s 0
  have hstr : ∀ d ∈ Bundle.stringAtoms, d.before a0 Z = true := fun d hd => hw d ((by decide +kernel : ∀ d ∈ Bundle.stringAtoms, d ∈ tables_1) d hd)
  have hEW : EW Z a0 own_EL := own_EW hw
  have CH0 : CHr Z own_EL s.vm h0 s.vm h0 := CHr.refl hCH
  show own_G p.tables e below (fun o t => ∃ v L, o = .returned v ∧ Qrv x h0 n0 v t.heap L ∧ CHr Z own_EL s.vm s.heap t.vm t.heap ∧ ReturnedEndW s o t L ({ frames := 5, cells := 10, slots := 116, locals := 100 } : Room).cells ({ frames := 5, cells := 10, slots := 116, locals := 100 } : Room).slots) (s₁.setTop (entryFrame m #[(.ref x)] 2))
  refine own_G.cast (show entryFrame m #[(.ref x)] 2 = mkF m 0 #[.val (.ref x), .unset] [] from by first | (simp [entryFrame, mkF, argsToLocals, Value.category]; done) | rfl) ?_
  have hLen : ∀ d ∈ StrChars.Road.wordsLen, d.before a0 Z = true := fun d hd => hw d ((by decide +kernel : ∀ d ∈ StrChars.Road.wordsLen, d ∈ tables_1) d hd)
  have hChN : ∀ d ∈ StrChars.Road.wordsChN, d.before a0 Z = true := fun d hd => hw d ((by decide +kernel : ∀ d ∈ StrChars.Road.wordsChN, d ∈ tables_1) d hd)
  have hEmp : ∀ d ∈ StrChars.Road.wordsEmp, d.before a0 Z = true := fun d hd => hw d ((by decide +kernel : ∀ d ∈ StrChars.Road.wordsEmp, d ∈ tables_1) d hd)
  have hp : ∀ c ∈ ([c0, c1, c2, c3] : List Int32), own_b c := by
    intro c hc
    simp only [List.mem_cons, List.not_mem_nil, or_false] at hc
    rcases hc with rfl | rfl | rfl | rfl
    · exact nn0.1
    · exact nn1.1
    · exact nn2.1
    · exact nn3.1
  have hcd := StrChars.Road.codOf (cs := ([c0, c1, c2, c3] : List Int32)) (n := 4) rfl (fun c hc => (hp c hc).2)
  have hbd := own_up _ hp
  refine own_G.go (fun t_ k_ => XS.aloadN X0.here hx rfl (hb hby d_rm_rv4_0) rfl rfl k_) ?_
  show own_G _ _ _ _ (s₁.setTop (mkF m 1 #[.val (.ref x), .unset] [(.ref x)]))
  obtain ⟨al_1, T_1, h_1, k_1, X_1, e_1, E_1, hS_1, hk_1, hZ_1, hown_1, Cr_1, -, st_1⟩ := ldcOH X0 hx hZ hown (own_w hw 39 rfl) hstr e0 hS0 (Nat.zero_le _) hEW CH0.1 (g := (mkF m 1 #[.val (.ref x), .unset] [(.ref x)])) rfl (hb hby d_rm_rv4_1) (n := 16) (by decide +kernel) (by decide) (by decide) (by decide)
  refine own_G.go st_1 ?_
  have CH_2 : CHr Z own_EL s.vm h0 T_1.vm h_1 := CH0.trans Cr_1
  show own_G _ _ _ _ (T_1.setTop (mkF m 3 #[.val (.ref x), .unset] [(.ref al_1), (.ref x)]))
  obtain ⟨_, T_3, L_3, Q_3, X_3, st_3⟩ := own_callS X_1 hx hown_1 (mvT hZ_1 (own_w hw 42 rfl)) (mvT hZ_1 (own_w hw 43 rfl)) (mvT hZ_1 (own_w hw 44 rfl)) (mvT hZ_1 (own_w hw 45 rfl)) (by decide) (Q := (Qp (.ref x) h_1)) (backOf (W := 0) (rm_rnn l Z a0 hw [] x al_1 h_1 n0 (Nat.le_trans Z0 E_1.1) ) hZ_1 (own_w hw 45 rfl) (own_w hw 44 rfl) (by decide) (by decide)) (g := (mkF m 3 #[.val (.ref x), .unset] [(.ref al_1), (.ref x)])) rfl (by rw [hml]; rfl) (argsL := [(.ref x), (.ref al_1)]) (rest := []) (lenOf pd_7 rfl) rfl (by show 2 * 0 + _ ≤ _; exact Nat.le_of_eq rfl) (hb hby d_rm_rv4_3) e_1 rfl (by decide) (by decide)
  obtain ⟨rfl, rfl, eh_3⟩ := Q_3
  refine own_G.via st_3 ?_
  have N_3 := Fr.app N0 (Fr.nil n0)
  show own_G _ _ _ _ (T_3.setTop (mkF m 6 #[.val (.ref x), .unset] [(.ref x)]))
  refine own_G.go (fun t_ k_ => XS.pop X_3.here hx rfl (hb hby d_rm_rv4_6) rfl rfl k_) ?_
  show own_G _ _ _ _ (T_3.setTop (mkF m 7 #[.val (.ref x), .unset] []))
  refine own_G.go (fun t_ k_ => XS.aloadN X_3.here hx rfl (hb hby d_rm_rv4_7) rfl rfl k_) ?_
  show own_G _ _ _ _ (T_3.setTop (mkF m 8 #[.val (.ref x), .unset] [(.ref x)]))
  have E0'_4 : Exa Z h_1 x "java/lang/String" := (E0.ext E_1)
  have V0'_5 : Fld Z h_1 x "java/lang/String" "value" "[B" (.ref t) := (V0.ext E_1)
  have C0'_6 : Fld Z h_1 x "java/lang/String" "coder" "B" (.int 0) := (C0.ext E_1)
  have K0'_7 : Arv Z h_1 t kb .byte (4 : Int32) ((([c0, c1, c2, c3] : List Int32).map (fun c => c.toInt8.toInt32)).map Value.int) (.int 0) := (K0.ext E_1)
  obtain ⟨cq_8, kq_8, q_8a, q_8b, q_8c⟩ := isOf hZ_1 eh_3 E0'_4
  obtain ⟨_, T_8, L_8, Q_8, X_8, st_8⟩ := own_callV X_3 hx (z := (⟨"java/lang/String", "isEmpty", "()Z"⟩ : MethodName)) hown_1 (mvT hZ_1 (own_w hw 46 rfl)) (mvT hZ_1 (own_w hw 47 rfl)) (notFace_of_selects (args := #[]) (mvT hZ_1 (own_w hw 49 rfl))) (mvT hZ_1 (own_w hw 49 rfl)) (mvT hZ_1 (own_w hw 48 rfl)) (by decide) (Q := (fun v h' L => v = some (.int (if ([c0, c1, c2, c3] : List Int32).length = 0 then 1 else 0)) ∧ L = [] ∧ h' = h_1)) (StrChars.Road.empW (W := 0) hZ_1 hEmp (kI := 4) (own_w hw 6 rfl) E0'_4 V0'_5 C0'_6 K0'_7 hcd hbd (Nat.le_of_ble_eq_true rfl) (by decide) (by decide)) q_8a q_8c (g := (mkF m 8 #[.val (.ref x), .unset] [(.ref x)])) rfl (by rw [hml]; rfl) (argsL := []) (rest := []) (lenOf pd_4 rfl) rfl (by show 2 * 0 + _ ≤ _; exact Nat.le_of_eq rfl) (hb hby d_rm_rv4_8) eh_3 rfl (by decide) (by decide)
  obtain ⟨rfl, rfl, eh_8⟩ := Q_8
  refine own_G.via st_8 ?_
  have N_8 := Fr.app N_3 (Fr.nil n0)
  show own_G _ _ _ _ (T_8.setTop (mkF m 11 #[.val (.ref x), .unset] [(.int (0 : Int32))]))
  refine own_G.go (fun t_ k_ => XS.ifYes X_8.here hx rfl (pc0 := 11) (pc' := 24) rfl (hb hby d_rm_rv4_11) rfl ((if0 _ _).trans (teq (by decide : (0 : Int32) = (0 : Int32))).1) (by decide) (by decide) k_) ?_
  show own_G _ _ _ _ (T_8.setTop (mkF m 24 #[.val (.ref x), .unset] []))
  refine own_G.go (fun t_ k_ => XS.iconst X_8.here hx rfl (hb hby d_rm_rv4_24) k_) ?_
  show own_G _ _ _ _ (T_8.setTop (mkF m 25 #[.val (.ref x), .unset] [(.int (0 : Int32))]))
  refine own_G.go (fun t_ k_ => XS.istoreN X_8.here hx rfl (hb hby d_rm_rv4_25) rfl (l' := #[.val (.ref x), .val (.int (0 : Int32))]) rfl k_) ?_
  show own_G _ _ _ _ (T_8.setTop (mkF m 26 #[.val (.ref x), .val (.int (0 : Int32))] []))
  refine own_G.go (fun t_ k_ => XS.iloadN X_8.here hx rfl (hb hby d_rm_rv4_26) rfl k_) ?_
  show own_G _ _ _ _ (T_8.setTop (mkF m 27 #[.val (.ref x), .val (.int (0 : Int32))] [(.int (0 : Int32))]))
  refine own_G.go (fun t_ k_ => XS.aloadN X_8.here hx rfl (hb hby d_rm_rv4_27) rfl rfl k_) ?_
  show own_G _ _ _ _ (T_8.setTop (mkF m 28 #[.val (.ref x), .val (.int (0 : Int32))] [(.ref x), (.int (0 : Int32))]))
  have O_9d : Old Z n0 h_1 := (X00.ext E_1)
  obtain ⟨cq_10, kq_10, q_10a, q_10b, q_10c⟩ := isOf hZ_1 eh_8 E0'_4
  obtain ⟨_, T_10, L_10, Q_10, X_10, st_10⟩ := own_callV X_8 hx (z := (⟨"java/lang/String", "length", "()I"⟩ : MethodName)) hown_1 (mvT hZ_1 (own_w hw 51 rfl)) (mvT hZ_1 (own_w hw 52 rfl)) (notFace_of_selects (args := #[]) (mvT hZ_1 (own_w hw 54 rfl))) (mvT hZ_1 (own_w hw 54 rfl)) (mvT hZ_1 (own_w hw 53 rfl)) (by decide) (Q := (fun v h' L => v = some (.int (Int32.ofNat ([c0, c1, c2, c3] : List Int32).length)) ∧ L = [] ∧ h' = h_1)) (StrChars.Road.lenW (W := 1) hZ_1 hLen (kI := 4) (own_w hw 6 rfl) E0'_4 V0'_5 C0'_6 K0'_7 hcd hbd (O2.ext O_9d.2) P5 (Nat.le_of_ble_eq_true rfl) (by decide) (by decide)) q_10a q_10c (g := (mkF m 28 #[.val (.ref x), .val (.int (0 : Int32))] [(.ref x), (.int (0 : Int32))])) rfl (by rw [hml]; rfl) (argsL := []) (rest := [(.int (0 : Int32))]) (lenOf pd_5 rfl) rfl (by show 2 * 0 + _ ≤ _; exact Nat.le_of_eq rfl) (hb hby d_rm_rv4_28) eh_8 rfl (by decide) (by decide)
  obtain ⟨rfl, rfl, eh_10⟩ := Q_10
  refine own_G.via st_10 ?_
  have N_10 := Fr.app N_8 (Fr.nil n0)
  show own_G _ _ _ _ (T_10.setTop (mkF m 31 #[.val (.ref x), .val (.int (0 : Int32))] [(.int (4 : Int32)), (.int (0 : Int32))]))
  refine own_G.go (fun t_ k_ => XS.icmpNo X_10.here hx rfl (hb hby d_rm_rv4_31) rfl (tlt (by decide : (0 : Int32) < (4 : Int32))).2.1 k_) ?_
  show own_G _ _ _ _ (T_10.setTop (mkF m 34 #[.val (.ref x), .val (.int (0 : Int32))] []))
  refine own_G.go (fun t_ k_ => XS.aloadN X_10.here hx rfl (hb hby d_rm_rv4_34) rfl rfl k_) ?_
  show own_G _ _ _ _ (T_10.setTop (mkF m 35 #[.val (.ref x), .val (.int (0 : Int32))] [(.ref x)]))
  refine own_G.go (fun t_ k_ => XS.iloadN X_10.here hx rfl (hb hby d_rm_rv4_35) rfl k_) ?_
  show own_G _ _ _ _ (T_10.setTop (mkF m 36 #[.val (.ref x), .val (.int (0 : Int32))] [(.int (0 : Int32)), (.ref x)]))
  obtain ⟨cq_11, kq_11, q_11a, q_11b, q_11c⟩ := isOf hZ_1 eh_10 E0'_4
  obtain ⟨_, T_11, L_11, Q_11, X_11, st_11⟩ := own_callV X_10 hx (z := (⟨"java/lang/String", "charAt", "(I)C"⟩ : MethodName)) hown_1 (mvT hZ_1 (own_w hw 61 rfl)) (mvT hZ_1 (own_w hw 62 rfl)) (notFace_of_selects (args := #[]) (mvT hZ_1 (own_w hw 64 rfl))) (mvT hZ_1 (own_w hw 64 rfl)) (mvT hZ_1 (own_w hw 63 rfl)) (by decide) (Q := (fun v h' L => v = some (.int (([c0, c1, c2, c3] : List Int32).getD 0 0)) ∧ L = [] ∧ h' = h_1)) (StrChars.Road.chN (W := 0) hZ_1 hChN (kI := 4) (own_w hw 6 rfl) E0'_4 V0'_5 C0'_6 K0'_7 hcd hbd (O2.ext O_9d.2) P5 (O4.ext O_9d.2) rfm (Nat.le_of_ble_eq_true rfl) (i := 0) (Nat.le_of_ble_eq_true rfl) (j := (0 : Int32)) rfl (by decide) (by decide)) q_11a q_11c (g := (mkF m 36 #[.val (.ref x), .val (.int (0 : Int32))] [(.int (0 : Int32)), (.ref x)])) rfl (by rw [hml]; rfl) (argsL := [(.int (0 : Int32))]) (rest := []) (lenOf pd_8 rfl) rfl (by show 2 * 0 + _ ≤ _; exact Nat.le_of_eq rfl) (hb hby d_rm_rv4_36) eh_10 rfl (by decide) (by decide)
  obtain ⟨rfl, rfl, eh_11⟩ := Q_11
  refine own_G.via st_11 ?_
  have N_11 := Fr.app N_10 (Fr.nil n0)
  show own_G _ _ _ _ (T_11.setTop (mkF m 39 #[.val (.ref x), .val (.int (0 : Int32))] [(.int c0)]))
  obtain ⟨_, T_12, L_12, Q_12, X_12, hS_12, hZ_12, hown_12, st_12⟩ := own_callSW X_11 hx hS_1 hk_1 hZ_1 hown_1 (mvT hZ_1 (own_w hw 83 rfl)) (mvT hZ_1 (own_w hw 84 rfl)) (mvT hZ_1 (own_w hw 37 rfl)) (mvT hZ_1 (own_w hw 85 rfl)) (by decide) (Q := (fun v (U : State) L => Qnch h_1 n0 v U.heap L ∧ CHr Z own_EL T_1.vm h_1 U.vm U.heap)) (own_backSH (backOfSH (W := 0) (rm_inc l Z a0 hw [] c0 zc h_1 n0 (Nat.le_trans Z0 E_1.1) nn0 O2 P5 O_9d) hZ_1 (own_w hw 85 rfl) (own_w hw 37 rfl) (by decide) (by decide) hEW CH_2.1)) (g := (mkF m 39 #[.val (.ref x), .val (.int (0 : Int32))] [(.int c0)])) rfl (by rw [hml]; rfl) (argsL := [(.int c0)]) (rest := []) (lenOf pd_9 rfl) rfl (by show 2 * 0 + _ ≤ _; exact Nat.le_of_eq rfl) (hb hby d_rm_rv4_39) eh_11 rfl (by decide) (by decide)
  obtain ⟨⟨rfl, Nq_12, K_12⟩, Ch_12⟩ := Q_12
  refine own_G.via st_12 ?_
  have CH_13 : CHr Z own_EL s.vm h0 T_12.vm T_12.heap := CH_2.trans Ch_12
  have N_12 := Fr.app N_11 Nq_12
  show own_G _ _ _ _ (T_12.setTop (mkF m 42 #[.val (.ref x), .val (.int (0 : Int32))] [(.int (1 : Int32))]))
  refine own_G.go (fun t_ k_ => XS.ifYes X_12.here hx rfl (pc0 := 42) (pc' := 80) rfl (hb hby d_rm_rv4_42) rfl ((if0 _ _).trans (feq (by decide : ¬ ((1 : Int32) = (0 : Int32)))).2) (by decide) (by decide) k_) ?_
  show own_G _ _ _ _ (T_12.setTop (mkF m 80 #[.val (.ref x), .val (.int (0 : Int32))] []))
  refine own_G.go (fun t_ k_ => XS.iinc X_12.here hx rfl (hb hby d_rm_rv4_80) rfl (l' := #[.val (.ref x), .val (.int (1 : Int32))]) rfl k_) ?_
  show own_G _ _ _ _ (T_12.setTop (mkF m 83 #[.val (.ref x), .val (.int (1 : Int32))] []))
  refine own_G.go (fun t_ k_ => XS.goto X_12.here hx rfl (pc0 := 83) (pc' := 26) rfl (hb hby d_rm_rv4_83) (by decide) (by decide) k_) ?_
  show own_G _ _ _ _ (T_12.setTop (mkF m 26 #[.val (.ref x), .val (.int (1 : Int32))] []))
  refine own_G.go (fun t_ k_ => XS.iloadN X_12.here hx rfl (hb hby d_rm_rv4_26) rfl k_) ?_
  show own_G _ _ _ _ (T_12.setTop (mkF m 27 #[.val (.ref x), .val (.int (1 : Int32))] [(.int (1 : Int32))]))
  refine own_G.go (fun t_ k_ => XS.aloadN X_12.here hx rfl (hb hby d_rm_rv4_27) rfl rfl k_) ?_
  show own_G _ _ _ _ (T_12.setTop (mkF m 28 #[.val (.ref x), .val (.int (1 : Int32))] [(.ref x), (.int (1 : Int32))]))
  have E0'_14 : Exa Z T_12.heap x "java/lang/String" := (E0'_4.keep K_12)
  have V0'_15 : Fld Z T_12.heap x "java/lang/String" "value" "[B" (.ref t) := (V0'_5.keep K_12 nin0)
  have C0'_16 : Fld Z T_12.heap x "java/lang/String" "coder" "B" (.int 0) := (C0'_6.keep K_12 nin0)
  have K0'_17 : Arv Z T_12.heap t kb .byte (4 : Int32) ((([c0, c1, c2, c3] : List Int32).map (fun c => c.toInt8.toInt32)).map Value.int) (.int 0) := (K0'_7.keep K_12 nin0)
  have O_18d : Old Z n0 T_12.heap := (O_9d.keep K_12 all0)
  obtain ⟨cq_19, kq_19, q_19a, q_19b, q_19c⟩ := isOf hZ_12 rfl E0'_14
  obtain ⟨_, T_19, L_19, Q_19, X_19, st_19⟩ := own_callV X_12 hx (z := (⟨"java/lang/String", "length", "()I"⟩ : MethodName)) hown_12 (mvT hZ_12 (own_w hw 51 rfl)) (mvT hZ_12 (own_w hw 52 rfl)) (notFace_of_selects (args := #[]) (mvT hZ_12 (own_w hw 54 rfl))) (mvT hZ_12 (own_w hw 54 rfl)) (mvT hZ_12 (own_w hw 53 rfl)) (by decide) (Q := (fun v h' L => v = some (.int (Int32.ofNat ([c0, c1, c2, c3] : List Int32).length)) ∧ L = [] ∧ h' = T_12.heap)) (StrChars.Road.lenW (W := 1) hZ_12 hLen (kI := 4) (own_w hw 6 rfl) E0'_14 V0'_15 C0'_16 K0'_17 hcd hbd (O2.ext O_18d.2) P5 (Nat.le_of_ble_eq_true rfl) (by decide) (by decide)) q_19a q_19c (g := (mkF m 28 #[.val (.ref x), .val (.int (1 : Int32))] [(.ref x), (.int (1 : Int32))])) rfl (by rw [hml]; rfl) (argsL := []) (rest := [(.int (1 : Int32))]) (lenOf pd_5 rfl) rfl (by show 2 * 0 + _ ≤ _; exact Nat.le_of_eq rfl) (hb hby d_rm_rv4_28) rfl rfl (by decide) (by decide)
  obtain ⟨rfl, rfl, eh_19⟩ := Q_19
  refine own_G.via st_19 ?_
  have N_19 := Fr.app N_12 (Fr.nil n0)
  show own_G _ _ _ _ (T_19.setTop (mkF m 31 #[.val (.ref x), .val (.int (1 : Int32))] [(.int (4 : Int32)), (.int (1 : Int32))]))
  refine own_G.go (fun t_ k_ => XS.icmpNo X_19.here hx rfl (hb hby d_rm_rv4_31) rfl (tlt (by decide : (1 : Int32) < (4 : Int32))).2.1 k_) ?_
  show own_G _ _ _ _ (T_19.setTop (mkF m 34 #[.val (.ref x), .val (.int (1 : Int32))] []))
  refine own_G.go (fun t_ k_ => XS.aloadN X_19.here hx rfl (hb hby d_rm_rv4_34) rfl rfl k_) ?_
  show own_G _ _ _ _ (T_19.setTop (mkF m 35 #[.val (.ref x), .val (.int (1 : Int32))] [(.ref x)]))
  refine own_G.go (fun t_ k_ => XS.iloadN X_19.here hx rfl (hb hby d_rm_rv4_35) rfl k_) ?_
  show own_G _ _ _ _ (T_19.setTop (mkF m 36 #[.val (.ref x), .val (.int (1 : Int32))] [(.int (1 : Int32)), (.ref x)]))
  obtain ⟨cq_20, kq_20, q_20a, q_20b, q_20c⟩ := isOf hZ_12 eh_19 E0'_14
  obtain ⟨_, T_20, L_20, Q_20, X_20, st_20⟩ := own_callV X_19 hx (z := (⟨"java/lang/String", "charAt", "(I)C"⟩ : MethodName)) hown_12 (mvT hZ_12 (own_w hw 61 rfl)) (mvT hZ_12 (own_w hw 62 rfl)) (notFace_of_selects (args := #[]) (mvT hZ_12 (own_w hw 64 rfl))) (mvT hZ_12 (own_w hw 64 rfl)) (mvT hZ_12 (own_w hw 63 rfl)) (by decide) (Q := (fun v h' L => v = some (.int (([c0, c1, c2, c3] : List Int32).getD 1 0)) ∧ L = [] ∧ h' = T_12.heap)) (StrChars.Road.chN (W := 0) hZ_12 hChN (kI := 4) (own_w hw 6 rfl) E0'_14 V0'_15 C0'_16 K0'_17 hcd hbd (O2.ext O_18d.2) P5 (O4.ext O_18d.2) rfm (Nat.le_of_ble_eq_true rfl) (i := 1) (Nat.le_of_ble_eq_true rfl) (j := (1 : Int32)) rfl (by decide) (by decide)) q_20a q_20c (g := (mkF m 36 #[.val (.ref x), .val (.int (1 : Int32))] [(.int (1 : Int32)), (.ref x)])) rfl (by rw [hml]; rfl) (argsL := [(.int (1 : Int32))]) (rest := []) (lenOf pd_8 rfl) rfl (by show 2 * 0 + _ ≤ _; exact Nat.le_of_eq rfl) (hb hby d_rm_rv4_36) eh_19 rfl (by decide) (by decide)
  obtain ⟨rfl, rfl, eh_20⟩ := Q_20
  refine own_G.via st_20 ?_
  have N_20 := Fr.app N_19 (Fr.nil n0)
  show own_G _ _ _ _ (T_20.setTop (mkF m 39 #[.val (.ref x), .val (.int (1 : Int32))] [(.int c1)]))
  obtain ⟨_, T_21, L_21, Q_21, X_21, hS_21, hZ_21, hown_21, st_21⟩ := own_callSW X_20 hx hS_12 (Nat.le_refl _) hZ_12 hown_12 (mvT hZ_12 (own_w hw 83 rfl)) (mvT hZ_12 (own_w hw 84 rfl)) (mvT hZ_12 (own_w hw 37 rfl)) (mvT hZ_12 (own_w hw 85 rfl)) (by decide) (Q := (fun v (U : State) L => Qnch T_12.heap n0 v U.heap L ∧ CHr Z own_EL T_12.vm T_12.heap U.vm U.heap)) (own_backSH (backOfSH (W := 0) (rm_inc l Z a0 hw [] c1 zc T_12.heap n0 (Nat.le_trans Z0 (Nat.le_trans E_1.1 K_12.1)) nn1 O2 P5 O_18d) hZ_12 (own_w hw 85 rfl) (own_w hw 37 rfl) (by decide) (by decide) hEW CH_13.1)) (g := (mkF m 39 #[.val (.ref x), .val (.int (1 : Int32))] [(.int c1)])) rfl (by rw [hml]; rfl) (argsL := [(.int c1)]) (rest := []) (lenOf pd_9 rfl) rfl (by show 2 * 0 + _ ≤ _; exact Nat.le_of_eq rfl) (hb hby d_rm_rv4_39) eh_20 rfl (by decide) (by decide)
  obtain ⟨⟨rfl, Nq_21, K_21⟩, Ch_21⟩ := Q_21
  refine own_G.via st_21 ?_
  have CH_22 : CHr Z own_EL s.vm h0 T_21.vm T_21.heap := CH_13.trans Ch_21
  have N_21 := Fr.app N_20 Nq_21
  show own_G _ _ _ _ (T_21.setTop (mkF m 42 #[.val (.ref x), .val (.int (1 : Int32))] [(.int (1 : Int32))]))
  refine own_G.go (fun t_ k_ => XS.ifYes X_21.here hx rfl (pc0 := 42) (pc' := 80) rfl (hb hby d_rm_rv4_42) rfl ((if0 _ _).trans (feq (by decide : ¬ ((1 : Int32) = (0 : Int32)))).2) (by decide) (by decide) k_) ?_
  show own_G _ _ _ _ (T_21.setTop (mkF m 80 #[.val (.ref x), .val (.int (1 : Int32))] []))
  refine own_G.go (fun t_ k_ => XS.iinc X_21.here hx rfl (hb hby d_rm_rv4_80) rfl (l' := #[.val (.ref x), .val (.int (2 : Int32))]) rfl k_) ?_
  show own_G _ _ _ _ (T_21.setTop (mkF m 83 #[.val (.ref x), .val (.int (2 : Int32))] []))
  refine own_G.go (fun t_ k_ => XS.goto X_21.here hx rfl (pc0 := 83) (pc' := 26) rfl (hb hby d_rm_rv4_83) (by decide) (by decide) k_) ?_
  show own_G _ _ _ _ (T_21.setTop (mkF m 26 #[.val (.ref x), .val (.int (2 : Int32))] []))
  refine own_G.go (fun t_ k_ => XS.iloadN X_21.here hx rfl (hb hby d_rm_rv4_26) rfl k_) ?_
  show own_G _ _ _ _ (T_21.setTop (mkF m 27 #[.val (.ref x), .val (.int (2 : Int32))] [(.int (2 : Int32))]))
  refine own_G.go (fun t_ k_ => XS.aloadN X_21.here hx rfl (hb hby d_rm_rv4_27) rfl rfl k_) ?_
  show own_G _ _ _ _ (T_21.setTop (mkF m 28 #[.val (.ref x), .val (.int (2 : Int32))] [(.ref x), (.int (2 : Int32))]))
  have E0'_23 : Exa Z T_21.heap x "java/lang/String" := (E0'_14.keep K_21)
  have V0'_24 : Fld Z T_21.heap x "java/lang/String" "value" "[B" (.ref t) := (V0'_15.keep K_21 nin0)
  have C0'_25 : Fld Z T_21.heap x "java/lang/String" "coder" "B" (.int 0) := (C0'_16.keep K_21 nin0)
  have K0'_26 : Arv Z T_21.heap t kb .byte (4 : Int32) ((([c0, c1, c2, c3] : List Int32).map (fun c => c.toInt8.toInt32)).map Value.int) (.int 0) := (K0'_17.keep K_21 nin0)
  have O_27d : Old Z n0 T_21.heap := (O_18d.keep K_21 all0)
  obtain ⟨cq_28, kq_28, q_28a, q_28b, q_28c⟩ := isOf hZ_21 rfl E0'_23
  obtain ⟨_, T_28, L_28, Q_28, X_28, st_28⟩ := own_callV X_21 hx (z := (⟨"java/lang/String", "length", "()I"⟩ : MethodName)) hown_21 (mvT hZ_21 (own_w hw 51 rfl)) (mvT hZ_21 (own_w hw 52 rfl)) (notFace_of_selects (args := #[]) (mvT hZ_21 (own_w hw 54 rfl))) (mvT hZ_21 (own_w hw 54 rfl)) (mvT hZ_21 (own_w hw 53 rfl)) (by decide) (Q := (fun v h' L => v = some (.int (Int32.ofNat ([c0, c1, c2, c3] : List Int32).length)) ∧ L = [] ∧ h' = T_21.heap)) (StrChars.Road.lenW (W := 1) hZ_21 hLen (kI := 4) (own_w hw 6 rfl) E0'_23 V0'_24 C0'_25 K0'_26 hcd hbd (O2.ext O_27d.2) P5 (Nat.le_of_ble_eq_true rfl) (by decide) (by decide)) q_28a q_28c (g := (mkF m 28 #[.val (.ref x), .val (.int (2 : Int32))] [(.ref x), (.int (2 : Int32))])) rfl (by rw [hml]; rfl) (argsL := []) (rest := [(.int (2 : Int32))]) (lenOf pd_5 rfl) rfl (by show 2 * 0 + _ ≤ _; exact Nat.le_of_eq rfl) (hb hby d_rm_rv4_28) rfl rfl (by decide) (by decide)
  obtain ⟨rfl, rfl, eh_28⟩ := Q_28
  refine own_G.via st_28 ?_
  have N_28 := Fr.app N_21 (Fr.nil n0)
  show own_G _ _ _ _ (T_28.setTop (mkF m 31 #[.val (.ref x), .val (.int (2 : Int32))] [(.int (4 : Int32)), (.int (2 : Int32))]))
  refine own_G.go (fun t_ k_ => XS.icmpNo X_28.here hx rfl (hb hby d_rm_rv4_31) rfl (tlt (by decide : (2 : Int32) < (4 : Int32))).2.1 k_) ?_
  show own_G _ _ _ _ (T_28.setTop (mkF m 34 #[.val (.ref x), .val (.int (2 : Int32))] []))
  refine own_G.go (fun t_ k_ => XS.aloadN X_28.here hx rfl (hb hby d_rm_rv4_34) rfl rfl k_) ?_
  show own_G _ _ _ _ (T_28.setTop (mkF m 35 #[.val (.ref x), .val (.int (2 : Int32))] [(.ref x)]))
  refine own_G.go (fun t_ k_ => XS.iloadN X_28.here hx rfl (hb hby d_rm_rv4_35) rfl k_) ?_
  show own_G _ _ _ _ (T_28.setTop (mkF m 36 #[.val (.ref x), .val (.int (2 : Int32))] [(.int (2 : Int32)), (.ref x)]))
  obtain ⟨cq_29, kq_29, q_29a, q_29b, q_29c⟩ := isOf hZ_21 eh_28 E0'_23
  obtain ⟨_, T_29, L_29, Q_29, X_29, st_29⟩ := own_callV X_28 hx (z := (⟨"java/lang/String", "charAt", "(I)C"⟩ : MethodName)) hown_21 (mvT hZ_21 (own_w hw 61 rfl)) (mvT hZ_21 (own_w hw 62 rfl)) (notFace_of_selects (args := #[]) (mvT hZ_21 (own_w hw 64 rfl))) (mvT hZ_21 (own_w hw 64 rfl)) (mvT hZ_21 (own_w hw 63 rfl)) (by decide) (Q := (fun v h' L => v = some (.int (([c0, c1, c2, c3] : List Int32).getD 2 0)) ∧ L = [] ∧ h' = T_21.heap)) (StrChars.Road.chN (W := 0) hZ_21 hChN (kI := 4) (own_w hw 6 rfl) E0'_23 V0'_24 C0'_25 K0'_26 hcd hbd (O2.ext O_27d.2) P5 (O4.ext O_27d.2) rfm (Nat.le_of_ble_eq_true rfl) (i := 2) (Nat.le_of_ble_eq_true rfl) (j := (2 : Int32)) rfl (by decide) (by decide)) q_29a q_29c (g := (mkF m 36 #[.val (.ref x), .val (.int (2 : Int32))] [(.int (2 : Int32)), (.ref x)])) rfl (by rw [hml]; rfl) (argsL := [(.int (2 : Int32))]) (rest := []) (lenOf pd_8 rfl) rfl (by show 2 * 0 + _ ≤ _; exact Nat.le_of_eq rfl) (hb hby d_rm_rv4_36) eh_28 rfl (by decide) (by decide)
  obtain ⟨rfl, rfl, eh_29⟩ := Q_29
  refine own_G.via st_29 ?_
  have N_29 := Fr.app N_28 (Fr.nil n0)
  show own_G _ _ _ _ (T_29.setTop (mkF m 39 #[.val (.ref x), .val (.int (2 : Int32))] [(.int c2)]))
  obtain ⟨_, T_30, L_30, Q_30, X_30, hS_30, hZ_30, hown_30, st_30⟩ := own_callSW X_29 hx hS_21 (Nat.le_refl _) hZ_21 hown_21 (mvT hZ_21 (own_w hw 83 rfl)) (mvT hZ_21 (own_w hw 84 rfl)) (mvT hZ_21 (own_w hw 37 rfl)) (mvT hZ_21 (own_w hw 85 rfl)) (by decide) (Q := (fun v (U : State) L => Qnch T_21.heap n0 v U.heap L ∧ CHr Z own_EL T_21.vm T_21.heap U.vm U.heap)) (own_backSH (backOfSH (W := 0) (rm_inc l Z a0 hw [] c2 zc T_21.heap n0 (Nat.le_trans Z0 (Nat.le_trans (Nat.le_trans E_1.1 K_12.1) K_21.1)) nn2 O2 P5 O_27d) hZ_21 (own_w hw 85 rfl) (own_w hw 37 rfl) (by decide) (by decide) hEW CH_22.1)) (g := (mkF m 39 #[.val (.ref x), .val (.int (2 : Int32))] [(.int c2)])) rfl (by rw [hml]; rfl) (argsL := [(.int c2)]) (rest := []) (lenOf pd_9 rfl) rfl (by show 2 * 0 + _ ≤ _; exact Nat.le_of_eq rfl) (hb hby d_rm_rv4_39) eh_29 rfl (by decide) (by decide)
  obtain ⟨⟨rfl, Nq_30, K_30⟩, Ch_30⟩ := Q_30
  refine own_G.via st_30 ?_
  have CH_31 : CHr Z own_EL s.vm h0 T_30.vm T_30.heap := CH_22.trans Ch_30
  have N_30 := Fr.app N_29 Nq_30
  show own_G _ _ _ _ (T_30.setTop (mkF m 42 #[.val (.ref x), .val (.int (2 : Int32))] [(.int (1 : Int32))]))
  refine own_G.go (fun t_ k_ => XS.ifYes X_30.here hx rfl (pc0 := 42) (pc' := 80) rfl (hb hby d_rm_rv4_42) rfl ((if0 _ _).trans (feq (by decide : ¬ ((1 : Int32) = (0 : Int32)))).2) (by decide) (by decide) k_) ?_
  show own_G _ _ _ _ (T_30.setTop (mkF m 80 #[.val (.ref x), .val (.int (2 : Int32))] []))
  refine own_G.go (fun t_ k_ => XS.iinc X_30.here hx rfl (hb hby d_rm_rv4_80) rfl (l' := #[.val (.ref x), .val (.int (3 : Int32))]) rfl k_) ?_
  show own_G _ _ _ _ (T_30.setTop (mkF m 83 #[.val (.ref x), .val (.int (3 : Int32))] []))
  refine own_G.go (fun t_ k_ => XS.goto X_30.here hx rfl (pc0 := 83) (pc' := 26) rfl (hb hby d_rm_rv4_83) (by decide) (by decide) k_) ?_
  show own_G _ _ _ _ (T_30.setTop (mkF m 26 #[.val (.ref x), .val (.int (3 : Int32))] []))
  refine own_G.go (fun t_ k_ => XS.iloadN X_30.here hx rfl (hb hby d_rm_rv4_26) rfl k_) ?_
  show own_G _ _ _ _ (T_30.setTop (mkF m 27 #[.val (.ref x), .val (.int (3 : Int32))] [(.int (3 : Int32))]))
  refine own_G.go (fun t_ k_ => XS.aloadN X_30.here hx rfl (hb hby d_rm_rv4_27) rfl rfl k_) ?_
  show own_G _ _ _ _ (T_30.setTop (mkF m 28 #[.val (.ref x), .val (.int (3 : Int32))] [(.ref x), (.int (3 : Int32))]))
  have E0'_32 : Exa Z T_30.heap x "java/lang/String" := (E0'_23.keep K_30)
  have V0'_33 : Fld Z T_30.heap x "java/lang/String" "value" "[B" (.ref t) := (V0'_24.keep K_30 nin0)
  have C0'_34 : Fld Z T_30.heap x "java/lang/String" "coder" "B" (.int 0) := (C0'_25.keep K_30 nin0)
  have K0'_35 : Arv Z T_30.heap t kb .byte (4 : Int32) ((([c0, c1, c2, c3] : List Int32).map (fun c => c.toInt8.toInt32)).map Value.int) (.int 0) := (K0'_26.keep K_30 nin0)
  have O_36d : Old Z n0 T_30.heap := (O_27d.keep K_30 all0)
  obtain ⟨cq_37, kq_37, q_37a, q_37b, q_37c⟩ := isOf hZ_30 rfl E0'_32
  obtain ⟨_, T_37, L_37, Q_37, X_37, st_37⟩ := own_callV X_30 hx (z := (⟨"java/lang/String", "length", "()I"⟩ : MethodName)) hown_30 (mvT hZ_30 (own_w hw 51 rfl)) (mvT hZ_30 (own_w hw 52 rfl)) (notFace_of_selects (args := #[]) (mvT hZ_30 (own_w hw 54 rfl))) (mvT hZ_30 (own_w hw 54 rfl)) (mvT hZ_30 (own_w hw 53 rfl)) (by decide) (Q := (fun v h' L => v = some (.int (Int32.ofNat ([c0, c1, c2, c3] : List Int32).length)) ∧ L = [] ∧ h' = T_30.heap)) (StrChars.Road.lenW (W := 1) hZ_30 hLen (kI := 4) (own_w hw 6 rfl) E0'_32 V0'_33 C0'_34 K0'_35 hcd hbd (O2.ext O_36d.2) P5 (Nat.le_of_ble_eq_true rfl) (by decide) (by decide)) q_37a q_37c (g := (mkF m 28 #[.val (.ref x), .val (.int (3 : Int32))] [(.ref x), (.int (3 : Int32))])) rfl (by rw [hml]; rfl) (argsL := []) (rest := [(.int (3 : Int32))]) (lenOf pd_5 rfl) rfl (by show 2 * 0 + _ ≤ _; exact Nat.le_of_eq rfl) (hb hby d_rm_rv4_28) rfl rfl (by decide) (by decide)
  obtain ⟨rfl, rfl, eh_37⟩ := Q_37
  refine own_G.via st_37 ?_
  have N_37 := Fr.app N_30 (Fr.nil n0)
  show own_G _ _ _ _ (T_37.setTop (mkF m 31 #[.val (.ref x), .val (.int (3 : Int32))] [(.int (4 : Int32)), (.int (3 : Int32))]))
  refine own_G.go (fun t_ k_ => XS.icmpNo X_37.here hx rfl (hb hby d_rm_rv4_31) rfl (tlt (by decide : (3 : Int32) < (4 : Int32))).2.1 k_) ?_
  show own_G _ _ _ _ (T_37.setTop (mkF m 34 #[.val (.ref x), .val (.int (3 : Int32))] []))
  refine own_G.go (fun t_ k_ => XS.aloadN X_37.here hx rfl (hb hby d_rm_rv4_34) rfl rfl k_) ?_
  show own_G _ _ _ _ (T_37.setTop (mkF m 35 #[.val (.ref x), .val (.int (3 : Int32))] [(.ref x)]))
  refine own_G.go (fun t_ k_ => XS.iloadN X_37.here hx rfl (hb hby d_rm_rv4_35) rfl k_) ?_
  show own_G _ _ _ _ (T_37.setTop (mkF m 36 #[.val (.ref x), .val (.int (3 : Int32))] [(.int (3 : Int32)), (.ref x)]))
  obtain ⟨cq_38, kq_38, q_38a, q_38b, q_38c⟩ := isOf hZ_30 eh_37 E0'_32
  obtain ⟨_, T_38, L_38, Q_38, X_38, st_38⟩ := own_callV X_37 hx (z := (⟨"java/lang/String", "charAt", "(I)C"⟩ : MethodName)) hown_30 (mvT hZ_30 (own_w hw 61 rfl)) (mvT hZ_30 (own_w hw 62 rfl)) (notFace_of_selects (args := #[]) (mvT hZ_30 (own_w hw 64 rfl))) (mvT hZ_30 (own_w hw 64 rfl)) (mvT hZ_30 (own_w hw 63 rfl)) (by decide) (Q := (fun v h' L => v = some (.int (([c0, c1, c2, c3] : List Int32).getD 3 0)) ∧ L = [] ∧ h' = T_30.heap)) (StrChars.Road.chN (W := 0) hZ_30 hChN (kI := 4) (own_w hw 6 rfl) E0'_32 V0'_33 C0'_34 K0'_35 hcd hbd (O2.ext O_36d.2) P5 (O4.ext O_36d.2) rfm (Nat.le_of_ble_eq_true rfl) (i := 3) (Nat.le_of_ble_eq_true rfl) (j := (3 : Int32)) rfl (by decide) (by decide)) q_38a q_38c (g := (mkF m 36 #[.val (.ref x), .val (.int (3 : Int32))] [(.int (3 : Int32)), (.ref x)])) rfl (by rw [hml]; rfl) (argsL := [(.int (3 : Int32))]) (rest := []) (lenOf pd_8 rfl) rfl (by show 2 * 0 + _ ≤ _; exact Nat.le_of_eq rfl) (hb hby d_rm_rv4_36) eh_37 rfl (by decide) (by decide)
  obtain ⟨rfl, rfl, eh_38⟩ := Q_38
  refine own_G.via st_38 ?_
  have N_38 := Fr.app N_37 (Fr.nil n0)
  show own_G _ _ _ _ (T_38.setTop (mkF m 39 #[.val (.ref x), .val (.int (3 : Int32))] [(.int c3)]))
  obtain ⟨_, T_39, L_39, Q_39, X_39, hS_39, hZ_39, hown_39, st_39⟩ := own_callSW X_38 hx hS_30 (Nat.le_refl _) hZ_30 hown_30 (mvT hZ_30 (own_w hw 83 rfl)) (mvT hZ_30 (own_w hw 84 rfl)) (mvT hZ_30 (own_w hw 37 rfl)) (mvT hZ_30 (own_w hw 85 rfl)) (by decide) (Q := (fun v (U : State) L => Qnch T_30.heap n0 v U.heap L ∧ CHr Z own_EL T_30.vm T_30.heap U.vm U.heap)) (own_backSH (backOfSH (W := 0) (rm_inc l Z a0 hw [] c3 zc T_30.heap n0 (Nat.le_trans Z0 (Nat.le_trans (Nat.le_trans (Nat.le_trans E_1.1 K_12.1) K_21.1) K_30.1)) nn3 O2 P5 O_36d) hZ_30 (own_w hw 85 rfl) (own_w hw 37 rfl) (by decide) (by decide) hEW CH_31.1)) (g := (mkF m 39 #[.val (.ref x), .val (.int (3 : Int32))] [(.int c3)])) rfl (by rw [hml]; rfl) (argsL := [(.int c3)]) (rest := []) (lenOf pd_9 rfl) rfl (by show 2 * 0 + _ ≤ _; exact Nat.le_of_eq rfl) (hb hby d_rm_rv4_39) eh_38 rfl (by decide) (by decide)
  obtain ⟨⟨rfl, Nq_39, K_39⟩, Ch_39⟩ := Q_39
  refine own_G.via st_39 ?_
  have CH_40 : CHr Z own_EL s.vm h0 T_39.vm T_39.heap := CH_31.trans Ch_39
  have N_39 := Fr.app N_38 Nq_39
  show own_G _ _ _ _ (T_39.setTop (mkF m 42 #[.val (.ref x), .val (.int (3 : Int32))] [(.int (1 : Int32))]))
  refine own_G.go (fun t_ k_ => XS.ifYes X_39.here hx rfl (pc0 := 42) (pc' := 80) rfl (hb hby d_rm_rv4_42) rfl ((if0 _ _).trans (feq (by decide : ¬ ((1 : Int32) = (0 : Int32)))).2) (by decide) (by decide) k_) ?_
  show own_G _ _ _ _ (T_39.setTop (mkF m 80 #[.val (.ref x), .val (.int (3 : Int32))] []))
  refine own_G.go (fun t_ k_ => XS.iinc X_39.here hx rfl (hb hby d_rm_rv4_80) rfl (l' := #[.val (.ref x), .val (.int (4 : Int32))]) rfl k_) ?_
  show own_G _ _ _ _ (T_39.setTop (mkF m 83 #[.val (.ref x), .val (.int (4 : Int32))] []))
  refine own_G.go (fun t_ k_ => XS.goto X_39.here hx rfl (pc0 := 83) (pc' := 26) rfl (hb hby d_rm_rv4_83) (by decide) (by decide) k_) ?_
  show own_G _ _ _ _ (T_39.setTop (mkF m 26 #[.val (.ref x), .val (.int (4 : Int32))] []))
  refine own_G.go (fun t_ k_ => XS.iloadN X_39.here hx rfl (hb hby d_rm_rv4_26) rfl k_) ?_
  show own_G _ _ _ _ (T_39.setTop (mkF m 27 #[.val (.ref x), .val (.int (4 : Int32))] [(.int (4 : Int32))]))
  refine own_G.go (fun t_ k_ => XS.aloadN X_39.here hx rfl (hb hby d_rm_rv4_27) rfl rfl k_) ?_
  show own_G _ _ _ _ (T_39.setTop (mkF m 28 #[.val (.ref x), .val (.int (4 : Int32))] [(.ref x), (.int (4 : Int32))]))
  have E0'_41 : Exa Z T_39.heap x "java/lang/String" := (E0'_32.keep K_39)
  have V0'_42 : Fld Z T_39.heap x "java/lang/String" "value" "[B" (.ref t) := (V0'_33.keep K_39 nin0)
  have C0'_43 : Fld Z T_39.heap x "java/lang/String" "coder" "B" (.int 0) := (C0'_34.keep K_39 nin0)
  have K0'_44 : Arv Z T_39.heap t kb .byte (4 : Int32) ((([c0, c1, c2, c3] : List Int32).map (fun c => c.toInt8.toInt32)).map Value.int) (.int 0) := (K0'_35.keep K_39 nin0)
  have O_45d : Old Z n0 T_39.heap := (O_36d.keep K_39 all0)
  obtain ⟨cq_46, kq_46, q_46a, q_46b, q_46c⟩ := isOf hZ_39 rfl E0'_41
  obtain ⟨_, T_46, L_46, Q_46, X_46, st_46⟩ := own_callV X_39 hx (z := (⟨"java/lang/String", "length", "()I"⟩ : MethodName)) hown_39 (mvT hZ_39 (own_w hw 51 rfl)) (mvT hZ_39 (own_w hw 52 rfl)) (notFace_of_selects (args := #[]) (mvT hZ_39 (own_w hw 54 rfl))) (mvT hZ_39 (own_w hw 54 rfl)) (mvT hZ_39 (own_w hw 53 rfl)) (by decide) (Q := (fun v h' L => v = some (.int (Int32.ofNat ([c0, c1, c2, c3] : List Int32).length)) ∧ L = [] ∧ h' = T_39.heap)) (StrChars.Road.lenW (W := 1) hZ_39 hLen (kI := 4) (own_w hw 6 rfl) E0'_41 V0'_42 C0'_43 K0'_44 hcd hbd (O2.ext O_45d.2) P5 (Nat.le_of_ble_eq_true rfl) (by decide) (by decide)) q_46a q_46c (g := (mkF m 28 #[.val (.ref x), .val (.int (4 : Int32))] [(.ref x), (.int (4 : Int32))])) rfl (by rw [hml]; rfl) (argsL := []) (rest := [(.int (4 : Int32))]) (lenOf pd_5 rfl) rfl (by show 2 * 0 + _ ≤ _; exact Nat.le_of_eq rfl) (hb hby d_rm_rv4_28) rfl rfl (by decide) (by decide)
  obtain ⟨rfl, rfl, eh_46⟩ := Q_46
  refine own_G.via st_46 ?_
  have N_46 := Fr.app N_39 (Fr.nil n0)
  show own_G _ _ _ _ (T_46.setTop (mkF m 31 #[.val (.ref x), .val (.int (4 : Int32))] [(.int (4 : Int32)), (.int (4 : Int32))]))
  refine own_G.go (fun t_ k_ => XS.icmpYes X_46.here hx rfl (pc0 := 31) (pc' := 86) rfl (hb hby d_rm_rv4_31) rfl (flt (by decide : ¬ ((4 : Int32) < (4 : Int32)))).2.1 (by decide) (by decide) k_) ?_
  show own_G _ _ _ _ (T_46.setTop (mkF m 86 #[.val (.ref x), .val (.int (4 : Int32))] []))
  refine own_G.go (fun t_ k_ => XS.aloadN X_46.here hx rfl (hb hby d_rm_rv4_86) rfl rfl k_) ?_
  show own_G _ _ _ _ (T_46.setTop (mkF m 87 #[.val (.ref x), .val (.int (4 : Int32))] [(.ref x)]))
  obtain ⟨cq_47, kq_47, q_47a, q_47b, q_47c⟩ := isOf hZ_39 eh_46 E0'_41
  obtain ⟨_, T_47, L_47, Q_47, X_47, st_47⟩ := own_callV X_46 hx (z := (⟨"java/lang/String", "length", "()I"⟩ : MethodName)) hown_39 (mvT hZ_39 (own_w hw 51 rfl)) (mvT hZ_39 (own_w hw 52 rfl)) (notFace_of_selects (args := #[]) (mvT hZ_39 (own_w hw 54 rfl))) (mvT hZ_39 (own_w hw 54 rfl)) (mvT hZ_39 (own_w hw 53 rfl)) (by decide) (Q := (fun v h' L => v = some (.int (Int32.ofNat ([c0, c1, c2, c3] : List Int32).length)) ∧ L = [] ∧ h' = T_39.heap)) (StrChars.Road.lenW (W := 0) hZ_39 hLen (kI := 4) (own_w hw 6 rfl) E0'_41 V0'_42 C0'_43 K0'_44 hcd hbd (O2.ext O_45d.2) P5 (Nat.le_of_ble_eq_true rfl) (by decide) (by decide)) q_47a q_47c (g := (mkF m 87 #[.val (.ref x), .val (.int (4 : Int32))] [(.ref x)])) rfl (by rw [hml]; rfl) (argsL := []) (rest := []) (lenOf pd_5 rfl) rfl (by show 2 * 0 + _ ≤ _; exact Nat.le_of_eq rfl) (hb hby d_rm_rv4_87) eh_46 rfl (by decide) (by decide)
  obtain ⟨rfl, rfl, eh_47⟩ := Q_47
  refine own_G.via st_47 ?_
  have N_47 := Fr.app N_46 (Fr.nil n0)
  show own_G _ _ _ _ (T_47.setTop (mkF m 90 #[.val (.ref x), .val (.int (4 : Int32))] [(.int (4 : Int32))]))
  refine own_G.go (fun t_ k_ => XS.sipush X_47.here hx rfl (hb hby d_rm_rv4_90) k_) ?_
  show own_G _ _ _ _ (T_47.setTop (mkF m 93 #[.val (.ref x), .val (.int (4 : Int32))] [(.int (191 : Int32)), (.int (4 : Int32))]))
  refine own_G.go (fun t_ k_ => XS.icmpYes X_47.here hx rfl (pc0 := 93) (pc' := 113) rfl (hb hby d_rm_rv4_93) rfl (flt (by decide : ¬ ((191 : Int32) < (4 : Int32)))).2.2.2 (by decide) (by decide) k_) ?_
  show own_G _ _ _ _ (T_47.setTop (mkF m 113 #[.val (.ref x), .val (.int (4 : Int32))] []))
  refine own_G.go (fun t_ k_ => XS.aloadN X_47.here hx rfl (hb hby d_rm_rv4_113) rfl rfl k_) ?_
  show own_G _ _ _ _ (T_47.setTop (mkF m 114 #[.val (.ref x), .val (.int (4 : Int32))] [(.ref x)]))
  exact own_G.endH X_47 hS_39 (Nat.le_refl _) hZ_39 hEW (hh ▸ CH_40) hlk (v := (some (.ref x))) (fun h => by rw [hrt] at h; cases h) (fun fs hr => retOut X_47 hx hrt rfl (Or.inr (Or.inr (Or.inr (Or.inr ⟨rfl, rfl, rfl⟩)))) (hb hby d_rm_rv4_114) hr) eh_47 ⟨rfl, N_47, ((((((Keep.refl h0 []).ext E_1).trans K_12 all0).trans K_21 all0).trans K_30 all0).trans K_39 all0)⟩ (by decide) (by decide)
def Qlaw (n0 : Nat) (v : Option Value) (h : Heap) (L : List Loc) : Prop := v = some (.int 1) ∧ Fr n0 L
theorem pd_10 : parseMethodDescriptor "([C)V" = some ⟨[(.array .char)], none⟩ := by decide +kernel
theorem pd_11 : parseMethodDescriptor "(Ljava/lang/String;)Ljava/lang/String;" = some ⟨[(.object "java/lang/String")], some (.object "java/lang/String")⟩ := by decide +kernel
set_option maxRecDepth 65536 in
set_option maxHeartbeats 40000000 in
theorem rm_law (l : Launch) (Z : State) (a0 : Array Value) (hw : ∀ d ∈ tables_1, d.before a0 Z = true) (ws : List Jvm.Cond) (p0 p1 p2 p3 p4 : Int32) (zc : Int32) (fm : Value) (h0 : Heap) (n0 : Nat) (Z0 : n0 ≤ h0.size) (O2 : Sta Z Z.heap "java/lang/String" "COMPACT_STRINGS" "Z" (.int zc)) (O4 : Sta Z Z.heap "jdk/internal/util/Preconditions" "SIOOBE_FORMATTER" "Ljava/util/function/BiFunction;" fm) (P5 : ¬ (zc = (0 : Int32))) (rfm : fm.isRef = true) (X00 : Old Z n0 h0) :
    MetFree l x (head1 (Jvm.Cond.code x code maxLocals ret :: ws) room_1) (fun a_ U => a_ = #[(.int p0), (.int p1), (.int p2), (.int p3), (.int p4)] ∧ Z.Warmed39 U.vm ∧ U.heap = h0 ∧ CHv Z own_EL U.vm h0) (fun _ _ _ _ _ => True) (fun _ U o U' => ∃ v L, o = .returned v ∧ Qlaw n0 v U'.heap L ∧ CHr Z own_EL U.vm U.heap U'.vm U'.heap ∧ ReturnedEndW U o U' L room_1.cells room_1.slots) := by
  refine MetFree.of_bodySF (plainFor_of_name pn_1) hisR ?_
  intro p e s m args below meth c s₁ Bd hml0 hP hK
  obtain ⟨rfl, hZ, hh, hCH⟩ := hP
  have hx := Bd.exec
  have hby := Bd.bytes
  have hrt := Bd.returns
  have hlk : meth.locks = false := Bd.notSynchronized
  have hml : c.maxLocals = 12 := hml0
  have hown : s.vm.findClass "com/example/lease_lock/leaselock/LeaseLimitsRequireValidNamePinLaw" = some m.cls := findClass_of_methodNamed Bd.named
  have hnm := (name_of_methodNamed Bd.named Bd.method).1
  have X0 : Stand p l e room_1 (s.setVm s.vm) m #[(.int p0), (.int p1), (.int p2), (.int p3), (.int p4)] below meth c s₁ [] 0 0 := Stand.of_body Bd
  have e0 : s₁.heap = h0 := by rw [← hh, Bd.state]; rfl
  have N0 := Fr.nil n0
  have hS0 : s.Since s.vm 0 := own_since s 0
  have hstr : ∀ d ∈ Bundle.stringAtoms, d.before a0 Z = true := fun d hd => hw d ((by decide +kernel : ∀ d ∈ Bundle.stringAtoms, d ∈ tables_1) d hd)
  have hEW : EW Z a0 own_EL := own_EW hw
  have CH0 : CHr Z own_EL s.vm h0 s.vm h0 := CHr.refl hCH
  show own_G p.tables e below (fun o t => ∃ v L, o = .returned v ∧ Qlaw n0 v t.heap L ∧ CHr Z own_EL s.vm s.heap t.vm t.heap ∧ ReturnedEndW s o t L room_1.cells room_1.slots) (s₁.setTop (entryFrame m #[(.int p0), (.int p1), (.int p2), (.int p3), (.int p4)] maxLocals))
  refine own_G.cast (show entryFrame m #[(.int p0), (.int p1), (.int p2), (.int p3), (.int p4)] maxLocals = mkF m 0 #[.val (.int p0), .val (.int p1), .val (.int p2), .val (.int p3), .val (.int p4), .unset, .unset, .unset, .unset, .unset, .unset, .unset] [] from by first | (simp [entryFrame, mkF, argsToLocals, Value.category, maxLocals]; done) | rfl) ?_
  have hws : ∀ d ∈ StrChars.Road.words, d.before a0 Z = true := fun d hd => hw d ((by decide +kernel : ∀ d ∈ StrChars.Road.words, d ∈ tables_1) d hd)
  have hln : ∀ d ∈ StrChars.Road.wordsLen, d.before a0 Z = true := fun d hd => hw d ((by decide +kernel : ∀ d ∈ StrChars.Road.wordsLen, d ∈ tables_1) d hd)
  refine own_G.go (fun t_ k_ => XS.iloadN X0.here hx rfl (hb hby at_0) rfl k_) ?_
  show own_G _ _ _ _ (s₁.setTop (mkF m 1 #[.val (.int p0), .val (.int p1), .val (.int p2), .val (.int p3), .val (.int p4), .unset, .unset, .unset, .unset, .unset, .unset, .unset] [(.int p0)]))
  refine own_G.go (fun t_ k_ => XS.iconst X0.here hx rfl (hb hby at_1) k_) ?_
  show own_G _ _ _ _ (s₁.setTop (mkF m 2 #[.val (.int p0), .val (.int p1), .val (.int p2), .val (.int p3), .val (.int p4), .unset, .unset, .unset, .unset, .unset, .unset, .unset] [(.int (3 : Int32)), (.int p0)]))
  refine own_G.go (fun t_ k_ => XS.iand X0.here hx rfl (hb hby at_2) rfl k_) ?_
  show own_G _ _ _ _ (s₁.setTop (mkF m 3 #[.val (.int p0), .val (.int p1), .val (.int p2), .val (.int p3), .val (.int p4), .unset, .unset, .unset, .unset, .unset, .unset, .unset] [(.int (p0 &&& (3 : Int32)))]))
  refine own_G.go (fun t_ k_ => XS.iconst X0.here hx rfl (hb hby at_3) k_) ?_
  show own_G _ _ _ _ (s₁.setTop (mkF m 4 #[.val (.int p0), .val (.int p1), .val (.int p2), .val (.int p3), .val (.int p4), .unset, .unset, .unset, .unset, .unset, .unset, .unset] [(.int (1 : Int32)), (.int (p0 &&& (3 : Int32)))]))
  refine own_G.go (fun t_ k_ => XS.iadd X0.here hx rfl (hb hby at_4) rfl k_) ?_
  show own_G _ _ _ _ (s₁.setTop (mkF m 5 #[.val (.int p0), .val (.int p1), .val (.int p2), .val (.int p3), .val (.int p4), .unset, .unset, .unset, .unset, .unset, .unset, .unset] [(.int ((p0 &&& (3 : Int32)) + (1 : Int32)))]))
  refine own_G.go (fun t_ k_ => XS.istore X0.here hx rfl (hb hby at_5) rfl (l' := #[.val (.int p0), .val (.int p1), .val (.int p2), .val (.int p3), .val (.int p4), .val (.int ((p0 &&& (3 : Int32)) + (1 : Int32))), .unset, .unset, .unset, .unset, .unset, .unset]) rfl k_) ?_
  show own_G _ _ _ _ (s₁.setTop (mkF m 7 #[.val (.int p0), .val (.int p1), .val (.int p2), .val (.int p3), .val (.int p4), .val (.int ((p0 &&& (3 : Int32)) + (1 : Int32))), .unset, .unset, .unset, .unset, .unset, .unset] []))
  refine own_G.go (fun t_ k_ => XS.iloadN X0.here hx rfl (hb hby at_7) rfl k_) ?_
  show own_G _ _ _ _ (s₁.setTop (mkF m 8 #[.val (.int p0), .val (.int p1), .val (.int p2), .val (.int p3), .val (.int p4), .val (.int ((p0 &&& (3 : Int32)) + (1 : Int32))), .unset, .unset, .unset, .unset, .unset, .unset] [(.int p1)]))
  obtain ⟨_, T_1, L_1, Q_1, X_1, st_1⟩ := own_callS X0 hx hown (mvT hZ (own_w hw 0 rfl)) (mvT hZ (own_w hw 1 rfl)) (mvT hZ (own_w hw 2 rfl)) (mvT hZ (own_w hw 3 rfl)) (by decide) (Q := (Qnc h0)) (backOf (W := 0) (rm_nc l Z a0 hw [] p1 h0 n0 Z0 ) hZ (own_w hw 3 rfl) (own_w hw 2 rfl) (by decide) (by decide)) (g := (mkF m 8 #[.val (.int p0), .val (.int p1), .val (.int p2), .val (.int p3), .val (.int p4), .val (.int ((p0 &&& (3 : Int32)) + (1 : Int32))), .unset, .unset, .unset, .unset, .unset, .unset] [(.int p1)])) rfl (by rw [hml]; rfl) (argsL := [(.int p1)]) (rest := []) (lenOf pd_8 rfl) rfl (by show 2 * 0 + _ ≤ _; exact Nat.le_of_eq rfl) (hb hby at_8) e0 rfl (by decide) (by decide)
  obtain ⟨⟨c_1, rfl, hn_1⟩, rfl, eh_1⟩ := Q_1
  refine own_G.via st_1 ?_
  have N_1 := Fr.app N0 (Fr.nil n0)
  show own_G _ _ _ _ (T_1.setTop (mkF m 11 #[.val (.int p0), .val (.int p1), .val (.int p2), .val (.int p3), .val (.int p4), .val (.int ((p0 &&& (3 : Int32)) + (1 : Int32))), .unset, .unset, .unset, .unset, .unset, .unset] [(.int c_1)]))
  refine own_G.go (fun t_ k_ => XS.istore X_1.here hx rfl (hb hby at_11) rfl (l' := #[.val (.int p0), .val (.int p1), .val (.int p2), .val (.int p3), .val (.int p4), .val (.int ((p0 &&& (3 : Int32)) + (1 : Int32))), .val (.int c_1), .unset, .unset, .unset, .unset, .unset]) rfl k_) ?_
  show own_G _ _ _ _ (T_1.setTop (mkF m 13 #[.val (.int p0), .val (.int p1), .val (.int p2), .val (.int p3), .val (.int p4), .val (.int ((p0 &&& (3 : Int32)) + (1 : Int32))), .val (.int c_1), .unset, .unset, .unset, .unset, .unset] []))
  refine own_G.go (fun t_ k_ => XS.iloadN X_1.here hx rfl (hb hby at_13) rfl k_) ?_
  show own_G _ _ _ _ (T_1.setTop (mkF m 14 #[.val (.int p0), .val (.int p1), .val (.int p2), .val (.int p3), .val (.int p4), .val (.int ((p0 &&& (3 : Int32)) + (1 : Int32))), .val (.int c_1), .unset, .unset, .unset, .unset, .unset] [(.int p2)]))
  obtain ⟨_, T_2, L_2, Q_2, X_2, st_2⟩ := own_callS X_1 hx hown (mvT hZ (own_w hw 0 rfl)) (mvT hZ (own_w hw 1 rfl)) (mvT hZ (own_w hw 2 rfl)) (mvT hZ (own_w hw 3 rfl)) (by decide) (Q := (Qnc h0)) (backOf (W := 0) (rm_nc l Z a0 hw [] p2 h0 n0 Z0 ) hZ (own_w hw 3 rfl) (own_w hw 2 rfl) (by decide) (by decide)) (g := (mkF m 14 #[.val (.int p0), .val (.int p1), .val (.int p2), .val (.int p3), .val (.int p4), .val (.int ((p0 &&& (3 : Int32)) + (1 : Int32))), .val (.int c_1), .unset, .unset, .unset, .unset, .unset] [(.int p2)])) rfl (by rw [hml]; rfl) (argsL := [(.int p2)]) (rest := []) (lenOf pd_8 rfl) rfl (by show 2 * 0 + _ ≤ _; exact Nat.le_of_eq rfl) (hb hby at_14) eh_1 rfl (by decide) (by decide)
  obtain ⟨⟨c_2, rfl, hn_2⟩, rfl, eh_2⟩ := Q_2
  refine own_G.via st_2 ?_
  have N_2 := Fr.app N_1 (Fr.nil n0)
  show own_G _ _ _ _ (T_2.setTop (mkF m 17 #[.val (.int p0), .val (.int p1), .val (.int p2), .val (.int p3), .val (.int p4), .val (.int ((p0 &&& (3 : Int32)) + (1 : Int32))), .val (.int c_1), .unset, .unset, .unset, .unset, .unset] [(.int c_2)]))
  refine own_G.go (fun t_ k_ => XS.istore X_2.here hx rfl (hb hby at_17) rfl (l' := #[.val (.int p0), .val (.int p1), .val (.int p2), .val (.int p3), .val (.int p4), .val (.int ((p0 &&& (3 : Int32)) + (1 : Int32))), .val (.int c_1), .val (.int c_2), .unset, .unset, .unset, .unset]) rfl k_) ?_
  show own_G _ _ _ _ (T_2.setTop (mkF m 19 #[.val (.int p0), .val (.int p1), .val (.int p2), .val (.int p3), .val (.int p4), .val (.int ((p0 &&& (3 : Int32)) + (1 : Int32))), .val (.int c_1), .val (.int c_2), .unset, .unset, .unset, .unset] []))
  refine own_G.go (fun t_ k_ => XS.iloadN X_2.here hx rfl (hb hby at_19) rfl k_) ?_
  show own_G _ _ _ _ (T_2.setTop (mkF m 20 #[.val (.int p0), .val (.int p1), .val (.int p2), .val (.int p3), .val (.int p4), .val (.int ((p0 &&& (3 : Int32)) + (1 : Int32))), .val (.int c_1), .val (.int c_2), .unset, .unset, .unset, .unset] [(.int p3)]))
  obtain ⟨_, T_3, L_3, Q_3, X_3, st_3⟩ := own_callS X_2 hx hown (mvT hZ (own_w hw 0 rfl)) (mvT hZ (own_w hw 1 rfl)) (mvT hZ (own_w hw 2 rfl)) (mvT hZ (own_w hw 3 rfl)) (by decide) (Q := (Qnc h0)) (backOf (W := 0) (rm_nc l Z a0 hw [] p3 h0 n0 Z0 ) hZ (own_w hw 3 rfl) (own_w hw 2 rfl) (by decide) (by decide)) (g := (mkF m 20 #[.val (.int p0), .val (.int p1), .val (.int p2), .val (.int p3), .val (.int p4), .val (.int ((p0 &&& (3 : Int32)) + (1 : Int32))), .val (.int c_1), .val (.int c_2), .unset, .unset, .unset, .unset] [(.int p3)])) rfl (by rw [hml]; rfl) (argsL := [(.int p3)]) (rest := []) (lenOf pd_8 rfl) rfl (by show 2 * 0 + _ ≤ _; exact Nat.le_of_eq rfl) (hb hby at_20) eh_2 rfl (by decide) (by decide)
  obtain ⟨⟨c_3, rfl, hn_3⟩, rfl, eh_3⟩ := Q_3
  refine own_G.via st_3 ?_
  have N_3 := Fr.app N_2 (Fr.nil n0)
  show own_G _ _ _ _ (T_3.setTop (mkF m 23 #[.val (.int p0), .val (.int p1), .val (.int p2), .val (.int p3), .val (.int p4), .val (.int ((p0 &&& (3 : Int32)) + (1 : Int32))), .val (.int c_1), .val (.int c_2), .unset, .unset, .unset, .unset] [(.int c_3)]))
  refine own_G.go (fun t_ k_ => XS.istore X_3.here hx rfl (hb hby at_23) rfl (l' := #[.val (.int p0), .val (.int p1), .val (.int p2), .val (.int p3), .val (.int p4), .val (.int ((p0 &&& (3 : Int32)) + (1 : Int32))), .val (.int c_1), .val (.int c_2), .val (.int c_3), .unset, .unset, .unset]) rfl k_) ?_
  show own_G _ _ _ _ (T_3.setTop (mkF m 25 #[.val (.int p0), .val (.int p1), .val (.int p2), .val (.int p3), .val (.int p4), .val (.int ((p0 &&& (3 : Int32)) + (1 : Int32))), .val (.int c_1), .val (.int c_2), .val (.int c_3), .unset, .unset, .unset] []))
  refine own_G.go (fun t_ k_ => XS.iload X_3.here hx rfl (hb hby at_25) rfl k_) ?_
  show own_G _ _ _ _ (T_3.setTop (mkF m 27 #[.val (.int p0), .val (.int p1), .val (.int p2), .val (.int p3), .val (.int p4), .val (.int ((p0 &&& (3 : Int32)) + (1 : Int32))), .val (.int c_1), .val (.int c_2), .val (.int c_3), .unset, .unset, .unset] [(.int p4)]))
  obtain ⟨_, T_4, L_4, Q_4, X_4, st_4⟩ := own_callS X_3 hx hown (mvT hZ (own_w hw 0 rfl)) (mvT hZ (own_w hw 1 rfl)) (mvT hZ (own_w hw 2 rfl)) (mvT hZ (own_w hw 3 rfl)) (by decide) (Q := (Qnc h0)) (backOf (W := 0) (rm_nc l Z a0 hw [] p4 h0 n0 Z0 ) hZ (own_w hw 3 rfl) (own_w hw 2 rfl) (by decide) (by decide)) (g := (mkF m 27 #[.val (.int p0), .val (.int p1), .val (.int p2), .val (.int p3), .val (.int p4), .val (.int ((p0 &&& (3 : Int32)) + (1 : Int32))), .val (.int c_1), .val (.int c_2), .val (.int c_3), .unset, .unset, .unset] [(.int p4)])) rfl (by rw [hml]; rfl) (argsL := [(.int p4)]) (rest := []) (lenOf pd_8 rfl) rfl (by show 2 * 0 + _ ≤ _; exact Nat.le_of_eq rfl) (hb hby at_27) eh_3 rfl (by decide) (by decide)
  obtain ⟨⟨c_4, rfl, hn_4⟩, rfl, eh_4⟩ := Q_4
  refine own_G.via st_4 ?_
  have N_4 := Fr.app N_3 (Fr.nil n0)
  show own_G _ _ _ _ (T_4.setTop (mkF m 30 #[.val (.int p0), .val (.int p1), .val (.int p2), .val (.int p3), .val (.int p4), .val (.int ((p0 &&& (3 : Int32)) + (1 : Int32))), .val (.int c_1), .val (.int c_2), .val (.int c_3), .unset, .unset, .unset] [(.int c_4)]))
  refine own_G.go (fun t_ k_ => XS.istore X_4.here hx rfl (hb hby at_30) rfl (l' := #[.val (.int p0), .val (.int p1), .val (.int p2), .val (.int p3), .val (.int p4), .val (.int ((p0 &&& (3 : Int32)) + (1 : Int32))), .val (.int c_1), .val (.int c_2), .val (.int c_3), .val (.int c_4), .unset, .unset]) rfl k_) ?_
  show own_G _ _ _ _ (T_4.setTop (mkF m 32 #[.val (.int p0), .val (.int p1), .val (.int p2), .val (.int p3), .val (.int p4), .val (.int ((p0 &&& (3 : Int32)) + (1 : Int32))), .val (.int c_1), .val (.int c_2), .val (.int c_3), .val (.int c_4), .unset, .unset] []))
  refine own_G.go (fun t_ k_ => XS.iload X_4.here hx rfl (hb hby at_32) rfl k_) ?_
  show own_G _ _ _ _ (T_4.setTop (mkF m 34 #[.val (.int p0), .val (.int p1), .val (.int p2), .val (.int p3), .val (.int p4), .val (.int ((p0 &&& (3 : Int32)) + (1 : Int32))), .val (.int c_1), .val (.int c_2), .val (.int c_3), .val (.int c_4), .unset, .unset] [(.int ((p0 &&& (3 : Int32)) + (1 : Int32)))]))
  refine own_G.go (fun t_ k_ => XS.iconst X_4.here hx rfl (hb hby at_34) k_) ?_
  show own_G _ _ _ _ (T_4.setTop (mkF m 35 #[.val (.int p0), .val (.int p1), .val (.int p2), .val (.int p3), .val (.int p4), .val (.int ((p0 &&& (3 : Int32)) + (1 : Int32))), .val (.int c_1), .val (.int c_2), .val (.int c_3), .val (.int c_4), .unset, .unset] [(.int (1 : Int32)), (.int ((p0 &&& (3 : Int32)) + (1 : Int32)))]))
  by_cases hl1 : ((p0 &&& (3 : Int32)) + (1 : Int32)) = (1 : Int32)
  · refine own_G.go (fun t_ k_ => XS.icmpNo X_4.here hx rfl (hb hby at_35) rfl (teq hl1).2 k_) ?_
    show own_G _ _ _ _ (T_4.setTop (mkF m 38 #[.val (.int p0), .val (.int p1), .val (.int p2), .val (.int p3), .val (.int p4), .val (.int ((p0 &&& (3 : Int32)) + (1 : Int32))), .val (.int c_1), .val (.int c_2), .val (.int c_3), .val (.int c_4), .unset, .unset] []))
    obtain ⟨T_5, h_5, X_5, e_5, E_5, A_5, D_5, -, st_5⟩ := newO X_4 hx hZ hown (own_w hw 5 rfl) (own_w hw 6 rfl) (own_w hw 7 rfl) eh_4 (g := (mkF m 38 #[.val (.int p0), .val (.int p1), .val (.int p2), .val (.int p3), .val (.int p4), .val (.int ((p0 &&& (3 : Int32)) + (1 : Int32))), .val (.int c_1), .val (.int c_2), .val (.int c_3), .val (.int c_4), .unset, .unset] [])) rfl (hb hby at_38) (by decide) (by decide)
    obtain ⟨a_5, g_5⟩ : ∃ z, z = h0.size := ⟨_, rfl⟩
    rw [← g_5] at A_5 D_5 st_5
    refine own_G.go st_5 ?_
    have CH_6 : CHr Z own_EL s.vm h0 s.vm h_5 := CH0.trans (CHr.ext E_5 CH0.1)
    have Sn_5 : Safe Z own_EL s.vm h_5 a_5 := Safe.ext E_5 CH0.1 (Safe.new (Nat.le_of_eq g_5.symm))
    have F_5_coder : Fld Z h_5 a_5 "java/lang/String" "coder" "B" (.int (0 : Int32)) := D_5 (Or.inr (own_w hw 32 rfl)) (ty := .byte) (by decide)
    have F_5_value : Fld Z h_5 a_5 "java/lang/String" "value" "[B" .null := D_5 (Or.inr (own_w hw 34 rfl)) (ty := (.array .byte)) (by decide)
    show own_G _ _ _ _ (T_5.setTop (mkF m 41 #[.val (.int p0), .val (.int p1), .val (.int p2), .val (.int p3), .val (.int p4), .val (.int ((p0 &&& (3 : Int32)) + (1 : Int32))), .val (.int c_1), .val (.int c_2), .val (.int c_3), .val (.int c_4), .unset, .unset] [(.ref a_5)]))
    refine own_G.go (fun t_ k_ => XS.dup X_5.here hx rfl (hb hby at_41) rfl rfl k_) ?_
    show own_G _ _ _ _ (T_5.setTop (mkF m 42 #[.val (.int p0), .val (.int p1), .val (.int p2), .val (.int p3), .val (.int p4), .val (.int ((p0 &&& (3 : Int32)) + (1 : Int32))), .val (.int c_1), .val (.int c_2), .val (.int c_3), .val (.int c_4), .unset, .unset] [(.ref a_5), (.ref a_5)]))
    refine own_G.go (fun t_ k_ => XS.iconst X_5.here hx rfl (hb hby at_42) k_) ?_
    show own_G _ _ _ _ (T_5.setTop (mkF m 43 #[.val (.int p0), .val (.int p1), .val (.int p2), .val (.int p3), .val (.int p4), .val (.int ((p0 &&& (3 : Int32)) + (1 : Int32))), .val (.int c_1), .val (.int c_2), .val (.int c_3), .val (.int c_4), .unset, .unset] [(.int (1 : Int32)), (.ref a_5), (.ref a_5)]))
    obtain ⟨T_7, h_7, k_7, X_7, e_7, E_7, A_7, st_7⟩ := newP X_5 hx hZ (own_w hw 8 rfl) e_5 (g := (mkF m 43 #[.val (.int p0), .val (.int p1), .val (.int p2), .val (.int p3), .val (.int p4), .val (.int ((p0 &&& (3 : Int32)) + (1 : Int32))), .val (.int c_1), .val (.int c_2), .val (.int c_3), .val (.int c_4), .unset, .unset] [(.int (1 : Int32)), (.ref a_5), (.ref a_5)])) rfl (hb hby at_43) rfl (by decide : ¬ ((1 : Int32) < (0 : Int32))) (cap := 1) (by decide : ((1 : Int32)).toNatClampNeg ≤ 1) (by decide) (by decide) (by decide)
    obtain ⟨a_7, g_7⟩ : ∃ z, z = h_5.size := ⟨_, rfl⟩
    rw [← g_7] at A_7 st_7
    refine own_G.go st_7 ?_
    have Sf_8_a_5 : Safe Z own_EL s.vm h_7 a_5 := (Safe.ext E_7 CH_6.1 Sn_5)
    have CH_8 : CHr Z own_EL s.vm h0 s.vm h_7 := CH_6.trans (CHr.ext E_7 CH_6.1)
    have V_7 : Arv Z h_7 a_7 k_7 .char (1 : Int32) ([(.int (0 : Int32))] : List Value) (.int (0 : Int32)) := (Arv.new A_7 (by decide : ¬ ((1 : Int32) < (0 : Int32)))).pad (pad_rep [] (.int (0 : Int32)) 1)
    show own_G _ _ _ _ (T_7.setTop (mkF m 45 #[.val (.int p0), .val (.int p1), .val (.int p2), .val (.int p3), .val (.int p4), .val (.int ((p0 &&& (3 : Int32)) + (1 : Int32))), .val (.int c_1), .val (.int c_2), .val (.int c_3), .val (.int c_4), .unset, .unset] [(.ref a_7), (.ref a_5), (.ref a_5)]))
    refine own_G.go (fun t_ k_ => XS.dup X_7.here hx rfl (hb hby at_45) rfl rfl k_) ?_
    show own_G _ _ _ _ (T_7.setTop (mkF m 46 #[.val (.int p0), .val (.int p1), .val (.int p2), .val (.int p3), .val (.int p4), .val (.int ((p0 &&& (3 : Int32)) + (1 : Int32))), .val (.int c_1), .val (.int c_2), .val (.int c_3), .val (.int c_4), .unset, .unset] [(.ref a_7), (.ref a_7), (.ref a_5), (.ref a_5)]))
    refine own_G.go (fun t_ k_ => XS.iconst X_7.here hx rfl (hb hby at_46) k_) ?_
    show own_G _ _ _ _ (T_7.setTop (mkF m 47 #[.val (.int p0), .val (.int p1), .val (.int p2), .val (.int p3), .val (.int p4), .val (.int ((p0 &&& (3 : Int32)) + (1 : Int32))), .val (.int c_1), .val (.int c_2), .val (.int c_3), .val (.int c_4), .unset, .unset] [(.int (0 : Int32)), (.ref a_7), (.ref a_7), (.ref a_5), (.ref a_5)]))
    refine own_G.go (fun t_ k_ => XS.iload X_7.here hx rfl (hb hby at_47) rfl k_) ?_
    show own_G _ _ _ _ (T_7.setTop (mkF m 49 #[.val (.int p0), .val (.int p1), .val (.int p2), .val (.int p3), .val (.int p4), .val (.int ((p0 &&& (3 : Int32)) + (1 : Int32))), .val (.int c_1), .val (.int c_2), .val (.int c_3), .val (.int c_4), .unset, .unset] [(.int c_1), (.int (0 : Int32)), (.ref a_7), (.ref a_7), (.ref a_5), (.ref a_5)]))
    obtain ⟨T_9, h_9, X_9, e_9, W_9, V_9, st_9⟩ := own_stC X_7 hx hZ e_7 V_7 (j := (0 : Int32)) 0 (Nat.le_of_ble_eq_true rfl) (by decide) (by decide : ¬ ((0 : Int32) < (0 : Int32)) ∧ (0 : Int32) < (1 : Int32)) (g := (mkF m 49 #[.val (.int p0), .val (.int p1), .val (.int p2), .val (.int p3), .val (.int p4), .val (.int ((p0 &&& (3 : Int32)) + (1 : Int32))), .val (.int c_1), .val (.int c_2), .val (.int c_3), .val (.int c_4), .unset, .unset] [(.int c_1), (.int (0 : Int32)), (.ref a_7), (.ref a_7), (.ref a_5), (.ref a_5)])) rfl rfl (hb hby at_49)
    refine own_G.go st_9 ?_
    have Sf_10_a_5 : Safe Z own_EL s.vm h_9 a_5 := (Safe.wr W_9 (Safe.arv hZ.alike V_7 (by decide)) CH_8.1 Sf_8_a_5)
    have CH_10 : CHr Z own_EL s.vm h0 s.vm h_9 := CH_8.trans (CHr.wr W_9 (Safe.arv hZ.alike V_7 (by decide)) CH_8.1)
    have V_9q : Arv Z h_9 a_7 k_7 .char (1 : Int32) ([(.int (nar .char c_1))] : List Value) (.int (0 : Int32)) := V_9
    have g0_a_7 : n0 ≤ a_7 := Nat.le_trans (Nat.le_trans Z0 E_5.1) (Nat.le_of_eq g_7.symm)
    have N_9 := Fr.snoc X_9 N_4 g0_a_7
    show own_G _ _ _ _ (T_9.setTop (mkF m 50 #[.val (.int p0), .val (.int p1), .val (.int p2), .val (.int p3), .val (.int p4), .val (.int ((p0 &&& (3 : Int32)) + (1 : Int32))), .val (.int c_1), .val (.int c_2), .val (.int c_3), .val (.int c_4), .unset, .unset] [(.ref a_7), (.ref a_5), (.ref a_5)]))
    have VC : Arv Z h_9 a_7 k_7 .char (1 : Int32) ([(.int c_1)] : List Value) (.int (0 : Int32)) := by have q := V_9q; rw [own_narc hn_1.1] at q; exact q
    have hp : ∀ c ∈ ([c_1] : List Int32), own_b c := by
      intro c hc
      simp only [List.mem_cons, List.not_mem_nil, or_false] at hc
      rcases hc with rfl
      · exact hn_1.1
    have A_5'_11 : Exa Z h_9 a_5 "java/lang/String" := ((A_5.ext E_7).wr W_9)
    have F_5_value'_12 : Fld Z h_9 a_5 "java/lang/String" "value" "[B" .null := ((F_5_value.ext E_7).other W_9 (Or.inl (Nat.ne_of_lt (Nat.lt_of_lt_of_le A_5.lt (Nat.le_of_eq g_7.symm)))))
    have F_5_coder'_13 : Fld Z h_9 a_5 "java/lang/String" "coder" "B" (.int (0 : Int32)) := ((F_5_coder.ext E_7).other W_9 (Or.inl (Nat.ne_of_lt (Nat.lt_of_lt_of_le A_5.lt (Nat.le_of_eq g_7.symm)))))
    have g0_a_5 : n0 ≤ a_5 := Nat.le_trans Z0 (Nat.le_of_eq g_5.symm)
    have Z_14s : n0 ≤ h_9.size := (Nat.le_trans Z0 (Nat.le_trans (Nat.le_trans E_5.1 E_7.1) (Keep.of_wr W_9).1))
    have O_15d : Old Z n0 h_9 := (((X00.ext E_5).ext E_7).wr W_9 g0_a_7)
    obtain ⟨_, T_16, L_16, Q_16, X_16, st_16⟩ := own_callI X_9 hx rfl hown (mvT hZ (own_w hw 9 rfl)) (mvT hZ (own_w hw 10 rfl)) (mvT hZ (own_w hw 11 rfl)) (by decide) (Q := (StrChars.Road.QV Z a_5 (1 : Int32) (([c_1] : List Int32).map (fun c => c.toInt8.toInt32)) h_9 n0)) (StrChars.Road.backV (W := 1) hZ hws (kI := 4) (own_w hw 6 rfl) (cs := ([c_1] : List Int32)) (bs := ([c_1] : List Int32).map (fun c => c.toInt8.toInt32)) (n := 1) g0_a_5 Z_14s A_5'_11 F_5_value'_12 F_5_coder'_13 VC (O2.ext O_15d.2) P5 rfl rfl (by decide) (by decide) hp rfl (by decide) (by decide)) (a := a_5) (g := (mkF m 50 #[.val (.int p0), .val (.int p1), .val (.int p2), .val (.int p3), .val (.int p4), .val (.int ((p0 &&& (3 : Int32)) + (1 : Int32))), .val (.int c_1), .val (.int c_2), .val (.int c_3), .val (.int c_4), .unset, .unset] [(.ref a_7), (.ref a_5), (.ref a_5)])) rfl (by rw [hml]; rfl) (argsL := [(.ref a_7)]) (rest := [(.ref a_5)]) (lenOf pd_10 rfl) rfl (by show 2 * 0 + _ ≤ _; exact Nat.le_of_eq rfl) (hb hby at_50) e_9 rfl (by decide) (by decide)
    obtain ⟨rfl, Nq_16, K_16, Ex_16, Fc_16, t_16, kb_16, tn_16, th_16, tx_16, Fv_16, Kb_16⟩ := Q_16
    refine own_G.via st_16 ?_
    have Sf_17_a_5 : Safe Z own_EL s.vm T_16.heap a_5 := (Safe.keep K_16 (sfS Sf_10_a_5 sf0) CH_10.1 Sf_10_a_5)
    have CH_17 : CHr Z own_EL s.vm h0 s.vm T_16.heap := CH_10.trans (CHr.keep K_16 (sfS Sf_10_a_5 sf0) CH_10.1)
    have N_16 := Fr.app N_9 Nq_16
    have hcd := StrChars.Road.codOf (cs := ([c_1] : List Int32)) (n := 1) rfl (fun c hc => (hp c hc).2)
    have hbd := own_up _ hp
    show own_G _ _ _ _ (T_16.setTop (mkF m 53 #[.val (.int p0), .val (.int p1), .val (.int p2), .val (.int p3), .val (.int p4), .val (.int ((p0 &&& (3 : Int32)) + (1 : Int32))), .val (.int c_1), .val (.int c_2), .val (.int c_3), .val (.int c_4), .unset, .unset] [(.ref a_5)]))
    refine own_G.go (fun t_ k_ => XS.astore X_16.here hx rfl (hb hby at_53) rfl rfl (l' := #[.val (.int p0), .val (.int p1), .val (.int p2), .val (.int p3), .val (.int p4), .val (.int ((p0 &&& (3 : Int32)) + (1 : Int32))), .val (.int c_1), .val (.int c_2), .val (.int c_3), .val (.int c_4), .val (.ref a_5), .unset]) rfl k_) ?_
    show own_G _ _ _ _ (T_16.setTop (mkF m 55 #[.val (.int p0), .val (.int p1), .val (.int p2), .val (.int p3), .val (.int p4), .val (.int ((p0 &&& (3 : Int32)) + (1 : Int32))), .val (.int c_1), .val (.int c_2), .val (.int c_3), .val (.int c_4), .val (.ref a_5), .unset] []))
    refine own_G.go (fun t_ k_ => XS.goto X_16.here hx rfl (pc0 := 55) (pc' := 157) rfl (hb hby at_55) (by decide) (by decide) k_) ?_
    show own_G _ _ _ _ (T_16.setTop (mkF m 157 #[.val (.int p0), .val (.int p1), .val (.int p2), .val (.int p3), .val (.int p4), .val (.int ((p0 &&& (3 : Int32)) + (1 : Int32))), .val (.int c_1), .val (.int c_2), .val (.int c_3), .val (.int c_4), .val (.ref a_5), .unset] []))
    refine own_G.go (fun t_ k_ => XS.aload X_16.here hx rfl (hb hby at_157) rfl rfl k_) ?_
    show own_G _ _ _ _ (T_16.setTop (mkF m 159 #[.val (.int p0), .val (.int p1), .val (.int p2), .val (.int p3), .val (.int p4), .val (.int ((p0 &&& (3 : Int32)) + (1 : Int32))), .val (.int c_1), .val (.int c_2), .val (.int c_3), .val (.int c_4), .val (.ref a_5), .unset] [(.ref a_5)]))
    have O_18d : Old Z n0 T_16.heap := (O_15d.keep K_16 (allS g0_a_5 all0))
    obtain ⟨_, T_19, L_19, Q_19, X_19, hS_19, hZ_19, hown_19, st_19⟩ := own_callSW X_16 hx hS0 (Nat.le_trans (Nat.zero_le _) (Nat.le_trans (Nat.le_trans (Nat.le_trans E_5.1 E_7.1) (Keep.of_wr W_9).1) K_16.1)) hZ hown (mvT hZ (own_w hw 35 rfl)) (mvT hZ (own_w hw 36 rfl)) (mvT hZ (own_w hw 37 rfl)) (mvT hZ (own_w hw 38 rfl)) (by decide) (Q := (fun v (U : State) L => Qrv a_5 T_16.heap n0 v U.heap L ∧ CHr Z own_EL s.vm T_16.heap U.vm U.heap)) (own_backSH (backOfSH (W := 0) (rm_rv1 l Z a0 hw [] a_5 t_16 kb_16 c_1 zc fm T_16.heap n0 (Nat.le_trans Z_14s K_16.1) Ex_16 Fv_16 Fc_16 Kb_16 hn_1 O2 O4 P5 rfm O_18d) hZ (own_w hw 38 rfl) (own_w hw 37 rfl) (by decide) (by decide) hEW CH_17.1)) (g := (mkF m 159 #[.val (.int p0), .val (.int p1), .val (.int p2), .val (.int p3), .val (.int p4), .val (.int ((p0 &&& (3 : Int32)) + (1 : Int32))), .val (.int c_1), .val (.int c_2), .val (.int c_3), .val (.int c_4), .val (.ref a_5), .unset] [(.ref a_5)])) rfl (by rw [hml]; rfl) (argsL := [(.ref a_5)]) (rest := []) (lenOf pd_11 rfl) rfl (by show 2 * 0 + _ ≤ _; exact Nat.le_of_eq rfl) (hb hby at_159) rfl rfl (by decide) (by decide)
    obtain ⟨⟨rfl, Nq_19, K_19⟩, Ch_19⟩ := Q_19
    refine own_G.via st_19 ?_
    have Sf_20_a_5 : Safe Z own_EL T_19.vm T_19.heap a_5 := Ch_19.safe (Nat.lt_of_lt_of_le A_5.lt (Nat.le_trans (Nat.le_trans E_7.1 (Keep.of_wr W_9).1) K_16.1)) Sf_17_a_5
    have CH_20 : CHr Z own_EL s.vm h0 T_19.vm T_19.heap := CH_17.trans Ch_19
    have N_19 := Fr.app N_16 Nq_19
    show own_G _ _ _ _ (T_19.setTop (mkF m 162 #[.val (.int p0), .val (.int p1), .val (.int p2), .val (.int p3), .val (.int p4), .val (.int ((p0 &&& (3 : Int32)) + (1 : Int32))), .val (.int c_1), .val (.int c_2), .val (.int c_3), .val (.int c_4), .val (.ref a_5), .unset] [(.ref a_5)]))
    refine own_G.go (fun t_ k_ => XS.astore X_19.here hx rfl (hb hby at_162) rfl rfl (l' := #[.val (.int p0), .val (.int p1), .val (.int p2), .val (.int p3), .val (.int p4), .val (.int ((p0 &&& (3 : Int32)) + (1 : Int32))), .val (.int c_1), .val (.int c_2), .val (.int c_3), .val (.int c_4), .val (.ref a_5), .val (.ref a_5)]) rfl k_) ?_
    show own_G _ _ _ _ (T_19.setTop (mkF m 164 #[.val (.int p0), .val (.int p1), .val (.int p2), .val (.int p3), .val (.int p4), .val (.int ((p0 &&& (3 : Int32)) + (1 : Int32))), .val (.int c_1), .val (.int c_2), .val (.int c_3), .val (.int c_4), .val (.ref a_5), .val (.ref a_5)] []))
    refine own_G.go (fun t_ k_ => XS.aload X_19.here hx rfl (hb hby at_164) rfl rfl k_) ?_
    show own_G _ _ _ _ (T_19.setTop (mkF m 166 #[.val (.int p0), .val (.int p1), .val (.int p2), .val (.int p3), .val (.int p4), .val (.int ((p0 &&& (3 : Int32)) + (1 : Int32))), .val (.int c_1), .val (.int c_2), .val (.int c_3), .val (.int c_4), .val (.ref a_5), .val (.ref a_5)] [(.ref a_5)]))
    refine own_G.go (fun t_ k_ => XS.aload X_19.here hx rfl (hb hby at_166) rfl rfl k_) ?_
    show own_G _ _ _ _ (T_19.setTop (mkF m 168 #[.val (.int p0), .val (.int p1), .val (.int p2), .val (.int p3), .val (.int p4), .val (.int ((p0 &&& (3 : Int32)) + (1 : Int32))), .val (.int c_1), .val (.int c_2), .val (.int c_3), .val (.int c_4), .val (.ref a_5), .val (.ref a_5)] [(.ref a_5), (.ref a_5)]))
    refine own_G.go (fun t_ k_ => Jvm.RoadKit.acmp (g := (mkF m 168 #[.val (.int p0), .val (.int p1), .val (.int p2), .val (.int p3), .val (.int p4), .val (.int ((p0 &&& (3 : Int32)) + (1 : Int32))), .val (.int c_1), .val (.int c_2), .val (.int c_3), .val (.int c_4), .val (.ref a_5), .val (.ref a_5)] [(.ref a_5), (.ref a_5)])) X_19 hx rfl rfl rfl (pc0 := 168) (pc' := 171) (same := true) rfl (hb hby at_168) rfl (decide_eq_true (rfl : ((.ref a_5) : Value) = (.ref a_5))) (by decide) (by decide) k_) ?_
    show own_G _ _ _ _ (T_19.setTop (mkF m 171 #[.val (.int p0), .val (.int p1), .val (.int p2), .val (.int p3), .val (.int p4), .val (.int ((p0 &&& (3 : Int32)) + (1 : Int32))), .val (.int c_1), .val (.int c_2), .val (.int c_3), .val (.int c_4), .val (.ref a_5), .val (.ref a_5)] []))
    refine own_G.go (fun t_ k_ => XS.aload X_19.here hx rfl (hb hby at_171) rfl rfl k_) ?_
    show own_G _ _ _ _ (T_19.setTop (mkF m 173 #[.val (.int p0), .val (.int p1), .val (.int p2), .val (.int p3), .val (.int p4), .val (.int ((p0 &&& (3 : Int32)) + (1 : Int32))), .val (.int c_1), .val (.int c_2), .val (.int c_3), .val (.int c_4), .val (.ref a_5), .val (.ref a_5)] [(.ref a_5)]))
    have Ex_16'_21 : Exa Z T_19.heap a_5 "java/lang/String" := (Ex_16.keep K_19)
    have Fv_16'_22 : Fld Z T_19.heap a_5 "java/lang/String" "value" "[B" (.ref t_16) := (Fv_16.keep K_19 nin0)
    have Fc_16'_23 : Fld Z T_19.heap a_5 "java/lang/String" "coder" "B" (.int 0) := (Fc_16.keep K_19 nin0)
    have Kb_16'_24 : Arv Z T_19.heap t_16 kb_16 .byte (1 : Int32) ((([c_1] : List Int32).map (fun c => c.toInt8.toInt32)).map Value.int) (.int 0) := (Kb_16.keep K_19 nin0)
    have O_25d : Old Z n0 T_19.heap := (O_18d.keep K_19 all0)
    obtain ⟨cq_26, kq_26, q_26a, q_26b, q_26c⟩ := isOf hZ_19 rfl Ex_16'_21
    obtain ⟨_, T_26, L_26, Q_26, X_26, st_26⟩ := own_callV X_19 hx (z := (⟨"java/lang/String", "length", "()I"⟩ : MethodName)) hown_19 (mvT hZ_19 (own_w hw 86 rfl)) (mvT hZ_19 (own_w hw 52 rfl)) (notFace_of_selects (args := #[]) (mvT hZ_19 (own_w hw 54 rfl))) (mvT hZ_19 (own_w hw 54 rfl)) (mvT hZ_19 (own_w hw 53 rfl)) (by decide) (Q := (fun v h' L => v = some (.int (Int32.ofNat ([c_1] : List Int32).length)) ∧ L = [] ∧ h' = T_19.heap)) (StrChars.Road.lenW (W := 0) hZ_19 hln (kI := 4) (own_w hw 6 rfl) Ex_16'_21 Fv_16'_22 Fc_16'_23 Kb_16'_24 hcd hbd (O2.ext O_25d.2) P5 (Nat.le_of_ble_eq_true rfl) (by decide) (by decide)) q_26a q_26c (g := (mkF m 173 #[.val (.int p0), .val (.int p1), .val (.int p2), .val (.int p3), .val (.int p4), .val (.int ((p0 &&& (3 : Int32)) + (1 : Int32))), .val (.int c_1), .val (.int c_2), .val (.int c_3), .val (.int c_4), .val (.ref a_5), .val (.ref a_5)] [(.ref a_5)])) rfl (by rw [hml]; rfl) (argsL := []) (rest := []) (lenOf pd_5 rfl) rfl (by show 2 * 0 + _ ≤ _; exact Nat.le_of_eq rfl) (hb hby at_173) rfl rfl (by decide) (by decide)
    obtain ⟨rfl, rfl, eh_26⟩ := Q_26
    refine own_G.via st_26 ?_
    have N_26 := Fr.app N_19 (Fr.nil n0)
    show own_G _ _ _ _ (T_26.setTop (mkF m 176 #[.val (.int p0), .val (.int p1), .val (.int p2), .val (.int p3), .val (.int p4), .val (.int ((p0 &&& (3 : Int32)) + (1 : Int32))), .val (.int c_1), .val (.int c_2), .val (.int c_3), .val (.int c_4), .val (.ref a_5), .val (.ref a_5)] [(.int (1 : Int32))]))
    refine own_G.go (fun t_ k_ => XS.iload X_26.here hx rfl (hb hby at_176) rfl k_) ?_
    show own_G _ _ _ _ (T_26.setTop (mkF m 178 #[.val (.int p0), .val (.int p1), .val (.int p2), .val (.int p3), .val (.int p4), .val (.int ((p0 &&& (3 : Int32)) + (1 : Int32))), .val (.int c_1), .val (.int c_2), .val (.int c_3), .val (.int c_4), .val (.ref a_5), .val (.ref a_5)] [(.int ((p0 &&& (3 : Int32)) + (1 : Int32))), (.int (1 : Int32))]))
    refine own_G.go (fun t_ k_ => XS.icmpNo X_26.here hx rfl (hb hby at_178) rfl (teq (hl1.symm : (1 : Int32) = ((p0 &&& (3 : Int32)) + (1 : Int32)))).2 k_) ?_
    show own_G _ _ _ _ (T_26.setTop (mkF m 181 #[.val (.int p0), .val (.int p1), .val (.int p2), .val (.int p3), .val (.int p4), .val (.int ((p0 &&& (3 : Int32)) + (1 : Int32))), .val (.int c_1), .val (.int c_2), .val (.int c_3), .val (.int c_4), .val (.ref a_5), .val (.ref a_5)] []))
    refine own_G.go (fun t_ k_ => XS.iconst X_26.here hx rfl (hb hby at_181) k_) ?_
    show own_G _ _ _ _ (T_26.setTop (mkF m 182 #[.val (.int p0), .val (.int p1), .val (.int p2), .val (.int p3), .val (.int p4), .val (.int ((p0 &&& (3 : Int32)) + (1 : Int32))), .val (.int c_1), .val (.int c_2), .val (.int c_3), .val (.int c_4), .val (.ref a_5), .val (.ref a_5)] [(.int (1 : Int32))]))
    refine own_G.go (fun t_ k_ => XS.goto X_26.here hx rfl (pc0 := 182) (pc' := 186) rfl (hb hby at_182) (by decide) (by decide) k_) ?_
    show own_G _ _ _ _ (T_26.setTop (mkF m 186 #[.val (.int p0), .val (.int p1), .val (.int p2), .val (.int p3), .val (.int p4), .val (.int ((p0 &&& (3 : Int32)) + (1 : Int32))), .val (.int c_1), .val (.int c_2), .val (.int c_3), .val (.int c_4), .val (.ref a_5), .val (.ref a_5)] [(.int (1 : Int32))]))
    exact own_G.endH X_26 hS_19 (Nat.le_refl _) hZ_19 hEW (hh ▸ CH_20) hlk (v := (some (.int (1 : Int32)))) (fun h => by rw [hrt] at h; cases h) (fun fs hr => retN X_26 hx (z := (1 : Int32)) (t := .boolean) hrt (by simp) (hb hby at_186) hr) eh_26 ⟨rfl, N_26⟩ (by decide) (by decide)
  · refine own_G.go (fun t_ k_ => XS.icmpYes X_4.here hx rfl (pc0 := 35) (pc' := 58) rfl (hb hby at_35) rfl (feq hl1).2 (by decide) (by decide) k_) ?_
    show own_G _ _ _ _ (T_4.setTop (mkF m 58 #[.val (.int p0), .val (.int p1), .val (.int p2), .val (.int p3), .val (.int p4), .val (.int ((p0 &&& (3 : Int32)) + (1 : Int32))), .val (.int c_1), .val (.int c_2), .val (.int c_3), .val (.int c_4), .unset, .unset] []))
    refine own_G.go (fun t_ k_ => XS.iload X_4.here hx rfl (hb hby at_58) rfl k_) ?_
    show own_G _ _ _ _ (T_4.setTop (mkF m 60 #[.val (.int p0), .val (.int p1), .val (.int p2), .val (.int p3), .val (.int p4), .val (.int ((p0 &&& (3 : Int32)) + (1 : Int32))), .val (.int c_1), .val (.int c_2), .val (.int c_3), .val (.int c_4), .unset, .unset] [(.int ((p0 &&& (3 : Int32)) + (1 : Int32)))]))
    refine own_G.go (fun t_ k_ => XS.iconst X_4.here hx rfl (hb hby at_60) k_) ?_
    show own_G _ _ _ _ (T_4.setTop (mkF m 61 #[.val (.int p0), .val (.int p1), .val (.int p2), .val (.int p3), .val (.int p4), .val (.int ((p0 &&& (3 : Int32)) + (1 : Int32))), .val (.int c_1), .val (.int c_2), .val (.int c_3), .val (.int c_4), .unset, .unset] [(.int (2 : Int32)), (.int ((p0 &&& (3 : Int32)) + (1 : Int32)))]))
    by_cases hl2 : ((p0 &&& (3 : Int32)) + (1 : Int32)) = (2 : Int32)
    · refine own_G.go (fun t_ k_ => XS.icmpNo X_4.here hx rfl (hb hby at_61) rfl (teq hl2).2 k_) ?_
      show own_G _ _ _ _ (T_4.setTop (mkF m 64 #[.val (.int p0), .val (.int p1), .val (.int p2), .val (.int p3), .val (.int p4), .val (.int ((p0 &&& (3 : Int32)) + (1 : Int32))), .val (.int c_1), .val (.int c_2), .val (.int c_3), .val (.int c_4), .unset, .unset] []))
      obtain ⟨T_27, h_27, X_27, e_27, E_27, A_27, D_27, -, st_27⟩ := newO X_4 hx hZ hown (own_w hw 5 rfl) (own_w hw 6 rfl) (own_w hw 7 rfl) eh_4 (g := (mkF m 64 #[.val (.int p0), .val (.int p1), .val (.int p2), .val (.int p3), .val (.int p4), .val (.int ((p0 &&& (3 : Int32)) + (1 : Int32))), .val (.int c_1), .val (.int c_2), .val (.int c_3), .val (.int c_4), .unset, .unset] [])) rfl (hb hby at_64) (by decide) (by decide)
      obtain ⟨a_27, g_27⟩ : ∃ z, z = h0.size := ⟨_, rfl⟩
      rw [← g_27] at A_27 D_27 st_27
      refine own_G.go st_27 ?_
      have CH_28 : CHr Z own_EL s.vm h0 s.vm h_27 := CH0.trans (CHr.ext E_27 CH0.1)
      have Sn_27 : Safe Z own_EL s.vm h_27 a_27 := Safe.ext E_27 CH0.1 (Safe.new (Nat.le_of_eq g_27.symm))
      have F_27_coder : Fld Z h_27 a_27 "java/lang/String" "coder" "B" (.int (0 : Int32)) := D_27 (Or.inr (own_w hw 32 rfl)) (ty := .byte) (by decide)
      have F_27_value : Fld Z h_27 a_27 "java/lang/String" "value" "[B" .null := D_27 (Or.inr (own_w hw 34 rfl)) (ty := (.array .byte)) (by decide)
      show own_G _ _ _ _ (T_27.setTop (mkF m 67 #[.val (.int p0), .val (.int p1), .val (.int p2), .val (.int p3), .val (.int p4), .val (.int ((p0 &&& (3 : Int32)) + (1 : Int32))), .val (.int c_1), .val (.int c_2), .val (.int c_3), .val (.int c_4), .unset, .unset] [(.ref a_27)]))
      refine own_G.go (fun t_ k_ => XS.dup X_27.here hx rfl (hb hby at_67) rfl rfl k_) ?_
      show own_G _ _ _ _ (T_27.setTop (mkF m 68 #[.val (.int p0), .val (.int p1), .val (.int p2), .val (.int p3), .val (.int p4), .val (.int ((p0 &&& (3 : Int32)) + (1 : Int32))), .val (.int c_1), .val (.int c_2), .val (.int c_3), .val (.int c_4), .unset, .unset] [(.ref a_27), (.ref a_27)]))
      refine own_G.go (fun t_ k_ => XS.iconst X_27.here hx rfl (hb hby at_68) k_) ?_
      show own_G _ _ _ _ (T_27.setTop (mkF m 69 #[.val (.int p0), .val (.int p1), .val (.int p2), .val (.int p3), .val (.int p4), .val (.int ((p0 &&& (3 : Int32)) + (1 : Int32))), .val (.int c_1), .val (.int c_2), .val (.int c_3), .val (.int c_4), .unset, .unset] [(.int (2 : Int32)), (.ref a_27), (.ref a_27)]))
      obtain ⟨T_29, h_29, k_29, X_29, e_29, E_29, A_29, st_29⟩ := newP X_27 hx hZ (own_w hw 8 rfl) e_27 (g := (mkF m 69 #[.val (.int p0), .val (.int p1), .val (.int p2), .val (.int p3), .val (.int p4), .val (.int ((p0 &&& (3 : Int32)) + (1 : Int32))), .val (.int c_1), .val (.int c_2), .val (.int c_3), .val (.int c_4), .unset, .unset] [(.int (2 : Int32)), (.ref a_27), (.ref a_27)])) rfl (hb hby at_69) rfl (by decide : ¬ ((2 : Int32) < (0 : Int32))) (cap := 2) (by decide : ((2 : Int32)).toNatClampNeg ≤ 2) (by decide) (by decide) (by decide)
      obtain ⟨a_29, g_29⟩ : ∃ z, z = h_27.size := ⟨_, rfl⟩
      rw [← g_29] at A_29 st_29
      refine own_G.go st_29 ?_
      have Sf_30_a_27 : Safe Z own_EL s.vm h_29 a_27 := (Safe.ext E_29 CH_28.1 Sn_27)
      have CH_30 : CHr Z own_EL s.vm h0 s.vm h_29 := CH_28.trans (CHr.ext E_29 CH_28.1)
      have V_29 : Arv Z h_29 a_29 k_29 .char (2 : Int32) ([(.int (0 : Int32)), (.int (0 : Int32))] : List Value) (.int (0 : Int32)) := (Arv.new A_29 (by decide : ¬ ((2 : Int32) < (0 : Int32)))).pad (pad_rep [] (.int (0 : Int32)) 2)
      show own_G _ _ _ _ (T_29.setTop (mkF m 71 #[.val (.int p0), .val (.int p1), .val (.int p2), .val (.int p3), .val (.int p4), .val (.int ((p0 &&& (3 : Int32)) + (1 : Int32))), .val (.int c_1), .val (.int c_2), .val (.int c_3), .val (.int c_4), .unset, .unset] [(.ref a_29), (.ref a_27), (.ref a_27)]))
      refine own_G.go (fun t_ k_ => XS.dup X_29.here hx rfl (hb hby at_71) rfl rfl k_) ?_
      show own_G _ _ _ _ (T_29.setTop (mkF m 72 #[.val (.int p0), .val (.int p1), .val (.int p2), .val (.int p3), .val (.int p4), .val (.int ((p0 &&& (3 : Int32)) + (1 : Int32))), .val (.int c_1), .val (.int c_2), .val (.int c_3), .val (.int c_4), .unset, .unset] [(.ref a_29), (.ref a_29), (.ref a_27), (.ref a_27)]))
      refine own_G.go (fun t_ k_ => XS.iconst X_29.here hx rfl (hb hby at_72) k_) ?_
      show own_G _ _ _ _ (T_29.setTop (mkF m 73 #[.val (.int p0), .val (.int p1), .val (.int p2), .val (.int p3), .val (.int p4), .val (.int ((p0 &&& (3 : Int32)) + (1 : Int32))), .val (.int c_1), .val (.int c_2), .val (.int c_3), .val (.int c_4), .unset, .unset] [(.int (0 : Int32)), (.ref a_29), (.ref a_29), (.ref a_27), (.ref a_27)]))
      refine own_G.go (fun t_ k_ => XS.iload X_29.here hx rfl (hb hby at_73) rfl k_) ?_
      show own_G _ _ _ _ (T_29.setTop (mkF m 75 #[.val (.int p0), .val (.int p1), .val (.int p2), .val (.int p3), .val (.int p4), .val (.int ((p0 &&& (3 : Int32)) + (1 : Int32))), .val (.int c_1), .val (.int c_2), .val (.int c_3), .val (.int c_4), .unset, .unset] [(.int c_1), (.int (0 : Int32)), (.ref a_29), (.ref a_29), (.ref a_27), (.ref a_27)]))
      obtain ⟨T_31, h_31, X_31, e_31, W_31, V_31, st_31⟩ := own_stC X_29 hx hZ e_29 V_29 (j := (0 : Int32)) 0 (Nat.le_of_ble_eq_true rfl) (by decide) (by decide : ¬ ((0 : Int32) < (0 : Int32)) ∧ (0 : Int32) < (2 : Int32)) (g := (mkF m 75 #[.val (.int p0), .val (.int p1), .val (.int p2), .val (.int p3), .val (.int p4), .val (.int ((p0 &&& (3 : Int32)) + (1 : Int32))), .val (.int c_1), .val (.int c_2), .val (.int c_3), .val (.int c_4), .unset, .unset] [(.int c_1), (.int (0 : Int32)), (.ref a_29), (.ref a_29), (.ref a_27), (.ref a_27)])) rfl rfl (hb hby at_75)
      refine own_G.go st_31 ?_
      have Sf_32_a_27 : Safe Z own_EL s.vm h_31 a_27 := (Safe.wr W_31 (Safe.arv hZ.alike V_29 (by decide)) CH_30.1 Sf_30_a_27)
      have CH_32 : CHr Z own_EL s.vm h0 s.vm h_31 := CH_30.trans (CHr.wr W_31 (Safe.arv hZ.alike V_29 (by decide)) CH_30.1)
      have V_31q : Arv Z h_31 a_29 k_29 .char (2 : Int32) ([(.int (nar .char c_1)), (.int (0 : Int32))] : List Value) (.int (0 : Int32)) := V_31
      have g0_a_29 : n0 ≤ a_29 := Nat.le_trans (Nat.le_trans Z0 E_27.1) (Nat.le_of_eq g_29.symm)
      have N_31 := Fr.snoc X_31 N_4 g0_a_29
      show own_G _ _ _ _ (T_31.setTop (mkF m 76 #[.val (.int p0), .val (.int p1), .val (.int p2), .val (.int p3), .val (.int p4), .val (.int ((p0 &&& (3 : Int32)) + (1 : Int32))), .val (.int c_1), .val (.int c_2), .val (.int c_3), .val (.int c_4), .unset, .unset] [(.ref a_29), (.ref a_27), (.ref a_27)]))
      refine own_G.go (fun t_ k_ => XS.dup X_31.here hx rfl (hb hby at_76) rfl rfl k_) ?_
      show own_G _ _ _ _ (T_31.setTop (mkF m 77 #[.val (.int p0), .val (.int p1), .val (.int p2), .val (.int p3), .val (.int p4), .val (.int ((p0 &&& (3 : Int32)) + (1 : Int32))), .val (.int c_1), .val (.int c_2), .val (.int c_3), .val (.int c_4), .unset, .unset] [(.ref a_29), (.ref a_29), (.ref a_27), (.ref a_27)]))
      refine own_G.go (fun t_ k_ => XS.iconst X_31.here hx rfl (hb hby at_77) k_) ?_
      show own_G _ _ _ _ (T_31.setTop (mkF m 78 #[.val (.int p0), .val (.int p1), .val (.int p2), .val (.int p3), .val (.int p4), .val (.int ((p0 &&& (3 : Int32)) + (1 : Int32))), .val (.int c_1), .val (.int c_2), .val (.int c_3), .val (.int c_4), .unset, .unset] [(.int (1 : Int32)), (.ref a_29), (.ref a_29), (.ref a_27), (.ref a_27)]))
      refine own_G.go (fun t_ k_ => XS.iload X_31.here hx rfl (hb hby at_78) rfl k_) ?_
      show own_G _ _ _ _ (T_31.setTop (mkF m 80 #[.val (.int p0), .val (.int p1), .val (.int p2), .val (.int p3), .val (.int p4), .val (.int ((p0 &&& (3 : Int32)) + (1 : Int32))), .val (.int c_1), .val (.int c_2), .val (.int c_3), .val (.int c_4), .unset, .unset] [(.int c_2), (.int (1 : Int32)), (.ref a_29), (.ref a_29), (.ref a_27), (.ref a_27)]))
      obtain ⟨T_33, h_33, X_33, e_33, W_33, V_33, st_33⟩ := own_stC X_31 hx hZ e_31 V_31q (j := (1 : Int32)) 1 (Nat.le_of_ble_eq_true rfl) (by decide) (by decide : ¬ ((1 : Int32) < (0 : Int32)) ∧ (1 : Int32) < (2 : Int32)) (g := (mkF m 80 #[.val (.int p0), .val (.int p1), .val (.int p2), .val (.int p3), .val (.int p4), .val (.int ((p0 &&& (3 : Int32)) + (1 : Int32))), .val (.int c_1), .val (.int c_2), .val (.int c_3), .val (.int c_4), .unset, .unset] [(.int c_2), (.int (1 : Int32)), (.ref a_29), (.ref a_29), (.ref a_27), (.ref a_27)])) rfl rfl (hb hby at_80)
      refine own_G.go st_33 ?_
      have Sf_34_a_27 : Safe Z own_EL s.vm h_33 a_27 := (Safe.wr W_33 (Safe.arv hZ.alike V_31q (by decide)) CH_32.1 Sf_32_a_27)
      have CH_34 : CHr Z own_EL s.vm h0 s.vm h_33 := CH_32.trans (CHr.wr W_33 (Safe.arv hZ.alike V_31q (by decide)) CH_32.1)
      have V_33q : Arv Z h_33 a_29 k_29 .char (2 : Int32) ([(.int (nar .char c_1)), (.int (nar .char c_2))] : List Value) (.int (0 : Int32)) := V_33
      have N_33 := Fr.snoc X_33 N_31 g0_a_29
      show own_G _ _ _ _ (T_33.setTop (mkF m 81 #[.val (.int p0), .val (.int p1), .val (.int p2), .val (.int p3), .val (.int p4), .val (.int ((p0 &&& (3 : Int32)) + (1 : Int32))), .val (.int c_1), .val (.int c_2), .val (.int c_3), .val (.int c_4), .unset, .unset] [(.ref a_29), (.ref a_27), (.ref a_27)]))
      have VC : Arv Z h_33 a_29 k_29 .char (2 : Int32) ([(.int c_1), (.int c_2)] : List Value) (.int (0 : Int32)) := by have q := V_33q; rw [own_narc hn_1.1, own_narc hn_2.1] at q; exact q
      have hp : ∀ c ∈ ([c_1, c_2] : List Int32), own_b c := by
        intro c hc
        simp only [List.mem_cons, List.not_mem_nil, or_false] at hc
        rcases hc with rfl | rfl
        · exact hn_1.1
        · exact hn_2.1
      have A_27'_35 : Exa Z h_33 a_27 "java/lang/String" := (((A_27.ext E_29).wr W_31).wr W_33)
      have F_27_value'_36 : Fld Z h_33 a_27 "java/lang/String" "value" "[B" .null := (((F_27_value.ext E_29).other W_31 (Or.inl (Nat.ne_of_lt (Nat.lt_of_lt_of_le A_27.lt (Nat.le_of_eq g_29.symm))))).other W_33 (Or.inl (Nat.ne_of_lt (Nat.lt_of_lt_of_le A_27.lt (Nat.le_of_eq g_29.symm)))))
      have F_27_coder'_37 : Fld Z h_33 a_27 "java/lang/String" "coder" "B" (.int (0 : Int32)) := (((F_27_coder.ext E_29).other W_31 (Or.inl (Nat.ne_of_lt (Nat.lt_of_lt_of_le A_27.lt (Nat.le_of_eq g_29.symm))))).other W_33 (Or.inl (Nat.ne_of_lt (Nat.lt_of_lt_of_le A_27.lt (Nat.le_of_eq g_29.symm)))))
      have g0_a_27 : n0 ≤ a_27 := Nat.le_trans Z0 (Nat.le_of_eq g_27.symm)
      have Z_38s : n0 ≤ h_33.size := (Nat.le_trans Z0 (Nat.le_trans (Nat.le_trans (Nat.le_trans E_27.1 E_29.1) (Keep.of_wr W_31).1) (Keep.of_wr W_33).1))
      have O_39d : Old Z n0 h_33 := ((((X00.ext E_27).ext E_29).wr W_31 g0_a_29).wr W_33 g0_a_29)
      obtain ⟨_, T_40, L_40, Q_40, X_40, st_40⟩ := own_callI X_33 hx rfl hown (mvT hZ (own_w hw 9 rfl)) (mvT hZ (own_w hw 10 rfl)) (mvT hZ (own_w hw 11 rfl)) (by decide) (Q := (StrChars.Road.QV Z a_27 (2 : Int32) (([c_1, c_2] : List Int32).map (fun c => c.toInt8.toInt32)) h_33 n0)) (StrChars.Road.backV (W := 1) hZ hws (kI := 4) (own_w hw 6 rfl) (cs := ([c_1, c_2] : List Int32)) (bs := ([c_1, c_2] : List Int32).map (fun c => c.toInt8.toInt32)) (n := 2) g0_a_27 Z_38s A_27'_35 F_27_value'_36 F_27_coder'_37 VC (O2.ext O_39d.2) P5 rfl rfl (by decide) (by decide) hp rfl (by decide) (by decide)) (a := a_27) (g := (mkF m 81 #[.val (.int p0), .val (.int p1), .val (.int p2), .val (.int p3), .val (.int p4), .val (.int ((p0 &&& (3 : Int32)) + (1 : Int32))), .val (.int c_1), .val (.int c_2), .val (.int c_3), .val (.int c_4), .unset, .unset] [(.ref a_29), (.ref a_27), (.ref a_27)])) rfl (by rw [hml]; rfl) (argsL := [(.ref a_29)]) (rest := [(.ref a_27)]) (lenOf pd_10 rfl) rfl (by show 2 * 0 + _ ≤ _; exact Nat.le_of_eq rfl) (hb hby at_81) e_33 rfl (by decide) (by decide)
      obtain ⟨rfl, Nq_40, K_40, Ex_40, Fc_40, t_40, kb_40, tn_40, th_40, tx_40, Fv_40, Kb_40⟩ := Q_40
      refine own_G.via st_40 ?_
      have Sf_41_a_27 : Safe Z own_EL s.vm T_40.heap a_27 := (Safe.keep K_40 (sfS Sf_34_a_27 sf0) CH_34.1 Sf_34_a_27)
      have CH_41 : CHr Z own_EL s.vm h0 s.vm T_40.heap := CH_34.trans (CHr.keep K_40 (sfS Sf_34_a_27 sf0) CH_34.1)
      have N_40 := Fr.app N_33 Nq_40
      have hcd := StrChars.Road.codOf (cs := ([c_1, c_2] : List Int32)) (n := 2) rfl (fun c hc => (hp c hc).2)
      have hbd := own_up _ hp
      show own_G _ _ _ _ (T_40.setTop (mkF m 84 #[.val (.int p0), .val (.int p1), .val (.int p2), .val (.int p3), .val (.int p4), .val (.int ((p0 &&& (3 : Int32)) + (1 : Int32))), .val (.int c_1), .val (.int c_2), .val (.int c_3), .val (.int c_4), .unset, .unset] [(.ref a_27)]))
      refine own_G.go (fun t_ k_ => XS.astore X_40.here hx rfl (hb hby at_84) rfl rfl (l' := #[.val (.int p0), .val (.int p1), .val (.int p2), .val (.int p3), .val (.int p4), .val (.int ((p0 &&& (3 : Int32)) + (1 : Int32))), .val (.int c_1), .val (.int c_2), .val (.int c_3), .val (.int c_4), .val (.ref a_27), .unset]) rfl k_) ?_
      show own_G _ _ _ _ (T_40.setTop (mkF m 86 #[.val (.int p0), .val (.int p1), .val (.int p2), .val (.int p3), .val (.int p4), .val (.int ((p0 &&& (3 : Int32)) + (1 : Int32))), .val (.int c_1), .val (.int c_2), .val (.int c_3), .val (.int c_4), .val (.ref a_27), .unset] []))
      refine own_G.go (fun t_ k_ => XS.goto X_40.here hx rfl (pc0 := 86) (pc' := 157) rfl (hb hby at_86) (by decide) (by decide) k_) ?_
      show own_G _ _ _ _ (T_40.setTop (mkF m 157 #[.val (.int p0), .val (.int p1), .val (.int p2), .val (.int p3), .val (.int p4), .val (.int ((p0 &&& (3 : Int32)) + (1 : Int32))), .val (.int c_1), .val (.int c_2), .val (.int c_3), .val (.int c_4), .val (.ref a_27), .unset] []))
      refine own_G.go (fun t_ k_ => XS.aload X_40.here hx rfl (hb hby at_157) rfl rfl k_) ?_
      show own_G _ _ _ _ (T_40.setTop (mkF m 159 #[.val (.int p0), .val (.int p1), .val (.int p2), .val (.int p3), .val (.int p4), .val (.int ((p0 &&& (3 : Int32)) + (1 : Int32))), .val (.int c_1), .val (.int c_2), .val (.int c_3), .val (.int c_4), .val (.ref a_27), .unset] [(.ref a_27)]))
      have O_42d : Old Z n0 T_40.heap := (O_39d.keep K_40 (allS g0_a_27 all0))
      obtain ⟨_, T_43, L_43, Q_43, X_43, hS_43, hZ_43, hown_43, st_43⟩ := own_callSW X_40 hx hS0 (Nat.le_trans (Nat.zero_le _) (Nat.le_trans (Nat.le_trans (Nat.le_trans (Nat.le_trans E_27.1 E_29.1) (Keep.of_wr W_31).1) (Keep.of_wr W_33).1) K_40.1)) hZ hown (mvT hZ (own_w hw 35 rfl)) (mvT hZ (own_w hw 36 rfl)) (mvT hZ (own_w hw 37 rfl)) (mvT hZ (own_w hw 38 rfl)) (by decide) (Q := (fun v (U : State) L => Qrv a_27 T_40.heap n0 v U.heap L ∧ CHr Z own_EL s.vm T_40.heap U.vm U.heap)) (own_backSH (backOfSH (W := 0) (rm_rv2 l Z a0 hw [] a_27 t_40 kb_40 c_1 c_2 zc fm T_40.heap n0 (Nat.le_trans Z_38s K_40.1) Ex_40 Fv_40 Fc_40 Kb_40 hn_1 hn_2 O2 O4 P5 rfm O_42d) hZ (own_w hw 38 rfl) (own_w hw 37 rfl) (by decide) (by decide) hEW CH_41.1)) (g := (mkF m 159 #[.val (.int p0), .val (.int p1), .val (.int p2), .val (.int p3), .val (.int p4), .val (.int ((p0 &&& (3 : Int32)) + (1 : Int32))), .val (.int c_1), .val (.int c_2), .val (.int c_3), .val (.int c_4), .val (.ref a_27), .unset] [(.ref a_27)])) rfl (by rw [hml]; rfl) (argsL := [(.ref a_27)]) (rest := []) (lenOf pd_11 rfl) rfl (by show 2 * 0 + _ ≤ _; exact Nat.le_of_eq rfl) (hb hby at_159) rfl rfl (by decide) (by decide)
      obtain ⟨⟨rfl, Nq_43, K_43⟩, Ch_43⟩ := Q_43
      refine own_G.via st_43 ?_
      have Sf_44_a_27 : Safe Z own_EL T_43.vm T_43.heap a_27 := Ch_43.safe (Nat.lt_of_lt_of_le A_27.lt (Nat.le_trans (Nat.le_trans (Nat.le_trans E_29.1 (Keep.of_wr W_31).1) (Keep.of_wr W_33).1) K_40.1)) Sf_41_a_27
      have CH_44 : CHr Z own_EL s.vm h0 T_43.vm T_43.heap := CH_41.trans Ch_43
      have N_43 := Fr.app N_40 Nq_43
      show own_G _ _ _ _ (T_43.setTop (mkF m 162 #[.val (.int p0), .val (.int p1), .val (.int p2), .val (.int p3), .val (.int p4), .val (.int ((p0 &&& (3 : Int32)) + (1 : Int32))), .val (.int c_1), .val (.int c_2), .val (.int c_3), .val (.int c_4), .val (.ref a_27), .unset] [(.ref a_27)]))
      refine own_G.go (fun t_ k_ => XS.astore X_43.here hx rfl (hb hby at_162) rfl rfl (l' := #[.val (.int p0), .val (.int p1), .val (.int p2), .val (.int p3), .val (.int p4), .val (.int ((p0 &&& (3 : Int32)) + (1 : Int32))), .val (.int c_1), .val (.int c_2), .val (.int c_3), .val (.int c_4), .val (.ref a_27), .val (.ref a_27)]) rfl k_) ?_
      show own_G _ _ _ _ (T_43.setTop (mkF m 164 #[.val (.int p0), .val (.int p1), .val (.int p2), .val (.int p3), .val (.int p4), .val (.int ((p0 &&& (3 : Int32)) + (1 : Int32))), .val (.int c_1), .val (.int c_2), .val (.int c_3), .val (.int c_4), .val (.ref a_27), .val (.ref a_27)] []))
      refine own_G.go (fun t_ k_ => XS.aload X_43.here hx rfl (hb hby at_164) rfl rfl k_) ?_
      show own_G _ _ _ _ (T_43.setTop (mkF m 166 #[.val (.int p0), .val (.int p1), .val (.int p2), .val (.int p3), .val (.int p4), .val (.int ((p0 &&& (3 : Int32)) + (1 : Int32))), .val (.int c_1), .val (.int c_2), .val (.int c_3), .val (.int c_4), .val (.ref a_27), .val (.ref a_27)] [(.ref a_27)]))
      refine own_G.go (fun t_ k_ => XS.aload X_43.here hx rfl (hb hby at_166) rfl rfl k_) ?_
      show own_G _ _ _ _ (T_43.setTop (mkF m 168 #[.val (.int p0), .val (.int p1), .val (.int p2), .val (.int p3), .val (.int p4), .val (.int ((p0 &&& (3 : Int32)) + (1 : Int32))), .val (.int c_1), .val (.int c_2), .val (.int c_3), .val (.int c_4), .val (.ref a_27), .val (.ref a_27)] [(.ref a_27), (.ref a_27)]))
      refine own_G.go (fun t_ k_ => Jvm.RoadKit.acmp (g := (mkF m 168 #[.val (.int p0), .val (.int p1), .val (.int p2), .val (.int p3), .val (.int p4), .val (.int ((p0 &&& (3 : Int32)) + (1 : Int32))), .val (.int c_1), .val (.int c_2), .val (.int c_3), .val (.int c_4), .val (.ref a_27), .val (.ref a_27)] [(.ref a_27), (.ref a_27)])) X_43 hx rfl rfl rfl (pc0 := 168) (pc' := 171) (same := true) rfl (hb hby at_168) rfl (decide_eq_true (rfl : ((.ref a_27) : Value) = (.ref a_27))) (by decide) (by decide) k_) ?_
      show own_G _ _ _ _ (T_43.setTop (mkF m 171 #[.val (.int p0), .val (.int p1), .val (.int p2), .val (.int p3), .val (.int p4), .val (.int ((p0 &&& (3 : Int32)) + (1 : Int32))), .val (.int c_1), .val (.int c_2), .val (.int c_3), .val (.int c_4), .val (.ref a_27), .val (.ref a_27)] []))
      refine own_G.go (fun t_ k_ => XS.aload X_43.here hx rfl (hb hby at_171) rfl rfl k_) ?_
      show own_G _ _ _ _ (T_43.setTop (mkF m 173 #[.val (.int p0), .val (.int p1), .val (.int p2), .val (.int p3), .val (.int p4), .val (.int ((p0 &&& (3 : Int32)) + (1 : Int32))), .val (.int c_1), .val (.int c_2), .val (.int c_3), .val (.int c_4), .val (.ref a_27), .val (.ref a_27)] [(.ref a_27)]))
      have Ex_40'_45 : Exa Z T_43.heap a_27 "java/lang/String" := (Ex_40.keep K_43)
      have Fv_40'_46 : Fld Z T_43.heap a_27 "java/lang/String" "value" "[B" (.ref t_40) := (Fv_40.keep K_43 nin0)
      have Fc_40'_47 : Fld Z T_43.heap a_27 "java/lang/String" "coder" "B" (.int 0) := (Fc_40.keep K_43 nin0)
      have Kb_40'_48 : Arv Z T_43.heap t_40 kb_40 .byte (2 : Int32) ((([c_1, c_2] : List Int32).map (fun c => c.toInt8.toInt32)).map Value.int) (.int 0) := (Kb_40.keep K_43 nin0)
      have O_49d : Old Z n0 T_43.heap := (O_42d.keep K_43 all0)
      obtain ⟨cq_50, kq_50, q_50a, q_50b, q_50c⟩ := isOf hZ_43 rfl Ex_40'_45
      obtain ⟨_, T_50, L_50, Q_50, X_50, st_50⟩ := own_callV X_43 hx (z := (⟨"java/lang/String", "length", "()I"⟩ : MethodName)) hown_43 (mvT hZ_43 (own_w hw 86 rfl)) (mvT hZ_43 (own_w hw 52 rfl)) (notFace_of_selects (args := #[]) (mvT hZ_43 (own_w hw 54 rfl))) (mvT hZ_43 (own_w hw 54 rfl)) (mvT hZ_43 (own_w hw 53 rfl)) (by decide) (Q := (fun v h' L => v = some (.int (Int32.ofNat ([c_1, c_2] : List Int32).length)) ∧ L = [] ∧ h' = T_43.heap)) (StrChars.Road.lenW (W := 0) hZ_43 hln (kI := 4) (own_w hw 6 rfl) Ex_40'_45 Fv_40'_46 Fc_40'_47 Kb_40'_48 hcd hbd (O2.ext O_49d.2) P5 (Nat.le_of_ble_eq_true rfl) (by decide) (by decide)) q_50a q_50c (g := (mkF m 173 #[.val (.int p0), .val (.int p1), .val (.int p2), .val (.int p3), .val (.int p4), .val (.int ((p0 &&& (3 : Int32)) + (1 : Int32))), .val (.int c_1), .val (.int c_2), .val (.int c_3), .val (.int c_4), .val (.ref a_27), .val (.ref a_27)] [(.ref a_27)])) rfl (by rw [hml]; rfl) (argsL := []) (rest := []) (lenOf pd_5 rfl) rfl (by show 2 * 0 + _ ≤ _; exact Nat.le_of_eq rfl) (hb hby at_173) rfl rfl (by decide) (by decide)
      obtain ⟨rfl, rfl, eh_50⟩ := Q_50
      refine own_G.via st_50 ?_
      have N_50 := Fr.app N_43 (Fr.nil n0)
      show own_G _ _ _ _ (T_50.setTop (mkF m 176 #[.val (.int p0), .val (.int p1), .val (.int p2), .val (.int p3), .val (.int p4), .val (.int ((p0 &&& (3 : Int32)) + (1 : Int32))), .val (.int c_1), .val (.int c_2), .val (.int c_3), .val (.int c_4), .val (.ref a_27), .val (.ref a_27)] [(.int (2 : Int32))]))
      refine own_G.go (fun t_ k_ => XS.iload X_50.here hx rfl (hb hby at_176) rfl k_) ?_
      show own_G _ _ _ _ (T_50.setTop (mkF m 178 #[.val (.int p0), .val (.int p1), .val (.int p2), .val (.int p3), .val (.int p4), .val (.int ((p0 &&& (3 : Int32)) + (1 : Int32))), .val (.int c_1), .val (.int c_2), .val (.int c_3), .val (.int c_4), .val (.ref a_27), .val (.ref a_27)] [(.int ((p0 &&& (3 : Int32)) + (1 : Int32))), (.int (2 : Int32))]))
      refine own_G.go (fun t_ k_ => XS.icmpNo X_50.here hx rfl (hb hby at_178) rfl (teq (hl2.symm : (2 : Int32) = ((p0 &&& (3 : Int32)) + (1 : Int32)))).2 k_) ?_
      show own_G _ _ _ _ (T_50.setTop (mkF m 181 #[.val (.int p0), .val (.int p1), .val (.int p2), .val (.int p3), .val (.int p4), .val (.int ((p0 &&& (3 : Int32)) + (1 : Int32))), .val (.int c_1), .val (.int c_2), .val (.int c_3), .val (.int c_4), .val (.ref a_27), .val (.ref a_27)] []))
      refine own_G.go (fun t_ k_ => XS.iconst X_50.here hx rfl (hb hby at_181) k_) ?_
      show own_G _ _ _ _ (T_50.setTop (mkF m 182 #[.val (.int p0), .val (.int p1), .val (.int p2), .val (.int p3), .val (.int p4), .val (.int ((p0 &&& (3 : Int32)) + (1 : Int32))), .val (.int c_1), .val (.int c_2), .val (.int c_3), .val (.int c_4), .val (.ref a_27), .val (.ref a_27)] [(.int (1 : Int32))]))
      refine own_G.go (fun t_ k_ => XS.goto X_50.here hx rfl (pc0 := 182) (pc' := 186) rfl (hb hby at_182) (by decide) (by decide) k_) ?_
      show own_G _ _ _ _ (T_50.setTop (mkF m 186 #[.val (.int p0), .val (.int p1), .val (.int p2), .val (.int p3), .val (.int p4), .val (.int ((p0 &&& (3 : Int32)) + (1 : Int32))), .val (.int c_1), .val (.int c_2), .val (.int c_3), .val (.int c_4), .val (.ref a_27), .val (.ref a_27)] [(.int (1 : Int32))]))
      exact own_G.endH X_50 hS_43 (Nat.le_refl _) hZ_43 hEW (hh ▸ CH_44) hlk (v := (some (.int (1 : Int32)))) (fun h => by rw [hrt] at h; cases h) (fun fs hr => retN X_50 hx (z := (1 : Int32)) (t := .boolean) hrt (by simp) (hb hby at_186) hr) eh_50 ⟨rfl, N_50⟩ (by decide) (by decide)
    · refine own_G.go (fun t_ k_ => XS.icmpYes X_4.here hx rfl (pc0 := 61) (pc' := 89) rfl (hb hby at_61) rfl (feq hl2).2 (by decide) (by decide) k_) ?_
      show own_G _ _ _ _ (T_4.setTop (mkF m 89 #[.val (.int p0), .val (.int p1), .val (.int p2), .val (.int p3), .val (.int p4), .val (.int ((p0 &&& (3 : Int32)) + (1 : Int32))), .val (.int c_1), .val (.int c_2), .val (.int c_3), .val (.int c_4), .unset, .unset] []))
      refine own_G.go (fun t_ k_ => XS.iload X_4.here hx rfl (hb hby at_89) rfl k_) ?_
      show own_G _ _ _ _ (T_4.setTop (mkF m 91 #[.val (.int p0), .val (.int p1), .val (.int p2), .val (.int p3), .val (.int p4), .val (.int ((p0 &&& (3 : Int32)) + (1 : Int32))), .val (.int c_1), .val (.int c_2), .val (.int c_3), .val (.int c_4), .unset, .unset] [(.int ((p0 &&& (3 : Int32)) + (1 : Int32)))]))
      refine own_G.go (fun t_ k_ => XS.iconst X_4.here hx rfl (hb hby at_91) k_) ?_
      show own_G _ _ _ _ (T_4.setTop (mkF m 92 #[.val (.int p0), .val (.int p1), .val (.int p2), .val (.int p3), .val (.int p4), .val (.int ((p0 &&& (3 : Int32)) + (1 : Int32))), .val (.int c_1), .val (.int c_2), .val (.int c_3), .val (.int c_4), .unset, .unset] [(.int (3 : Int32)), (.int ((p0 &&& (3 : Int32)) + (1 : Int32)))]))
      by_cases hl3 : ((p0 &&& (3 : Int32)) + (1 : Int32)) = (3 : Int32)
      · refine own_G.go (fun t_ k_ => XS.icmpNo X_4.here hx rfl (hb hby at_92) rfl (teq hl3).2 k_) ?_
        show own_G _ _ _ _ (T_4.setTop (mkF m 95 #[.val (.int p0), .val (.int p1), .val (.int p2), .val (.int p3), .val (.int p4), .val (.int ((p0 &&& (3 : Int32)) + (1 : Int32))), .val (.int c_1), .val (.int c_2), .val (.int c_3), .val (.int c_4), .unset, .unset] []))
        obtain ⟨T_51, h_51, X_51, e_51, E_51, A_51, D_51, -, st_51⟩ := newO X_4 hx hZ hown (own_w hw 5 rfl) (own_w hw 6 rfl) (own_w hw 7 rfl) eh_4 (g := (mkF m 95 #[.val (.int p0), .val (.int p1), .val (.int p2), .val (.int p3), .val (.int p4), .val (.int ((p0 &&& (3 : Int32)) + (1 : Int32))), .val (.int c_1), .val (.int c_2), .val (.int c_3), .val (.int c_4), .unset, .unset] [])) rfl (hb hby at_95) (by decide) (by decide)
        obtain ⟨a_51, g_51⟩ : ∃ z, z = h0.size := ⟨_, rfl⟩
        rw [← g_51] at A_51 D_51 st_51
        refine own_G.go st_51 ?_
        have CH_52 : CHr Z own_EL s.vm h0 s.vm h_51 := CH0.trans (CHr.ext E_51 CH0.1)
        have Sn_51 : Safe Z own_EL s.vm h_51 a_51 := Safe.ext E_51 CH0.1 (Safe.new (Nat.le_of_eq g_51.symm))
        have F_51_coder : Fld Z h_51 a_51 "java/lang/String" "coder" "B" (.int (0 : Int32)) := D_51 (Or.inr (own_w hw 32 rfl)) (ty := .byte) (by decide)
        have F_51_value : Fld Z h_51 a_51 "java/lang/String" "value" "[B" .null := D_51 (Or.inr (own_w hw 34 rfl)) (ty := (.array .byte)) (by decide)
        show own_G _ _ _ _ (T_51.setTop (mkF m 98 #[.val (.int p0), .val (.int p1), .val (.int p2), .val (.int p3), .val (.int p4), .val (.int ((p0 &&& (3 : Int32)) + (1 : Int32))), .val (.int c_1), .val (.int c_2), .val (.int c_3), .val (.int c_4), .unset, .unset] [(.ref a_51)]))
        refine own_G.go (fun t_ k_ => XS.dup X_51.here hx rfl (hb hby at_98) rfl rfl k_) ?_
        show own_G _ _ _ _ (T_51.setTop (mkF m 99 #[.val (.int p0), .val (.int p1), .val (.int p2), .val (.int p3), .val (.int p4), .val (.int ((p0 &&& (3 : Int32)) + (1 : Int32))), .val (.int c_1), .val (.int c_2), .val (.int c_3), .val (.int c_4), .unset, .unset] [(.ref a_51), (.ref a_51)]))
        refine own_G.go (fun t_ k_ => XS.iconst X_51.here hx rfl (hb hby at_99) k_) ?_
        show own_G _ _ _ _ (T_51.setTop (mkF m 100 #[.val (.int p0), .val (.int p1), .val (.int p2), .val (.int p3), .val (.int p4), .val (.int ((p0 &&& (3 : Int32)) + (1 : Int32))), .val (.int c_1), .val (.int c_2), .val (.int c_3), .val (.int c_4), .unset, .unset] [(.int (3 : Int32)), (.ref a_51), (.ref a_51)]))
        obtain ⟨T_53, h_53, k_53, X_53, e_53, E_53, A_53, st_53⟩ := newP X_51 hx hZ (own_w hw 8 rfl) e_51 (g := (mkF m 100 #[.val (.int p0), .val (.int p1), .val (.int p2), .val (.int p3), .val (.int p4), .val (.int ((p0 &&& (3 : Int32)) + (1 : Int32))), .val (.int c_1), .val (.int c_2), .val (.int c_3), .val (.int c_4), .unset, .unset] [(.int (3 : Int32)), (.ref a_51), (.ref a_51)])) rfl (hb hby at_100) rfl (by decide : ¬ ((3 : Int32) < (0 : Int32))) (cap := 3) (by decide : ((3 : Int32)).toNatClampNeg ≤ 3) (by decide) (by decide) (by decide)
        obtain ⟨a_53, g_53⟩ : ∃ z, z = h_51.size := ⟨_, rfl⟩
        rw [← g_53] at A_53 st_53
        refine own_G.go st_53 ?_
        have Sf_54_a_51 : Safe Z own_EL s.vm h_53 a_51 := (Safe.ext E_53 CH_52.1 Sn_51)
        have CH_54 : CHr Z own_EL s.vm h0 s.vm h_53 := CH_52.trans (CHr.ext E_53 CH_52.1)
        have V_53 : Arv Z h_53 a_53 k_53 .char (3 : Int32) ([(.int (0 : Int32)), (.int (0 : Int32)), (.int (0 : Int32))] : List Value) (.int (0 : Int32)) := (Arv.new A_53 (by decide : ¬ ((3 : Int32) < (0 : Int32)))).pad (pad_rep [] (.int (0 : Int32)) 3)
        show own_G _ _ _ _ (T_53.setTop (mkF m 102 #[.val (.int p0), .val (.int p1), .val (.int p2), .val (.int p3), .val (.int p4), .val (.int ((p0 &&& (3 : Int32)) + (1 : Int32))), .val (.int c_1), .val (.int c_2), .val (.int c_3), .val (.int c_4), .unset, .unset] [(.ref a_53), (.ref a_51), (.ref a_51)]))
        refine own_G.go (fun t_ k_ => XS.dup X_53.here hx rfl (hb hby at_102) rfl rfl k_) ?_
        show own_G _ _ _ _ (T_53.setTop (mkF m 103 #[.val (.int p0), .val (.int p1), .val (.int p2), .val (.int p3), .val (.int p4), .val (.int ((p0 &&& (3 : Int32)) + (1 : Int32))), .val (.int c_1), .val (.int c_2), .val (.int c_3), .val (.int c_4), .unset, .unset] [(.ref a_53), (.ref a_53), (.ref a_51), (.ref a_51)]))
        refine own_G.go (fun t_ k_ => XS.iconst X_53.here hx rfl (hb hby at_103) k_) ?_
        show own_G _ _ _ _ (T_53.setTop (mkF m 104 #[.val (.int p0), .val (.int p1), .val (.int p2), .val (.int p3), .val (.int p4), .val (.int ((p0 &&& (3 : Int32)) + (1 : Int32))), .val (.int c_1), .val (.int c_2), .val (.int c_3), .val (.int c_4), .unset, .unset] [(.int (0 : Int32)), (.ref a_53), (.ref a_53), (.ref a_51), (.ref a_51)]))
        refine own_G.go (fun t_ k_ => XS.iload X_53.here hx rfl (hb hby at_104) rfl k_) ?_
        show own_G _ _ _ _ (T_53.setTop (mkF m 106 #[.val (.int p0), .val (.int p1), .val (.int p2), .val (.int p3), .val (.int p4), .val (.int ((p0 &&& (3 : Int32)) + (1 : Int32))), .val (.int c_1), .val (.int c_2), .val (.int c_3), .val (.int c_4), .unset, .unset] [(.int c_1), (.int (0 : Int32)), (.ref a_53), (.ref a_53), (.ref a_51), (.ref a_51)]))
        obtain ⟨T_55, h_55, X_55, e_55, W_55, V_55, st_55⟩ := own_stC X_53 hx hZ e_53 V_53 (j := (0 : Int32)) 0 (Nat.le_of_ble_eq_true rfl) (by decide) (by decide : ¬ ((0 : Int32) < (0 : Int32)) ∧ (0 : Int32) < (3 : Int32)) (g := (mkF m 106 #[.val (.int p0), .val (.int p1), .val (.int p2), .val (.int p3), .val (.int p4), .val (.int ((p0 &&& (3 : Int32)) + (1 : Int32))), .val (.int c_1), .val (.int c_2), .val (.int c_3), .val (.int c_4), .unset, .unset] [(.int c_1), (.int (0 : Int32)), (.ref a_53), (.ref a_53), (.ref a_51), (.ref a_51)])) rfl rfl (hb hby at_106)
        refine own_G.go st_55 ?_
        have Sf_56_a_51 : Safe Z own_EL s.vm h_55 a_51 := (Safe.wr W_55 (Safe.arv hZ.alike V_53 (by decide)) CH_54.1 Sf_54_a_51)
        have CH_56 : CHr Z own_EL s.vm h0 s.vm h_55 := CH_54.trans (CHr.wr W_55 (Safe.arv hZ.alike V_53 (by decide)) CH_54.1)
        have V_55q : Arv Z h_55 a_53 k_53 .char (3 : Int32) ([(.int (nar .char c_1)), (.int (0 : Int32)), (.int (0 : Int32))] : List Value) (.int (0 : Int32)) := V_55
        have g0_a_53 : n0 ≤ a_53 := Nat.le_trans (Nat.le_trans Z0 E_51.1) (Nat.le_of_eq g_53.symm)
        have N_55 := Fr.snoc X_55 N_4 g0_a_53
        show own_G _ _ _ _ (T_55.setTop (mkF m 107 #[.val (.int p0), .val (.int p1), .val (.int p2), .val (.int p3), .val (.int p4), .val (.int ((p0 &&& (3 : Int32)) + (1 : Int32))), .val (.int c_1), .val (.int c_2), .val (.int c_3), .val (.int c_4), .unset, .unset] [(.ref a_53), (.ref a_51), (.ref a_51)]))
        refine own_G.go (fun t_ k_ => XS.dup X_55.here hx rfl (hb hby at_107) rfl rfl k_) ?_
        show own_G _ _ _ _ (T_55.setTop (mkF m 108 #[.val (.int p0), .val (.int p1), .val (.int p2), .val (.int p3), .val (.int p4), .val (.int ((p0 &&& (3 : Int32)) + (1 : Int32))), .val (.int c_1), .val (.int c_2), .val (.int c_3), .val (.int c_4), .unset, .unset] [(.ref a_53), (.ref a_53), (.ref a_51), (.ref a_51)]))
        refine own_G.go (fun t_ k_ => XS.iconst X_55.here hx rfl (hb hby at_108) k_) ?_
        show own_G _ _ _ _ (T_55.setTop (mkF m 109 #[.val (.int p0), .val (.int p1), .val (.int p2), .val (.int p3), .val (.int p4), .val (.int ((p0 &&& (3 : Int32)) + (1 : Int32))), .val (.int c_1), .val (.int c_2), .val (.int c_3), .val (.int c_4), .unset, .unset] [(.int (1 : Int32)), (.ref a_53), (.ref a_53), (.ref a_51), (.ref a_51)]))
        refine own_G.go (fun t_ k_ => XS.iload X_55.here hx rfl (hb hby at_109) rfl k_) ?_
        show own_G _ _ _ _ (T_55.setTop (mkF m 111 #[.val (.int p0), .val (.int p1), .val (.int p2), .val (.int p3), .val (.int p4), .val (.int ((p0 &&& (3 : Int32)) + (1 : Int32))), .val (.int c_1), .val (.int c_2), .val (.int c_3), .val (.int c_4), .unset, .unset] [(.int c_2), (.int (1 : Int32)), (.ref a_53), (.ref a_53), (.ref a_51), (.ref a_51)]))
        obtain ⟨T_57, h_57, X_57, e_57, W_57, V_57, st_57⟩ := own_stC X_55 hx hZ e_55 V_55q (j := (1 : Int32)) 1 (Nat.le_of_ble_eq_true rfl) (by decide) (by decide : ¬ ((1 : Int32) < (0 : Int32)) ∧ (1 : Int32) < (3 : Int32)) (g := (mkF m 111 #[.val (.int p0), .val (.int p1), .val (.int p2), .val (.int p3), .val (.int p4), .val (.int ((p0 &&& (3 : Int32)) + (1 : Int32))), .val (.int c_1), .val (.int c_2), .val (.int c_3), .val (.int c_4), .unset, .unset] [(.int c_2), (.int (1 : Int32)), (.ref a_53), (.ref a_53), (.ref a_51), (.ref a_51)])) rfl rfl (hb hby at_111)
        refine own_G.go st_57 ?_
        have Sf_58_a_51 : Safe Z own_EL s.vm h_57 a_51 := (Safe.wr W_57 (Safe.arv hZ.alike V_55q (by decide)) CH_56.1 Sf_56_a_51)
        have CH_58 : CHr Z own_EL s.vm h0 s.vm h_57 := CH_56.trans (CHr.wr W_57 (Safe.arv hZ.alike V_55q (by decide)) CH_56.1)
        have V_57q : Arv Z h_57 a_53 k_53 .char (3 : Int32) ([(.int (nar .char c_1)), (.int (nar .char c_2)), (.int (0 : Int32))] : List Value) (.int (0 : Int32)) := V_57
        have N_57 := Fr.snoc X_57 N_55 g0_a_53
        show own_G _ _ _ _ (T_57.setTop (mkF m 112 #[.val (.int p0), .val (.int p1), .val (.int p2), .val (.int p3), .val (.int p4), .val (.int ((p0 &&& (3 : Int32)) + (1 : Int32))), .val (.int c_1), .val (.int c_2), .val (.int c_3), .val (.int c_4), .unset, .unset] [(.ref a_53), (.ref a_51), (.ref a_51)]))
        refine own_G.go (fun t_ k_ => XS.dup X_57.here hx rfl (hb hby at_112) rfl rfl k_) ?_
        show own_G _ _ _ _ (T_57.setTop (mkF m 113 #[.val (.int p0), .val (.int p1), .val (.int p2), .val (.int p3), .val (.int p4), .val (.int ((p0 &&& (3 : Int32)) + (1 : Int32))), .val (.int c_1), .val (.int c_2), .val (.int c_3), .val (.int c_4), .unset, .unset] [(.ref a_53), (.ref a_53), (.ref a_51), (.ref a_51)]))
        refine own_G.go (fun t_ k_ => XS.iconst X_57.here hx rfl (hb hby at_113) k_) ?_
        show own_G _ _ _ _ (T_57.setTop (mkF m 114 #[.val (.int p0), .val (.int p1), .val (.int p2), .val (.int p3), .val (.int p4), .val (.int ((p0 &&& (3 : Int32)) + (1 : Int32))), .val (.int c_1), .val (.int c_2), .val (.int c_3), .val (.int c_4), .unset, .unset] [(.int (2 : Int32)), (.ref a_53), (.ref a_53), (.ref a_51), (.ref a_51)]))
        refine own_G.go (fun t_ k_ => XS.iload X_57.here hx rfl (hb hby at_114) rfl k_) ?_
        show own_G _ _ _ _ (T_57.setTop (mkF m 116 #[.val (.int p0), .val (.int p1), .val (.int p2), .val (.int p3), .val (.int p4), .val (.int ((p0 &&& (3 : Int32)) + (1 : Int32))), .val (.int c_1), .val (.int c_2), .val (.int c_3), .val (.int c_4), .unset, .unset] [(.int c_3), (.int (2 : Int32)), (.ref a_53), (.ref a_53), (.ref a_51), (.ref a_51)]))
        obtain ⟨T_59, h_59, X_59, e_59, W_59, V_59, st_59⟩ := own_stC X_57 hx hZ e_57 V_57q (j := (2 : Int32)) 2 (Nat.le_of_ble_eq_true rfl) (by decide) (by decide : ¬ ((2 : Int32) < (0 : Int32)) ∧ (2 : Int32) < (3 : Int32)) (g := (mkF m 116 #[.val (.int p0), .val (.int p1), .val (.int p2), .val (.int p3), .val (.int p4), .val (.int ((p0 &&& (3 : Int32)) + (1 : Int32))), .val (.int c_1), .val (.int c_2), .val (.int c_3), .val (.int c_4), .unset, .unset] [(.int c_3), (.int (2 : Int32)), (.ref a_53), (.ref a_53), (.ref a_51), (.ref a_51)])) rfl rfl (hb hby at_116)
        refine own_G.go st_59 ?_
        have Sf_60_a_51 : Safe Z own_EL s.vm h_59 a_51 := (Safe.wr W_59 (Safe.arv hZ.alike V_57q (by decide)) CH_58.1 Sf_58_a_51)
        have CH_60 : CHr Z own_EL s.vm h0 s.vm h_59 := CH_58.trans (CHr.wr W_59 (Safe.arv hZ.alike V_57q (by decide)) CH_58.1)
        have V_59q : Arv Z h_59 a_53 k_53 .char (3 : Int32) ([(.int (nar .char c_1)), (.int (nar .char c_2)), (.int (nar .char c_3))] : List Value) (.int (0 : Int32)) := V_59
        have N_59 := Fr.snoc X_59 N_57 g0_a_53
        show own_G _ _ _ _ (T_59.setTop (mkF m 117 #[.val (.int p0), .val (.int p1), .val (.int p2), .val (.int p3), .val (.int p4), .val (.int ((p0 &&& (3 : Int32)) + (1 : Int32))), .val (.int c_1), .val (.int c_2), .val (.int c_3), .val (.int c_4), .unset, .unset] [(.ref a_53), (.ref a_51), (.ref a_51)]))
        have VC : Arv Z h_59 a_53 k_53 .char (3 : Int32) ([(.int c_1), (.int c_2), (.int c_3)] : List Value) (.int (0 : Int32)) := by have q := V_59q; rw [own_narc hn_1.1, own_narc hn_2.1, own_narc hn_3.1] at q; exact q
        have hp : ∀ c ∈ ([c_1, c_2, c_3] : List Int32), own_b c := by
          intro c hc
          simp only [List.mem_cons, List.not_mem_nil, or_false] at hc
          rcases hc with rfl | rfl | rfl
          · exact hn_1.1
          · exact hn_2.1
          · exact hn_3.1
        have A_51'_61 : Exa Z h_59 a_51 "java/lang/String" := ((((A_51.ext E_53).wr W_55).wr W_57).wr W_59)
        have F_51_value'_62 : Fld Z h_59 a_51 "java/lang/String" "value" "[B" .null := ((((F_51_value.ext E_53).other W_55 (Or.inl (Nat.ne_of_lt (Nat.lt_of_lt_of_le A_51.lt (Nat.le_of_eq g_53.symm))))).other W_57 (Or.inl (Nat.ne_of_lt (Nat.lt_of_lt_of_le A_51.lt (Nat.le_of_eq g_53.symm))))).other W_59 (Or.inl (Nat.ne_of_lt (Nat.lt_of_lt_of_le A_51.lt (Nat.le_of_eq g_53.symm)))))
        have F_51_coder'_63 : Fld Z h_59 a_51 "java/lang/String" "coder" "B" (.int (0 : Int32)) := ((((F_51_coder.ext E_53).other W_55 (Or.inl (Nat.ne_of_lt (Nat.lt_of_lt_of_le A_51.lt (Nat.le_of_eq g_53.symm))))).other W_57 (Or.inl (Nat.ne_of_lt (Nat.lt_of_lt_of_le A_51.lt (Nat.le_of_eq g_53.symm))))).other W_59 (Or.inl (Nat.ne_of_lt (Nat.lt_of_lt_of_le A_51.lt (Nat.le_of_eq g_53.symm)))))
        have g0_a_51 : n0 ≤ a_51 := Nat.le_trans Z0 (Nat.le_of_eq g_51.symm)
        have Z_64s : n0 ≤ h_59.size := (Nat.le_trans Z0 (Nat.le_trans (Nat.le_trans (Nat.le_trans (Nat.le_trans E_51.1 E_53.1) (Keep.of_wr W_55).1) (Keep.of_wr W_57).1) (Keep.of_wr W_59).1))
        have O_65d : Old Z n0 h_59 := (((((X00.ext E_51).ext E_53).wr W_55 g0_a_53).wr W_57 g0_a_53).wr W_59 g0_a_53)
        obtain ⟨_, T_66, L_66, Q_66, X_66, st_66⟩ := own_callI X_59 hx rfl hown (mvT hZ (own_w hw 9 rfl)) (mvT hZ (own_w hw 10 rfl)) (mvT hZ (own_w hw 11 rfl)) (by decide) (Q := (StrChars.Road.QV Z a_51 (3 : Int32) (([c_1, c_2, c_3] : List Int32).map (fun c => c.toInt8.toInt32)) h_59 n0)) (StrChars.Road.backV (W := 1) hZ hws (kI := 4) (own_w hw 6 rfl) (cs := ([c_1, c_2, c_3] : List Int32)) (bs := ([c_1, c_2, c_3] : List Int32).map (fun c => c.toInt8.toInt32)) (n := 3) g0_a_51 Z_64s A_51'_61 F_51_value'_62 F_51_coder'_63 VC (O2.ext O_65d.2) P5 rfl rfl (by decide) (by decide) hp rfl (by decide) (by decide)) (a := a_51) (g := (mkF m 117 #[.val (.int p0), .val (.int p1), .val (.int p2), .val (.int p3), .val (.int p4), .val (.int ((p0 &&& (3 : Int32)) + (1 : Int32))), .val (.int c_1), .val (.int c_2), .val (.int c_3), .val (.int c_4), .unset, .unset] [(.ref a_53), (.ref a_51), (.ref a_51)])) rfl (by rw [hml]; rfl) (argsL := [(.ref a_53)]) (rest := [(.ref a_51)]) (lenOf pd_10 rfl) rfl (by show 2 * 0 + _ ≤ _; exact Nat.le_of_eq rfl) (hb hby at_117) e_59 rfl (by decide) (by decide)
        obtain ⟨rfl, Nq_66, K_66, Ex_66, Fc_66, t_66, kb_66, tn_66, th_66, tx_66, Fv_66, Kb_66⟩ := Q_66
        refine own_G.via st_66 ?_
        have Sf_67_a_51 : Safe Z own_EL s.vm T_66.heap a_51 := (Safe.keep K_66 (sfS Sf_60_a_51 sf0) CH_60.1 Sf_60_a_51)
        have CH_67 : CHr Z own_EL s.vm h0 s.vm T_66.heap := CH_60.trans (CHr.keep K_66 (sfS Sf_60_a_51 sf0) CH_60.1)
        have N_66 := Fr.app N_59 Nq_66
        have hcd := StrChars.Road.codOf (cs := ([c_1, c_2, c_3] : List Int32)) (n := 3) rfl (fun c hc => (hp c hc).2)
        have hbd := own_up _ hp
        show own_G _ _ _ _ (T_66.setTop (mkF m 120 #[.val (.int p0), .val (.int p1), .val (.int p2), .val (.int p3), .val (.int p4), .val (.int ((p0 &&& (3 : Int32)) + (1 : Int32))), .val (.int c_1), .val (.int c_2), .val (.int c_3), .val (.int c_4), .unset, .unset] [(.ref a_51)]))
        refine own_G.go (fun t_ k_ => XS.astore X_66.here hx rfl (hb hby at_120) rfl rfl (l' := #[.val (.int p0), .val (.int p1), .val (.int p2), .val (.int p3), .val (.int p4), .val (.int ((p0 &&& (3 : Int32)) + (1 : Int32))), .val (.int c_1), .val (.int c_2), .val (.int c_3), .val (.int c_4), .val (.ref a_51), .unset]) rfl k_) ?_
        show own_G _ _ _ _ (T_66.setTop (mkF m 122 #[.val (.int p0), .val (.int p1), .val (.int p2), .val (.int p3), .val (.int p4), .val (.int ((p0 &&& (3 : Int32)) + (1 : Int32))), .val (.int c_1), .val (.int c_2), .val (.int c_3), .val (.int c_4), .val (.ref a_51), .unset] []))
        refine own_G.go (fun t_ k_ => XS.goto X_66.here hx rfl (pc0 := 122) (pc' := 157) rfl (hb hby at_122) (by decide) (by decide) k_) ?_
        show own_G _ _ _ _ (T_66.setTop (mkF m 157 #[.val (.int p0), .val (.int p1), .val (.int p2), .val (.int p3), .val (.int p4), .val (.int ((p0 &&& (3 : Int32)) + (1 : Int32))), .val (.int c_1), .val (.int c_2), .val (.int c_3), .val (.int c_4), .val (.ref a_51), .unset] []))
        refine own_G.go (fun t_ k_ => XS.aload X_66.here hx rfl (hb hby at_157) rfl rfl k_) ?_
        show own_G _ _ _ _ (T_66.setTop (mkF m 159 #[.val (.int p0), .val (.int p1), .val (.int p2), .val (.int p3), .val (.int p4), .val (.int ((p0 &&& (3 : Int32)) + (1 : Int32))), .val (.int c_1), .val (.int c_2), .val (.int c_3), .val (.int c_4), .val (.ref a_51), .unset] [(.ref a_51)]))
        have O_68d : Old Z n0 T_66.heap := (O_65d.keep K_66 (allS g0_a_51 all0))
        obtain ⟨_, T_69, L_69, Q_69, X_69, hS_69, hZ_69, hown_69, st_69⟩ := own_callSW X_66 hx hS0 (Nat.le_trans (Nat.zero_le _) (Nat.le_trans (Nat.le_trans (Nat.le_trans (Nat.le_trans (Nat.le_trans E_51.1 E_53.1) (Keep.of_wr W_55).1) (Keep.of_wr W_57).1) (Keep.of_wr W_59).1) K_66.1)) hZ hown (mvT hZ (own_w hw 35 rfl)) (mvT hZ (own_w hw 36 rfl)) (mvT hZ (own_w hw 37 rfl)) (mvT hZ (own_w hw 38 rfl)) (by decide) (Q := (fun v (U : State) L => Qrv a_51 T_66.heap n0 v U.heap L ∧ CHr Z own_EL s.vm T_66.heap U.vm U.heap)) (own_backSH (backOfSH (W := 0) (rm_rv3 l Z a0 hw [] a_51 t_66 kb_66 c_1 c_2 c_3 zc fm T_66.heap n0 (Nat.le_trans Z_64s K_66.1) Ex_66 Fv_66 Fc_66 Kb_66 hn_1 hn_2 hn_3 O2 O4 P5 rfm O_68d) hZ (own_w hw 38 rfl) (own_w hw 37 rfl) (by decide) (by decide) hEW CH_67.1)) (g := (mkF m 159 #[.val (.int p0), .val (.int p1), .val (.int p2), .val (.int p3), .val (.int p4), .val (.int ((p0 &&& (3 : Int32)) + (1 : Int32))), .val (.int c_1), .val (.int c_2), .val (.int c_3), .val (.int c_4), .val (.ref a_51), .unset] [(.ref a_51)])) rfl (by rw [hml]; rfl) (argsL := [(.ref a_51)]) (rest := []) (lenOf pd_11 rfl) rfl (by show 2 * 0 + _ ≤ _; exact Nat.le_of_eq rfl) (hb hby at_159) rfl rfl (by decide) (by decide)
        obtain ⟨⟨rfl, Nq_69, K_69⟩, Ch_69⟩ := Q_69
        refine own_G.via st_69 ?_
        have Sf_70_a_51 : Safe Z own_EL T_69.vm T_69.heap a_51 := Ch_69.safe (Nat.lt_of_lt_of_le A_51.lt (Nat.le_trans (Nat.le_trans (Nat.le_trans (Nat.le_trans E_53.1 (Keep.of_wr W_55).1) (Keep.of_wr W_57).1) (Keep.of_wr W_59).1) K_66.1)) Sf_67_a_51
        have CH_70 : CHr Z own_EL s.vm h0 T_69.vm T_69.heap := CH_67.trans Ch_69
        have N_69 := Fr.app N_66 Nq_69
        show own_G _ _ _ _ (T_69.setTop (mkF m 162 #[.val (.int p0), .val (.int p1), .val (.int p2), .val (.int p3), .val (.int p4), .val (.int ((p0 &&& (3 : Int32)) + (1 : Int32))), .val (.int c_1), .val (.int c_2), .val (.int c_3), .val (.int c_4), .val (.ref a_51), .unset] [(.ref a_51)]))
        refine own_G.go (fun t_ k_ => XS.astore X_69.here hx rfl (hb hby at_162) rfl rfl (l' := #[.val (.int p0), .val (.int p1), .val (.int p2), .val (.int p3), .val (.int p4), .val (.int ((p0 &&& (3 : Int32)) + (1 : Int32))), .val (.int c_1), .val (.int c_2), .val (.int c_3), .val (.int c_4), .val (.ref a_51), .val (.ref a_51)]) rfl k_) ?_
        show own_G _ _ _ _ (T_69.setTop (mkF m 164 #[.val (.int p0), .val (.int p1), .val (.int p2), .val (.int p3), .val (.int p4), .val (.int ((p0 &&& (3 : Int32)) + (1 : Int32))), .val (.int c_1), .val (.int c_2), .val (.int c_3), .val (.int c_4), .val (.ref a_51), .val (.ref a_51)] []))
        refine own_G.go (fun t_ k_ => XS.aload X_69.here hx rfl (hb hby at_164) rfl rfl k_) ?_
        show own_G _ _ _ _ (T_69.setTop (mkF m 166 #[.val (.int p0), .val (.int p1), .val (.int p2), .val (.int p3), .val (.int p4), .val (.int ((p0 &&& (3 : Int32)) + (1 : Int32))), .val (.int c_1), .val (.int c_2), .val (.int c_3), .val (.int c_4), .val (.ref a_51), .val (.ref a_51)] [(.ref a_51)]))
        refine own_G.go (fun t_ k_ => XS.aload X_69.here hx rfl (hb hby at_166) rfl rfl k_) ?_
        show own_G _ _ _ _ (T_69.setTop (mkF m 168 #[.val (.int p0), .val (.int p1), .val (.int p2), .val (.int p3), .val (.int p4), .val (.int ((p0 &&& (3 : Int32)) + (1 : Int32))), .val (.int c_1), .val (.int c_2), .val (.int c_3), .val (.int c_4), .val (.ref a_51), .val (.ref a_51)] [(.ref a_51), (.ref a_51)]))
        refine own_G.go (fun t_ k_ => Jvm.RoadKit.acmp (g := (mkF m 168 #[.val (.int p0), .val (.int p1), .val (.int p2), .val (.int p3), .val (.int p4), .val (.int ((p0 &&& (3 : Int32)) + (1 : Int32))), .val (.int c_1), .val (.int c_2), .val (.int c_3), .val (.int c_4), .val (.ref a_51), .val (.ref a_51)] [(.ref a_51), (.ref a_51)])) X_69 hx rfl rfl rfl (pc0 := 168) (pc' := 171) (same := true) rfl (hb hby at_168) rfl (decide_eq_true (rfl : ((.ref a_51) : Value) = (.ref a_51))) (by decide) (by decide) k_) ?_
        show own_G _ _ _ _ (T_69.setTop (mkF m 171 #[.val (.int p0), .val (.int p1), .val (.int p2), .val (.int p3), .val (.int p4), .val (.int ((p0 &&& (3 : Int32)) + (1 : Int32))), .val (.int c_1), .val (.int c_2), .val (.int c_3), .val (.int c_4), .val (.ref a_51), .val (.ref a_51)] []))
        refine own_G.go (fun t_ k_ => XS.aload X_69.here hx rfl (hb hby at_171) rfl rfl k_) ?_
        show own_G _ _ _ _ (T_69.setTop (mkF m 173 #[.val (.int p0), .val (.int p1), .val (.int p2), .val (.int p3), .val (.int p4), .val (.int ((p0 &&& (3 : Int32)) + (1 : Int32))), .val (.int c_1), .val (.int c_2), .val (.int c_3), .val (.int c_4), .val (.ref a_51), .val (.ref a_51)] [(.ref a_51)]))
        have Ex_66'_71 : Exa Z T_69.heap a_51 "java/lang/String" := (Ex_66.keep K_69)
        have Fv_66'_72 : Fld Z T_69.heap a_51 "java/lang/String" "value" "[B" (.ref t_66) := (Fv_66.keep K_69 nin0)
        have Fc_66'_73 : Fld Z T_69.heap a_51 "java/lang/String" "coder" "B" (.int 0) := (Fc_66.keep K_69 nin0)
        have Kb_66'_74 : Arv Z T_69.heap t_66 kb_66 .byte (3 : Int32) ((([c_1, c_2, c_3] : List Int32).map (fun c => c.toInt8.toInt32)).map Value.int) (.int 0) := (Kb_66.keep K_69 nin0)
        have O_75d : Old Z n0 T_69.heap := (O_68d.keep K_69 all0)
        obtain ⟨cq_76, kq_76, q_76a, q_76b, q_76c⟩ := isOf hZ_69 rfl Ex_66'_71
        obtain ⟨_, T_76, L_76, Q_76, X_76, st_76⟩ := own_callV X_69 hx (z := (⟨"java/lang/String", "length", "()I"⟩ : MethodName)) hown_69 (mvT hZ_69 (own_w hw 86 rfl)) (mvT hZ_69 (own_w hw 52 rfl)) (notFace_of_selects (args := #[]) (mvT hZ_69 (own_w hw 54 rfl))) (mvT hZ_69 (own_w hw 54 rfl)) (mvT hZ_69 (own_w hw 53 rfl)) (by decide) (Q := (fun v h' L => v = some (.int (Int32.ofNat ([c_1, c_2, c_3] : List Int32).length)) ∧ L = [] ∧ h' = T_69.heap)) (StrChars.Road.lenW (W := 0) hZ_69 hln (kI := 4) (own_w hw 6 rfl) Ex_66'_71 Fv_66'_72 Fc_66'_73 Kb_66'_74 hcd hbd (O2.ext O_75d.2) P5 (Nat.le_of_ble_eq_true rfl) (by decide) (by decide)) q_76a q_76c (g := (mkF m 173 #[.val (.int p0), .val (.int p1), .val (.int p2), .val (.int p3), .val (.int p4), .val (.int ((p0 &&& (3 : Int32)) + (1 : Int32))), .val (.int c_1), .val (.int c_2), .val (.int c_3), .val (.int c_4), .val (.ref a_51), .val (.ref a_51)] [(.ref a_51)])) rfl (by rw [hml]; rfl) (argsL := []) (rest := []) (lenOf pd_5 rfl) rfl (by show 2 * 0 + _ ≤ _; exact Nat.le_of_eq rfl) (hb hby at_173) rfl rfl (by decide) (by decide)
        obtain ⟨rfl, rfl, eh_76⟩ := Q_76
        refine own_G.via st_76 ?_
        have N_76 := Fr.app N_69 (Fr.nil n0)
        show own_G _ _ _ _ (T_76.setTop (mkF m 176 #[.val (.int p0), .val (.int p1), .val (.int p2), .val (.int p3), .val (.int p4), .val (.int ((p0 &&& (3 : Int32)) + (1 : Int32))), .val (.int c_1), .val (.int c_2), .val (.int c_3), .val (.int c_4), .val (.ref a_51), .val (.ref a_51)] [(.int (3 : Int32))]))
        refine own_G.go (fun t_ k_ => XS.iload X_76.here hx rfl (hb hby at_176) rfl k_) ?_
        show own_G _ _ _ _ (T_76.setTop (mkF m 178 #[.val (.int p0), .val (.int p1), .val (.int p2), .val (.int p3), .val (.int p4), .val (.int ((p0 &&& (3 : Int32)) + (1 : Int32))), .val (.int c_1), .val (.int c_2), .val (.int c_3), .val (.int c_4), .val (.ref a_51), .val (.ref a_51)] [(.int ((p0 &&& (3 : Int32)) + (1 : Int32))), (.int (3 : Int32))]))
        refine own_G.go (fun t_ k_ => XS.icmpNo X_76.here hx rfl (hb hby at_178) rfl (teq (hl3.symm : (3 : Int32) = ((p0 &&& (3 : Int32)) + (1 : Int32)))).2 k_) ?_
        show own_G _ _ _ _ (T_76.setTop (mkF m 181 #[.val (.int p0), .val (.int p1), .val (.int p2), .val (.int p3), .val (.int p4), .val (.int ((p0 &&& (3 : Int32)) + (1 : Int32))), .val (.int c_1), .val (.int c_2), .val (.int c_3), .val (.int c_4), .val (.ref a_51), .val (.ref a_51)] []))
        refine own_G.go (fun t_ k_ => XS.iconst X_76.here hx rfl (hb hby at_181) k_) ?_
        show own_G _ _ _ _ (T_76.setTop (mkF m 182 #[.val (.int p0), .val (.int p1), .val (.int p2), .val (.int p3), .val (.int p4), .val (.int ((p0 &&& (3 : Int32)) + (1 : Int32))), .val (.int c_1), .val (.int c_2), .val (.int c_3), .val (.int c_4), .val (.ref a_51), .val (.ref a_51)] [(.int (1 : Int32))]))
        refine own_G.go (fun t_ k_ => XS.goto X_76.here hx rfl (pc0 := 182) (pc' := 186) rfl (hb hby at_182) (by decide) (by decide) k_) ?_
        show own_G _ _ _ _ (T_76.setTop (mkF m 186 #[.val (.int p0), .val (.int p1), .val (.int p2), .val (.int p3), .val (.int p4), .val (.int ((p0 &&& (3 : Int32)) + (1 : Int32))), .val (.int c_1), .val (.int c_2), .val (.int c_3), .val (.int c_4), .val (.ref a_51), .val (.ref a_51)] [(.int (1 : Int32))]))
        exact own_G.endH X_76 hS_69 (Nat.le_refl _) hZ_69 hEW (hh ▸ CH_70) hlk (v := (some (.int (1 : Int32)))) (fun h => by rw [hrt] at h; cases h) (fun fs hr => retN X_76 hx (z := (1 : Int32)) (t := .boolean) hrt (by simp) (hb hby at_186) hr) eh_76 ⟨rfl, N_76⟩ (by decide) (by decide)
      · refine own_G.go (fun t_ k_ => XS.icmpYes X_4.here hx rfl (pc0 := 92) (pc' := 125) rfl (hb hby at_92) rfl (feq hl3).2 (by decide) (by decide) k_) ?_
        show own_G _ _ _ _ (T_4.setTop (mkF m 125 #[.val (.int p0), .val (.int p1), .val (.int p2), .val (.int p3), .val (.int p4), .val (.int ((p0 &&& (3 : Int32)) + (1 : Int32))), .val (.int c_1), .val (.int c_2), .val (.int c_3), .val (.int c_4), .unset, .unset] []))
        obtain ⟨T_77, h_77, X_77, e_77, E_77, A_77, D_77, -, st_77⟩ := newO X_4 hx hZ hown (own_w hw 5 rfl) (own_w hw 6 rfl) (own_w hw 7 rfl) eh_4 (g := (mkF m 125 #[.val (.int p0), .val (.int p1), .val (.int p2), .val (.int p3), .val (.int p4), .val (.int ((p0 &&& (3 : Int32)) + (1 : Int32))), .val (.int c_1), .val (.int c_2), .val (.int c_3), .val (.int c_4), .unset, .unset] [])) rfl (hb hby at_125) (by decide) (by decide)
        obtain ⟨a_77, g_77⟩ : ∃ z, z = h0.size := ⟨_, rfl⟩
        rw [← g_77] at A_77 D_77 st_77
        refine own_G.go st_77 ?_
        have CH_78 : CHr Z own_EL s.vm h0 s.vm h_77 := CH0.trans (CHr.ext E_77 CH0.1)
        have Sn_77 : Safe Z own_EL s.vm h_77 a_77 := Safe.ext E_77 CH0.1 (Safe.new (Nat.le_of_eq g_77.symm))
        have F_77_coder : Fld Z h_77 a_77 "java/lang/String" "coder" "B" (.int (0 : Int32)) := D_77 (Or.inr (own_w hw 32 rfl)) (ty := .byte) (by decide)
        have F_77_value : Fld Z h_77 a_77 "java/lang/String" "value" "[B" .null := D_77 (Or.inr (own_w hw 34 rfl)) (ty := (.array .byte)) (by decide)
        show own_G _ _ _ _ (T_77.setTop (mkF m 128 #[.val (.int p0), .val (.int p1), .val (.int p2), .val (.int p3), .val (.int p4), .val (.int ((p0 &&& (3 : Int32)) + (1 : Int32))), .val (.int c_1), .val (.int c_2), .val (.int c_3), .val (.int c_4), .unset, .unset] [(.ref a_77)]))
        refine own_G.go (fun t_ k_ => XS.dup X_77.here hx rfl (hb hby at_128) rfl rfl k_) ?_
        show own_G _ _ _ _ (T_77.setTop (mkF m 129 #[.val (.int p0), .val (.int p1), .val (.int p2), .val (.int p3), .val (.int p4), .val (.int ((p0 &&& (3 : Int32)) + (1 : Int32))), .val (.int c_1), .val (.int c_2), .val (.int c_3), .val (.int c_4), .unset, .unset] [(.ref a_77), (.ref a_77)]))
        refine own_G.go (fun t_ k_ => XS.iconst X_77.here hx rfl (hb hby at_129) k_) ?_
        show own_G _ _ _ _ (T_77.setTop (mkF m 130 #[.val (.int p0), .val (.int p1), .val (.int p2), .val (.int p3), .val (.int p4), .val (.int ((p0 &&& (3 : Int32)) + (1 : Int32))), .val (.int c_1), .val (.int c_2), .val (.int c_3), .val (.int c_4), .unset, .unset] [(.int (4 : Int32)), (.ref a_77), (.ref a_77)]))
        obtain ⟨T_79, h_79, k_79, X_79, e_79, E_79, A_79, st_79⟩ := newP X_77 hx hZ (own_w hw 8 rfl) e_77 (g := (mkF m 130 #[.val (.int p0), .val (.int p1), .val (.int p2), .val (.int p3), .val (.int p4), .val (.int ((p0 &&& (3 : Int32)) + (1 : Int32))), .val (.int c_1), .val (.int c_2), .val (.int c_3), .val (.int c_4), .unset, .unset] [(.int (4 : Int32)), (.ref a_77), (.ref a_77)])) rfl (hb hby at_130) rfl (by decide : ¬ ((4 : Int32) < (0 : Int32))) (cap := 4) (by decide : ((4 : Int32)).toNatClampNeg ≤ 4) (by decide) (by decide) (by decide)
        obtain ⟨a_79, g_79⟩ : ∃ z, z = h_77.size := ⟨_, rfl⟩
        rw [← g_79] at A_79 st_79
        refine own_G.go st_79 ?_
        have Sf_80_a_77 : Safe Z own_EL s.vm h_79 a_77 := (Safe.ext E_79 CH_78.1 Sn_77)
        have CH_80 : CHr Z own_EL s.vm h0 s.vm h_79 := CH_78.trans (CHr.ext E_79 CH_78.1)
        have V_79 : Arv Z h_79 a_79 k_79 .char (4 : Int32) ([(.int (0 : Int32)), (.int (0 : Int32)), (.int (0 : Int32)), (.int (0 : Int32))] : List Value) (.int (0 : Int32)) := (Arv.new A_79 (by decide : ¬ ((4 : Int32) < (0 : Int32)))).pad (pad_rep [] (.int (0 : Int32)) 4)
        show own_G _ _ _ _ (T_79.setTop (mkF m 132 #[.val (.int p0), .val (.int p1), .val (.int p2), .val (.int p3), .val (.int p4), .val (.int ((p0 &&& (3 : Int32)) + (1 : Int32))), .val (.int c_1), .val (.int c_2), .val (.int c_3), .val (.int c_4), .unset, .unset] [(.ref a_79), (.ref a_77), (.ref a_77)]))
        refine own_G.go (fun t_ k_ => XS.dup X_79.here hx rfl (hb hby at_132) rfl rfl k_) ?_
        show own_G _ _ _ _ (T_79.setTop (mkF m 133 #[.val (.int p0), .val (.int p1), .val (.int p2), .val (.int p3), .val (.int p4), .val (.int ((p0 &&& (3 : Int32)) + (1 : Int32))), .val (.int c_1), .val (.int c_2), .val (.int c_3), .val (.int c_4), .unset, .unset] [(.ref a_79), (.ref a_79), (.ref a_77), (.ref a_77)]))
        refine own_G.go (fun t_ k_ => XS.iconst X_79.here hx rfl (hb hby at_133) k_) ?_
        show own_G _ _ _ _ (T_79.setTop (mkF m 134 #[.val (.int p0), .val (.int p1), .val (.int p2), .val (.int p3), .val (.int p4), .val (.int ((p0 &&& (3 : Int32)) + (1 : Int32))), .val (.int c_1), .val (.int c_2), .val (.int c_3), .val (.int c_4), .unset, .unset] [(.int (0 : Int32)), (.ref a_79), (.ref a_79), (.ref a_77), (.ref a_77)]))
        refine own_G.go (fun t_ k_ => XS.iload X_79.here hx rfl (hb hby at_134) rfl k_) ?_
        show own_G _ _ _ _ (T_79.setTop (mkF m 136 #[.val (.int p0), .val (.int p1), .val (.int p2), .val (.int p3), .val (.int p4), .val (.int ((p0 &&& (3 : Int32)) + (1 : Int32))), .val (.int c_1), .val (.int c_2), .val (.int c_3), .val (.int c_4), .unset, .unset] [(.int c_1), (.int (0 : Int32)), (.ref a_79), (.ref a_79), (.ref a_77), (.ref a_77)]))
        obtain ⟨T_81, h_81, X_81, e_81, W_81, V_81, st_81⟩ := own_stC X_79 hx hZ e_79 V_79 (j := (0 : Int32)) 0 (Nat.le_of_ble_eq_true rfl) (by decide) (by decide : ¬ ((0 : Int32) < (0 : Int32)) ∧ (0 : Int32) < (4 : Int32)) (g := (mkF m 136 #[.val (.int p0), .val (.int p1), .val (.int p2), .val (.int p3), .val (.int p4), .val (.int ((p0 &&& (3 : Int32)) + (1 : Int32))), .val (.int c_1), .val (.int c_2), .val (.int c_3), .val (.int c_4), .unset, .unset] [(.int c_1), (.int (0 : Int32)), (.ref a_79), (.ref a_79), (.ref a_77), (.ref a_77)])) rfl rfl (hb hby at_136)
        refine own_G.go st_81 ?_
        have Sf_82_a_77 : Safe Z own_EL s.vm h_81 a_77 := (Safe.wr W_81 (Safe.arv hZ.alike V_79 (by decide)) CH_80.1 Sf_80_a_77)
        have CH_82 : CHr Z own_EL s.vm h0 s.vm h_81 := CH_80.trans (CHr.wr W_81 (Safe.arv hZ.alike V_79 (by decide)) CH_80.1)
        have V_81q : Arv Z h_81 a_79 k_79 .char (4 : Int32) ([(.int (nar .char c_1)), (.int (0 : Int32)), (.int (0 : Int32)), (.int (0 : Int32))] : List Value) (.int (0 : Int32)) := V_81
        have g0_a_79 : n0 ≤ a_79 := Nat.le_trans (Nat.le_trans Z0 E_77.1) (Nat.le_of_eq g_79.symm)
        have N_81 := Fr.snoc X_81 N_4 g0_a_79
        show own_G _ _ _ _ (T_81.setTop (mkF m 137 #[.val (.int p0), .val (.int p1), .val (.int p2), .val (.int p3), .val (.int p4), .val (.int ((p0 &&& (3 : Int32)) + (1 : Int32))), .val (.int c_1), .val (.int c_2), .val (.int c_3), .val (.int c_4), .unset, .unset] [(.ref a_79), (.ref a_77), (.ref a_77)]))
        refine own_G.go (fun t_ k_ => XS.dup X_81.here hx rfl (hb hby at_137) rfl rfl k_) ?_
        show own_G _ _ _ _ (T_81.setTop (mkF m 138 #[.val (.int p0), .val (.int p1), .val (.int p2), .val (.int p3), .val (.int p4), .val (.int ((p0 &&& (3 : Int32)) + (1 : Int32))), .val (.int c_1), .val (.int c_2), .val (.int c_3), .val (.int c_4), .unset, .unset] [(.ref a_79), (.ref a_79), (.ref a_77), (.ref a_77)]))
        refine own_G.go (fun t_ k_ => XS.iconst X_81.here hx rfl (hb hby at_138) k_) ?_
        show own_G _ _ _ _ (T_81.setTop (mkF m 139 #[.val (.int p0), .val (.int p1), .val (.int p2), .val (.int p3), .val (.int p4), .val (.int ((p0 &&& (3 : Int32)) + (1 : Int32))), .val (.int c_1), .val (.int c_2), .val (.int c_3), .val (.int c_4), .unset, .unset] [(.int (1 : Int32)), (.ref a_79), (.ref a_79), (.ref a_77), (.ref a_77)]))
        refine own_G.go (fun t_ k_ => XS.iload X_81.here hx rfl (hb hby at_139) rfl k_) ?_
        show own_G _ _ _ _ (T_81.setTop (mkF m 141 #[.val (.int p0), .val (.int p1), .val (.int p2), .val (.int p3), .val (.int p4), .val (.int ((p0 &&& (3 : Int32)) + (1 : Int32))), .val (.int c_1), .val (.int c_2), .val (.int c_3), .val (.int c_4), .unset, .unset] [(.int c_2), (.int (1 : Int32)), (.ref a_79), (.ref a_79), (.ref a_77), (.ref a_77)]))
        obtain ⟨T_83, h_83, X_83, e_83, W_83, V_83, st_83⟩ := own_stC X_81 hx hZ e_81 V_81q (j := (1 : Int32)) 1 (Nat.le_of_ble_eq_true rfl) (by decide) (by decide : ¬ ((1 : Int32) < (0 : Int32)) ∧ (1 : Int32) < (4 : Int32)) (g := (mkF m 141 #[.val (.int p0), .val (.int p1), .val (.int p2), .val (.int p3), .val (.int p4), .val (.int ((p0 &&& (3 : Int32)) + (1 : Int32))), .val (.int c_1), .val (.int c_2), .val (.int c_3), .val (.int c_4), .unset, .unset] [(.int c_2), (.int (1 : Int32)), (.ref a_79), (.ref a_79), (.ref a_77), (.ref a_77)])) rfl rfl (hb hby at_141)
        refine own_G.go st_83 ?_
        have Sf_84_a_77 : Safe Z own_EL s.vm h_83 a_77 := (Safe.wr W_83 (Safe.arv hZ.alike V_81q (by decide)) CH_82.1 Sf_82_a_77)
        have CH_84 : CHr Z own_EL s.vm h0 s.vm h_83 := CH_82.trans (CHr.wr W_83 (Safe.arv hZ.alike V_81q (by decide)) CH_82.1)
        have V_83q : Arv Z h_83 a_79 k_79 .char (4 : Int32) ([(.int (nar .char c_1)), (.int (nar .char c_2)), (.int (0 : Int32)), (.int (0 : Int32))] : List Value) (.int (0 : Int32)) := V_83
        have N_83 := Fr.snoc X_83 N_81 g0_a_79
        show own_G _ _ _ _ (T_83.setTop (mkF m 142 #[.val (.int p0), .val (.int p1), .val (.int p2), .val (.int p3), .val (.int p4), .val (.int ((p0 &&& (3 : Int32)) + (1 : Int32))), .val (.int c_1), .val (.int c_2), .val (.int c_3), .val (.int c_4), .unset, .unset] [(.ref a_79), (.ref a_77), (.ref a_77)]))
        refine own_G.go (fun t_ k_ => XS.dup X_83.here hx rfl (hb hby at_142) rfl rfl k_) ?_
        show own_G _ _ _ _ (T_83.setTop (mkF m 143 #[.val (.int p0), .val (.int p1), .val (.int p2), .val (.int p3), .val (.int p4), .val (.int ((p0 &&& (3 : Int32)) + (1 : Int32))), .val (.int c_1), .val (.int c_2), .val (.int c_3), .val (.int c_4), .unset, .unset] [(.ref a_79), (.ref a_79), (.ref a_77), (.ref a_77)]))
        refine own_G.go (fun t_ k_ => XS.iconst X_83.here hx rfl (hb hby at_143) k_) ?_
        show own_G _ _ _ _ (T_83.setTop (mkF m 144 #[.val (.int p0), .val (.int p1), .val (.int p2), .val (.int p3), .val (.int p4), .val (.int ((p0 &&& (3 : Int32)) + (1 : Int32))), .val (.int c_1), .val (.int c_2), .val (.int c_3), .val (.int c_4), .unset, .unset] [(.int (2 : Int32)), (.ref a_79), (.ref a_79), (.ref a_77), (.ref a_77)]))
        refine own_G.go (fun t_ k_ => XS.iload X_83.here hx rfl (hb hby at_144) rfl k_) ?_
        show own_G _ _ _ _ (T_83.setTop (mkF m 146 #[.val (.int p0), .val (.int p1), .val (.int p2), .val (.int p3), .val (.int p4), .val (.int ((p0 &&& (3 : Int32)) + (1 : Int32))), .val (.int c_1), .val (.int c_2), .val (.int c_3), .val (.int c_4), .unset, .unset] [(.int c_3), (.int (2 : Int32)), (.ref a_79), (.ref a_79), (.ref a_77), (.ref a_77)]))
        obtain ⟨T_85, h_85, X_85, e_85, W_85, V_85, st_85⟩ := own_stC X_83 hx hZ e_83 V_83q (j := (2 : Int32)) 2 (Nat.le_of_ble_eq_true rfl) (by decide) (by decide : ¬ ((2 : Int32) < (0 : Int32)) ∧ (2 : Int32) < (4 : Int32)) (g := (mkF m 146 #[.val (.int p0), .val (.int p1), .val (.int p2), .val (.int p3), .val (.int p4), .val (.int ((p0 &&& (3 : Int32)) + (1 : Int32))), .val (.int c_1), .val (.int c_2), .val (.int c_3), .val (.int c_4), .unset, .unset] [(.int c_3), (.int (2 : Int32)), (.ref a_79), (.ref a_79), (.ref a_77), (.ref a_77)])) rfl rfl (hb hby at_146)
        refine own_G.go st_85 ?_
        have Sf_86_a_77 : Safe Z own_EL s.vm h_85 a_77 := (Safe.wr W_85 (Safe.arv hZ.alike V_83q (by decide)) CH_84.1 Sf_84_a_77)
        have CH_86 : CHr Z own_EL s.vm h0 s.vm h_85 := CH_84.trans (CHr.wr W_85 (Safe.arv hZ.alike V_83q (by decide)) CH_84.1)
        have V_85q : Arv Z h_85 a_79 k_79 .char (4 : Int32) ([(.int (nar .char c_1)), (.int (nar .char c_2)), (.int (nar .char c_3)), (.int (0 : Int32))] : List Value) (.int (0 : Int32)) := V_85
        have N_85 := Fr.snoc X_85 N_83 g0_a_79
        show own_G _ _ _ _ (T_85.setTop (mkF m 147 #[.val (.int p0), .val (.int p1), .val (.int p2), .val (.int p3), .val (.int p4), .val (.int ((p0 &&& (3 : Int32)) + (1 : Int32))), .val (.int c_1), .val (.int c_2), .val (.int c_3), .val (.int c_4), .unset, .unset] [(.ref a_79), (.ref a_77), (.ref a_77)]))
        refine own_G.go (fun t_ k_ => XS.dup X_85.here hx rfl (hb hby at_147) rfl rfl k_) ?_
        show own_G _ _ _ _ (T_85.setTop (mkF m 148 #[.val (.int p0), .val (.int p1), .val (.int p2), .val (.int p3), .val (.int p4), .val (.int ((p0 &&& (3 : Int32)) + (1 : Int32))), .val (.int c_1), .val (.int c_2), .val (.int c_3), .val (.int c_4), .unset, .unset] [(.ref a_79), (.ref a_79), (.ref a_77), (.ref a_77)]))
        refine own_G.go (fun t_ k_ => XS.iconst X_85.here hx rfl (hb hby at_148) k_) ?_
        show own_G _ _ _ _ (T_85.setTop (mkF m 149 #[.val (.int p0), .val (.int p1), .val (.int p2), .val (.int p3), .val (.int p4), .val (.int ((p0 &&& (3 : Int32)) + (1 : Int32))), .val (.int c_1), .val (.int c_2), .val (.int c_3), .val (.int c_4), .unset, .unset] [(.int (3 : Int32)), (.ref a_79), (.ref a_79), (.ref a_77), (.ref a_77)]))
        refine own_G.go (fun t_ k_ => XS.iload X_85.here hx rfl (hb hby at_149) rfl k_) ?_
        show own_G _ _ _ _ (T_85.setTop (mkF m 151 #[.val (.int p0), .val (.int p1), .val (.int p2), .val (.int p3), .val (.int p4), .val (.int ((p0 &&& (3 : Int32)) + (1 : Int32))), .val (.int c_1), .val (.int c_2), .val (.int c_3), .val (.int c_4), .unset, .unset] [(.int c_4), (.int (3 : Int32)), (.ref a_79), (.ref a_79), (.ref a_77), (.ref a_77)]))
        obtain ⟨T_87, h_87, X_87, e_87, W_87, V_87, st_87⟩ := own_stC X_85 hx hZ e_85 V_85q (j := (3 : Int32)) 3 (Nat.le_of_ble_eq_true rfl) (by decide) (by decide : ¬ ((3 : Int32) < (0 : Int32)) ∧ (3 : Int32) < (4 : Int32)) (g := (mkF m 151 #[.val (.int p0), .val (.int p1), .val (.int p2), .val (.int p3), .val (.int p4), .val (.int ((p0 &&& (3 : Int32)) + (1 : Int32))), .val (.int c_1), .val (.int c_2), .val (.int c_3), .val (.int c_4), .unset, .unset] [(.int c_4), (.int (3 : Int32)), (.ref a_79), (.ref a_79), (.ref a_77), (.ref a_77)])) rfl rfl (hb hby at_151)
        refine own_G.go st_87 ?_
        have Sf_88_a_77 : Safe Z own_EL s.vm h_87 a_77 := (Safe.wr W_87 (Safe.arv hZ.alike V_85q (by decide)) CH_86.1 Sf_86_a_77)
        have CH_88 : CHr Z own_EL s.vm h0 s.vm h_87 := CH_86.trans (CHr.wr W_87 (Safe.arv hZ.alike V_85q (by decide)) CH_86.1)
        have V_87q : Arv Z h_87 a_79 k_79 .char (4 : Int32) ([(.int (nar .char c_1)), (.int (nar .char c_2)), (.int (nar .char c_3)), (.int (nar .char c_4))] : List Value) (.int (0 : Int32)) := V_87
        have N_87 := Fr.snoc X_87 N_85 g0_a_79
        show own_G _ _ _ _ (T_87.setTop (mkF m 152 #[.val (.int p0), .val (.int p1), .val (.int p2), .val (.int p3), .val (.int p4), .val (.int ((p0 &&& (3 : Int32)) + (1 : Int32))), .val (.int c_1), .val (.int c_2), .val (.int c_3), .val (.int c_4), .unset, .unset] [(.ref a_79), (.ref a_77), (.ref a_77)]))
        have VC : Arv Z h_87 a_79 k_79 .char (4 : Int32) ([(.int c_1), (.int c_2), (.int c_3), (.int c_4)] : List Value) (.int (0 : Int32)) := by have q := V_87q; rw [own_narc hn_1.1, own_narc hn_2.1, own_narc hn_3.1, own_narc hn_4.1] at q; exact q
        have hp : ∀ c ∈ ([c_1, c_2, c_3, c_4] : List Int32), own_b c := by
          intro c hc
          simp only [List.mem_cons, List.not_mem_nil, or_false] at hc
          rcases hc with rfl | rfl | rfl | rfl
          · exact hn_1.1
          · exact hn_2.1
          · exact hn_3.1
          · exact hn_4.1
        have A_77'_89 : Exa Z h_87 a_77 "java/lang/String" := (((((A_77.ext E_79).wr W_81).wr W_83).wr W_85).wr W_87)
        have F_77_value'_90 : Fld Z h_87 a_77 "java/lang/String" "value" "[B" .null := (((((F_77_value.ext E_79).other W_81 (Or.inl (Nat.ne_of_lt (Nat.lt_of_lt_of_le A_77.lt (Nat.le_of_eq g_79.symm))))).other W_83 (Or.inl (Nat.ne_of_lt (Nat.lt_of_lt_of_le A_77.lt (Nat.le_of_eq g_79.symm))))).other W_85 (Or.inl (Nat.ne_of_lt (Nat.lt_of_lt_of_le A_77.lt (Nat.le_of_eq g_79.symm))))).other W_87 (Or.inl (Nat.ne_of_lt (Nat.lt_of_lt_of_le A_77.lt (Nat.le_of_eq g_79.symm)))))
        have F_77_coder'_91 : Fld Z h_87 a_77 "java/lang/String" "coder" "B" (.int (0 : Int32)) := (((((F_77_coder.ext E_79).other W_81 (Or.inl (Nat.ne_of_lt (Nat.lt_of_lt_of_le A_77.lt (Nat.le_of_eq g_79.symm))))).other W_83 (Or.inl (Nat.ne_of_lt (Nat.lt_of_lt_of_le A_77.lt (Nat.le_of_eq g_79.symm))))).other W_85 (Or.inl (Nat.ne_of_lt (Nat.lt_of_lt_of_le A_77.lt (Nat.le_of_eq g_79.symm))))).other W_87 (Or.inl (Nat.ne_of_lt (Nat.lt_of_lt_of_le A_77.lt (Nat.le_of_eq g_79.symm)))))
        have g0_a_77 : n0 ≤ a_77 := Nat.le_trans Z0 (Nat.le_of_eq g_77.symm)
        have Z_92s : n0 ≤ h_87.size := (Nat.le_trans Z0 (Nat.le_trans (Nat.le_trans (Nat.le_trans (Nat.le_trans (Nat.le_trans E_77.1 E_79.1) (Keep.of_wr W_81).1) (Keep.of_wr W_83).1) (Keep.of_wr W_85).1) (Keep.of_wr W_87).1))
        have O_93d : Old Z n0 h_87 := ((((((X00.ext E_77).ext E_79).wr W_81 g0_a_79).wr W_83 g0_a_79).wr W_85 g0_a_79).wr W_87 g0_a_79)
        obtain ⟨_, T_94, L_94, Q_94, X_94, st_94⟩ := own_callI X_87 hx rfl hown (mvT hZ (own_w hw 9 rfl)) (mvT hZ (own_w hw 10 rfl)) (mvT hZ (own_w hw 11 rfl)) (by decide) (Q := (StrChars.Road.QV Z a_77 (4 : Int32) (([c_1, c_2, c_3, c_4] : List Int32).map (fun c => c.toInt8.toInt32)) h_87 n0)) (StrChars.Road.backV (W := 1) hZ hws (kI := 4) (own_w hw 6 rfl) (cs := ([c_1, c_2, c_3, c_4] : List Int32)) (bs := ([c_1, c_2, c_3, c_4] : List Int32).map (fun c => c.toInt8.toInt32)) (n := 4) g0_a_77 Z_92s A_77'_89 F_77_value'_90 F_77_coder'_91 VC (O2.ext O_93d.2) P5 rfl rfl (by decide) (by decide) hp rfl (by decide) (by decide)) (a := a_77) (g := (mkF m 152 #[.val (.int p0), .val (.int p1), .val (.int p2), .val (.int p3), .val (.int p4), .val (.int ((p0 &&& (3 : Int32)) + (1 : Int32))), .val (.int c_1), .val (.int c_2), .val (.int c_3), .val (.int c_4), .unset, .unset] [(.ref a_79), (.ref a_77), (.ref a_77)])) rfl (by rw [hml]; rfl) (argsL := [(.ref a_79)]) (rest := [(.ref a_77)]) (lenOf pd_10 rfl) rfl (by show 2 * 0 + _ ≤ _; exact Nat.le_of_eq rfl) (hb hby at_152) e_87 rfl (by decide) (by decide)
        obtain ⟨rfl, Nq_94, K_94, Ex_94, Fc_94, t_94, kb_94, tn_94, th_94, tx_94, Fv_94, Kb_94⟩ := Q_94
        refine own_G.via st_94 ?_
        have Sf_95_a_77 : Safe Z own_EL s.vm T_94.heap a_77 := (Safe.keep K_94 (sfS Sf_88_a_77 sf0) CH_88.1 Sf_88_a_77)
        have CH_95 : CHr Z own_EL s.vm h0 s.vm T_94.heap := CH_88.trans (CHr.keep K_94 (sfS Sf_88_a_77 sf0) CH_88.1)
        have N_94 := Fr.app N_87 Nq_94
        have hcd := StrChars.Road.codOf (cs := ([c_1, c_2, c_3, c_4] : List Int32)) (n := 4) rfl (fun c hc => (hp c hc).2)
        have hbd := own_up _ hp
        show own_G _ _ _ _ (T_94.setTop (mkF m 155 #[.val (.int p0), .val (.int p1), .val (.int p2), .val (.int p3), .val (.int p4), .val (.int ((p0 &&& (3 : Int32)) + (1 : Int32))), .val (.int c_1), .val (.int c_2), .val (.int c_3), .val (.int c_4), .unset, .unset] [(.ref a_77)]))
        refine own_G.go (fun t_ k_ => XS.astore X_94.here hx rfl (hb hby at_155) rfl rfl (l' := #[.val (.int p0), .val (.int p1), .val (.int p2), .val (.int p3), .val (.int p4), .val (.int ((p0 &&& (3 : Int32)) + (1 : Int32))), .val (.int c_1), .val (.int c_2), .val (.int c_3), .val (.int c_4), .val (.ref a_77), .unset]) rfl k_) ?_
        show own_G _ _ _ _ (T_94.setTop (mkF m 157 #[.val (.int p0), .val (.int p1), .val (.int p2), .val (.int p3), .val (.int p4), .val (.int ((p0 &&& (3 : Int32)) + (1 : Int32))), .val (.int c_1), .val (.int c_2), .val (.int c_3), .val (.int c_4), .val (.ref a_77), .unset] []))
        refine own_G.go (fun t_ k_ => XS.aload X_94.here hx rfl (hb hby at_157) rfl rfl k_) ?_
        show own_G _ _ _ _ (T_94.setTop (mkF m 159 #[.val (.int p0), .val (.int p1), .val (.int p2), .val (.int p3), .val (.int p4), .val (.int ((p0 &&& (3 : Int32)) + (1 : Int32))), .val (.int c_1), .val (.int c_2), .val (.int c_3), .val (.int c_4), .val (.ref a_77), .unset] [(.ref a_77)]))
        have O_96d : Old Z n0 T_94.heap := (O_93d.keep K_94 (allS g0_a_77 all0))
        obtain ⟨_, T_97, L_97, Q_97, X_97, hS_97, hZ_97, hown_97, st_97⟩ := own_callSW X_94 hx hS0 (Nat.le_trans (Nat.zero_le _) (Nat.le_trans (Nat.le_trans (Nat.le_trans (Nat.le_trans (Nat.le_trans (Nat.le_trans E_77.1 E_79.1) (Keep.of_wr W_81).1) (Keep.of_wr W_83).1) (Keep.of_wr W_85).1) (Keep.of_wr W_87).1) K_94.1)) hZ hown (mvT hZ (own_w hw 35 rfl)) (mvT hZ (own_w hw 36 rfl)) (mvT hZ (own_w hw 37 rfl)) (mvT hZ (own_w hw 38 rfl)) (by decide) (Q := (fun v (U : State) L => Qrv a_77 T_94.heap n0 v U.heap L ∧ CHr Z own_EL s.vm T_94.heap U.vm U.heap)) (own_backSH (backOfSH (W := 0) (rm_rv4 l Z a0 hw [] a_77 t_94 kb_94 c_1 c_2 c_3 c_4 zc fm T_94.heap n0 (Nat.le_trans Z_92s K_94.1) Ex_94 Fv_94 Fc_94 Kb_94 hn_1 hn_2 hn_3 hn_4 O2 O4 P5 rfm O_96d) hZ (own_w hw 38 rfl) (own_w hw 37 rfl) (by decide) (by decide) hEW CH_95.1)) (g := (mkF m 159 #[.val (.int p0), .val (.int p1), .val (.int p2), .val (.int p3), .val (.int p4), .val (.int ((p0 &&& (3 : Int32)) + (1 : Int32))), .val (.int c_1), .val (.int c_2), .val (.int c_3), .val (.int c_4), .val (.ref a_77), .unset] [(.ref a_77)])) rfl (by rw [hml]; rfl) (argsL := [(.ref a_77)]) (rest := []) (lenOf pd_11 rfl) rfl (by show 2 * 0 + _ ≤ _; exact Nat.le_of_eq rfl) (hb hby at_159) rfl rfl (by decide) (by decide)
        obtain ⟨⟨rfl, Nq_97, K_97⟩, Ch_97⟩ := Q_97
        refine own_G.via st_97 ?_
        have Sf_98_a_77 : Safe Z own_EL T_97.vm T_97.heap a_77 := Ch_97.safe (Nat.lt_of_lt_of_le A_77.lt (Nat.le_trans (Nat.le_trans (Nat.le_trans (Nat.le_trans (Nat.le_trans E_79.1 (Keep.of_wr W_81).1) (Keep.of_wr W_83).1) (Keep.of_wr W_85).1) (Keep.of_wr W_87).1) K_94.1)) Sf_95_a_77
        have CH_98 : CHr Z own_EL s.vm h0 T_97.vm T_97.heap := CH_95.trans Ch_97
        have N_97 := Fr.app N_94 Nq_97
        show own_G _ _ _ _ (T_97.setTop (mkF m 162 #[.val (.int p0), .val (.int p1), .val (.int p2), .val (.int p3), .val (.int p4), .val (.int ((p0 &&& (3 : Int32)) + (1 : Int32))), .val (.int c_1), .val (.int c_2), .val (.int c_3), .val (.int c_4), .val (.ref a_77), .unset] [(.ref a_77)]))
        refine own_G.go (fun t_ k_ => XS.astore X_97.here hx rfl (hb hby at_162) rfl rfl (l' := #[.val (.int p0), .val (.int p1), .val (.int p2), .val (.int p3), .val (.int p4), .val (.int ((p0 &&& (3 : Int32)) + (1 : Int32))), .val (.int c_1), .val (.int c_2), .val (.int c_3), .val (.int c_4), .val (.ref a_77), .val (.ref a_77)]) rfl k_) ?_
        show own_G _ _ _ _ (T_97.setTop (mkF m 164 #[.val (.int p0), .val (.int p1), .val (.int p2), .val (.int p3), .val (.int p4), .val (.int ((p0 &&& (3 : Int32)) + (1 : Int32))), .val (.int c_1), .val (.int c_2), .val (.int c_3), .val (.int c_4), .val (.ref a_77), .val (.ref a_77)] []))
        refine own_G.go (fun t_ k_ => XS.aload X_97.here hx rfl (hb hby at_164) rfl rfl k_) ?_
        show own_G _ _ _ _ (T_97.setTop (mkF m 166 #[.val (.int p0), .val (.int p1), .val (.int p2), .val (.int p3), .val (.int p4), .val (.int ((p0 &&& (3 : Int32)) + (1 : Int32))), .val (.int c_1), .val (.int c_2), .val (.int c_3), .val (.int c_4), .val (.ref a_77), .val (.ref a_77)] [(.ref a_77)]))
        refine own_G.go (fun t_ k_ => XS.aload X_97.here hx rfl (hb hby at_166) rfl rfl k_) ?_
        show own_G _ _ _ _ (T_97.setTop (mkF m 168 #[.val (.int p0), .val (.int p1), .val (.int p2), .val (.int p3), .val (.int p4), .val (.int ((p0 &&& (3 : Int32)) + (1 : Int32))), .val (.int c_1), .val (.int c_2), .val (.int c_3), .val (.int c_4), .val (.ref a_77), .val (.ref a_77)] [(.ref a_77), (.ref a_77)]))
        refine own_G.go (fun t_ k_ => Jvm.RoadKit.acmp (g := (mkF m 168 #[.val (.int p0), .val (.int p1), .val (.int p2), .val (.int p3), .val (.int p4), .val (.int ((p0 &&& (3 : Int32)) + (1 : Int32))), .val (.int c_1), .val (.int c_2), .val (.int c_3), .val (.int c_4), .val (.ref a_77), .val (.ref a_77)] [(.ref a_77), (.ref a_77)])) X_97 hx rfl rfl rfl (pc0 := 168) (pc' := 171) (same := true) rfl (hb hby at_168) rfl (decide_eq_true (rfl : ((.ref a_77) : Value) = (.ref a_77))) (by decide) (by decide) k_) ?_
        show own_G _ _ _ _ (T_97.setTop (mkF m 171 #[.val (.int p0), .val (.int p1), .val (.int p2), .val (.int p3), .val (.int p4), .val (.int ((p0 &&& (3 : Int32)) + (1 : Int32))), .val (.int c_1), .val (.int c_2), .val (.int c_3), .val (.int c_4), .val (.ref a_77), .val (.ref a_77)] []))
        refine own_G.go (fun t_ k_ => XS.aload X_97.here hx rfl (hb hby at_171) rfl rfl k_) ?_
        show own_G _ _ _ _ (T_97.setTop (mkF m 173 #[.val (.int p0), .val (.int p1), .val (.int p2), .val (.int p3), .val (.int p4), .val (.int ((p0 &&& (3 : Int32)) + (1 : Int32))), .val (.int c_1), .val (.int c_2), .val (.int c_3), .val (.int c_4), .val (.ref a_77), .val (.ref a_77)] [(.ref a_77)]))
        have Ex_94'_99 : Exa Z T_97.heap a_77 "java/lang/String" := (Ex_94.keep K_97)
        have Fv_94'_100 : Fld Z T_97.heap a_77 "java/lang/String" "value" "[B" (.ref t_94) := (Fv_94.keep K_97 nin0)
        have Fc_94'_101 : Fld Z T_97.heap a_77 "java/lang/String" "coder" "B" (.int 0) := (Fc_94.keep K_97 nin0)
        have Kb_94'_102 : Arv Z T_97.heap t_94 kb_94 .byte (4 : Int32) ((([c_1, c_2, c_3, c_4] : List Int32).map (fun c => c.toInt8.toInt32)).map Value.int) (.int 0) := (Kb_94.keep K_97 nin0)
        have O_103d : Old Z n0 T_97.heap := (O_96d.keep K_97 all0)
        obtain ⟨cq_104, kq_104, q_104a, q_104b, q_104c⟩ := isOf hZ_97 rfl Ex_94'_99
        obtain ⟨_, T_104, L_104, Q_104, X_104, st_104⟩ := own_callV X_97 hx (z := (⟨"java/lang/String", "length", "()I"⟩ : MethodName)) hown_97 (mvT hZ_97 (own_w hw 86 rfl)) (mvT hZ_97 (own_w hw 52 rfl)) (notFace_of_selects (args := #[]) (mvT hZ_97 (own_w hw 54 rfl))) (mvT hZ_97 (own_w hw 54 rfl)) (mvT hZ_97 (own_w hw 53 rfl)) (by decide) (Q := (fun v h' L => v = some (.int (Int32.ofNat ([c_1, c_2, c_3, c_4] : List Int32).length)) ∧ L = [] ∧ h' = T_97.heap)) (StrChars.Road.lenW (W := 0) hZ_97 hln (kI := 4) (own_w hw 6 rfl) Ex_94'_99 Fv_94'_100 Fc_94'_101 Kb_94'_102 hcd hbd (O2.ext O_103d.2) P5 (Nat.le_of_ble_eq_true rfl) (by decide) (by decide)) q_104a q_104c (g := (mkF m 173 #[.val (.int p0), .val (.int p1), .val (.int p2), .val (.int p3), .val (.int p4), .val (.int ((p0 &&& (3 : Int32)) + (1 : Int32))), .val (.int c_1), .val (.int c_2), .val (.int c_3), .val (.int c_4), .val (.ref a_77), .val (.ref a_77)] [(.ref a_77)])) rfl (by rw [hml]; rfl) (argsL := []) (rest := []) (lenOf pd_5 rfl) rfl (by show 2 * 0 + _ ≤ _; exact Nat.le_of_eq rfl) (hb hby at_173) rfl rfl (by decide) (by decide)
        obtain ⟨rfl, rfl, eh_104⟩ := Q_104
        refine own_G.via st_104 ?_
        have N_104 := Fr.app N_97 (Fr.nil n0)
        show own_G _ _ _ _ (T_104.setTop (mkF m 176 #[.val (.int p0), .val (.int p1), .val (.int p2), .val (.int p3), .val (.int p4), .val (.int ((p0 &&& (3 : Int32)) + (1 : Int32))), .val (.int c_1), .val (.int c_2), .val (.int c_3), .val (.int c_4), .val (.ref a_77), .val (.ref a_77)] [(.int (4 : Int32))]))
        refine own_G.go (fun t_ k_ => XS.iload X_104.here hx rfl (hb hby at_176) rfl k_) ?_
        show own_G _ _ _ _ (T_104.setTop (mkF m 178 #[.val (.int p0), .val (.int p1), .val (.int p2), .val (.int p3), .val (.int p4), .val (.int ((p0 &&& (3 : Int32)) + (1 : Int32))), .val (.int c_1), .val (.int c_2), .val (.int c_3), .val (.int c_4), .val (.ref a_77), .val (.ref a_77)] [(.int ((p0 &&& (3 : Int32)) + (1 : Int32))), (.int (4 : Int32))]))
        refine own_G.go (fun t_ k_ => XS.icmpNo X_104.here hx rfl (hb hby at_178) rfl (teq ((own_n4 hl1 hl2 hl3) : (4 : Int32) = ((p0 &&& (3 : Int32)) + (1 : Int32)))).2 k_) ?_
        show own_G _ _ _ _ (T_104.setTop (mkF m 181 #[.val (.int p0), .val (.int p1), .val (.int p2), .val (.int p3), .val (.int p4), .val (.int ((p0 &&& (3 : Int32)) + (1 : Int32))), .val (.int c_1), .val (.int c_2), .val (.int c_3), .val (.int c_4), .val (.ref a_77), .val (.ref a_77)] []))
        refine own_G.go (fun t_ k_ => XS.iconst X_104.here hx rfl (hb hby at_181) k_) ?_
        show own_G _ _ _ _ (T_104.setTop (mkF m 182 #[.val (.int p0), .val (.int p1), .val (.int p2), .val (.int p3), .val (.int p4), .val (.int ((p0 &&& (3 : Int32)) + (1 : Int32))), .val (.int c_1), .val (.int c_2), .val (.int c_3), .val (.int c_4), .val (.ref a_77), .val (.ref a_77)] [(.int (1 : Int32))]))
        refine own_G.go (fun t_ k_ => XS.goto X_104.here hx rfl (pc0 := 182) (pc' := 186) rfl (hb hby at_182) (by decide) (by decide) k_) ?_
        show own_G _ _ _ _ (T_104.setTop (mkF m 186 #[.val (.int p0), .val (.int p1), .val (.int p2), .val (.int p3), .val (.int p4), .val (.int ((p0 &&& (3 : Int32)) + (1 : Int32))), .val (.int c_1), .val (.int c_2), .val (.int c_3), .val (.int c_4), .val (.ref a_77), .val (.ref a_77)] [(.int (1 : Int32))]))
        exact own_G.endH X_104 hS_97 (Nat.le_refl _) hZ_97 hEW (hh ▸ CH_98) hlk (v := (some (.int (1 : Int32)))) (fun h => by rw [hrt] at h; cases h) (fun fs hr => retN X_104 hx (z := (1 : Int32)) (t := .boolean) hrt (by simp) (hb hby at_186) hr) eh_104 ⟨rfl, N_104⟩ (by decide) (by decide)
set_option maxRecDepth 65536 in
set_option maxHeartbeats 40000000 in
theorem comes_1 {Post : Tables → Env → Array Value → State → Outcome → State → Prop} (hpost : ∀ tb e args s v u, (limb_1_1.after args s (.returned v) u = true ∧ limb_1_2.after args s (.returned v) u = true ∧ True) → ReturnedEndW s (.returned v) u (Jvm.fieldLocs frame_1_writes args s ++ Jvm.arrayLocs frame_1_arrays args s ++ Jvm.staticLocs frame_1_statics s) 24 2176 → Post tb e args s (.returned v) u) :
    ArmFor flags0 classFile x code maxLocals ret World_1 tables_1 room_1 Calls_1 rest_1 Pre_1 Post := by
  intro l hfl _ _ p e ha hc hk s m args below hf hA hF happ hP
  obtain ⟨hcalls, hrest, hpre⟩ := hP
  obtain ⟨-, -, -, hnamed, -, -, -, hat⟩ := (Spec.applies_iff hf).mp happ
  obtain ⟨hg, hn⟩ := and_e (Cond.before_iff.mp (show (Jvm.Cond.and given_1 narrow_1).before args s = true from hpre))
  obtain ⟨hcnt, hr_0⟩ := and_e hg
  obtain ⟨ha_0, hr_1⟩ := and_e hr_0
  obtain ⟨ha_1, hr_2⟩ := and_e hr_1
  obtain ⟨ha_2, hr_3⟩ := and_e hr_2
  obtain ⟨ha_3, hr_4⟩ := and_e hr_3
  obtain ⟨w0, w1, w2, w3, w4, rfl⟩ : ∃ w0 w1 w2 w3 w4 : Value, args = #[w0, w1, w2, w3, w4] := by
    have hs : args.size = 5 := by simpa [Cond.value, given_1] using hcnt
    obtain ⟨L⟩ := args
    match L, hs with
    | [w0, w1, w2, w3, w4], _ => exact ⟨w0, w1, w2, w3, w4, rfl⟩
  have hw := fun d (hd : d ∈ tables_1) => atoms_spec (ws := Jvm.Cond.code x code maxLocals ret :: tables_1) hat d (List.mem_cons_of_mem _ hd)
  have hfit : Fit s := fun {y c} hc i hi => by
    obtain ⟨ha, rfl⟩ := Array.getElem?_eq_some_iff.mp hc
    have q := List.all_eq_true.mp ((Array.all_eq_true_iff_forall_mem.mp hF) _ (Array.getElem_mem ha)) i (List.mem_range.mpr hi)
    simpa [Array.getElem?_eq_getElem hi] using q
  obtain ⟨i0, ei0⟩ := is_v ha_0
  obtain rfl : w0 = (.int i0) := Option.some.inj ei0
  obtain ⟨i1, ei1⟩ := is_v ha_1
  obtain rfl : w1 = (.int i1) := Option.some.inj ei1
  obtain ⟨i2, ei2⟩ := is_v ha_2
  obtain rfl : w2 = (.int i2) := Option.some.inj ei2
  obtain ⟨i3, ei3⟩ := is_v ha_3
  obtain rfl : w3 = (.int i3) := Option.some.inj ei3
  obtain ⟨i4, ei4⟩ := is_v hr_4
  obtain rfl : w4 = (.int i4) := Option.some.inj ei4
  obtain ⟨hsets, hown0⟩ := atoms_of _ (rest_1_c_eq ▸ (show rest_1_c.before _ s = true from hrest))
  have n3 := not_v (Cond.before_iff.mp (hsets _ (List.mem_of_getElem? (i := 2) rfl)))
  obtain ⟨zc, ezc⟩ := is_v (Cond.before_iff.mp (hsets _ (List.mem_of_getElem? (i := 1) rfl)))
  have S2 : Sta s s.heap "java/lang/String" "COMPACT_STRINGS" "Z" (.int zc) := Sta.start ezc (Or.inl (hsets _ (List.mem_of_getElem? (i := 0) rfl)))
  obtain ⟨fm, efm, rfm⟩ := isR_v (Cond.before_iff.mp (hsets _ (List.mem_of_getElem? (i := 8) rfl)))
  have S4 : Sta s s.heap "jdk/internal/util/Preconditions" "SIOOBE_FORMATTER" "Ljava/util/function/BiFunction;" fm := Sta.start efm (Or.inl (hsets _ (List.mem_of_getElem? (i := 7) rfl)))
  have P5 : ¬ (zc = (0 : Int32)) := gotF (Cond.eq_ints ezc (Term.int_eval (0))) n3
  have hcw : Jvm.Lit.compactW.before _ s = true := hsets _ (List.mem_of_getElem? (i := 2) rfl)
  have hCH : CHv s own_EL s.vm s.heap := CHv.start (own_EW hw) (fun q hq => hcalls.1 q (by revert q; decide +kernel)) hcw (hw _ (List.mem_of_getElem? (i := 24) rfl)) (hw _ (List.mem_of_getElem? (i := 6) rfl))
  obtain ⟨n, o, h1, h2, h3, _, L, rfl, ⟨rfl, N⟩, -, hq⟩ := rm_law l s _ hw tables_1 i0 i1 i2 i3 i4 zc fm s.heap s.heap.size (Nat.le_refl _) S2 S4 P5 rfm (Old.start s) p e ha hc hk s m _ below hf ((Spec.applies_iff_loose hf).mp happ).1 ⟨rfl, State.Warmed39.refl s, rfl, hCH⟩ trivial
  refine ⟨n, _, h1, h2, h3, hpost _ _ _ _ _ _ ⟨Cond.after_iff.mpr rfl, Cond.after_iff.mpr (eq_i res_at (Term.int_eval (1)) rfl), trivial⟩ ⟨hq.1, hq.2.1, hq.2.2.1, (hq.2.2.2.sift fun y hy => Or.inr (N y hy)).mono (by decide) (by decide)⟩⟩
theorem main_1_1 : Claimed_1_1 := comes_1 fun _ _ _ _ _ _ h hF => ⟨h.1, hF⟩
theorem main_1_2 : Claimed_1_2 := comes_1 fun _ _ _ _ _ _ h hF => ⟨h.2.1, hF⟩
end Jvm.Pilot.@@N@@
namespace Jvm.Pilot.@@N@@
open Jvm Jvm.ClassFile Sem Op Lib Jvm.Free Jvm.Stand Jvm.Pilot.@@N@@.Jvm.D
/-! MADE BY PROGRAM (witnessworld.py) out of the Statement's table words and the real class files: 22 classes; the members and pool entries that the words name. The judged class is class 1, her method 2. -/
namespace start1
open Jvm.ClassFile
def u (s : String) : CpInfo := .utf8 (stringToUtf16 s)
/-- a pool by its gaps: so many unusable entries, then the entry; so many at the end -/
def gap : Nat → List CpInfo → List CpInfo
  | 0, r => r
  | n + 1, r => .unusable :: gap n r
def poolList (es : List (Nat × CpInfo)) (last : Nat) : List CpInfo := es.foldr (fun e r => gap e.1 (e.2 :: r)) (gap last [])
def pool (es : List (Nat × CpInfo)) (last : Nat) : Array CpInfo := ⟨poolList es last⟩
def fileOf (pool : Array CpInfo) (this : Nat) (attrs : Array Attribute := #[]) (ms : Array MethodInfo := #[]) (fl : Nat := 33) (sup : Nat := 0) (ifs : Array Nat := #[]) (fds : Array FieldInfo := #[]) : ClassFile where
  minorVersion := 0
  majorVersion := 65
  constantPool := pool
  accessFlags := fl
  thisClass := this
  superClass := sup
  interfaces := ifs
  fields := fds
  methods := ms
  attributes := attrs
def plain (name : String) (sup : Option ClassId) : Class where
  name := name
  kind := .ordinary
  loader := none
  accessFlags := 33
  super := sup
  interfaces := #[]
  cf := none
  fields := #[]
  methods := #[]
  instanceTypes := #[]
  staticTypes := #[]
  resolved := #[]
  callSites := []
  init := .initialized
  statics := none
  mirror := none

def pool0 : Array CpInfo := pool [(5, u "<init>"), (0, u "()V"), (1, .class_ 10), (1, u "java/lang/Object")] 113

def k0c0 : Code := { maxStack := 0, maxLocals := 1, code := object_method_1_code, exceptionTable := #[], attributes := #[] }
def k0m0 : Method := { name := "<init>", desc := "()V", sig := { parameters := [], returnType := none }, accessFlags := 1, code := some k0c0 }
/-- java/lang/Object -/
def k0 : Class := { plain "java/lang/Object" none with
  accessFlags := 33
  interfaces := #[]
  cf := some (fileOf pool0 8 #[] #[{ accessFlags := 1, nameIndex := 5, descriptorIndex := 6, attributes := #[] }] 33 0 #[] #[])
  fields := #[]
  methods := #[k0m0]
  instanceTypes := #[]
  staticTypes := #[]
  resolved := Array.replicate 124 none
  statics := none }

def pool1 : Array CpInfo := pool [(2, .class_ 4), (1, u "java/lang/Object"), (0, u "<init>"), (0, u "()V"), (0, .integer 2147483647), (0, .methodref 9 10), (0, .class_ 11), (0, .nameAndType 12 13), (0, u "com/example/lease_lock/leaselock/LeaseLimitsRequireValidNamePinLaw"), (0, u "nameChar"), (0, u "(I)C"), (0, .class_ 15), (0, u "java/lang/String"), (0, .methodref 14 17), (0, .nameAndType 5 18), (0, u "([C)V"), (0, .methodref 20 21), (0, .class_ 22), (0, .nameAndType 23 24), (0, u "com/example/lease_lock/leaselock/LeaseLimits"), (0, u "requireValidName"), (0, u "(Ljava/lang/String;)Ljava/lang/String;"), (0, .methodref 14 26), (0, .nameAndType 27 28), (0, u "length"), (0, u "()I"), (3, u "law"), (0, u "(IIIII)Z")] 2

def k1m0 : Method := { name := "<init>", desc := "()V", sig := { parameters := [], returnType := none }, accessFlags := 2, code := none }
def k1c1 : Code := { maxStack := 3, maxLocals := 2, code := method_2_code, exceptionTable := #[], attributes := #[] }
def k1m1 : Method := { name := "nameChar", desc := "(I)C", sig := { parameters := [.int], returnType := some .char }, accessFlags := 10, code := some k1c1 }
def k1c2 : Code := { maxStack := 6, maxLocals := 12, code := code, exceptionTable := #[], attributes := #[] }
def k1m2 : Method := { name := "law", desc := "(IIIII)Z", sig := { parameters := [.int, .int, .int, .int, .int], returnType := some .boolean }, accessFlags := 9, code := some k1c2 }
/-- com/example/lease_lock/leaselock/LeaseLimitsRequireValidNamePinLaw -/
def k1 : Class := { plain "com/example/lease_lock/leaselock/LeaseLimitsRequireValidNamePinLaw" (some 0) with
  accessFlags := 49
  interfaces := #[]
  cf := some (fileOf pool1 9 #[] #[{ accessFlags := 2, nameIndex := 5, descriptorIndex := 6, attributes := #[] }, { accessFlags := 10, nameIndex := 12, descriptorIndex := 13, attributes := #[] }, { accessFlags := 9, nameIndex := 32, descriptorIndex := 33, attributes := #[] }] 49 2 #[] #[])
  fields := #[]
  methods := #[k1m0, k1m1, k1m2]
  instanceTypes := #[]
  staticTypes := #[]
  resolved := Array.replicate 36 none
  statics := none }

def pool2 : Array CpInfo := pool [(1, .class_ 2), (0, u "java/io/Serializable"), (0, .class_ 4), (0, u "java/lang/Object")] 2

/-- java/io/Serializable -/
def k2 : Class := { plain "java/io/Serializable" (some 0) with
  accessFlags := 1537
  interfaces := #[]
  cf := some (fileOf pool2 1 #[] #[] 1537 3 #[] #[])
  fields := #[]
  methods := #[]
  instanceTypes := #[]
  staticTypes := #[]
  resolved := Array.replicate 7 none
  statics := none }

def pool3 : Array CpInfo := pool [(1, .class_ 2), (0, u "java/lang/Comparable"), (0, .class_ 4), (0, u "java/lang/Object")] 7

/-- java/lang/Comparable -/
def k3 : Class := { plain "java/lang/Comparable" (some 0) with
  accessFlags := 1537
  interfaces := #[]
  cf := some (fileOf pool3 1 #[] #[] 1537 3 #[] #[])
  fields := #[]
  methods := #[]
  instanceTypes := #[]
  staticTypes := #[]
  resolved := Array.replicate 12 none
  statics := none }

def pool4 : Array CpInfo := pool [(2, .class_ 4), (1, u "java/lang/CharSequence"), (42, .class_ 48), (0, u "java/lang/CharSequence$1CodePointIterator"), (10, .class_ 60), (0, u "java/lang/CharSequence$1CharIterator"), (5, .class_ 67), (0, u "java/lang/Object")] 63

/-- java/lang/CharSequence -/
def k4 : Class := { plain "java/lang/CharSequence" (some 0) with
  accessFlags := 1537
  interfaces := #[]
  cf := some (fileOf pool4 2 #[.nestMembers #[47, 59]] #[] 1537 66 #[] #[])
  fields := #[]
  methods := #[]
  instanceTypes := #[]
  staticTypes := #[]
  resolved := Array.replicate 131 none
  statics := none }

def pool5 : Array CpInfo := pool [(1, .class_ 2), (0, u "java/lang/constant/Constable"), (0, .class_ 4), (0, u "java/lang/Object")] 6

/-- java/lang/constant/Constable -/
def k5 : Class := { plain "java/lang/constant/Constable" (some 0) with
  accessFlags := 1537
  interfaces := #[]
  cf := some (fileOf pool5 1 #[] #[] 1537 3 #[] #[])
  fields := #[]
  methods := #[]
  instanceTypes := #[]
  staticTypes := #[]
  resolved := Array.replicate 11 none
  statics := none }

def pool6 : Array CpInfo := pool [(1, .class_ 2), (0, u "java/lang/constant/ConstantDesc"), (0, .class_ 4), (0, u "java/lang/Object")] 32

/-- java/lang/constant/ConstantDesc -/
def k6 : Class := { plain "java/lang/constant/ConstantDesc" (some 0) with
  accessFlags := 1537
  interfaces := #[]
  cf := some (fileOf pool6 1 #[] #[] 1537 3 #[] #[])
  fields := #[]
  methods := #[]
  instanceTypes := #[]
  staticTypes := #[]
  resolved := Array.replicate 37 none
  statics := none }

def pool7 : Array CpInfo := pool [(1, .methodref 2 3), (0, .class_ 4), (0, .nameAndType 5 6), (0, u "java/lang/Object"), (0, u "<init>"), (0, u "()V"), (2, .fieldref 10 11), (0, .class_ 12), (0, .nameAndType 13 14), (0, u "java/lang/String"), (0, u "value"), (0, u "[B"), (0, .fieldref 10 16), (0, .nameAndType 17 18), (0, u "coder"), (0, u "B"), (2, u "hash"), (0, u "I"), (2, u "hashIsZero"), (0, u "Z"), (0, .methodref 10 28), (0, .nameAndType 5 29), (0, u "([CIILjava/lang/Void;)V"), (8, .fieldref 10 39), (0, .nameAndType 40 26), (0, u "COMPACT_STRINGS"), (1, .class_ 44), (1, u "java/lang/StringUTF16"), (0, u "compress"), (1, .methodref 42 48), (0, .nameAndType 49 50), (0, u "coderFromArrayLen"), (0, u "([BI)B"), (56, .class_ 109), (1, u "java/lang/StringLatin1"), (32, u "()Z"), (34, .methodref 42 178), (0, .nameAndType 45 179), (0, u "([CII)[B"), (154, u "()I"), (0, .methodref 10 336), (0, .nameAndType 17 337), (0, u "()B"), (25, u "([BI)C"), (27, u "(II)V"), (35, u "(I)C"), (64, .methodref 10 493), (0, .nameAndType 494 142), (0, u "isLatin1"), (0, .methodref 107 496), (0, .nameAndType 497 363), (0, u "charAt"), (3, u "checkIndex"), (3, .methodref 10 506), (0, .nameAndType 507 334), (0, u "length"), (67, .class_ 576), (0, u "java/lang/CharSequence"), (22, u "CASE_INSENSITIVE_ORDER"), (0, u "Ljava/util/Comparator;"), (32, .methodref 10 634), (0, .nameAndType 635 636), (0, u "indexOf"), (0, u "(II)I"), (0, .methodref 107 638), (0, .nameAndType 635 639), (0, u "([BIII)I"), (52, u "isEmpty"), (72, u "(I)I"), (244, u "([C)V"), (42, .fieldref 1054 1055), (0, .class_ 1056), (0, .nameAndType 1057 1058), (0, u "jdk/internal/util/Preconditions"), (0, u "SIOOBE_FORMATTER"), (0, u "Ljava/util/function/BiFunction;"), (0, .methodref 1054 1060), (0, .nameAndType 501 1061), (0, u "(IILjava/util/function/BiFunction;)I"), (39, u "serialPersistentFields"), (0, u "[Ljava/io/ObjectStreamField;"), (0, .class_ 1104), (0, u "java/lang/String$CaseInsensitiveComparator"), (1, .class_ 1107), (0, u "java/io/Serializable"), (0, .class_ 1109), (0, u "java/lang/Comparable"), (0, .class_ 1111), (0, u "java/lang/constant/Constable"), (0, .class_ 1113), (0, u "java/lang/constant/ConstantDesc"), (2, u "serialVersionUID"), (0, u "J"), (3, u "REPL"), (0, u "C"), (2, u "LATIN1"), (1, u "UTF16")] 323

def k7m0 : Method := { name := "<init>", desc := "()V", sig := { parameters := [], returnType := none }, accessFlags := 1, code := none }
def k7c1 : Code := { maxStack := 5, maxLocals := 2, code := jdk_42_method_3_code, exceptionTable := #[], attributes := #[] }
def k7m1 : Method := { name := "<init>", desc := "([C)V", sig := { parameters := [(.array .char)], returnType := none }, accessFlags := 1, code := some k7c1 }
def k7c2 : Code := { maxStack := 2, maxLocals := 1, code := jdk_42_method_54_code, exceptionTable := #[], attributes := #[] }
def k7m2 : Method := { name := "length", desc := "()I", sig := { parameters := [], returnType := some .int }, accessFlags := 1, code := some k7c2 }
def k7c3 : Code := { maxStack := 1, maxLocals := 1, code := jdk_42_method_55_code, exceptionTable := #[], attributes := #[] }
def k7m3 : Method := { name := "isEmpty", desc := "()Z", sig := { parameters := [], returnType := some .boolean }, accessFlags := 1, code := some k7c3 }
def k7c4 : Code := { maxStack := 2, maxLocals := 2, code := jdk_42_method_56_code, exceptionTable := #[], attributes := #[] }
def k7m4 : Method := { name := "charAt", desc := "(I)C", sig := { parameters := [.int], returnType := some .char }, accessFlags := 1, code := some k7c4 }
def k7c5 : Code := { maxStack := 3, maxLocals := 2, code := jdk_42_method_79_code, exceptionTable := #[], attributes := #[] }
def k7m5 : Method := { name := "indexOf", desc := "(I)I", sig := { parameters := [.int], returnType := some .int }, accessFlags := 1, code := some k7c5 }
def k7c6 : Code := { maxStack := 4, maxLocals := 3, code := jdk_42_method_80_code, exceptionTable := #[], attributes := #[] }
def k7m6 : Method := { name := "indexOf", desc := "(II)I", sig := { parameters := [.int, .int], returnType := some .int }, accessFlags := 1, code := some k7c6 }
def k7c7 : Code := { maxStack := 4, maxLocals := 6, code := jdk_42_method_149_code, exceptionTable := #[], attributes := #[] }
def k7m7 : Method := { name := "<init>", desc := "([CIILjava/lang/Void;)V", sig := { parameters := [(.array .char), .int, .int, (.object "java/lang/Void")], returnType := none }, accessFlags := 2, code := some k7c7 }
def k7c8 : Code := { maxStack := 1, maxLocals := 1, code := jdk_42_method_152_code, exceptionTable := #[], attributes := #[] }
def k7m8 : Method := { name := "coder", desc := "()B", sig := { parameters := [], returnType := some .byte }, accessFlags := 0, code := some k7c8 }
def k7c9 : Code := { maxStack := 1, maxLocals := 1, code := jdk_42_method_154_code, exceptionTable := #[], attributes := #[] }
def k7m9 : Method := { name := "isLatin1", desc := "()Z", sig := { parameters := [], returnType := some .boolean }, accessFlags := 0, code := some k7c9 }
def k7c10 : Code := { maxStack := 3, maxLocals := 2, code := jdk_42_method_155_code, exceptionTable := #[], attributes := #[] }
def k7m10 : Method := { name := "checkIndex", desc := "(II)V", sig := { parameters := [.int, .int], returnType := none }, accessFlags := 8, code := some k7c10 }
/-- java/lang/String -/
def k7 : Class := { plain "java/lang/String" (some 0) with
  accessFlags := 49
  interfaces := #[2, 3, 4, 5, 6]
  cf := some (fileOf pool7 10 #[.nestMembers #[1103]] #[{ accessFlags := 1, nameIndex := 5, descriptorIndex := 6, attributes := #[] }, { accessFlags := 1, nameIndex := 5, descriptorIndex := 1010, attributes := #[] }, { accessFlags := 1, nameIndex := 507, descriptorIndex := 334, attributes := #[] }, { accessFlags := 1, nameIndex := 692, descriptorIndex := 142, attributes := #[] }, { accessFlags := 1, nameIndex := 497, descriptorIndex := 427, attributes := #[] }, { accessFlags := 1, nameIndex := 635, descriptorIndex := 765, attributes := #[] }, { accessFlags := 1, nameIndex := 635, descriptorIndex := 636, attributes := #[] }, { accessFlags := 2, nameIndex := 5, descriptorIndex := 29, attributes := #[] }, { accessFlags := 0, nameIndex := 17, descriptorIndex := 337, attributes := #[] }, { accessFlags := 0, nameIndex := 494, descriptorIndex := 142, attributes := #[] }, { accessFlags := 8, nameIndex := 501, descriptorIndex := 391, attributes := #[] }] 49 2 #[1106, 1108, 575, 1110, 1112] #[{ accessFlags := 18, nameIndex := 13, descriptorIndex := 14, attributes := #[] }, { accessFlags := 18, nameIndex := 17, descriptorIndex := 18, attributes := #[] }, { accessFlags := 2, nameIndex := 21, descriptorIndex := 22, attributes := #[] }, { accessFlags := 2, nameIndex := 25, descriptorIndex := 26, attributes := #[] }, { accessFlags := 26, nameIndex := 1116, descriptorIndex := 1117, attributes := #[] }, { accessFlags := 24, nameIndex := 40, descriptorIndex := 26, attributes := #[] }, { accessFlags := 26, nameIndex := 1101, descriptorIndex := 1102, attributes := #[] }, { accessFlags := 26, nameIndex := 1121, descriptorIndex := 1122, attributes := #[] }, { accessFlags := 25, nameIndex := 599, descriptorIndex := 600, attributes := #[] }, { accessFlags := 24, nameIndex := 1125, descriptorIndex := 18, attributes := #[] }, { accessFlags := 24, nameIndex := 1127, descriptorIndex := 18, attributes := #[] }])
  fields := #[{ name := "value", type := (.array .byte), accessFlags := 18, slot := 0, constantValue := 0 }, { name := "coder", type := .byte, accessFlags := 18, slot := 1, constantValue := 0 }, { name := "hash", type := .int, accessFlags := 2, slot := 2, constantValue := 0 }, { name := "hashIsZero", type := .boolean, accessFlags := 2, slot := 3, constantValue := 0 }, { name := "serialVersionUID", type := .long, accessFlags := 26, slot := 0, constantValue := 0 }, { name := "COMPACT_STRINGS", type := .boolean, accessFlags := 24, slot := 1, constantValue := 0 }, { name := "serialPersistentFields", type := (.array (.object "java/io/ObjectStreamField")), accessFlags := 26, slot := 2, constantValue := 0 }, { name := "REPL", type := .char, accessFlags := 26, slot := 3, constantValue := 0 }, { name := "CASE_INSENSITIVE_ORDER", type := (.object "java/util/Comparator"), accessFlags := 25, slot := 4, constantValue := 0 }, { name := "LATIN1", type := .byte, accessFlags := 24, slot := 5, constantValue := 0 }, { name := "UTF16", type := .byte, accessFlags := 24, slot := 6, constantValue := 0 }]
  methods := #[k7m0, k7m1, k7m2, k7m3, k7m4, k7m5, k7m6, k7m7, k7m8, k7m9, k7m10]
  instanceTypes := #[(.array .byte), .byte, .int, .boolean]
  staticTypes := #[.long, .boolean, (.array (.object "java/io/ObjectStreamField")), .char, (.object "java/util/Comparator"), .byte, .byte]
  resolved := Array.replicate 1451 none
  statics := some 0 }

def pool8 : Array CpInfo := pool [(6, .class_ 8), (1, u "java/lang/Object"), (0, u "<init>"), (0, u "()V"), (1, .class_ 14), (1, u "java/lang/StringUTF16"), (31, u "$assertionsDisabled"), (0, u "Z"), (13, u "HI_BYTE_SHIFT"), (0, u "I"), (2, u "LO_BYTE_SHIFT"), (49, .methodref 12 116), (0, .nameAndType 117 118), (0, u "compress"), (0, u "([CI[BII)I"), (3, u "([CII)[B"), (138, u "coderFromArrayLen"), (0, u "([BI)B"), (106, .class_ 371), (1, u "java/lang/StringUTF16$LinesSpliterator"), (58, u "MAX_LENGTH"), (196, .class_ 628), (0, u "java/lang/StringUTF16$CodePointsSpliterator"), (0, .class_ 630), (0, u "java/lang/StringUTF16$CharsSpliterator")] 4

def k8m0 : Method := { name := "<init>", desc := "()V", sig := { parameters := [], returnType := none }, accessFlags := 0, code := none }
def k8c1 : Code := { maxStack := 2, maxLocals := 2, code := jdk_52_method_15_code, exceptionTable := #[], attributes := #[] }
def k8m1 : Method := { name := "coderFromArrayLen", desc := "([BI)B", sig := { parameters := [(.array .byte), .int], returnType := some .byte }, accessFlags := 8, code := some k8c1 }
def k8c2 : Code := { maxStack := 5, maxLocals := 6, code := jdk_52_method_16_code, exceptionTable := #[], attributes := #[] }
def k8m2 : Method := { name := "compress", desc := "([CII)[B", sig := { parameters := [(.array .char), .int, .int], returnType := some (.array .byte) }, accessFlags := 9, code := some k8c2 }
def k8c3 : Code := { maxStack := 3, maxLocals := 7, code := jdk_52_method_21_code, exceptionTable := #[], attributes := #[] }
def k8m3 : Method := { name := "compress", desc := "([CI[BII)I", sig := { parameters := [(.array .char), .int, (.array .byte), .int, .int], returnType := some .int }, accessFlags := 9, code := some k8c3 }
/-- java/lang/StringUTF16 -/
def k8 : Class := { plain "java/lang/StringUTF16" (some 0) with
  accessFlags := 48
  interfaces := #[]
  cf := some (fileOf pool8 12 #[.nestMembers #[627, 629, 369]] #[{ accessFlags := 0, nameIndex := 9, descriptorIndex := 10, attributes := #[] }, { accessFlags := 8, nameIndex := 261, descriptorIndex := 262, attributes := #[] }, { accessFlags := 9, nameIndex := 117, descriptorIndex := 122, attributes := #[] }, { accessFlags := 9, nameIndex := 117, descriptorIndex := 118, attributes := #[] }] 48 6 #[] #[{ accessFlags := 26, nameIndex := 61, descriptorIndex := 62, attributes := #[] }, { accessFlags := 26, nameIndex := 65, descriptorIndex := 62, attributes := #[] }, { accessFlags := 24, nameIndex := 430, descriptorIndex := 62, attributes := #[] }, { accessFlags := 4120, nameIndex := 46, descriptorIndex := 47, attributes := #[] }])
  fields := #[{ name := "HI_BYTE_SHIFT", type := .int, accessFlags := 26, slot := 0, constantValue := 0 }, { name := "LO_BYTE_SHIFT", type := .int, accessFlags := 26, slot := 1, constantValue := 0 }, { name := "MAX_LENGTH", type := .int, accessFlags := 24, slot := 2, constantValue := 0 }, { name := "$assertionsDisabled", type := .boolean, accessFlags := 4120, slot := 3, constantValue := 0 }]
  methods := #[k8m0, k8m1, k8m2, k8m3]
  instanceTypes := #[]
  staticTypes := #[.int, .int, .int, .boolean]
  resolved := Array.replicate 635 none
  statics := none }

def pool9 : Array CpInfo := pool [(2, .class_ 4), (1, u "java/lang/Object"), (0, u "<init>"), (0, u "()V"), (0, .string 8), (0, u "name"), (0, .methodref 10 11), (0, .class_ 12), (0, .nameAndType 13 14), (0, u "java/util/Objects"), (0, u "requireNonNull"), (0, u "(Ljava/lang/Object;Ljava/lang/String;)Ljava/lang/Object;"), (0, .methodref 16 17), (0, .class_ 18), (0, .nameAndType 19 20), (0, u "java/lang/String"), (0, u "isEmpty"), (0, u "()Z"), (7, .methodref 16 29), (0, .nameAndType 30 31), (0, u "length"), (0, u "()I"), (0, .methodref 16 33), (0, .nameAndType 34 35), (0, u "charAt"), (0, u "(I)C"), (0, .methodref 37 38), (0, .class_ 39), (0, .nameAndType 40 41), (0, u "com/example/lease_lock/leaselock/LeaseLimits"), (0, u "isNameCharacter"), (0, u "(C)Z"), (5, u "(I)I"), (18, u "MIN_TTL"), (0, u "Ljava/time/Duration;"), (8, u "MAX_TTL"), (13, .string 91), (0, u "._-:/"), (0, .methodref 16 93), (0, .nameAndType 94 47), (0, u "indexOf"), (11, u "MAX_NAME_LENGTH"), (0, u "I"), (2, u "NAME_PUNCTUATION"), (0, u "Ljava/lang/String;"), (2, u "requireValidName"), (0, u "(Ljava/lang/String;)Ljava/lang/String;")] 23

def k9m0 : Method := { name := "<init>", desc := "()V", sig := { parameters := [], returnType := none }, accessFlags := 2, code := none }
def k9c1 : Code := { maxStack := 8, maxLocals := 2, code := prog_3_method_2_code, exceptionTable := #[], attributes := #[] }
def k9m1 : Method := { name := "requireValidName", desc := "(Ljava/lang/String;)Ljava/lang/String;", sig := { parameters := [(.object "java/lang/String")], returnType := some (.object "java/lang/String") }, accessFlags := 8, code := some k9c1 }
def k9c2 : Code := { maxStack := 2, maxLocals := 2, code := prog_3_method_4_code, exceptionTable := #[], attributes := #[] }
def k9m2 : Method := { name := "isNameCharacter", desc := "(C)Z", sig := { parameters := [.char], returnType := some .boolean }, accessFlags := 10, code := some k9c2 }
/-- com/example/lease_lock/leaselock/LeaseLimits -/
def k9 : Class := { plain "com/example/lease_lock/leaselock/LeaseLimits" (some 0) with
  accessFlags := 48
  interfaces := #[]
  cf := some (fileOf pool9 37 #[] #[{ accessFlags := 2, nameIndex := 5, descriptorIndex := 6, attributes := #[] }, { accessFlags := 8, nameIndex := 114, descriptorIndex := 115, attributes := #[] }, { accessFlags := 10, nameIndex := 40, descriptorIndex := 41, attributes := #[] }] 48 2 #[] #[{ accessFlags := 24, nameIndex := 106, descriptorIndex := 107, attributes := #[] }, { accessFlags := 24, nameIndex := 66, descriptorIndex := 67, attributes := #[] }, { accessFlags := 24, nameIndex := 76, descriptorIndex := 67, attributes := #[] }, { accessFlags := 26, nameIndex := 110, descriptorIndex := 111, attributes := #[] }])
  fields := #[{ name := "MAX_NAME_LENGTH", type := .int, accessFlags := 24, slot := 0, constantValue := 0 }, { name := "MIN_TTL", type := (.object "java/time/Duration"), accessFlags := 24, slot := 1, constantValue := 0 }, { name := "MAX_TTL", type := (.object "java/time/Duration"), accessFlags := 24, slot := 2, constantValue := 0 }, { name := "NAME_PUNCTUATION", type := (.object "java/lang/String"), accessFlags := 26, slot := 3, constantValue := 0 }]
  methods := #[k9m0, k9m1, k9m2]
  instanceTypes := #[]
  staticTypes := #[.int, (.object "java/time/Duration"), (.object "java/time/Duration"), (.object "java/lang/String")]
  resolved := Array.replicate 139 none
  statics := none }

def pool10 : Array CpInfo := pool [(2, .class_ 4), (1, u "java/lang/Object"), (0, u "<init>"), (0, u "()V"), (35, .class_ 44), (1, u "java/util/Objects"), (0, u "requireNonNull"), (48, u "(Ljava/lang/Object;Ljava/lang/String;)Ljava/lang/Object;")] 89

def k10m0 : Method := { name := "<init>", desc := "()V", sig := { parameters := [], returnType := none }, accessFlags := 2, code := none }
def k10c1 : Code := { maxStack := 3, maxLocals := 2, code := jdk_31_method_11_code, exceptionTable := #[], attributes := #[] }
def k10m1 : Method := { name := "requireNonNull", desc := "(Ljava/lang/Object;Ljava/lang/String;)Ljava/lang/Object;", sig := { parameters := [(.object "java/lang/Object"), (.object "java/lang/String")], returnType := some (.object "java/lang/Object") }, accessFlags := 9, code := some k10c1 }
/-- java/util/Objects -/
def k10 : Class := { plain "java/util/Objects" (some 0) with
  accessFlags := 49
  interfaces := #[]
  cf := some (fileOf pool10 42 #[] #[{ accessFlags := 2, nameIndex := 5, descriptorIndex := 6, attributes := #[] }, { accessFlags := 9, nameIndex := 45, descriptorIndex := 94, attributes := #[] }] 49 2 #[] #[])
  fields := #[]
  methods := #[k10m0, k10m1]
  instanceTypes := #[]
  staticTypes := #[]
  resolved := Array.replicate 184 none
  statics := none }

def pool11 : Array CpInfo := pool [(1, .class_ 2), (0, u "java/lang/String"), (1, .class_ 6), (1, u "java/lang/Object"), (0, u "<init>"), (0, u "()V"), (0, .methodref 1 10), (0, .nameAndType 11 12), (0, u "checkIndex"), (0, u "(II)V"), (1, .class_ 16), (1, u "java/lang/StringLatin1"), (21, .methodref 39 40), (0, .class_ 41), (0, .nameAndType 42 43), (0, u "java/lang/Math"), (0, u "min"), (0, u "(II)I"), (9, u "([BI)C"), (34, .methodref 14 89), (0, .nameAndType 90 91), (0, u "canEncode"), (0, u "(I)Z"), (0, .methodref 39 93), (0, .nameAndType 94 43), (0, u "max"), (0, .methodref 14 96), (0, .nameAndType 97 98), (0, u "indexOfChar"), (0, u "([BIII)I"), (2, u "indexOf"), (19, u "$assertionsDisabled"), (0, u "Z"), (98, .class_ 223), (1, u "java/lang/StringLatin1$LinesSpliterator"), (28, u "charAt"), (137, .class_ 391), (0, u "java/lang/StringLatin1$CharsSpliterator")] 3

def k11m0 : Method := { name := "<init>", desc := "()V", sig := { parameters := [], returnType := none }, accessFlags := 0, code := none }
def k11c1 : Code := { maxStack := 2, maxLocals := 2, code := jdk_43_method_2_code, exceptionTable := #[], attributes := #[] }
def k11m1 : Method := { name := "charAt", desc := "([BI)C", sig := { parameters := [(.array .byte), .int], returnType := some .char }, accessFlags := 9, code := some k11c1 }
def k11c2 : Code := { maxStack := 2, maxLocals := 1, code := jdk_43_method_4_code, exceptionTable := #[], attributes := #[] }
def k11m2 : Method := { name := "canEncode", desc := "(I)Z", sig := { parameters := [.int], returnType := some .boolean }, accessFlags := 9, code := some k11c2 }
def k11c3 : Code := { maxStack := 4, maxLocals := 4, code := jdk_43_method_22_code, exceptionTable := #[], attributes := #[] }
def k11m3 : Method := { name := "indexOf", desc := "([BIII)I", sig := { parameters := [(.array .byte), .int, .int, .int], returnType := some .int }, accessFlags := 9, code := some k11c3 }
def k11c4 : Code := { maxStack := 2, maxLocals := 6, code := jdk_43_method_23_code, exceptionTable := #[], attributes := #[] }
def k11m4 : Method := { name := "indexOfChar", desc := "([BIII)I", sig := { parameters := [(.array .byte), .int, .int, .int], returnType := some .int }, accessFlags := 10, code := some k11c4 }
/-- java/lang/StringLatin1 -/
def k11 : Class := { plain "java/lang/StringLatin1" (some 0) with
  accessFlags := 48
  interfaces := #[]
  cf := some (fileOf pool11 14 #[.nestMembers #[390, 221]] #[{ accessFlags := 0, nameIndex := 7, descriptorIndex := 8, attributes := #[] }, { accessFlags := 9, nameIndex := 252, descriptorIndex := 53, attributes := #[] }, { accessFlags := 9, nameIndex := 90, descriptorIndex := 91, attributes := #[] }, { accessFlags := 9, nameIndex := 101, descriptorIndex := 98, attributes := #[] }, { accessFlags := 10, nameIndex := 97, descriptorIndex := 98, attributes := #[] }] 48 4 #[] #[{ accessFlags := 4120, nameIndex := 121, descriptorIndex := 122, attributes := #[] }])
  fields := #[{ name := "$assertionsDisabled", type := .boolean, accessFlags := 4120, slot := 0, constantValue := 0 }]
  methods := #[k11m0, k11m1, k11m2, k11m3, k11m4]
  instanceTypes := #[]
  staticTypes := #[.boolean]
  resolved := Array.replicate 395 none
  statics := none }

def pool12 : Array CpInfo := pool [(2, .class_ 4), (1, u "java/lang/Object"), (0, u "<init>"), (0, u "()V"), (17, .class_ 26), (1, u "jdk/internal/util/Preconditions"), (6, u "checkIndex"), (21, .class_ 56), (0, u "jdk/internal/util/Preconditions$4"), (57, .class_ 115), (0, u "jdk/internal/util/Preconditions$1"), (7, u "SIOOBE_FORMATTER"), (0, u "Ljava/util/function/BiFunction;"), (0, .class_ 126), (0, u "jdk/internal/util/Preconditions$2"), (3, u "AIOOBE_FORMATTER"), (0, .class_ 132), (0, u "jdk/internal/util/Preconditions$3"), (3, u "IOOBE_FORMATTER"), (41, u "(IILjava/util/function/BiFunction;)I")] 15

def k12m0 : Method := { name := "<init>", desc := "()V", sig := { parameters := [], returnType := none }, accessFlags := 1, code := none }
def k12c1 : Code := { maxStack := 3, maxLocals := 3, code := jdk_41_method_11_code, exceptionTable := #[], attributes := #[] }
def k12m1 : Method := { name := "checkIndex", desc := "(IILjava/util/function/BiFunction;)I", sig := { parameters := [.int, .int, (.object "java/util/function/BiFunction")], returnType := some .int }, accessFlags := 9, code := some k12c1 }
/-- jdk/internal/util/Preconditions -/
def k12 : Class := { plain "jdk/internal/util/Preconditions" (some 0) with
  accessFlags := 33
  interfaces := #[]
  cf := some (fileOf pool12 24 #[.nestMembers #[55, 131, 125, 114]] #[{ accessFlags := 1, nameIndex := 5, descriptorIndex := 6, attributes := #[] }, { accessFlags := 9, nameIndex := 33, descriptorIndex := 178, attributes := #[] }] 33 2 #[] #[{ accessFlags := 25, nameIndex := 123, descriptorIndex := 124, attributes := #[] }, { accessFlags := 25, nameIndex := 130, descriptorIndex := 124, attributes := #[] }, { accessFlags := 25, nameIndex := 136, descriptorIndex := 124, attributes := #[] }])
  fields := #[{ name := "SIOOBE_FORMATTER", type := (.object "java/util/function/BiFunction"), accessFlags := 25, slot := 0, constantValue := 0 }, { name := "AIOOBE_FORMATTER", type := (.object "java/util/function/BiFunction"), accessFlags := 25, slot := 1, constantValue := 0 }, { name := "IOOBE_FORMATTER", type := (.object "java/util/function/BiFunction"), accessFlags := 25, slot := 2, constantValue := 0 }]
  methods := #[k12m0, k12m1]
  instanceTypes := #[]
  staticTypes := #[(.object "java/util/function/BiFunction"), (.object "java/util/function/BiFunction"), (.object "java/util/function/BiFunction")]
  resolved := Array.replicate 194 none
  statics := some 1 }

def pool13 : Array CpInfo := pool [(1, .class_ 2), (0, u "java/lang/Math"), (1, .class_ 6), (1, u "java/lang/Object"), (0, u "<init>"), (0, u "()V"), (89, .class_ 100), (1, u "java/lang/Math$RandomNumberGeneratorHolder"), (71, u "negativeZeroFloatBits"), (0, u "J"), (2, u "negativeZeroDoubleBits"), (21, u "max"), (2, u "min"), (43, u "$assertionsDisabled"), (0, u "Z"), (88, u "(II)I"), (2, u "twoToTheDoubleScaleDown"), (0, u "D"), (4, u "twoToTheDoubleScaleUp"), (9, u "E"), (3, u "PI"), (2, u "TAU"), (2, u "DEGREES_TO_RADIANS"), (0, u "RADIANS_TO_DEGREES")] 94

def k13m0 : Method := { name := "<init>", desc := "()V", sig := { parameters := [], returnType := none }, accessFlags := 2, code := none }
def k13c1 : Code := { maxStack := 2, maxLocals := 2, code := jdk_29_method_65_code, exceptionTable := #[], attributes := #[] }
def k13m1 : Method := { name := "max", desc := "(II)I", sig := { parameters := [.int, .int], returnType := some .int }, accessFlags := 9, code := some k13c1 }
def k13c2 : Code := { maxStack := 2, maxLocals := 2, code := jdk_29_method_69_code, exceptionTable := #[], attributes := #[] }
def k13m2 : Method := { name := "min", desc := "(II)I", sig := { parameters := [.int, .int], returnType := some .int }, accessFlags := 9, code := some k13c2 }
/-- java/lang/Math -/
def k13 : Class := { plain "java/lang/Math" (some 0) with
  accessFlags := 49
  interfaces := #[]
  cf := some (fileOf pool13 1 #[.nestMembers #[98]] #[{ accessFlags := 2, nameIndex := 7, descriptorIndex := 8, attributes := #[] }, { accessFlags := 9, nameIndex := 198, descriptorIndex := 335, attributes := #[] }, { accessFlags := 9, nameIndex := 201, descriptorIndex := 335, attributes := #[] }] 49 4 #[] #[{ accessFlags := 25, nameIndex := 354, descriptorIndex := 339, attributes := #[] }, { accessFlags := 25, nameIndex := 358, descriptorIndex := 339, attributes := #[] }, { accessFlags := 25, nameIndex := 361, descriptorIndex := 339, attributes := #[] }, { accessFlags := 26, nameIndex := 364, descriptorIndex := 339, attributes := #[] }, { accessFlags := 26, nameIndex := 365, descriptorIndex := 339, attributes := #[] }, { accessFlags := 26, nameIndex := 172, descriptorIndex := 173, attributes := #[] }, { accessFlags := 26, nameIndex := 176, descriptorIndex := 173, attributes := #[] }, { accessFlags := 8, nameIndex := 344, descriptorIndex := 339, attributes := #[] }, { accessFlags := 8, nameIndex := 338, descriptorIndex := 339, attributes := #[] }, { accessFlags := 4120, nameIndex := 245, descriptorIndex := 246, attributes := #[] }])
  fields := #[{ name := "E", type := .double, accessFlags := 25, slot := 0, constantValue := 0 }, { name := "PI", type := .double, accessFlags := 25, slot := 1, constantValue := 0 }, { name := "TAU", type := .double, accessFlags := 25, slot := 2, constantValue := 0 }, { name := "DEGREES_TO_RADIANS", type := .double, accessFlags := 26, slot := 3, constantValue := 0 }, { name := "RADIANS_TO_DEGREES", type := .double, accessFlags := 26, slot := 4, constantValue := 0 }, { name := "negativeZeroFloatBits", type := .long, accessFlags := 26, slot := 5, constantValue := 0 }, { name := "negativeZeroDoubleBits", type := .long, accessFlags := 26, slot := 6, constantValue := 0 }, { name := "twoToTheDoubleScaleUp", type := .double, accessFlags := 8, slot := 7, constantValue := 0 }, { name := "twoToTheDoubleScaleDown", type := .double, accessFlags := 8, slot := 8, constantValue := 0 }, { name := "$assertionsDisabled", type := .boolean, accessFlags := 4120, slot := 9, constantValue := 0 }]
  methods := #[k13m0, k13m1, k13m2]
  instanceTypes := #[]
  staticTypes := #[.double, .double, .double, .double, .double, .long, .long, .double, .double, .boolean]
  resolved := Array.replicate 460 none
  statics := none }

def pool14 : Array CpInfo := pool [(9, u "<init>"), (6, .class_ 18), (1, u "java/lang/Object"), (0, u "()V"), (1, .class_ 23), (1, u "jdk/internal/util/ArraysSupport"), (0, u "LOG2_ARRAY_LONG_INDEX_SCALE"), (0, u "I"), (2, u "U"), (0, u "Ljdk/internal/misc/Unsafe;"), (8, u "BIG_ENDIAN"), (0, u "Z"), (8, u "LOG2_BYTE_BIT_SIZE"), (4, u "LOG2_ARRAY_INT_INDEX_SCALE"), (54, u "JLA"), (0, u "Ljdk/internal/access/JavaLangAccess;"), (11, u "LOG2_ARRAY_BOOLEAN_INDEX_SCALE"), (9, u "LOG2_ARRAY_BYTE_INDEX_SCALE"), (5, u "LOG2_ARRAY_CHAR_INDEX_SCALE"), (5, u "LOG2_ARRAY_SHORT_INDEX_SCALE"), (18, u "LOG2_ARRAY_FLOAT_INDEX_SCALE"), (24, u "LOG2_ARRAY_DOUBLE_INDEX_SCALE"), (89, u "T_BOOLEAN"), (2, u "T_CHAR"), (1, u "T_FLOAT"), (1, u "T_DOUBLE"), (1, u "T_BYTE"), (1, u "T_SHORT"), (1, u "T_INT"), (1, u "T_LONG"), (1, u "SOFT_MAX_ARRAY_LENGTH")] 83

def k14m0 : Method := { name := "<init>", desc := "()V", sig := { parameters := [], returnType := none }, accessFlags := 2, code := none }
/-- jdk/internal/util/ArraysSupport -/
def k14 : Class := { plain "jdk/internal/util/ArraysSupport" (some 0) with
  accessFlags := 33
  interfaces := #[]
  cf := some (fileOf pool14 21 #[] #[{ accessFlags := 2, nameIndex := 9, descriptorIndex := 19, attributes := #[] }] 33 16 #[] #[{ accessFlags := 24, nameIndex := 28, descriptorIndex := 29, attributes := #[] }, { accessFlags := 26, nameIndex := 38, descriptorIndex := 39, attributes := #[] }, { accessFlags := 25, nameIndex := 121, descriptorIndex := 25, attributes := #[] }, { accessFlags := 25, nameIndex := 131, descriptorIndex := 25, attributes := #[] }, { accessFlags := 25, nameIndex := 137, descriptorIndex := 25, attributes := #[] }, { accessFlags := 25, nameIndex := 143, descriptorIndex := 25, attributes := #[] }, { accessFlags := 25, nameIndex := 53, descriptorIndex := 25, attributes := #[] }, { accessFlags := 25, nameIndex := 24, descriptorIndex := 25, attributes := #[] }, { accessFlags := 25, nameIndex := 162, descriptorIndex := 25, attributes := #[] }, { accessFlags := 25, nameIndex := 187, descriptorIndex := 25, attributes := #[] }, { accessFlags := 26, nameIndex := 48, descriptorIndex := 25, attributes := #[] }, { accessFlags := 25, nameIndex := 277, descriptorIndex := 25, attributes := #[] }, { accessFlags := 25, nameIndex := 280, descriptorIndex := 25, attributes := #[] }, { accessFlags := 25, nameIndex := 282, descriptorIndex := 25, attributes := #[] }, { accessFlags := 25, nameIndex := 284, descriptorIndex := 25, attributes := #[] }, { accessFlags := 25, nameIndex := 286, descriptorIndex := 25, attributes := #[] }, { accessFlags := 25, nameIndex := 288, descriptorIndex := 25, attributes := #[] }, { accessFlags := 25, nameIndex := 290, descriptorIndex := 25, attributes := #[] }, { accessFlags := 25, nameIndex := 292, descriptorIndex := 25, attributes := #[] }, { accessFlags := 26, nameIndex := 108, descriptorIndex := 109, attributes := #[] }, { accessFlags := 25, nameIndex := 294, descriptorIndex := 25, attributes := #[] }])
  fields := #[{ name := "U", type := (.object "jdk/internal/misc/Unsafe"), accessFlags := 24, slot := 0, constantValue := 0 }, { name := "BIG_ENDIAN", type := .boolean, accessFlags := 26, slot := 1, constantValue := 0 }, { name := "LOG2_ARRAY_BOOLEAN_INDEX_SCALE", type := .int, accessFlags := 25, slot := 2, constantValue := 0 }, { name := "LOG2_ARRAY_BYTE_INDEX_SCALE", type := .int, accessFlags := 25, slot := 3, constantValue := 0 }, { name := "LOG2_ARRAY_CHAR_INDEX_SCALE", type := .int, accessFlags := 25, slot := 4, constantValue := 0 }, { name := "LOG2_ARRAY_SHORT_INDEX_SCALE", type := .int, accessFlags := 25, slot := 5, constantValue := 0 }, { name := "LOG2_ARRAY_INT_INDEX_SCALE", type := .int, accessFlags := 25, slot := 6, constantValue := 0 }, { name := "LOG2_ARRAY_LONG_INDEX_SCALE", type := .int, accessFlags := 25, slot := 7, constantValue := 0 }, { name := "LOG2_ARRAY_FLOAT_INDEX_SCALE", type := .int, accessFlags := 25, slot := 8, constantValue := 0 }, { name := "LOG2_ARRAY_DOUBLE_INDEX_SCALE", type := .int, accessFlags := 25, slot := 9, constantValue := 0 }, { name := "LOG2_BYTE_BIT_SIZE", type := .int, accessFlags := 26, slot := 10, constantValue := 0 }, { name := "T_BOOLEAN", type := .int, accessFlags := 25, slot := 11, constantValue := 0 }, { name := "T_CHAR", type := .int, accessFlags := 25, slot := 12, constantValue := 0 }, { name := "T_FLOAT", type := .int, accessFlags := 25, slot := 13, constantValue := 0 }, { name := "T_DOUBLE", type := .int, accessFlags := 25, slot := 14, constantValue := 0 }, { name := "T_BYTE", type := .int, accessFlags := 25, slot := 15, constantValue := 0 }, { name := "T_SHORT", type := .int, accessFlags := 25, slot := 16, constantValue := 0 }, { name := "T_INT", type := .int, accessFlags := 25, slot := 17, constantValue := 0 }, { name := "T_LONG", type := .int, accessFlags := 25, slot := 18, constantValue := 0 }, { name := "JLA", type := (.object "jdk/internal/access/JavaLangAccess"), accessFlags := 26, slot := 19, constantValue := 0 }, { name := "SOFT_MAX_ARRAY_LENGTH", type := .int, accessFlags := 25, slot := 20, constantValue := 0 }]
  methods := #[k14m0]
  instanceTypes := #[]
  staticTypes := #[(.object "jdk/internal/misc/Unsafe"), .boolean, .int, .int, .int, .int, .int, .int, .int, .int, .int, .int, .int, .int, .int, .int, .int, .int, .int, (.object "jdk/internal/access/JavaLangAccess"), .int]
  resolved := Array.replicate 378 none
  statics := none }

def pool15 : Array CpInfo := pool [(1, u "java/lang/Cloneable"), (0, .class_ 1), (0, u "java/lang/Object"), (0, .class_ 3)] 3

/-- java/lang/Cloneable -/
def k15 : Class := { plain "java/lang/Cloneable" (some 0) with
  accessFlags := 1537
  interfaces := #[]
  cf := some (fileOf pool15 2 #[] #[] 1537 4 #[] #[])
  fields := #[]
  methods := #[]
  instanceTypes := #[]
  staticTypes := #[]
  resolved := Array.replicate 8 none
  statics := none }

/-- the primitive byte -/
def k16 : Class := { plain "byte" none with kind := .primitive 'B', accessFlags := 0x411 }
/-- [B -/
def k17 : Class := { plain "[B" (some 0) with kind := .array 16 .byte, interfaces := #[15, 2], accessFlags := 1041 }

/-- the primitive char -/
def k18 : Class := { plain "char" none with kind := .primitive 'C', accessFlags := 0x411 }
/-- [C -/
def k19 : Class := { plain "[C" (some 0) with kind := .array 18 .char, interfaces := #[15, 2], accessFlags := 1041 }

/-- the primitive int -/
def k20 : Class := { plain "int" none with kind := .primitive 'I', accessFlags := 0x411 }
/-- [I -/
def k21 : Class := { plain "[I" (some 0) with kind := .array 20 .int, interfaces := #[15, 2], accessFlags := 1041 }

def heap : Heap := #[{ cls := 7, slots := #[.long 0, .int 1, .null, .int 0, .null, .int 0, .int 0], vm := .statics 7 },
  { cls := 12, slots := #[.null, .null, .null], vm := .statics 12 }]
def classes : Array Class := #[k0, k1, k2, k3, k4, k5, k6, k7, k8, k9, k10, k11, k12, k13, k14, k15, k16, k17, k18, k19, k20, k21]
def interned : List (Array UInt16 × Addr) := []
def slotsUsed : Nat := 10
def theMethod : MethodId := ⟨1, 2⟩
def args0 : Array Value := #[.int 5, .int 7, .int 3, .int 1, .int 2]
def aboutOver (below : List Frame) : State where
  vm := { classes := classes, interned := interned.toArray }
  heap := heap
  slotsUsed := slotsUsed
  threads := #[{ frames := .invoking theMethod args0 :: below }]
def below0 : List Frame := [.native { method := ⟨0, 0⟩, args := #[] }]
def about1 : State := aboutOver below0
def p0 : Program := .bare "" "" ""
def e0 : Env := launch0.env 0 0 0
theorem w_frames : about1.frames = Frame.invoking theMethod args0 :: below0 := rfl
set_option maxRecDepth 65536 in
theorem w_args : argsFit about1.vm theMethod args0 = true := by decide +kernel
set_option maxRecDepth 65536 in
theorem w_heap : heapFits about1 = true := by decide +kernel
set_option maxRecDepth 65536 in
theorem w_runnable : about1.curStatus? = some .runnable := by decide +kernel
set_option maxRecDepth 65536 in
theorem w_alone : about1.alone = true := by decide +kernel
set_option maxRecDepth 65536 in
theorem w_named : about1.methodNamed? x = some theMethod := by decide +kernel
set_option maxRecDepth 65536 in
theorem w_hears : about1.hears theMethod below0 = true := by decide +kernel
set_option maxRecDepth 65536 in
theorem w_ripe : about1.ripe theMethod args0 below0 = true := by decide +kernel
theorem w_running : about1.status = .running := rfl
set_option maxRecDepth 65536 in
theorem w_room : about1.hasRoom e0.platform room_1 = true :=
  launch0.hasRoom_least _ room_1 (by decide +kernel) (by decide +kernel) (by decide +kernel) (by decide +kernel) (by decide +kernel) (by decide +kernel)
theorem allAtoms_all (ts : List Jvm.Cond) (a : Array Jvm.Value) (st : Jvm.State) : (allAtoms ts).before a st = ts.all (fun c => c.before a st) := by
  induction ts with
  | nil => rfl
  | cons c t ih =>
    show (Jvm.Cond.and c (allAtoms t)).before a st = _
    rw [Jvm.Cond.before_and, ih, List.all_cons]
def words1 : List Jvm.Cond := Jvm.Cond.code x code maxLocals ret :: tables_1
/-- a 'code' word, met by the world's own term for the bytes: nothing is compared byte by byte -/
theorem code_word {y : MethodName} {bytes : ByteArray} {mx : Nat} {rt : Option FieldType} {a : Array Value} {s : State} {m : MethodId} {meth : Method} {c : Code} (h1 : s.methodNamed? y = some m) (h2 : s.vm.method? m = some meth) (h3 : meth.code = some c) (h4 : c.code = bytes)
    (h5 : (c.maxLocals == mx && c.exceptionTable.isEmpty && decide (c.maxStack ≤ mostOperands) && decide (meth.sig.returnType = rt) && !meth.locks && decide (parseMethodDescriptor y.desc = some meth.sig)) = true) : (Jvm.Cond.code y bytes mx rt).before a s = true := by
  simp only [Bool.and_eq_true, beq_iff_eq, Bool.not_eq_true', decide_eq_true_eq] at h5
  obtain ⟨⟨⟨⟨⟨g1, g2⟩, g3⟩, g4⟩, g5⟩, g6⟩ := h5
  simp [Cond.before, Cond.holds, Cond.value, h1, h2, h3, h4, g1, g2, g3, g4, g5, g6]
def isCode : Jvm.Cond → Bool
  | .code _ _ _ _ => true
  | _ => false
theorem all_split {L : List Jvm.Cond} {P : Jvm.Cond → Bool} (h1 : L.all (fun c => isCode c || P c) = true) (h2 : ∀ c ∈ L.filter isCode, P c = true) : L.all P = true := by
  refine List.all_eq_true.mpr fun c hc => ?_
  have h := List.all_eq_true.mp h1 c hc
  rcases Bool.eq_false_or_eq_true (isCode c) with hi | hi
  · exact h2 c (List.mem_filter.mpr ⟨hc, hi⟩)
  · simpa [hi] using h
set_option maxRecDepth 65536 in
theorem w_c0 : (Jvm.Cond.code x code maxLocals ret).before args0 about1 = true := code_word (m := ⟨1, 2⟩) (meth := k1m2) (c := k1c2) (by decide +kernel) rfl rfl rfl (by decide +kernel)
set_option maxRecDepth 65536 in
theorem w_c1 : (Jvm.Cond.code ({ cls := "com/example/lease_lock/leaselock/LeaseLimitsRequireValidNamePinLaw", name := "nameChar", desc := "(I)C" } : Jvm.MethodName) method_2_code (2 : Nat) (Option.some Jvm.ClassFile.FieldType.char)).before args0 about1 = true := code_word (m := ⟨1, 1⟩) (meth := k1m1) (c := k1c1) (by decide +kernel) rfl rfl rfl (by decide +kernel)
set_option maxRecDepth 65536 in
theorem w_c2 : (Jvm.Cond.code ({ cls := "java/lang/String", name := "<init>", desc := "([C)V" } : Jvm.MethodName) jdk_42_method_3_code (2 : Nat) (Option.none : Option Jvm.ClassFile.FieldType)).before args0 about1 = true := code_word (m := ⟨7, 1⟩) (meth := k7m1) (c := k7c1) (by decide +kernel) rfl rfl rfl (by decide +kernel)
set_option maxRecDepth 65536 in
theorem w_c3 : (Jvm.Cond.code ({ cls := "java/lang/String", name := "<init>", desc := "([CIILjava/lang/Void;)V" } : Jvm.MethodName) jdk_42_method_149_code (6 : Nat) (Option.none : Option Jvm.ClassFile.FieldType)).before args0 about1 = true := code_word (m := ⟨7, 7⟩) (meth := k7m7) (c := k7c7) (by decide +kernel) rfl rfl rfl (by decide +kernel)
set_option maxRecDepth 65536 in
theorem w_c4 : (Jvm.Cond.code ({ cls := "java/lang/Object", name := "<init>", desc := "()V" } : Jvm.MethodName) object_method_1_code (1 : Nat) (Option.none : Option Jvm.ClassFile.FieldType)).before args0 about1 = true := code_word (m := ⟨0, 0⟩) (meth := k0m0) (c := k0c0) (by decide +kernel) rfl rfl rfl (by decide +kernel)
set_option maxRecDepth 65536 in
theorem w_c5 : (Jvm.Cond.code ({ cls := "java/lang/StringUTF16", name := "compress", desc := "([CII)[B" } : Jvm.MethodName) jdk_52_method_16_code (6 : Nat) (Option.some (Jvm.ClassFile.FieldType.array Jvm.ClassFile.FieldType.byte))).before args0 about1 = true := code_word (m := ⟨8, 2⟩) (meth := k8m2) (c := k8c2) (by decide +kernel) rfl rfl rfl (by decide +kernel)
set_option maxRecDepth 65536 in
theorem w_c6 : (Jvm.Cond.code ({ cls := "java/lang/StringUTF16", name := "compress", desc := "([CI[BII)I" } : Jvm.MethodName) jdk_52_method_21_code (7 : Nat) (Option.some Jvm.ClassFile.FieldType.int)).before args0 about1 = true := code_word (m := ⟨8, 3⟩) (meth := k8m3) (c := k8c3) (by decide +kernel) rfl rfl rfl (by decide +kernel)
set_option maxRecDepth 65536 in
theorem w_c7 : (Jvm.Cond.code ({ cls := "java/lang/StringUTF16", name := "coderFromArrayLen", desc := "([BI)B" } : Jvm.MethodName) jdk_52_method_15_code (2 : Nat) (Option.some Jvm.ClassFile.FieldType.byte)).before args0 about1 = true := code_word (m := ⟨8, 1⟩) (meth := k8m1) (c := k8c1) (by decide +kernel) rfl rfl rfl (by decide +kernel)
set_option maxRecDepth 65536 in
theorem w_c8 : (Jvm.Cond.code ({ cls := "com/example/lease_lock/leaselock/LeaseLimits", name := "requireValidName", desc := "(Ljava/lang/String;)Ljava/lang/String;" } : Jvm.MethodName) prog_3_method_2_code (2 : Nat) (Option.some (Jvm.ClassFile.FieldType.object "java/lang/String"))).before args0 about1 = true := code_word (m := ⟨9, 1⟩) (meth := k9m1) (c := k9c1) (by decide +kernel) rfl rfl rfl (by decide +kernel)
set_option maxRecDepth 65536 in
theorem w_c9 : (Jvm.Cond.code ({ cls := "java/util/Objects", name := "requireNonNull", desc := "(Ljava/lang/Object;Ljava/lang/String;)Ljava/lang/Object;" } : Jvm.MethodName) jdk_31_method_11_code (2 : Nat) (Option.some (Jvm.ClassFile.FieldType.object "java/lang/Object"))).before args0 about1 = true := code_word (m := ⟨10, 1⟩) (meth := k10m1) (c := k10c1) (by decide +kernel) rfl rfl rfl (by decide +kernel)
set_option maxRecDepth 65536 in
theorem w_c10 : (Jvm.Cond.code ({ cls := "java/lang/String", name := "isEmpty", desc := "()Z" } : Jvm.MethodName) jdk_42_method_55_code (1 : Nat) (Option.some Jvm.ClassFile.FieldType.boolean)).before args0 about1 = true := code_word (m := ⟨7, 3⟩) (meth := k7m3) (c := k7c3) (by decide +kernel) rfl rfl rfl (by decide +kernel)
set_option maxRecDepth 65536 in
theorem w_c11 : (Jvm.Cond.code ({ cls := "java/lang/String", name := "length", desc := "()I" } : Jvm.MethodName) jdk_42_method_54_code (1 : Nat) (Option.some Jvm.ClassFile.FieldType.int)).before args0 about1 = true := code_word (m := ⟨7, 2⟩) (meth := k7m2) (c := k7c2) (by decide +kernel) rfl rfl rfl (by decide +kernel)
set_option maxRecDepth 65536 in
theorem w_c12 : (Jvm.Cond.code ({ cls := "java/lang/String", name := "coder", desc := "()B" } : Jvm.MethodName) jdk_42_method_152_code (1 : Nat) (Option.some Jvm.ClassFile.FieldType.byte)).before args0 about1 = true := code_word (m := ⟨7, 8⟩) (meth := k7m8) (c := k7c8) (by decide +kernel) rfl rfl rfl (by decide +kernel)
set_option maxRecDepth 65536 in
theorem w_c13 : (Jvm.Cond.code ({ cls := "java/lang/String", name := "charAt", desc := "(I)C" } : Jvm.MethodName) jdk_42_method_56_code (2 : Nat) (Option.some Jvm.ClassFile.FieldType.char)).before args0 about1 = true := code_word (m := ⟨7, 4⟩) (meth := k7m4) (c := k7c4) (by decide +kernel) rfl rfl rfl (by decide +kernel)
set_option maxRecDepth 65536 in
theorem w_c14 : (Jvm.Cond.code ({ cls := "java/lang/String", name := "isLatin1", desc := "()Z" } : Jvm.MethodName) jdk_42_method_154_code (1 : Nat) (Option.some Jvm.ClassFile.FieldType.boolean)).before args0 about1 = true := code_word (m := ⟨7, 9⟩) (meth := k7m9) (c := k7c9) (by decide +kernel) rfl rfl rfl (by decide +kernel)
set_option maxRecDepth 65536 in
theorem w_c15 : (Jvm.Cond.code ({ cls := "java/lang/StringLatin1", name := "charAt", desc := "([BI)C" } : Jvm.MethodName) jdk_43_method_2_code (2 : Nat) (Option.some Jvm.ClassFile.FieldType.char)).before args0 about1 = true := code_word (m := ⟨11, 1⟩) (meth := k11m1) (c := k11c1) (by decide +kernel) rfl rfl rfl (by decide +kernel)
set_option maxRecDepth 65536 in
theorem w_c16 : (Jvm.Cond.code ({ cls := "java/lang/String", name := "checkIndex", desc := "(II)V" } : Jvm.MethodName) jdk_42_method_155_code (2 : Nat) (Option.none : Option Jvm.ClassFile.FieldType)).before args0 about1 = true := code_word (m := ⟨7, 10⟩) (meth := k7m10) (c := k7c10) (by decide +kernel) rfl rfl rfl (by decide +kernel)
set_option maxRecDepth 65536 in
theorem w_c17 : (Jvm.Cond.code ({ cls := "jdk/internal/util/Preconditions", name := "checkIndex", desc := "(IILjava/util/function/BiFunction;)I" } : Jvm.MethodName) jdk_41_method_11_code (3 : Nat) (Option.some Jvm.ClassFile.FieldType.int)).before args0 about1 = true := code_word (m := ⟨12, 1⟩) (meth := k12m1) (c := k12c1) (by decide +kernel) rfl rfl rfl (by decide +kernel)
set_option maxRecDepth 65536 in
theorem w_c18 : (Jvm.Cond.code ({ cls := "com/example/lease_lock/leaselock/LeaseLimits", name := "isNameCharacter", desc := "(C)Z" } : Jvm.MethodName) prog_3_method_4_code (2 : Nat) (Option.some Jvm.ClassFile.FieldType.boolean)).before args0 about1 = true := code_word (m := ⟨9, 2⟩) (meth := k9m2) (c := k9c2) (by decide +kernel) rfl rfl rfl (by decide +kernel)
set_option maxRecDepth 65536 in
theorem w_c19 : (Jvm.Cond.code ({ cls := "java/lang/String", name := "indexOf", desc := "(I)I" } : Jvm.MethodName) jdk_42_method_79_code (2 : Nat) (Option.some Jvm.ClassFile.FieldType.int)).before args0 about1 = true := code_word (m := ⟨7, 5⟩) (meth := k7m5) (c := k7c5) (by decide +kernel) rfl rfl rfl (by decide +kernel)
set_option maxRecDepth 65536 in
theorem w_c20 : (Jvm.Cond.code ({ cls := "java/lang/String", name := "indexOf", desc := "(II)I" } : Jvm.MethodName) jdk_42_method_80_code (3 : Nat) (Option.some Jvm.ClassFile.FieldType.int)).before args0 about1 = true := code_word (m := ⟨7, 6⟩) (meth := k7m6) (c := k7c6) (by decide +kernel) rfl rfl rfl (by decide +kernel)
set_option maxRecDepth 65536 in
theorem w_c21 : (Jvm.Cond.code ({ cls := "java/lang/StringLatin1", name := "indexOf", desc := "([BIII)I" } : Jvm.MethodName) jdk_43_method_22_code (4 : Nat) (Option.some Jvm.ClassFile.FieldType.int)).before args0 about1 = true := code_word (m := ⟨11, 3⟩) (meth := k11m3) (c := k11c3) (by decide +kernel) rfl rfl rfl (by decide +kernel)
set_option maxRecDepth 65536 in
theorem w_c22 : (Jvm.Cond.code ({ cls := "java/lang/StringLatin1", name := "canEncode", desc := "(I)Z" } : Jvm.MethodName) jdk_43_method_4_code (1 : Nat) (Option.some Jvm.ClassFile.FieldType.boolean)).before args0 about1 = true := code_word (m := ⟨11, 2⟩) (meth := k11m2) (c := k11c2) (by decide +kernel) rfl rfl rfl (by decide +kernel)
set_option maxRecDepth 65536 in
theorem w_c23 : (Jvm.Cond.code ({ cls := "java/lang/Math", name := "max", desc := "(II)I" } : Jvm.MethodName) jdk_29_method_65_code (2 : Nat) (Option.some Jvm.ClassFile.FieldType.int)).before args0 about1 = true := code_word (m := ⟨13, 1⟩) (meth := k13m1) (c := k13c1) (by decide +kernel) rfl rfl rfl (by decide +kernel)
set_option maxRecDepth 65536 in
theorem w_c24 : (Jvm.Cond.code ({ cls := "java/lang/Math", name := "min", desc := "(II)I" } : Jvm.MethodName) jdk_29_method_69_code (2 : Nat) (Option.some Jvm.ClassFile.FieldType.int)).before args0 about1 = true := code_word (m := ⟨13, 2⟩) (meth := k13m2) (c := k13c2) (by decide +kernel) rfl rfl rfl (by decide +kernel)
set_option maxRecDepth 65536 in
theorem w_c25 : (Jvm.Cond.code ({ cls := "java/lang/StringLatin1", name := "indexOfChar", desc := "([BIII)I" } : Jvm.MethodName) jdk_43_method_23_code (6 : Nat) (Option.some Jvm.ClassFile.FieldType.int)).before args0 about1 = true := code_word (m := ⟨11, 4⟩) (meth := k11m4) (c := k11c4) (by decide +kernel) rfl rfl rfl (by decide +kernel)
def codes1 : List Jvm.Cond := [Jvm.Cond.code x code maxLocals ret, Jvm.Cond.code ({ cls := "com/example/lease_lock/leaselock/LeaseLimitsRequireValidNamePinLaw", name := "nameChar", desc := "(I)C" } : Jvm.MethodName) method_2_code (2 : Nat) (Option.some Jvm.ClassFile.FieldType.char), Jvm.Cond.code ({ cls := "java/lang/String", name := "<init>", desc := "([C)V" } : Jvm.MethodName) jdk_42_method_3_code (2 : Nat) (Option.none : Option Jvm.ClassFile.FieldType), Jvm.Cond.code ({ cls := "java/lang/String", name := "<init>", desc := "([CIILjava/lang/Void;)V" } : Jvm.MethodName) jdk_42_method_149_code (6 : Nat) (Option.none : Option Jvm.ClassFile.FieldType), Jvm.Cond.code ({ cls := "java/lang/Object", name := "<init>", desc := "()V" } : Jvm.MethodName) object_method_1_code (1 : Nat) (Option.none : Option Jvm.ClassFile.FieldType), Jvm.Cond.code ({ cls := "java/lang/StringUTF16", name := "compress", desc := "([CII)[B" } : Jvm.MethodName) jdk_52_method_16_code (6 : Nat) (Option.some (Jvm.ClassFile.FieldType.array Jvm.ClassFile.FieldType.byte)), Jvm.Cond.code ({ cls := "java/lang/StringUTF16", name := "compress", desc := "([CI[BII)I" } : Jvm.MethodName) jdk_52_method_21_code (7 : Nat) (Option.some Jvm.ClassFile.FieldType.int), Jvm.Cond.code ({ cls := "java/lang/StringUTF16", name := "coderFromArrayLen", desc := "([BI)B" } : Jvm.MethodName) jdk_52_method_15_code (2 : Nat) (Option.some Jvm.ClassFile.FieldType.byte), Jvm.Cond.code ({ cls := "com/example/lease_lock/leaselock/LeaseLimits", name := "requireValidName", desc := "(Ljava/lang/String;)Ljava/lang/String;" } : Jvm.MethodName) prog_3_method_2_code (2 : Nat) (Option.some (Jvm.ClassFile.FieldType.object "java/lang/String")), Jvm.Cond.code ({ cls := "java/util/Objects", name := "requireNonNull", desc := "(Ljava/lang/Object;Ljava/lang/String;)Ljava/lang/Object;" } : Jvm.MethodName) jdk_31_method_11_code (2 : Nat) (Option.some (Jvm.ClassFile.FieldType.object "java/lang/Object")), Jvm.Cond.code ({ cls := "java/lang/String", name := "isEmpty", desc := "()Z" } : Jvm.MethodName) jdk_42_method_55_code (1 : Nat) (Option.some Jvm.ClassFile.FieldType.boolean), Jvm.Cond.code ({ cls := "java/lang/String", name := "length", desc := "()I" } : Jvm.MethodName) jdk_42_method_54_code (1 : Nat) (Option.some Jvm.ClassFile.FieldType.int), Jvm.Cond.code ({ cls := "java/lang/String", name := "coder", desc := "()B" } : Jvm.MethodName) jdk_42_method_152_code (1 : Nat) (Option.some Jvm.ClassFile.FieldType.byte), Jvm.Cond.code ({ cls := "java/lang/String", name := "charAt", desc := "(I)C" } : Jvm.MethodName) jdk_42_method_56_code (2 : Nat) (Option.some Jvm.ClassFile.FieldType.char), Jvm.Cond.code ({ cls := "java/lang/String", name := "isLatin1", desc := "()Z" } : Jvm.MethodName) jdk_42_method_154_code (1 : Nat) (Option.some Jvm.ClassFile.FieldType.boolean), Jvm.Cond.code ({ cls := "java/lang/StringLatin1", name := "charAt", desc := "([BI)C" } : Jvm.MethodName) jdk_43_method_2_code (2 : Nat) (Option.some Jvm.ClassFile.FieldType.char), Jvm.Cond.code ({ cls := "java/lang/String", name := "checkIndex", desc := "(II)V" } : Jvm.MethodName) jdk_42_method_155_code (2 : Nat) (Option.none : Option Jvm.ClassFile.FieldType), Jvm.Cond.code ({ cls := "jdk/internal/util/Preconditions", name := "checkIndex", desc := "(IILjava/util/function/BiFunction;)I" } : Jvm.MethodName) jdk_41_method_11_code (3 : Nat) (Option.some Jvm.ClassFile.FieldType.int), Jvm.Cond.code ({ cls := "com/example/lease_lock/leaselock/LeaseLimits", name := "isNameCharacter", desc := "(C)Z" } : Jvm.MethodName) prog_3_method_4_code (2 : Nat) (Option.some Jvm.ClassFile.FieldType.boolean), Jvm.Cond.code ({ cls := "java/lang/String", name := "indexOf", desc := "(I)I" } : Jvm.MethodName) jdk_42_method_79_code (2 : Nat) (Option.some Jvm.ClassFile.FieldType.int), Jvm.Cond.code ({ cls := "java/lang/String", name := "indexOf", desc := "(II)I" } : Jvm.MethodName) jdk_42_method_80_code (3 : Nat) (Option.some Jvm.ClassFile.FieldType.int), Jvm.Cond.code ({ cls := "java/lang/StringLatin1", name := "indexOf", desc := "([BIII)I" } : Jvm.MethodName) jdk_43_method_22_code (4 : Nat) (Option.some Jvm.ClassFile.FieldType.int), Jvm.Cond.code ({ cls := "java/lang/StringLatin1", name := "canEncode", desc := "(I)Z" } : Jvm.MethodName) jdk_43_method_4_code (1 : Nat) (Option.some Jvm.ClassFile.FieldType.boolean), Jvm.Cond.code ({ cls := "java/lang/Math", name := "max", desc := "(II)I" } : Jvm.MethodName) jdk_29_method_65_code (2 : Nat) (Option.some Jvm.ClassFile.FieldType.int), Jvm.Cond.code ({ cls := "java/lang/Math", name := "min", desc := "(II)I" } : Jvm.MethodName) jdk_29_method_69_code (2 : Nat) (Option.some Jvm.ClassFile.FieldType.int), Jvm.Cond.code ({ cls := "java/lang/StringLatin1", name := "indexOfChar", desc := "([BIII)I" } : Jvm.MethodName) jdk_43_method_23_code (6 : Nat) (Option.some Jvm.ClassFile.FieldType.int)]
set_option maxRecDepth 65536 in
theorem codes_eq : words1.filter isCode = codes1 := rfl
theorem w_codes : ∀ c ∈ words1.filter isCode, c.before args0 about1 = true := by
  rw [codes_eq]
  intro c hc
  simp only [codes1, List.mem_cons, List.not_mem_nil, or_false] at hc
  rcases hc with rfl | rfl | rfl | rfl | rfl | rfl | rfl | rfl | rfl | rfl | rfl | rfl | rfl | rfl | rfl | rfl | rfl | rfl | rfl | rfl | rfl | rfl | rfl | rfl | rfl | rfl
  · exact w_c0
  · exact w_c1
  · exact w_c2
  · exact w_c3
  · exact w_c4
  · exact w_c5
  · exact w_c6
  · exact w_c7
  · exact w_c8
  · exact w_c9
  · exact w_c10
  · exact w_c11
  · exact w_c12
  · exact w_c13
  · exact w_c14
  · exact w_c15
  · exact w_c16
  · exact w_c17
  · exact w_c18
  · exact w_c19
  · exact w_c20
  · exact w_c21
  · exact w_c22
  · exact w_c23
  · exact w_c24
  · exact w_c25
set_option maxRecDepth 65536 in
theorem w_t1 : (words1.take 24).all (fun c => isCode c || c.before args0 about1) = true := by decide +kernel
set_option maxRecDepth 65536 in
theorem w_t2 : ((words1.drop 24).take 24).all (fun c => isCode c || c.before args0 about1) = true := by decide +kernel
set_option maxRecDepth 65536 in
theorem w_t3 : (((words1.drop 24).drop 24).take 24).all (fun c => isCode c || c.before args0 about1) = true := by decide +kernel
set_option maxRecDepth 65536 in
theorem w_t4 : ((((words1.drop 24).drop 24).drop 24).take 24).all (fun c => isCode c || c.before args0 about1) = true := by decide +kernel
set_option maxRecDepth 65536 in
theorem w_t5 : ((((words1.drop 24).drop 24).drop 24).drop 24).all (fun c => isCode c || c.before args0 about1) = true := by decide +kernel
theorem w_tables : (allAtoms (Jvm.Cond.code x code maxLocals ret :: tables_1)).before args0 about1 = true := by
  rw [allAtoms_all]
  show words1.all (fun c => c.before args0 about1) = true
  refine all_split ?_ w_codes
  rw [← List.take_append_drop 24 words1, List.all_append, w_t1, ← List.take_append_drop 24 (words1.drop 24), List.all_append, w_t2, ← List.take_append_drop 24 ((words1.drop 24).drop 24), List.all_append, w_t3, ← List.take_append_drop 24 (((words1.drop 24).drop 24).drop 24), List.all_append, w_t4, w_t5]
  rfl
set_option maxRecDepth 65536 in
theorem w_rest : rest_1_c.before args0 about1 = true := by decide +kernel
set_option maxRecDepth 65536 in
theorem w_case : (Jvm.Cond.and given_1 narrow_1).before args0 about1 = true := by decide +kernel
set_option maxRecDepth 65536 in
theorem w_consts : constsHeld consts_1 about1 := Jvm.Lit.constsHeldB_iff.mp (by decide +kernel)
theorem w_applies : (headSpec (Jvm.Cond.code x code maxLocals ret :: tables_1) room_1).applies x e0.platform about1 = true :=
  (Spec.applies_iff w_frames).mpr ⟨w_running, w_runnable, w_alone, w_named, w_hears, w_ripe, w_room, w_tables⟩
theorem atStart : AtStart classFile x code maxLocals ret World_1 tables_1 room_1 Calls_1 rest_1 Pre_1 launch0 p0 e0 about1 theMethod args0 below0 :=
  ⟨lists_1, trivial, launch0.admits_env _ _ _, launch0.least_env, fairChoices_fair.cas, fairChoices_fair.clock, w_frames, w_args, w_heap, w_applies, ⟨w_consts, trivial⟩, w_rest, w_case⟩
end start1
theorem witness_1 : WitnessClaimed_1 := ⟨start1.p0, start1.e0, start1.about1, start1.theMethod, start1.args0, start1.below0, start1.atStart⟩
end Jvm.Pilot.@@N@@
