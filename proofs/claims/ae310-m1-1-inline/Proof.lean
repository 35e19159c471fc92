import JvmDerived
import JvmDerived.Pilot.@@N@@Statement
import JvmDerived.Pilot.@@N@@Code
set_option linter.unusedVariables false
set_option linter.unusedSimpArgs false
/- laws to paste: Road.backV, Road.codOf, Road.lenW, Road.chN, Road.empW (cut by pick.py; bodies as the Statement names them) -/
namespace Jvm.Pilot.@@N@@
namespace StrChars
open Jvm Sem ClassFile Op Lib Jvm.Stand Jvm.Free.XT Jvm.Free.ALB Jvm.Free.JM Jvm.Free
open Jvm.Lib.Cold (StaticIs)
/-- a char array whose places are chars -/
def Ch (a : Addr) (A : Cell) (U : State) : Prop := Arr .char a A U ∧ Typed .char A
theorem Ch.mv {a : Addr} {A : Cell} {U U' : State} (h : Ch a A U) (hal : U.vm.Alike U'.vm) (hh : U'.heap = U.heap) : Ch a A U' := ⟨h.1.mv hal hh, h.2⟩
theorem Ch.keep {a : Addr} {A : Cell} {U U' : State} (h : Ch a A U) (hal : U.vm.Alike U'.vm) (hk : U'.heap[a]? = some A) : Ch a A U' := ⟨h.1.keep hal hk, h.2⟩
/-- what place i of a char[]'s cell holds -/
def cv (A : Cell) (i : Nat) : Int32 := match A.slots[i]? with | some (.int x) => x | _ => 0
theorem Ch.get {a : Addr} {A : Cell} {U : State} (h : Ch a A U) {i : Nat} (hi : i < A.slots.size) : A.slots[i]? = some (.int (cv A i)) := by
  have e := Array.getElem?_eq_getElem hi
  have f := h.2 i _ e
  unfold cv; rw [e]
  generalize A.slots[i] = v at f
  cases v <;> simp [fits] at f ⊢
/-- the byte that i2b leaves of a char -/
def lo8 (x : Int32) : Int32 := x.toInt8.toInt32
theorem fits_lo8 (y : Int32) : fits .byte (.int (lo8 y)) = true := by
  have h1 := y.toInt8.le_toInt
  have h2 := y.toInt8.toInt_lt
  simp only [lo8, fits, Bool.and_eq_true, decide_eq_true_eq, Int32.le_iff_toInt_le, Int8.toInt_toInt32, show (-128 : Int32).toInt = -128 from by decide, show (127 : Int32).toInt = 127 from by decide]
  omega
/-- A' is A but that each place j of lo .. hi - 1 holds f j -/
def Laid (A A' : Cell) (lo hi : Nat) (f : Nat → Value) : Prop := A'.cls = A.cls ∧ A'.vm = A.vm ∧ A'.slots.size = A.slots.size ∧ ∀ i, A'.slots[i]? = if lo ≤ i ∧ i < hi then some (f i) else A.slots[i]?
theorem Laid.zero (A : Cell) (lo : Nat) (f : Nat → Value) : Laid A A lo (lo + 0) f := ⟨rfl, rfl, rfl, fun i => by rw [if_neg (by omega)]⟩
theorem Laid.step {A Ak : Cell} {lo k : Nat} {f : Nat → Value} {v : Value} (h : Laid A Ak lo k f) (hlo : lo ≤ k) (hk : k < Ak.slots.size) (hv : v = f k) : Laid A (Ak.setSlot k v) lo (k + 1) f := by
  refine ⟨h.1, h.2.1, by simpa [Cell.setSlot] using h.2.2.1, fun i => ?_⟩
  by_cases e : k = i
  · subst e; rw [Cell.slots_setSlot_self v hk, if_pos (by omega), hv]
  · rw [Cell.slots_setSlot_ne v e, h.2.2.2 i]
    by_cases q : lo ≤ i ∧ i < k
    · rw [if_pos q, if_pos (by omega)]
    · rw [if_neg q, if_neg (by omega)]
def U16 : String := "java/lang/StringUTF16"
namespace Cmp5
def yN : MethodName := ⟨"java/lang/StringUTF16", "compress", "([CI[BII)I"⟩
abbrev yB : ByteArray := jdk_52_method_21_code
theorem d0 : decode yB 0 = .ok (.iconst 0, 1) := by decide +kernel
theorem d1 : decode yB 1 = .ok (.istore 5, 2) := by decide +kernel
theorem d3 : decode yB 3 = .ok (.iload 5, 2) := by decide +kernel
theorem d5 : decode yB 5 = .ok (.iload 4, 2) := by decide +kernel
theorem d7 : decode yB 7 = .ok (.if_icmp (.ge) 37, 3) := by decide +kernel
theorem d10 : decode yB 10 = .ok (.aload_n 0, 1) := by decide +kernel
theorem d11 : decode yB 11 = .ok (.iload_n 1, 1) := by decide +kernel
theorem d12 : decode yB 12 = .ok (.caload, 1) := by decide +kernel
theorem d13 : decode yB 13 = .ok (.istore 6, 2) := by decide +kernel
theorem d15 : decode yB 15 = .ok (.iload 6, 2) := by decide +kernel
theorem d17 : decode yB 17 = .ok (.sipush 255, 3) := by decide +kernel
theorem d20 : decode yB 20 = .ok (.if_icmp (.le) 6, 3) := by decide +kernel
theorem d26 : decode yB 26 = .ok (.aload_n 2, 1) := by decide +kernel
theorem d27 : decode yB 27 = .ok (.iload_n 3, 1) := by decide +kernel
theorem d28 : decode yB 28 = .ok (.iload 6, 2) := by decide +kernel
theorem d30 : decode yB 30 = .ok (.i2b, 1) := by decide +kernel
theorem d31 : decode yB 31 = .ok (.bastore, 1) := by decide +kernel
theorem d32 : decode yB 32 = .ok (.iinc 1 1, 3) := by decide +kernel
theorem d35 : decode yB 35 = .ok (.iinc 3 1, 3) := by decide +kernel
theorem d38 : decode yB 38 = .ok (.iinc 5 1, 3) := by decide +kernel
theorem d41 : decode yB 41 = .ok (.goto (-38), 3) := by decide +kernel
theorem d44 : decode yB 44 = .ok (.iload 4, 2) := by decide +kernel
theorem d46 : decode yB 46 = .ok (.ireturn, 1) := by decide +kernel
def site : List Cond := []
def tab : Cond := tabOf yN yB 7 (some .int) site
def P (b : Addr) (A : Cell) (d : Addr) (B : Cell) (o q len : Nat) (args : Array Value) (s : State) : Prop := args = #[.ref b, .int (Int32.ofNat o), .ref d, .int (Int32.ofNat q), .int (Int32.ofNat len)] ∧ Ch b A s ∧ Arr .byte d B s ∧ b ≠ d ∧ o + len ≤ A.slots.size ∧ q + len ≤ B.slots.size ∧ ∀ i, i < len → ¬ 255 < cv A (o + i)
def E (b : Addr) (A : Cell) (d : Addr) (B : Cell) (o q len : Nat) (r : Option Value) (s u : State) : Prop := r = some (.int (Int32.ofNat len)) ∧ ∃ B', Put d B' s u ∧ Laid B B' q (q + len) (fun j => Value.int (lo8 (cv A (o + (j - q)))))
/-- no char of the range above 255: len; the places written hold each char's low byte -/
theorem law (l : Launch) (b : Addr) (A : Cell) (d : Addr) (B : Cell) (o q len : Nat) : Law l yN 5 5 0 0 yB 7 (some .int) site (P b A d B o q len) (E b A d B o q len) (copyLocs d q len) 0 0 := by
  refine Law.of_walk (plainFor_of_name (by decide +kernel)) (by decide +kernel) (by decide +kernel) (by decide) (fun _ _ h => by rw [h.1]; rfl) (fun _ U U' hal hh h => ⟨h.1, h.2.1.mv hal hh, h.2.2.1.mv hal hh, h.2.2.2⟩) (fun r U U' V V' h1 hal h2 h => ⟨h.1, h.2.elim fun B' q => ⟨B', q.1.mv h1 h2, q.2⟩⟩) ?_
  intro p e s m args below meth c s₁ X0 hexec hbytes hml hret hlk hnm hown hh0 W hP
  obtain ⟨rfl, hA, hB, hne, l1, l2, hp⟩ := hP
  have c1 : Steps p.tables e below (s₁.setTop (entryFrame m #[.ref b, .int (Int32.ofNat o), .ref d, .int (Int32.ofNat q), .int (Int32.ofNat len)] 7)) (s₁.setTop (mkF m 0 #[.val (.ref b), .val (.int (Int32.ofNat o)), .val (.ref d), .val (.int (Int32.ofNat q)), .val (.int (Int32.ofNat len)), .unset, .unset] [])) := entry rfl
  have hA0 := hA.1.mv X0.warmed.alike hh0
  have hB0 := hB.mv X0.warmed.alike hh0
  have a31 := hA.1.2.2.2
  have c2 : Steps p.tables e below (s₁.setTop (entryFrame m #[.ref b, .int (Int32.ofNat o), .ref d, .int (Int32.ofNat q), .int (Int32.ofNat len)] 7)) (s₁.setTop (mkF m 3 #[.val (.ref b), .val (.int (Int32.ofNat o)), .val (.ref d), .val (.int (Int32.ofNat q)), .val (.int (Int32.ofNat len)), .val (.int 0), .unset] [])) := c1.trans (by
    refine iconstV X0.here hexec rfl 0 (hb hbytes d0) (by decide) ?_
    refine XS.istore X0.here hexec rfl (hb hbytes d1) rfl rfl ?_
    exact Steps.refl _)
  have loop : ∀ (r i : Nat), i + r = len → ∀ (z : Slot), (z = .unset ∨ ∃ w, z = .val w ∧ w.category = 1) → ∀ (Tl : State) (Bk : Cell), Stand p l e { frames := 0, locals := 0, cells := 0, slots := 0 } s m #[.ref b, .int (Int32.ofNat o), .ref d, .int (Int32.ofNat q), .int (Int32.ofNat len)] below meth c Tl ([] ++ copyLocs d q i) 0 0 → Put d Bk s₁ Tl → Laid B Bk q (q + i) (fun j => Value.int (lo8 (cv A (o + (j - q))))) →
      Steps p.tables e below (s₁.setTop (entryFrame m #[.ref b, .int (Int32.ofNat o), .ref d, .int (Int32.ofNat q), .int (Int32.ofNat len)] 7)) (Tl.setTop (mkF m 3 #[.val (.ref b), .val (.int (Int32.ofNat (o + i))), .val (.ref d), .val (.int (Int32.ofNat (q + i))), .val (.int (Int32.ofNat len)), .val (.int (Int32.ofNat i)), z] [])) → ∃ (T' : State) (B' : Cell) (z' : Slot), Stand p l e { frames := 0, locals := 0, cells := 0, slots := 0 } s m #[.ref b, .int (Int32.ofNat o), .ref d, .int (Int32.ofNat q), .int (Int32.ofNat len)] below meth c T' ([] ++ copyLocs d q len) 0 0 ∧ Put d B' s₁ T' ∧ Laid B B' q (q + len) (fun j => Value.int (lo8 (cv A (o + (j - q))))) ∧
      Steps p.tables e below (s₁.setTop (entryFrame m #[.ref b, .int (Int32.ofNat o), .ref d, .int (Int32.ofNat q), .int (Int32.ofNat len)] 7)) (T'.setTop (mkF m 3 #[.val (.ref b), .val (.int (Int32.ofNat (o + len))), .val (.ref d), .val (.int (Int32.ofNat (q + len))), .val (.int (Int32.ofNat len)), .val (.int (Int32.ofNat len)), z'] [])) := by
    intro r
    induction r with
    | zero =>
      intro i hi z hz Tl Bk Xl pl fl cl
      have hil : i = len := by omega
      rw [hil] at Xl fl cl
      exact ⟨Tl, Bk, z, Xl, pl, fl, cl⟩
    | succ r ih =>
      intro i hi z hz Tl Bk Xl pl fl cl
      have all := X0.warmed.alike.symm.trans Xl.warmed.alike
      have hAl := hA0.keep all (pl.other hne hA0.1)
      have hBk := hB0.like all pl.1 fl.1 fl.2.1 fl.2.2.1
      have hlt : q + i < Bk.slots.size := by rw [fl.2.2.1]; omega
      have c3 : Steps p.tables e below (s₁.setTop (entryFrame m #[.ref b, .int (Int32.ofNat o), .ref d, .int (Int32.ofNat q), .int (Int32.ofNat len)] 7)) (Tl.setTop (mkF m 12 #[.val (.ref b), .val (.int (Int32.ofNat (o + i))), .val (.ref d), .val (.int (Int32.ofNat (q + i))), .val (.int (Int32.ofNat len)), .val (.int (Int32.ofNat i)), z] [.int (Int32.ofNat (o + i)), .ref b])) := cl.trans (by
        refine XS.iload Xl.here hexec rfl (hb hbytes d3) rfl ?_
        refine XS.iload Xl.here hexec rfl (hb hbytes d5) rfl ?_
        refine XS.icmpNo Xl.here hexec rfl (hb hbytes d7) rfl (ii_ge_f (lt32 (by omega) (by omega))) ?_
        refine XS.aloadN Xl.here hexec rfl (hb hbytes d10) rfl rfl ?_
        refine XS.iloadN Xl.here hexec rfl (hb hbytes d11) rfl ?_
        exact Steps.refl _)
      have c4 : Steps p.tables e below (s₁.setTop (entryFrame m #[.ref b, .int (Int32.ofNat o), .ref d, .int (Int32.ofNat q), .int (Int32.ofNat len)] 7)) (Tl.setTop (mkF m 13 #[.val (.ref b), .val (.int (Int32.ofNat (o + i))), .val (.ref d), .val (.int (Int32.ofNat (q + i))), .val (.int (Int32.ofNat len)), .val (.int (Int32.ofNat i)), z] [.int (cv A (o + i))])) := c3.trans (by
        refine Xl.aget hexec hAl rfl (hA.get (i := o + i) (by omega)) rfl rfl (hb hbytes d12) ?_
        exact Steps.refl _)
      have c5 : Steps p.tables e below (s₁.setTop (entryFrame m #[.ref b, .int (Int32.ofNat o), .ref d, .int (Int32.ofNat q), .int (Int32.ofNat len)] 7)) (Tl.setTop (mkF m 15 #[.val (.ref b), .val (.int (Int32.ofNat (o + i))), .val (.ref d), .val (.int (Int32.ofNat (q + i))), .val (.int (Int32.ofNat len)), .val (.int (Int32.ofNat i)), .val (.int (cv A (o + i)))] [])) := c4.trans (by
        refine XS.istoreS Xl.here hexec rfl (hb hbytes d13) rfl rfl hz ?_
        exact Steps.refl _)
      have c6 : Steps p.tables e below (s₁.setTop (entryFrame m #[.ref b, .int (Int32.ofNat o), .ref d, .int (Int32.ofNat q), .int (Int32.ofNat len)] 7)) (Tl.setTop (mkF m 31 #[.val (.ref b), .val (.int (Int32.ofNat (o + i))), .val (.ref d), .val (.int (Int32.ofNat (q + i))), .val (.int (Int32.ofNat len)), .val (.int (Int32.ofNat i)), .val (.int (cv A (o + i)))] [.int (lo8 (cv A (o + i))), .int (Int32.ofNat (q + i)), .ref d])) := c5.trans (by
        refine XS.iload Xl.here hexec rfl (hb hbytes d15) rfl ?_
        refine sipushV Xl.here hexec rfl 255 (hb hbytes d17) (by decide) ?_
        refine XS.icmpYes Xl.here hexec rfl (pc0 := 20) rfl (hb hbytes d20) rfl (ii_le_t (hp i (by omega))) (by decide) rfl ?_
        refine XS.aloadN Xl.here hexec rfl (hb hbytes d26) rfl rfl ?_
        refine XS.iloadN Xl.here hexec rfl (hb hbytes d27) rfl ?_
        refine XS.iload Xl.here hexec rfl (hb hbytes d28) rfl ?_
        refine i2b Xl.here hexec rfl (hb hbytes d30) rfl ?_
        exact Steps.refl _)
      obtain ⟨T7, X7, p7, st7⟩ := Xl.aput hexec hBk rfl hlt rfl (fits_lo8 (cv A (o + i))) (g := (mkF m 31 #[.val (.ref b), .val (.int (Int32.ofNat (o + i))), .val (.ref d), .val (.int (Int32.ofNat (q + i))), .val (.int (Int32.ofNat len)), .val (.int (Int32.ofNat i)), .val (.int (cv A (o + i)))] [.int (lo8 (cv A (o + i))), .int (Int32.ofNat (q + i)), .ref d])) rfl (rest := []) rfl (hb hbytes d31)
      have c8 : Steps p.tables e below (s₁.setTop (entryFrame m #[.ref b, .int (Int32.ofNat o), .ref d, .int (Int32.ofNat q), .int (Int32.ofNat len)] 7)) (T7.setTop (mkF m 32 #[.val (.ref b), .val (.int (Int32.ofNat (o + i))), .val (.ref d), .val (.int (Int32.ofNat (q + i))), .val (.int (Int32.ofNat len)), .val (.int (Int32.ofNat i)), .val (.int (cv A (o + i)))] [])) := c6.trans (st7 _ (Steps.refl _))
      have c9 : Steps p.tables e below (s₁.setTop (entryFrame m #[.ref b, .int (Int32.ofNat o), .ref d, .int (Int32.ofNat q), .int (Int32.ofNat len)] 7)) (T7.setTop (mkF m 3 #[.val (.ref b), .val (.int (Int32.ofNat (o + i) + 1)), .val (.ref d), .val (.int (Int32.ofNat (q + i) + 1)), .val (.int (Int32.ofNat len)), .val (.int (Int32.ofNat i + 1)), .val (.int (cv A (o + i)))] [])) := c8.trans (by
        refine iincV X7.here hexec rfl 1 (hb hbytes d32) (by decide) rfl rfl ?_
        refine iincV X7.here hexec rfl 1 (hb hbytes d35) (by decide) rfl rfl ?_
        refine iincV X7.here hexec rfl 1 (hb hbytes d38) (by decide) rfl rfl ?_
        refine XS.goto X7.here hexec rfl (pc0 := 41) rfl (hb hbytes d41) (by decide) rfl ?_
        exact Steps.refl _)
      have c10 : Steps p.tables e below (s₁.setTop (entryFrame m #[.ref b, .int (Int32.ofNat o), .ref d, .int (Int32.ofNat q), .int (Int32.ofNat len)] 7)) (T7.setTop (mkF m 3 #[.val (.ref b), .val (.int (Int32.ofNat (o + (i + 1)))), .val (.ref d), .val (.int (Int32.ofNat (q + (i + 1)))), .val (.int (Int32.ofNat len)), .val (.int (Int32.ofNat (i + 1))), .val (.int (cv A (o + i)))] [])) := by
        have := c9
        rw [succ32, succ32, succ32] at this
        exact this
      exact ih (i + 1) (by omega) _ (Or.inr ⟨_, rfl, rfl⟩) T7 _ (by rw [copyLocs_step, ← List.append_assoc]; exact X7) (pl.trans p7) (fl.step (by omega) hlt (by simp)) c10
  obtain ⟨T9, B9, z9, X9, p9, f9, g9⟩ := loop len 0 (by omega) .unset (Or.inl rfl) s₁ B (by simpa [copyLocs] using X0) ⟨hB0.1, fun _ _ => rfl, rfl⟩ (Laid.zero _ _ _) c2
  have c11 : Steps p.tables e below (s₁.setTop (entryFrame m #[.ref b, .int (Int32.ofNat o), .ref d, .int (Int32.ofNat q), .int (Int32.ofNat len)] 7)) (T9.setTop (mkF m 46 #[.val (.ref b), .val (.int (Int32.ofNat (o + len))), .val (.ref d), .val (.int (Int32.ofNat (q + len))), .val (.int (Int32.ofNat len)), .val (.int (Int32.ofNat len)), z9] [.int (Int32.ofNat len)])) := g9.trans (by
    refine XS.iload X9.here hexec rfl (hb hbytes d3) rfl ?_
    refine XS.iload X9.here hexec rfl (hb hbytes d5) rfl ?_
    refine XS.icmpYes X9.here hexec rfl (pc0 := 7) rfl (hb hbytes d7) rfl (ii_ge_t (nlt32 (by omega) (Nat.le_refl _))) (by decide) rfl ?_
    refine XS.iload X9.here hexec rfl (hb hbytes d44) rfl ?_
    exact Steps.refl _)
  exact ⟨T9, some (.int (Int32.ofNat len)), _, _, _, X9, by simp, rfl, rfl, (fun h => by cases h), ⟨rfl, B9, p9.from hh0, f9⟩, fun fs hl => c11.trans (X9.ireturnOut hexec hret rfl (Or.inl rfl) (hb hbytes d46) hl)⟩
end Cmp5
namespace Cmp3
def yN : MethodName := ⟨"java/lang/StringUTF16", "compress", "([CII)[B"⟩
abbrev yB : ByteArray := jdk_52_method_16_code
theorem d0 : decode yB 0 = .ok (.iload_n 2, 1) := by decide +kernel
theorem d1 : decode yB 1 = .ok (.newarray .byte, 2) := by decide +kernel
theorem d3 : decode yB 3 = .ok (.astore_n 3, 1) := by decide +kernel
theorem d4 : decode yB 4 = .ok (.aload_n 0, 1) := by decide +kernel
theorem d5 : decode yB 5 = .ok (.iload_n 1, 1) := by decide +kernel
theorem d6 : decode yB 6 = .ok (.aload_n 3, 1) := by decide +kernel
theorem d7 : decode yB 7 = .ok (.iconst 0, 1) := by decide +kernel
theorem d8 : decode yB 8 = .ok (.iload_n 2, 1) := by decide +kernel
theorem d9 : decode yB 9 = .ok (.invokestatic 115, 3) := by decide +kernel
theorem d12 : decode yB 12 = .ok (.istore 4, 2) := by decide +kernel
theorem d14 : decode yB 14 = .ok (.iload 4, 2) := by decide +kernel
theorem d16 : decode yB 16 = .ok (.iload_n 2, 1) := by decide +kernel
theorem d17 : decode yB 17 = .ok (.if_icmp (.eq) 40, 3) := by decide +kernel
theorem d57 : decode yB 57 = .ok (.aload_n 3, 1) := by decide +kernel
theorem d58 : decode yB 58 = .ok (.areturn, 1) := by decide +kernel
def site : List Cond := [.arrayClass .byte, Cmp5.tab] ++ staticW U16 115 Cmp5.yN
def tab : Cond := tabOf yN yB 6 (some (.array .byte)) site
def P (b : Addr) (A : Cell) (o len : Nat) (args : Array Value) (s : State) : Prop := args = #[.ref b, .int (Int32.ofNat o), .int (Int32.ofNat len)] ∧ Ch b A s ∧ o + len ≤ A.slots.size ∧ len ≤ 536870912 ∧ ∀ i, i < len → ¬ 255 < cv A (o + i)
def E (b : Addr) (A : Cell) (o len : Nat) (r : Option Value) (s u : State) : Prop := NewArr .byte "[B" len (fun j => .int (lo8 (cv A (o + j)))) r s u ∧ u.heap.size = s.heap.size + 1
/-- no char of the range above 255: a new byte[] of their low bytes -/
theorem law (l : Launch) (b : Addr) (A : Cell) (o len : Nat) : Law l yN 3 3 1 18 yB 6 (some (.array .byte)) site (P b A o len) (E b A o len) [] 1 len := by
  refine Law.of_walk (plainFor_of_name (by decide +kernel)) (by decide +kernel) (by decide +kernel) (by decide) (fun _ _ h => by rw [h.1]; rfl) (fun _ U U' hal hh h => ⟨h.1, h.2.1.mv hal hh, h.2.2⟩) (fun r U U' V V' h1 hal h2 h => ⟨NewArr.mv r U U' V V' h1 hal h2 h.1, by rw [h1, h2]; exact h.2⟩) ?_
  intro p e s m args below meth c s₁ X0 hexec hbytes hml hret hlk hnm hown hh0 W hP
  obtain ⟨rfl, hA, l1, l2, hp⟩ := hP
  have a31 := hA.1.2.2.2
  have c1 : Steps p.tables e below (s₁.setTop (entryFrame m #[.ref b, .int (Int32.ofNat o), .int (Int32.ofNat len)] 6)) (s₁.setTop (mkF m 0 #[.val (.ref b), .val (.int (Int32.ofNat o)), .val (.int (Int32.ofNat len)), .unset, .unset, .unset] [])) := entry rfl
  have c2 : Steps p.tables e below (s₁.setTop (entryFrame m #[.ref b, .int (Int32.ofNat o), .int (Int32.ofNat len)] 6)) (s₁.setTop (mkF m 1 #[.val (.ref b), .val (.int (Int32.ofNat o)), .val (.int (Int32.ofNat len)), .unset, .unset, .unset] [.int (Int32.ofNat len)])) := c1.trans (by
    refine XS.iloadN X0.here hexec rfl (hb hbytes d0) rfl ?_
    exact Steps.refl _)
  obtain ⟨T3, B3, X3, ba3, bs3, bv3, bh3, bf3, st3⟩ := X0.anew hexec (atype := .byte) (wk W (.arrayClass .byte)) rfl (by show len * 1 ≤ _; omega) (by omega) (g := (mkF m 1 #[.val (.ref b), .val (.int (Int32.ofNat o)), .val (.int (Int32.ofNat len)), .unset, .unset, .unset] [.int (Int32.ofNat len)])) rfl (hb hbytes d1) (rest := []) rfl (Nat.le_refl _) (by show 0 + len ≤ len; omega)
  rw [hh0] at ba3 st3
  have kp3 : XT.Kept s T3 := (XT.Kept.of_eq hh0).push bh3
  have hA3 := hA.keep X3.warmed.alike (kp3 _ _ hA.1.1)
  have hne : b ≠ s.heap.size := hA.1.ne
  have c4 : Steps p.tables e below (s₁.setTop (entryFrame m #[.ref b, .int (Int32.ofNat o), .int (Int32.ofNat len)] 6)) (T3.setTop (mkF m 3 #[.val (.ref b), .val (.int (Int32.ofNat o)), .val (.int (Int32.ofNat len)), .unset, .unset, .unset] [.ref s.heap.size])) := c2.trans (st3 _ (Steps.refl _))
  have c5 : Steps p.tables e below (s₁.setTop (entryFrame m #[.ref b, .int (Int32.ofNat o), .int (Int32.ofNat len)] 6)) (T3.setTop (mkF m 9 #[.val (.ref b), .val (.int (Int32.ofNat o)), .val (.int (Int32.ofNat len)), .val (.ref s.heap.size), .unset, .unset] [.int (Int32.ofNat len), .int 0, .ref s.heap.size, .int (Int32.ofNat o), .ref b])) := c4.trans (by
    refine XS.astoreN X3.here hexec rfl (hb hbytes d3) rfl rfl rfl ?_
    refine XS.aloadN X3.here hexec rfl (hb hbytes d4) rfl rfl ?_
    refine XS.iloadN X3.here hexec rfl (hb hbytes d5) rfl ?_
    refine XS.aloadN X3.here hexec rfl (hb hbytes d6) rfl rfl ?_
    refine iconstV X3.here hexec rfl 0 (hb hbytes d7) (by decide) ?_
    refine XS.iloadN X3.here hexec rfl (hb hbytes d8) rfl ?_
    exact Steps.refl _)
  obtain ⟨v6, T6, X6, E6, g6⟩ := X3.callS hexec (Cmp5.law l b A s.heap.size B3 o 0 len) hown (wks W (staticW U16 115 Cmp5.yN)) (wk W Cmp5.tab) (W := 0) (Nat.le_of_ble_eq_true rfl) (Nat.le_of_ble_eq_true rfl) (Nat.le_refl _) (by show 0 + len + 0 ≤ len; omega) (g := (mkF m 9 #[.val (.ref b), .val (.int (Int32.ofNat o)), .val (.int (Int32.ofNat len)), .val (.ref s.heap.size), .unset, .unset] [.int (Int32.ofNat len), .int (Int32.ofNat 0), .ref s.heap.size, .int (Int32.ofNat o), .ref b])) rfl (by rw [hml]; rfl) c5 (argsL := [.ref b, .int (Int32.ofNat o), .ref s.heap.size, .int (Int32.ofNat 0), .int (Int32.ofNat len)]) (rest := []) rfl rfl (by show 2 * 0 + 0 ≤ _; decide) (hb hbytes d9) (⟨rfl, hA3, ba3, hne, l1, by rw [bs3]; simp, hp⟩)
  obtain ⟨rfl, B6, p6, f6⟩ := E6
  have c7 : Steps p.tables e below (s₁.setTop (entryFrame m #[.ref b, .int (Int32.ofNat o), .int (Int32.ofNat len)] 6)) (T6.setTop (mkF m 12 #[.val (.ref b), .val (.int (Int32.ofNat o)), .val (.int (Int32.ofNat len)), .val (.ref s.heap.size), .unset, .unset] [.int (Int32.ofNat len)])) := g6
  have c8 : Steps p.tables e below (s₁.setTop (entryFrame m #[.ref b, .int (Int32.ofNat o), .int (Int32.ofNat len)] 6)) (T6.setTop (mkF m 58 #[.val (.ref b), .val (.int (Int32.ofNat o)), .val (.int (Int32.ofNat len)), .val (.ref s.heap.size), .val (.int (Int32.ofNat len)), .unset] [.ref s.heap.size])) := c7.trans (by
    refine XS.istore X6.here hexec rfl (hb hbytes d12) rfl rfl ?_
    refine XS.iload X6.here hexec rfl (hb hbytes d14) rfl ?_
    refine XS.iloadN X6.here hexec rfl (hb hbytes d16) rfl ?_
    refine XS.icmpYes X6.here hexec rfl (pc0 := 17) rfl (hb hbytes d17) rfl (ii_eq_t rfl) (by decide) rfl ?_
    refine XS.aloadN X6.here hexec rfl (hb hbytes d57) rfl rfl ?_
    exact Steps.refl _)
  have X8 := X6.wide (L' := []) (cells' := 1) (slots' := len) (fun x hx hlt => by
    simp only [List.nil_append, copyLocs, List.mem_map, List.mem_range] at hx
    obtain ⟨i, -, rfl⟩ := hx
    exact absurd hlt (Nat.lt_irrefl _)) (Nat.le_refl _) (by omega)
  exact ⟨T6, some (.ref s.heap.size), _, _, _, X8, rfl, rfl, rfl, (fun h => by cases h), ⟨⟨rfl, B6, ba3.like (X3.warmed.alike.symm.trans X6.warmed.alike) p6.1 f6.1 f6.2.1 f6.2.2.1, f6.2.1.trans bv3, by rw [X6.warmed.alike.findClass, f6.1]; exact bf3, by rw [f6.2.2.1, bs3]; simp, fun j hj => by rw [f6.2.2.2 j, if_pos (by omega)]; rfl, kp3.put p6 (Nat.le_refl _)⟩, by rw [p6.2.2, bh3, hh0]; simp⟩, fun fs hl => c8.trans (X8.areturnOut hexec rfl hret rfl (hb hbytes d58) hl)⟩
end Cmp3
namespace CodL
def yN : MethodName := ⟨"java/lang/StringUTF16", "coderFromArrayLen", "([BI)B"⟩
abbrev yB : ByteArray := jdk_52_method_15_code
theorem d0 : decode yB 0 = .ok (.iload_n 1, 1) := by decide +kernel
theorem d1 : decode yB 1 = .ok (.aload_n 0, 1) := by decide +kernel
theorem d2 : decode yB 2 = .ok (.arraylength, 1) := by decide +kernel
theorem d3 : decode yB 3 = .ok (.isub, 1) := by decide +kernel
theorem d4 : decode yB 4 = .ok (.bipush 31, 2) := by decide +kernel
theorem d6 : decode yB 6 = .ok (.iushr, 1) := by decide +kernel
theorem d7 : decode yB 7 = .ok (.i2b, 1) := by decide +kernel
theorem d8 : decode yB 8 = .ok (.ireturn, 1) := by decide +kernel
def site : List Cond := []
def tab : Cond := tabOf yN yB 2 (some .byte) site
def P (d : Addr) (B : Cell) (args : Array Value) (s : State) : Prop := args = #[.ref d, .int (Int32.ofNat B.slots.size)] ∧ Arr .byte d B s
def E (r : Option Value) (s u : State) : Prop := XT.PureE (some (.int 0)) r s u
/-- an array as long as the number of chars: LATIN1 -/
theorem law (l : Launch) (d : Addr) (B : Cell) : Law l yN 2 2 0 0 yB 2 (some .byte) site (P d B) E [] 0 0 := by
  refine Law.of_walk (plainFor_of_name (by decide +kernel)) (by decide +kernel) (by decide +kernel) (by decide) (fun _ _ h => by rw [h.1]; rfl) (fun _ U U' hal hh h => ⟨h.1, h.2.mv hal hh⟩) (fun r U U' V V' h1 hal h2 h => XT.PureE.mv r U U' V V' h1 hal h2 h) ?_
  intro p e s m args below meth c s₁ X0 hexec hbytes hml hret hlk hnm hown hh0 W hP
  obtain ⟨rfl, hB⟩ := hP
  have hB0 := hB.mv X0.warmed.alike hh0
  have c1 : Steps p.tables e below (s₁.setTop (entryFrame m #[.ref d, .int (Int32.ofNat B.slots.size)] 2)) (s₁.setTop (mkF m 0 #[.val (.ref d), .val (.int (Int32.ofNat B.slots.size))] [])) := entry rfl
  have c2 : Steps p.tables e below (s₁.setTop (entryFrame m #[.ref d, .int (Int32.ofNat B.slots.size)] 2)) (s₁.setTop (mkF m 2 #[.val (.ref d), .val (.int (Int32.ofNat B.slots.size))] [.ref d, .int (Int32.ofNat B.slots.size)])) := c1.trans (by
    refine XS.iloadN X0.here hexec rfl (hb hbytes d0) rfl ?_
    refine XS.aloadN X0.here hexec rfl (hb hbytes d1) rfl rfl ?_
    exact Steps.refl _)
  have c3 : Steps p.tables e below (s₁.setTop (entryFrame m #[.ref d, .int (Int32.ofNat B.slots.size)] 2)) (s₁.setTop (mkF m 8 #[.val (.ref d), .val (.int (Int32.ofNat B.slots.size))] [.int (lo8 (ushr (Int32.ofNat B.slots.size - Int32.ofNat B.slots.size) 31))])) := c2.trans (by
    refine X0.alen hexec hB0 rfl rfl (hb hbytes d2) ?_
    refine XS.isub X0.here hexec rfl (hb hbytes d3) rfl ?_
    refine bipushV X0.here hexec rfl 31 (hb hbytes d4) (by decide) ?_
    refine iushr X0.here hexec rfl (hb hbytes d6) rfl ?_
    refine i2b X0.here hexec rfl (hb hbytes d7) rfl ?_
    exact Steps.refl _)
  have e0 : lo8 (ushr (Int32.ofNat B.slots.size - Int32.ofNat B.slots.size) 31) = 0 := by rw [Int32.sub_self]; decide
  rw [e0] at c3
  exact ⟨s₁, some (.int 0), _, _, _, X0, rfl, rfl, rfl, (fun h => by cases h), ⟨rfl, hh0⟩, fun fs hl => c3.trans (X0.ireturnOut hexec hret rfl (Or.inr (Or.inr (Or.inl rfl))) (hb hbytes d8) hl)⟩
end CodL
/-- the String at a is Latin-1 over a new byte[] (the heap's one new cell): the low bytes of the len chars of A from o on; every cell but a is kept -/
def Got (a : Addr) (D : Cell) (fV fC : Field) (A : Cell) (o len : Nat) (r : Option Value) (s u : State) : Prop := r = none ∧ ∃ D' V : Cell, Blank "java/lang/String" a D' u ∧ Same D D' [fV.slot, fC.slot] ∧ D'.slots[fV.slot]? = some (.ref s.heap.size) ∧ D'.slots[fC.slot]? = some (.int 0) ∧ Arr .byte s.heap.size V u ∧ V.vm = .none ∧ u.vm.findClass "[B" = some V.cls ∧ V.slots.size = len ∧ (∀ j, j < len → V.slots[j]? = some (.int (lo8 (cv A (o + j))))) ∧ (∀ (y : Addr) (c : Cell), y ≠ a → s.heap[y]? = some c → u.heap[y]? = some c) ∧ u.heap.size = s.heap.size + 1
theorem Got.mv {a : Addr} {D A : Cell} {fV fC : Field} {o len : Nat} : ∀ r (U U' V V' : State), U'.heap = U.heap → V.vm.Alike V'.vm → V'.heap = V.heap → Got a D fV fC A o len r U V → Got a D fV fC A o len r U' V' :=
  fun r U U' V V' h1 hal h2 ⟨e0, D', X, a1, a2, a3, a4, a5, a6, a7, a8, a9, a10, a11⟩ => ⟨e0, D', X, a1.mv hal h2, a2, by rw [h1]; exact a3, a4, by rw [h1]; exact a5.mv hal h2, a6, by rw [hal.findClass]; exact a7, a8, a9, by rw [h1, h2]; exact a10, by rw [h1, h2]; exact a11⟩
namespace New4
def yN : MethodName := ⟨"java/lang/String", "<init>", "([CIILjava/lang/Void;)V"⟩
abbrev yB : ByteArray := jdk_42_method_149_code
theorem d0 : decode yB 0 = .ok (.aload_n 0, 1) := by decide +kernel
theorem d1 : decode yB 1 = .ok (.invokespecial 1, 3) := by decide +kernel
theorem d4 : decode yB 4 = .ok (.iload_n 3, 1) := by decide +kernel
theorem d5 : decode yB 5 = .ok (.ifCond (.ne) 22, 3) := by decide +kernel
theorem d27 : decode yB 27 = .ok (.getstatic 38, 3) := by decide +kernel
theorem d30 : decode yB 30 = .ok (.ifCond (.eq) 28, 3) := by decide +kernel
theorem d33 : decode yB 33 = .ok (.aload_n 1, 1) := by decide +kernel
theorem d34 : decode yB 34 = .ok (.iload_n 2, 1) := by decide +kernel
theorem d35 : decode yB 35 = .ok (.iload_n 3, 1) := by decide +kernel
theorem d36 : decode yB 36 = .ok (.invokestatic 177, 3) := by decide +kernel
theorem d39 : decode yB 39 = .ok (.astore 5, 2) := by decide +kernel
theorem d41 : decode yB 41 = .ok (.aload_n 0, 1) := by decide +kernel
theorem d42 : decode yB 42 = .ok (.aload 5, 2) := by decide +kernel
theorem d44 : decode yB 44 = .ok (.iload_n 3, 1) := by decide +kernel
theorem d45 : decode yB 45 = .ok (.invokestatic 47, 3) := by decide +kernel
theorem d48 : decode yB 48 = .ok (.putfield 15, 3) := by decide +kernel
theorem d51 : decode yB 51 = .ok (.aload_n 0, 1) := by decide +kernel
theorem d52 : decode yB 52 = .ok (.aload 5, 2) := by decide +kernel
theorem d54 : decode yB 54 = .ok (.putfield 9, 3) := by decide +kernel
theorem d57 : decode yB 57 = .ok (.return_, 1) := by decide +kernel
def site : List Cond := [.fieldLink "java/lang/String" 38 "java/lang/String" "COMPACT_STRINGS" "Z", Cmp3.tab, CodL.tab, .laysFinal "java/lang/String" "java/lang/String" "value" "[B", .fieldLink "java/lang/String" 9 "java/lang/String" "value" "[B", .laysFinal "java/lang/String" "java/lang/String" "coder" "B", .fieldLink "java/lang/String" 15 "java/lang/String" "coder" "B"] ++ objW "java/lang/String" 1 ++ staticW "java/lang/String" 177 Cmp3.yN ++ staticW "java/lang/String" 47 CodL.yN
def tab : Cond := tabOf yN yB 6 none site
def P (a : Addr) (D : Cell) (fV fC : Field) (b : Addr) (A : Cell) (z : Int32) (o len : Nat) (args : Array Value) (s : State) : Prop := args = #[.ref a, .ref b, .int (Int32.ofNat o), .int (Int32.ofNat len), .null] ∧ Blank "java/lang/String" a D s ∧ Found "java/lang/String" "value" "[B" fV s ∧ Found "java/lang/String" "coder" "B" fC s ∧ Ch b A s ∧ StaticIs s "java/lang/String" "COMPACT_STRINGS" "Z" (.int z) ∧ ¬ z = 0 ∧ 0 < len ∧ o + len ≤ A.slots.size ∧ len ≤ 536870912 ∧ ∀ i, i < len → ¬ 255 < cv A (o + i)
def E (a : Addr) (D : Cell) (fV fC : Field) (A : Cell) (o len : Nat) (r : Option Value) (s u : State) : Prop := Got a D fV fC A o len r s u
/-- len > 0, no char of the range above 255: a Latin-1 String of their low bytes -/
theorem law (l : Launch) (a : Addr) (D : Cell) (fV fC : Field) (b : Addr) (A : Cell) (z : Int32) (o len : Nat) : Law l yN 5 4 2 35 yB 6 none site (P a D fV fC b A z o len) (E a D fV fC A o len) [⟨a, fC.slot⟩, ⟨a, fV.slot⟩] 1 len := by
  refine Law.of_walk (plainFor_of_name (by decide +kernel)) (by decide +kernel) (by decide +kernel) (by decide) (fun _ _ h => by rw [h.1]; rfl) (fun _ U U' hal hh h => ⟨h.1, h.2.1.mv hal hh, h.2.2.1.al hal, h.2.2.2.1.al hal, h.2.2.2.2.1.mv hal hh, h.2.2.2.2.2.1.there hal hh, h.2.2.2.2.2.2⟩) (fun r U U' V V' h1 hal h2 h => Got.mv r U U' V V' h1 hal h2 h) ?_
  intro p e s m args below meth c s₁ X0 hexec hbytes hml hret hlk hnm hown hh0 W hP
  obtain ⟨rfl, hB, f1, f2, hA, s1, hz, l0, l1, l2, hp⟩ := hP
  have a31 := hA.1.2.2.2
  have c1 : Steps p.tables e below (s₁.setTop (entryFrame m #[.ref a, .ref b, .int (Int32.ofNat o), .int (Int32.ofNat len), .null] 6)) (s₁.setTop (mkF m 0 #[.val (.ref a), .val (.ref b), .val (.int (Int32.ofNat o)), .val (.int (Int32.ofNat len)), .val .null, .unset] [])) := entry rfl
  have c2 : Steps p.tables e below (s₁.setTop (entryFrame m #[.ref a, .ref b, .int (Int32.ofNat o), .int (Int32.ofNat len), .null] 6)) (s₁.setTop (mkF m 1 #[.val (.ref a), .val (.ref b), .val (.int (Int32.ofNat o)), .val (.int (Int32.ofNat len)), .val .null, .unset] [.ref a])) := c1.trans (by
    refine XS.aloadN X0.here hexec rfl (hb hbytes d0) rfl rfl ?_
    exact Steps.refl _)
  obtain ⟨T3, X3, q3, st3⟩ := X0.oinit hexec hown (wks W (objW "java/lang/String" 1)) (g := (mkF m 1 #[.val (.ref a), .val (.ref b), .val (.int (Int32.ofNat o)), .val (.int (Int32.ofNat len)), .val .null, .unset] [.ref a])) rfl (by rw [hml]; rfl) (rest := []) rfl (hb hbytes d1) (W := 0) (by show 2 * 0 + 0 ≤ _; decide) (Nat.le_of_ble_eq_true rfl) (Nat.le_of_ble_eq_true rfl)
  have hh3 := q3.trans hh0
  have c4 : Steps p.tables e below (s₁.setTop (entryFrame m #[.ref a, .ref b, .int (Int32.ofNat o), .int (Int32.ofNat len), .null] 6)) (T3.setTop (mkF m 27 #[.val (.ref a), .val (.ref b), .val (.int (Int32.ofNat o)), .val (.int (Int32.ofNat len)), .val .null, .unset] [])) := (c2.trans (st3 _ (Steps.refl _))).trans (by
    refine XS.iloadN X3.here hexec rfl (hb hbytes d4) rfl ?_
    refine XS.ifYes X3.here hexec rfl (pc0 := 5) rfl (hb hbytes d5) rfl (i0_ne_t (nz32 (by omega) l0)) (by decide) rfl ?_
    exact Steps.refl _)
  obtain ⟨T5, X5, q5, st5⟩ := X3.sget hexec hown (wk W (.fieldLink "java/lang/String" 38 "java/lang/String" "COMPACT_STRINGS" "Z")) s1 (fun _ _ h => by rw [hh3]; exact h) (g := (mkF m 27 #[.val (.ref a), .val (.ref b), .val (.int (Int32.ofNat o)), .val (.int (Int32.ofNat len)), .val .null, .unset] [])) rfl (hb hbytes d27)
  have hh5 := q5.trans hh3
  have c6 : Steps p.tables e below (s₁.setTop (entryFrame m #[.ref a, .ref b, .int (Int32.ofNat o), .int (Int32.ofNat len), .null] 6)) (T5.setTop (mkF m 30 #[.val (.ref a), .val (.ref b), .val (.int (Int32.ofNat o)), .val (.int (Int32.ofNat len)), .val .null, .unset] [.int z])) := c4.trans (st5 _ (Steps.refl _))
  have c7 : Steps p.tables e below (s₁.setTop (entryFrame m #[.ref a, .ref b, .int (Int32.ofNat o), .int (Int32.ofNat len), .null] 6)) (T5.setTop (mkF m 36 #[.val (.ref a), .val (.ref b), .val (.int (Int32.ofNat o)), .val (.int (Int32.ofNat len)), .val .null, .unset] [.int (Int32.ofNat len), .int (Int32.ofNat o), .ref b])) := c6.trans (by
    refine XS.ifNo X5.here hexec rfl (hb hbytes d30) rfl (i0_eq_f hz) ?_
    refine XS.aloadN X5.here hexec rfl (hb hbytes d33) rfl rfl ?_
    refine XS.iloadN X5.here hexec rfl (hb hbytes d34) rfl ?_
    refine XS.iloadN X5.here hexec rfl (hb hbytes d35) rfl ?_
    exact Steps.refl _)
  obtain ⟨v8, T8, X8, E8, g8⟩ := X5.callS hexec (Cmp3.law l b A o len) hown (wks W (staticW "java/lang/String" 177 Cmp3.yN)) (wk W Cmp3.tab) (W := 0) (Nat.le_of_ble_eq_true rfl) (Nat.le_of_ble_eq_true rfl) (Nat.le_refl _) (by show 0 + len ≤ len; omega) (g := (mkF m 36 #[.val (.ref a), .val (.ref b), .val (.int (Int32.ofNat o)), .val (.int (Int32.ofNat len)), .val .null, .unset] [.int (Int32.ofNat len), .int (Int32.ofNat o), .ref b])) rfl (by rw [hml]; rfl) c7 (argsL := [.ref b, .int (Int32.ofNat o), .int (Int32.ofNat len)]) (rest := []) rfl rfl (by show 2 * 0 + 0 ≤ _; decide) (hb hbytes d36) (⟨rfl, hA.mv X5.warmed.alike hh5, l1, l2, hp⟩)
  obtain ⟨e8, z8⟩ := E8
  obtain ⟨rfl, N, n1, n2, n3, n4, n5, n6⟩ := NewArr.mv _ T5 s _ _ hh5.symm (Vm.Alike.refl _) rfl e8
  rw [hh5] at z8
  have hB1 := hB.keep X8.warmed.alike (n6 _ _ hB.1)
  have hne : s.heap.size ≠ a := (Nat.ne_of_lt (Array.getElem?_eq_some_iff.mp hB.1).1).symm
  have c9 : Steps p.tables e below (s₁.setTop (entryFrame m #[.ref a, .ref b, .int (Int32.ofNat o), .int (Int32.ofNat len), .null] 6)) (T8.setTop (mkF m 39 #[.val (.ref a), .val (.ref b), .val (.int (Int32.ofNat o)), .val (.int (Int32.ofNat len)), .val .null, .unset] [.ref s.heap.size])) := g8
  have c10 : Steps p.tables e below (s₁.setTop (entryFrame m #[.ref a, .ref b, .int (Int32.ofNat o), .int (Int32.ofNat len), .null] 6)) (T8.setTop (mkF m 45 #[.val (.ref a), .val (.ref b), .val (.int (Int32.ofNat o)), .val (.int (Int32.ofNat len)), .val .null, .val (.ref s.heap.size)] [.int (Int32.ofNat N.slots.size), .ref s.heap.size, .ref a])) := by
    have hc : Steps p.tables e below (s₁.setTop (entryFrame m #[.ref a, .ref b, .int (Int32.ofNat o), .int (Int32.ofNat len), .null] 6)) (T8.setTop (mkF m 45 #[.val (.ref a), .val (.ref b), .val (.int (Int32.ofNat o)), .val (.int (Int32.ofNat len)), .val .null, .val (.ref s.heap.size)] [.int (Int32.ofNat len), .ref s.heap.size, .ref a])) := c9.trans (by
      refine XS.astore X8.here hexec rfl (hb hbytes d39) rfl rfl rfl ?_
      refine XS.aloadN X8.here hexec rfl (hb hbytes d41) rfl rfl ?_
      refine XS.aload X8.here hexec rfl (hb hbytes d42) rfl rfl ?_
      refine XS.iloadN X8.here hexec rfl (hb hbytes d44) rfl ?_
      exact Steps.refl _)
    rw [n4]; exact hc
  obtain ⟨v11, T11, X11, E11, g11⟩ := X8.callS hexec (CodL.law l s.heap.size N) hown (wks W (staticW "java/lang/String" 47 CodL.yN)) (wk W CodL.tab) (W := 1) (Nat.le_of_ble_eq_true rfl) (Nat.le_of_ble_eq_true rfl) (Nat.le_refl _) (by show 0 + len + 0 ≤ len; omega) (g := (mkF m 45 #[.val (.ref a), .val (.ref b), .val (.int (Int32.ofNat o)), .val (.int (Int32.ofNat len)), .val .null, .val (.ref s.heap.size)] [.int (Int32.ofNat N.slots.size), .ref s.heap.size, .ref a])) rfl (by rw [hml]; rfl) c10 (argsL := [.ref s.heap.size, .int (Int32.ofNat N.slots.size)]) (rest := [.ref a]) rfl rfl (by show 2 * 0 + (1 + 0) ≤ _; decide) (hb hbytes d45) (⟨rfl, n1⟩)
  obtain ⟨rfl, q11⟩ := E11
  have hB11 := hB1.mv (X8.warmed.alike.symm.trans X11.warmed.alike) q11
  have c12 : Steps p.tables e below (s₁.setTop (entryFrame m #[.ref a, .ref b, .int (Int32.ofNat o), .int (Int32.ofNat len), .null] 6)) (T11.setTop (mkF m 48 #[.val (.ref a), .val (.ref b), .val (.int (Int32.ofNat o)), .val (.int (Int32.ofNat len)), .val .null, .val (.ref s.heap.size)] [.int 0, .ref a])) := g11
  obtain ⟨T13, X13, p13, bl13, sl13, st13⟩ := X11.finit hexec hown (wk W (.fieldLink "java/lang/String" 15 "java/lang/String" "coder" "B")) (Or.inr ⟨_, (wk W (.laysFinal "java/lang/String" "java/lang/String" "coder" "B"))⟩) (Or.inl ⟨rfl, hnm⟩) f2 (Or.inl rfl) hB11 (t := .byte) (by decide +kernel) rfl (g := (mkF m 48 #[.val (.ref a), .val (.ref b), .val (.int (Int32.ofNat o)), .val (.int (Int32.ofNat len)), .val .null, .val (.ref s.heap.size)] [.int 0, .ref a])) rfl (rest := []) rfl (hb hbytes d48)
  have c14 : Steps p.tables e below (s₁.setTop (entryFrame m #[.ref a, .ref b, .int (Int32.ofNat o), .int (Int32.ofNat len), .null] 6)) (T13.setTop (mkF m 54 #[.val (.ref a), .val (.ref b), .val (.int (Int32.ofNat o)), .val (.int (Int32.ofNat len)), .val .null, .val (.ref s.heap.size)] [.ref s.heap.size, .ref a])) := (c12.trans (st13 _ (Steps.refl _))).trans (by
    refine XS.aloadN X13.here hexec rfl (hb hbytes d51) rfl rfl ?_
    refine XS.aload X13.here hexec rfl (hb hbytes d52) rfl rfl ?_
    exact Steps.refl _)
  obtain ⟨T15, X15, p15, bl15, sl15, st15⟩ := X13.finit hexec hown (wk W (.fieldLink "java/lang/String" 9 "java/lang/String" "value" "[B")) (Or.inr ⟨_, (wk W (.laysFinal "java/lang/String" "java/lang/String" "value" "[B"))⟩) (Or.inl ⟨rfl, hnm⟩) f1 (Or.inl rfl) bl13 (t := (.array .byte)) (by decide +kernel) rfl (g := (mkF m 54 #[.val (.ref a), .val (.ref b), .val (.int (Int32.ofNat o)), .val (.int (Int32.ofNat len)), .val .null, .val (.ref s.heap.size)] [.ref s.heap.size, .ref a])) rfl (rest := []) rfl (hb hbytes d54)
  have c16 : Steps p.tables e below (s₁.setTop (entryFrame m #[.ref a, .ref b, .int (Int32.ofNat o), .int (Int32.ofNat len), .null] 6)) (T15.setTop (mkF m 57 #[.val (.ref a), .val (.ref b), .val (.int (Int32.ofNat o)), .val (.int (Int32.ofNat len)), .val .null, .val (.ref s.heap.size)] [])) := c14.trans (st15 _ (Steps.refl _))
  have ap := apart (Or.inr ⟨_, (wk W (.laysFinal "java/lang/String" "java/lang/String" "value" "[B"))⟩) (Or.inr ⟨_, (wk W (.laysFinal "java/lang/String" "java/lang/String" "coder" "B"))⟩) f1 f2 (t₁ := .array .byte) (t₂ := .byte) (by decide +kernel) (by decide +kernel) (by decide)
  have al := X8.warmed.alike.symm.trans X15.warmed.alike
  have n7 : T11.heap[s.heap.size]? = some N := by rw [q11]; exact n1.1
  exact ⟨T15, none, _, _, _, X15, by simp, rfl, by omega, (fun _ => rfl), ⟨rfl, _, N, bl15, ((Same.refl D _).set _ (by simp)).set _ (by simp), sl15, (Cell.slots_setSlot_ne _ ap).trans sl13, n1.keep al (p15.other hne (p13.other hne n7)), n2, by rw [al.findClass]; exact n3, n4, n5, fun y c h1 h2 => p15.other h1 (p13.other h1 (by rw [q11]; exact n6 y c h2)), by rw [p15.2.2, p13.2.2, q11]; exact z8⟩, fun fs hl => c16.trans (X15.returnOut hexec hret (hb hbytes d57) hl)⟩
end New4
namespace New1
def yN : MethodName := ⟨"java/lang/String", "<init>", "([C)V"⟩
abbrev yB : ByteArray := jdk_42_method_3_code
theorem d0 : decode yB 0 = .ok (.aload_n 0, 1) := by decide +kernel
theorem d1 : decode yB 1 = .ok (.aload_n 1, 1) := by decide +kernel
theorem d2 : decode yB 2 = .ok (.iconst 0, 1) := by decide +kernel
theorem d3 : decode yB 3 = .ok (.aload_n 1, 1) := by decide +kernel
theorem d4 : decode yB 4 = .ok (.arraylength, 1) := by decide +kernel
theorem d5 : decode yB 5 = .ok (.aconst_null, 1) := by decide +kernel
theorem d6 : decode yB 6 = .ok (.invokespecial 27, 3) := by decide +kernel
theorem d9 : decode yB 9 = .ok (.return_, 1) := by decide +kernel
def site : List Cond := [New4.tab] ++ initW "java/lang/String" 27 New4.yN
def tab : Cond := tabOf yN yB 2 none site
def P (a : Addr) (D : Cell) (fV fC : Field) (b : Addr) (A : Cell) (z : Int32) (args : Array Value) (s : State) : Prop := args = #[.ref a, .ref b] ∧ Blank "java/lang/String" a D s ∧ Found "java/lang/String" "value" "[B" fV s ∧ Found "java/lang/String" "coder" "B" fC s ∧ Ch b A s ∧ StaticIs s "java/lang/String" "COMPACT_STRINGS" "Z" (.int z) ∧ ¬ z = 0 ∧ 0 < A.slots.size ∧ A.slots.size ≤ 536870912 ∧ ∀ i, i < A.slots.size → ¬ 255 < cv A i
def E (a : Addr) (D : Cell) (fV fC : Field) (A : Cell) (r : Option Value) (s u : State) : Prop := Got a D fV fC A 0 A.slots.size r s u
/-- new String(chars), not empty, no char above 255: a Latin-1 String of their low bytes -/
theorem law (l : Launch) (a : Addr) (D : Cell) (fV fC : Field) (b : Addr) (A : Cell) (z : Int32) : Law l yN 2 1 3 52 yB 2 none site (P a D fV fC b A z) (E a D fV fC A) [⟨a, fC.slot⟩, ⟨a, fV.slot⟩] 1 A.slots.size := by
  refine Law.of_walk (plainFor_of_name (by decide +kernel)) (by decide +kernel) (by decide +kernel) (by decide) (fun _ _ h => by rw [h.1]; rfl) (fun _ U U' hal hh h => ⟨h.1, h.2.1.mv hal hh, h.2.2.1.al hal, h.2.2.2.1.al hal, h.2.2.2.2.1.mv hal hh, h.2.2.2.2.2.1.there hal hh, h.2.2.2.2.2.2⟩) (fun r U U' V V' h1 hal h2 h => Got.mv r U U' V V' h1 hal h2 h) ?_
  intro p e s m args below meth c s₁ X0 hexec hbytes hml hret hlk hnm hown hh0 W hP
  obtain ⟨rfl, hB, f1, f2, hA, s1, hz, l0, l2, hp⟩ := hP
  have c1 : Steps p.tables e below (s₁.setTop (entryFrame m #[.ref a, .ref b] 2)) (s₁.setTop (mkF m 0 #[.val (.ref a), .val (.ref b)] [])) := entry rfl
  have c2 : Steps p.tables e below (s₁.setTop (entryFrame m #[.ref a, .ref b] 2)) (s₁.setTop (mkF m 6 #[.val (.ref a), .val (.ref b)] [.null, .int (Int32.ofNat A.slots.size), .int 0, .ref b, .ref a])) := c1.trans (by
    refine XS.aloadN X0.here hexec rfl (hb hbytes d0) rfl rfl ?_
    refine XS.aloadN X0.here hexec rfl (hb hbytes d1) rfl rfl ?_
    refine iconstV X0.here hexec rfl 0 (hb hbytes d2) (by decide) ?_
    refine XS.aloadN X0.here hexec rfl (hb hbytes d3) rfl rfl ?_
    refine X0.alen hexec (hA.1.mv X0.warmed.alike hh0) rfl rfl (hb hbytes d4) ?_
    refine XS.aconstNull X0.here hexec rfl (hb hbytes d5) ?_
    exact Steps.refl _)
  obtain ⟨v3, T3, X3, E3, g3⟩ := X0.callN hexec (New4.law l a D fV fC b A z 0 A.slots.size) rfl hown (wks W (initW "java/lang/String" 27 New4.yN)) (W New4.tab (by simp only [site, List.mem_cons, List.mem_append, true_or, or_true])) (W := 0) (Nat.le_of_ble_eq_true rfl) (Nat.le_of_ble_eq_true rfl) (Nat.le_refl _) (by show 0 + A.slots.size ≤ A.slots.size; omega) (g := (mkF m 6 #[.val (.ref a), .val (.ref b)] [.null, .int (Int32.ofNat A.slots.size), .int (Int32.ofNat 0), .ref b, .ref a])) rfl (by rw [hml]; rfl) c2 (argsL := [.ref b, .int (Int32.ofNat 0), .int (Int32.ofNat A.slots.size), .null]) (rest := []) rfl rfl (by show 2 * 0 + 0 ≤ _; decide) (hb hbytes d6) (⟨rfl, hB.mv X0.warmed.alike hh0, f1.al X0.warmed.alike, f2.al X0.warmed.alike, hA.mv X0.warmed.alike hh0, s1.there X0.warmed.alike hh0, hz, l0, by omega, l2, fun i hi => by rw [Nat.zero_add]; exact hp i hi⟩)
  have e0 := Got.mv _ s₁ s _ _ hh0.symm (Vm.Alike.refl _) rfl E3
  obtain rfl := e0.1
  have c4 : Steps p.tables e below (s₁.setTop (entryFrame m #[.ref a, .ref b] 2)) (T3.setTop (mkF m 9 #[.val (.ref a), .val (.ref b)] [])) := g3
  exact ⟨T3, none, _, _, _, X3, by simp, rfl, by omega, (fun _ => rfl), e0, fun fs hl => c4.trans (X3.returnOut hexec hret (hb hbytes d9) hl)⟩
theorem pays {l : Launch} {R : Room} {p : Program} {e : Env} {below : List Frame} {s : State} {sargs : Array Value} {len W : Nat} (a : Addr) (D : Cell) (fV fC : Field) (b : Addr) (A : Cell) (z : Int32) (htab : tab.before sargs s = true) (hfr : 4 ≤ R.frames) (hlo : W + 65 ≤ R.locals) :
    Back l R p e below s sargs yN len W (fun A₁ a₁ => A₁.cells + 1 ≤ R.cells ∧ A₁.slots + A.slots.size ≤ R.slots ∧ P a D fV fC b A z a₁ A₁.U) (fun A₁ _ v₁ B₁ => E a D fV fC A v₁ A₁.U B₁.U ∧ B₁.locs = A₁.locs ++ [⟨a, fC.slot⟩, ⟨a, fV.slot⟩] ∧ B₁.cells = A₁.cells + 1 ∧ B₁.slots = A₁.slots + A.slots.size) :=
  (law l a D fV fC b A z).pays htab hfr (by omega)
end New1
/-- the byte, read back as charAt reads it, is the char -/
theorem lo8_mask {x : Int32} (h0 : ¬ x < 0) (h1 : ¬ 255 < x) : lo8 x &&& 255 = x := by
  have t : ∀ k : Fin 256, lo8 (Int32.ofNat k.val) &&& 255 = Int32.ofNat k.val := by decide +kernel
  rw [Int32.lt_iff_toInt_lt] at h0 h1
  have e0 : (0 : Int32).toInt = 0 := rfl
  have e1 : (255 : Int32).toInt = 255 := rfl
  obtain ⟨k, hk⟩ : ∃ k : Nat, x.toInt = k := ⟨x.toInt.toNat, by omega⟩
  have hx : x = Int32.ofNat k := Int32.toInt_inj.mp (by rw [hk, Int32.toInt_ofNat_small (by omega)])
  rw [hx]
  exact t ⟨k, by omega⟩
end StrChars
namespace StrChars.Road
open Jvm Sem ClassFile Op Lib Jvm.Stand Jvm.Free Jvm.Free.XT
open Jvm.Lib.Cold (StaticIs)
abbrev ST : String := "java/lang/String"
/-- every table word that New1's law asks, flat -/
abbrev words : List Jvm.Cond := [.code New1.yN New1.yB 2 none, .initialized ST, .methodLink ST 27 New4.yN, .instanceMethod New4.yN,
  .code New4.yN New4.yB 6 none, .fieldLink ST 38 ST "COMPACT_STRINGS" "Z", .laysFinal ST ST "value" "[B", .fieldLink ST 9 ST "value" "[B", .laysFinal ST ST "coder" "B", .fieldLink ST 15 ST "coder" "B",
  .methodLink ST 1 Lib.objectInit, .instanceMethod Lib.objectInit, .code Lib.objectInit ⟨#[0xb1]⟩ 1 none, .methodLink ST 177 Cmp3.yN, .static Cmp3.yN, .methodLink ST 47 CodL.yN, .static CodL.yN,
  .code Cmp3.yN Cmp3.yB 6 (some (.array .byte)), .initialized U16, .arrayClass .byte, .methodLink U16 115 Cmp5.yN, .static Cmp5.yN, .code Cmp5.yN Cmp5.yB 7 (some .int), .code CodL.yN CodL.yB 2 (some .byte)]
theorem tab_of {a : Array Value} {s : State} (h : ∀ w ∈ words, w.before a s = true) : New1.tab.before a s = true := by
  have h5 : Cmp5.tab.before a s = true := unparts (wk h (.code Cmp5.yN Cmp5.yB 7 (some .int))) (wks h (.initialized Cmp5.yN.cls :: Cmp5.site))
  have hc : CodL.tab.before a s = true := unparts (wk h (.code CodL.yN CodL.yB 2 (some .byte))) (wks h (.initialized CodL.yN.cls :: CodL.site))
  have q5 : ∀ w ∈ Cmp5.tab :: words, w.before a s = true := fun w hw => (List.mem_cons.mp hw).elim (fun e => e ▸ h5) (h w)
  have h3 : Cmp3.tab.before a s = true := unparts (wk q5 (.code Cmp3.yN Cmp3.yB 6 (some (.array .byte)))) (wks q5 (.initialized Cmp3.yN.cls :: Cmp3.site))
  have q3 : ∀ w ∈ Cmp3.tab :: CodL.tab :: words, w.before a s = true := fun w hw => (List.mem_cons.mp hw).elim (fun e => e ▸ h3) fun hw => (List.mem_cons.mp hw).elim (fun e => e ▸ hc) (h w)
  have h4 : New4.tab.before a s = true := unparts (wk q3 (.code New4.yN New4.yB 6 none)) (wks q3 (.initialized New4.yN.cls :: New4.site))
  have q4 : ∀ w ∈ New4.tab :: words, w.before a s = true := fun w hw => (List.mem_cons.mp hw).elim (fun e => e ▸ h4) (h w)
  exact unparts (wk q4 (.code New1.yN New1.yB 2 none)) (wks q4 (.initialized New1.yN.cls :: New1.site))
/-- the words ride from the start Z to the walk's own state -/
theorem moved {Z s : State} {a0 args : Array Value} (hZ : Z.Warmed39 s.vm) (hw : ∀ d ∈ words, d.before a0 Z = true) : ∀ d ∈ words, d.before args s = true := fun d hd => by
  have q := hw d hd
  have t : ∀ d ∈ words, d = .arrayClass .byte ∨ (d.onTables && d.keepsFace) = true := by decide +kernel
  rcases t d hd with rfl | t
  · exact RoadKit.mvA hZ q
  · exact RoadKit.mv hZ q t
/-- WHAT COMES BACK, over the tables of the start Z: h the heap at the call, h' behind it -/
def Q (Z : State) (x : Addr) (A : Cell) (h : Heap) (v : Option Value) (h' : Heap) (L : List Loc) : Prop := v = none ∧ (∀ y ∈ L, y.base = x) ∧ RoadKit.Keep h h' [x] ∧ h'.size = h.size + 1 ∧ RoadKit.Exa Z h' x ST ∧ RoadKit.Fld Z h' x ST "value" "[B" (.ref h.size) ∧ RoadKit.Fld Z h' x ST "coder" "B" (.int 0) ∧
  (∃ V : Cell, RoadKit.Arr Z h' h.size V .byte ∧ V.vm = .none ∧ Z.vm.findClass "[B" = some V.cls ∧ V.slots.size = A.slots.size ∧ ∀ j, j < A.slots.size → V.slots[j]? = some (.int (lo8 (cv A j)))) ∧
  ∀ (O n d : String) (w : Value), RoadKit.Fld Z h x O n d w → RoadKit.slotOf Z O n d ≠ RoadKit.slotOf Z ST "value" "[B" → RoadKit.slotOf Z O n d ≠ RoadKit.slotOf Z ST "coder" "B" → RoadKit.Fld Z h' x O n d w
/-- **new String(chars) AT A CALL, IN THE ROAD'S FORM**: for specialBack behind newO: x the fresh String, b the char[] with the cell A -/
theorem back {p : Program} {l : Launch} {e : Env} {R : Room} {s : State} {args : Array Value} {below : List Frame} {len W : Nat} {Z : State} {a0 : Array Value} {h : Heap} (hZ : Z.Warmed39 s.vm) (hw : ∀ d ∈ words, d.before a0 Z = true) {kI : Nat} (wi : (Jvm.Cond.instantiable ST kI).before a0 Z = true)
    {x b : Addr} {A : Cell} {z : Int32} {v0 c0 : Value} (E : RoadKit.Exa Z h x ST) (V : RoadKit.Fld Z h x ST "value" "[B" v0) (C : RoadKit.Fld Z h x ST "coder" "B" c0) (K : RoadKit.Arr Z h b A .char) (hty : Typed .char A) (S : RoadKit.Sta Z h ST "COMPACT_STRINGS" "Z" (.int z)) (hz : ¬ z = 0)
    (l0 : 0 < A.slots.size) (l2 : A.slots.size ≤ 536870912) (hp : ∀ i, i < A.slots.size → ¬ 255 < cv A i) (hfr : 4 ≤ R.frames) (hlo : W + 65 ≤ R.locals) :
    Back l R p e below s args New1.yN len W (fun P a => a = #[.ref x, .ref b] ∧ P.U.heap = h ∧ P.cells + 1 ≤ R.cells ∧ P.slots + A.slots.size ≤ R.slots)
      (fun P _ v B => ∃ L, Q Z x A h v B.U.heap L ∧ B.locs = P.locs ++ L ∧ B.cells = P.cells + 1 ∧ B.slots = P.slots + A.slots.size) := by
  intro m meth c P g ig mk a X hg hsize hdg hW hn hp'
  obtain ⟨rfl, rfl, r1, r2⟩ := hp'
  have al : Z.vm.Alike P.U.vm := hZ.alike.trans X.warmed.alike
  obtain ⟨D, cfV, kV, iV, fV, hD, gV, stV, knV, obV, asV, slV⟩ := id V
  obtain ⟨D', cfC, kC, iC, fC, hD', gC, stC, -, -, asC, slC⟩ := id C
  cases hD.symm.trans hD'
  obtain ⟨D2, kD, e1, e2, e3, e4, e5⟩ := id E
  cases hD.symm.trans e1
  obtain ⟨c2, k2, i1, i2, i3, -⟩ := Cond.instantiable_spec wi
  cases e2.symm.trans i1
  cases e3.symm.trans i2
  obtain ⟨kU, u1, u2⟩ := al.2.2 _ _ e3
  have hB : Blank ST x D P.U := ⟨hD, ⟨knV, fun q hq => by rw [hq] at obV; cases obV⟩, by rw [al.findClass]; exact e2, kU, u1, by rw [u2]; exact i3, by rw [u2]; exact e5 i3⟩
  have F1 : Found ST "value" "[B" fV P.U := ⟨SBG.found_only al ⟨cfV, kV, iV, gV⟩, stV⟩
  have F2 : Found ST "coder" "B" fC P.U := ⟨SBG.found_only al ⟨cfC, kC, iC, gC⟩, stC⟩
  have hA : Ch b A P.U := ⟨⟨K.1, State.isArrayOf_alike al K.2.1, K.2.2, by omega⟩, hty⟩
  have hS : StaticIs P.U ST "COMPACT_STRINGS" "Z" (.int z) := by
    obtain ⟨cfS, iS, kS, fS, st, cS, t1, t2, t3, t4, t5, t6, t7⟩ := S
    exact StaticIs.there (s := { Z with heap := P.U.heap }) ⟨cfS, iS, kS, fS, st, cS, t1, t2, t3, t4, t5, (fun q => by rw [q] at t6; cases t6), t7⟩ al rfl
  obtain ⟨v, B, X', ⟨⟨hv, E', V', q1, q2, q3, q4, q5, q6, q7, q8, q9, q10, q11⟩, hl, hc, hs⟩, st⟩ := New1.pays x D fV fC b A z (tab_of (moved hZ hw)) hfr hlo m meth c P g ig mk _ X hg hsize hdg hW hn ⟨r1, r2, rfl, hB, F1, F2, hA, hS, hz, l0, l2, hp⟩
  have al' : Z.vm.Alike B.U.vm := hZ.alike.trans X'.warmed.alike
  have hsz : E'.slots.size = D.slots.size := by
    obtain ⟨-, -, -, kB, w1, w2, w3⟩ := q1
    obtain ⟨kB', y1, y2⟩ := al'.2.2 _ _ e3
    rw [q2.2.1] at w1
    cases w1.symm.trans y1
    rw [w3, e5 i3, y2]
  refine ⟨v, B, X', ⟨_, ⟨hv, ?_, ⟨by omega, fun y cy hy hn' => q10 y cy (by simpa using hn') hy, fun y cy hy => ?_⟩, q11, ⟨E', _, q1.1, by rw [q2.2.1]; exact e2, by rw [q2.2.1]; exact e3, by rw [q2.1]; exact obV, fun _ => by rw [hsz]; exact e5 i3⟩,
    ⟨E', cfV, kV, iV, fV, q1.1, gV, stV, by rw [q2.1]; exact knV, by rw [q2.1]; exact obV, by rw [q2.2.1]; exact asV, q3⟩, ⟨E', cfC, kC, iC, fC, q1.1, gC, stC, by rw [q2.1]; exact knV, by rw [q2.1]; exact obV, by rw [q2.2.1]; exact asC, q4⟩,
    ⟨V', ⟨q5.1, State.isArrayOf_alike al'.symm q5.2.1, q5.2.2.1⟩, q6, by rw [← al'.findClass]; exact q7, q8, fun j hj => by have := q9 j hj; rwa [Nat.zero_add] at this⟩, fun O n d w F n1 n2 => ?_⟩, hl, hc, hs⟩, st⟩
  · intro y hy
    simp only [List.mem_cons, List.not_mem_nil, or_false] at hy
    rcases hy with rfl | rfl <;> rfl
  · by_cases q : y = x
    · subst q
      cases hD.symm.trans hy
      exact ⟨E', q1.1, q2.2.1, q2.1, hsz⟩
    · exact ⟨cy, q10 y cy q hy, rfl, rfl, rfl⟩
  · obtain ⟨D3, cf, k, i, f, g1, g2, g3, g4, g5, g6, g7⟩ := F
    cases hD.symm.trans g1
    simp only [RoadKit.slotOf, g2, gV, gC, Option.map_some, Option.getD_some] at n1 n2
    exact ⟨E', cf, k, i, f, q1.1, g2, g3, by rw [q2.1]; exact g4, by rw [q2.1]; exact g5, by rw [q2.2.1]; exact g6, by rw [q2.2.2 f.slot (by simp [n1, n2])]; exact g7⟩
end StrChars.Road
namespace StrChars.Road
open Jvm Sem ClassFile Op Lib Jvm.Stand Jvm.Free Jvm.Free.XT
/-- WHAT COMES BACK, the byte[] as a list of values -/
def QA (Z : State) (x : Addr) (zn : Int32) (cs : List Int32) (h : Heap) (v : Option Value) (h' : Heap) (L : List Loc) : Prop := v = none ∧ (∀ y ∈ L, y.base = x) ∧ RoadKit.Keep h h' [x] ∧ h'.size = h.size + 1 ∧ RoadKit.Exa Z h' x ST ∧ RoadKit.Fld Z h' x ST "value" "[B" (.ref h.size) ∧ RoadKit.Fld Z h' x ST "coder" "B" (.int 0) ∧
  (∃ kb, Z.vm.findClass "[B" = some kb ∧ RoadKit.Arv Z h' h.size kb .byte zn (cs.map fun c => .int (lo8 c)) (.int 0)) ∧
  ∀ (O n d : String) (w : Value), RoadKit.Fld Z h x O n d w → RoadKit.slotOf Z O n d ≠ RoadKit.slotOf Z ST "value" "[B" → RoadKit.slotOf Z O n d ≠ RoadKit.slotOf Z ST "coder" "B" → RoadKit.Fld Z h' x O n d w
/-- **new String(chars) AT A CALL, THE ARRAYS AS LISTS**: the char[] at b holds cs, not empty, no char above 255 -/
theorem backArv {p : Program} {l : Launch} {e : Env} {R : Room} {s : State} {args : Array Value} {below : List Frame} {len W : Nat} {Z : State} {a0 : Array Value} {h : Heap} (hZ : Z.Warmed39 s.vm) (hw : ∀ d ∈ words, d.before a0 Z = true) {kI : Nat} (wi : (Jvm.Cond.instantiable ST kI).before a0 Z = true)
    {x b : Addr} {k : ClassId} {zn z : Int32} {cs : List Int32} {dv v0 c0 : Value} (E : RoadKit.Exa Z h x ST) (V : RoadKit.Fld Z h x ST "value" "[B" v0) (C : RoadKit.Fld Z h x ST "coder" "B" c0) (K : RoadKit.Arv Z h b k .char zn (cs.map Value.int) dv) (S : RoadKit.Sta Z h ST "COMPACT_STRINGS" "Z" (.int z)) (hz : ¬ z = 0)
    (hlen : zn.toNatClampNeg = cs.length) (h0 : 0 < cs.length) (hbig : cs.length ≤ 536870912) (hall : ∀ c ∈ cs, ¬ 255 < c) (hfr : 4 ≤ R.frames) (hlo : W + 65 ≤ R.locals) :
    Back l R p e below s args New1.yN len W (fun P a => a = #[.ref x, .ref b] ∧ P.U.heap = h ∧ P.cells + 1 ≤ R.cells ∧ P.slots + cs.length ≤ R.slots)
      (fun P _ v B => ∃ L, QA Z x zn cs h v B.U.heap L ∧ B.locs = P.locs ++ L ∧ B.cells = P.cells + 1 ∧ B.slots = P.slots + cs.length) := by
  obtain ⟨A, K1, K2, K3, K4, K5, K6⟩ := K
  have e : A.slots.size = cs.length := K3.trans hlen
  have hat : ∀ (i : Nat) (hi : i < cs.length), A.slots[i]? = some (.int cs[i]) := fun i hi => by rw [K5 i (by omega)]; simp [List.getD_eq_getElem?_getD, hi]
  have hcv : ∀ (i : Nat) (hi : i < cs.length), cv A i = cs[i] := fun i hi => by unfold cv; rw [hat i hi]
  have hty : Typed .char A := fun i v hv => by
    have hi : i < A.slots.size := (Array.getElem?_eq_some_iff.mp hv).1
    have q := K5 i hi
    rw [hv] at q
    rw [Option.some.inj q]
    exact K6 i hi
  refine Back.mono (back hZ hw wi E V C K1 hty S hz (by omega) (by omega) (fun i hi => by rw [hcv i (by omega)]; exact hall _ (List.getElem_mem _)) hfr hlo) (fun P a hp => ⟨hp.1, hp.2.1, hp.2.2.1, by rw [e]; exact hp.2.2.2⟩) (fun P a v B hp hq => ?_)
  obtain ⟨L, ⟨q1, q2, q3, q4, q5, q6, q7, ⟨V', v1, v2, v3, v4, v5⟩, q9⟩, hl, hc, hs⟩ := hq
  refine ⟨L, ⟨q1, q2, q3, q4, q5, q6, q7, ⟨V'.cls, v3, V', v1, rfl, by rw [v4, e, hlen], K4, fun i hi => ?_, fun i hi => ?_⟩, q9⟩, hl, hc, by rw [hs, e]⟩
  · have hi' : i < cs.length := by omega
    rw [v5 i (by omega), hcv i hi']; simp [List.getD_eq_getElem?_getD, hi']
  · have hi' : i < cs.length := by omega
    simp only [List.getD_eq_getElem?_getD, List.getElem?_map, List.getElem?_eq_getElem hi', Option.map_some, Option.getD_some]
    exact fits_lo8 _
end StrChars.Road
namespace StrChars.Road
open Jvm Sem ClassFile Op Lib Jvm.Stand Jvm.Free Jvm.Free.XT
/-- WHAT COMES BACK, in the writer's own shape -/
def QV (Z : State) (x : Addr) (N : Int32) (bs : List Int32) (h : Heap) (n0 : Nat) (v : Option Value) (h' : Heap) (L : List Loc) : Prop := v = none ∧ RoadKit.Fr n0 L ∧ RoadKit.Keep h h' [x] ∧ RoadKit.Exa Z h' x ST ∧ RoadKit.Fld Z h' x ST "coder" "B" (.int 0) ∧
  ∃ (t : Addr) (kb : ClassId), n0 ≤ t ∧ h.size ≤ t ∧ ¬ t = x ∧ RoadKit.Fld Z h' x ST "value" "[B" (.ref t) ∧ RoadKit.Arv Z h' t kb .byte N (bs.map Value.int) (.int 0)
/-- **new String(chars) AT A CALL, FOR THE WRITER**: a char[] of n known ints, each 0 to 255 -/
theorem backV {p : Program} {l : Launch} {e : Env} {R : Room} {s : State} {args : Array Value} {below : List Frame} {len W : Nat} {Z : State} {a0 : Array Value} {h : Heap} (hZ : Z.Warmed39 s.vm) (hw : ∀ d ∈ words, d.before a0 Z = true) {kI : Nat} (wi : (Jvm.Cond.instantiable ST kI).before a0 Z = true)
    {x b : Addr} {kC : ClassId} {cs bs : List Int32} {d v0 c0 : Value} {z N : Int32} {n n0 : Nat} (hx0 : n0 ≤ x) (hh0 : n0 ≤ h.size) (E : RoadKit.Exa Z h x ST) (V : RoadKit.Fld Z h x ST "value" "[B" v0) (C : RoadKit.Fld Z h x ST "coder" "B" c0) (K : RoadKit.Arv Z h b kC .char N (cs.map Value.int) d) (S : RoadKit.Sta Z h ST "COMPACT_STRINGS" "Z" (.int z)) (hz : ¬ z = 0)
    (hn : cs.length = n) (hN : N = Int32.ofNat n) (l0 : 0 < n) (l2 : n ≤ 4000) (hp : ∀ c ∈ cs, ¬ c < 0 ∧ ¬ (255 : Int32) < c) (hb : bs = cs.map (fun c => c.toInt8.toInt32)) (hfr : 4 ≤ R.frames) (hlo : W + 65 ≤ R.locals) :
    Back l R p e below s args (⟨"java/lang/String", "<init>", "([C)V"⟩ : MethodName) len W (fun P a => a = #[.ref x, .ref b] ∧ P.U.heap = h ∧ P.cells + 1 ≤ R.cells ∧ P.slots + n ≤ R.slots)
      (fun P _ v B => ∃ L, QV Z x N bs h n0 v B.U.heap L ∧ B.locs = P.locs ++ L ∧ B.cells = P.cells + 1 ∧ B.slots = P.slots + n) := by
  subst hn hN hb
  refine Back.mono (backArv hZ hw wi E V C K S hz (n32 (by omega)) l0 (by omega) (fun c hc => (hp c hc).2) hfr hlo) (fun P a hp => hp) (fun P a v B hp hq => ?_)
  obtain ⟨L, ⟨q1, q2, q3, q4, q5, q6, q7, ⟨kb, v1, v2⟩, q9⟩, hl, hc, hs⟩ := hq
  exact ⟨L, ⟨q1, fun y hy => by rw [q2 y hy]; exact hx0, q3, q5, q7, h.size, kb, hh0, Nat.le_refl _, Nat.ne_of_gt E.lt, q6, by rw [List.map_map]; exact v2⟩, hl, hc, hs⟩
end StrChars.Road
namespace StrChars
open Jvm Sem ClassFile Op Lib Jvm.Stand Jvm.Free.XT Jvm.Free.ALB Jvm.Free.JM Jvm.Free
open Jvm.Lib.Cold (StaticIs)
def hi8 (x : Int32) : Int32 := lo8 (x >>> ((8 : Int32) &&& 31))
/-- what StringUTF16.getChar makes of two bytes -/
def pairCh (u v : Int32) : Int32 := (((u &&& 255) <<< ((0 : Int32) &&& 31)) ||| ((v &&& 255) <<< ((8 : Int32) &&& 31))).toUInt32.toUInt16.toUInt32.toInt32
theorem shr0 (c : Int32) : c >>> ((0 : Int32) &&& 31) = c := by
  have e : ((0 : Int32) &&& 31) = 0 := by decide
  rw [e]
  apply Int32.toBitVec_inj.mp
  rw [Int32.toBitVec_shiftRight]
  have e1 : ((0 : Int32).toBitVec.smod 32) = 0#32 := by decide
  rw [e1, BitVec.sshiftRight_eq']
  exact BitVec.sshiftRight_zero
theorem lo8_and (x : Int32) : (lo8 x &&& 255).toBitVec.toNat = x.toBitVec.toNat % 256 := by
  have h : (lo8 x).toBitVec = (x.toBitVec.signExtend 8).signExtend 32 := by rw [lo8, Int8.toBitVec_toInt32, Int32.toBitVec_toInt8]
  rw [Int32.toBitVec_and, BitVec.toNat_and, h]
  have e : ((x.toBitVec.signExtend 8).signExtend 32).toNat % 256 = x.toBitVec.toNat % 256 := by
    rw [BitVec.toNat_signExtend]
    have hlt := x.toBitVec.isLt
    simp only [BitVec.toNat_setWidth, BitVec.toNat_signExtend]
    split <;> split <;> omega
  rw [← e]
  exact Nat.and_two_pow_sub_one_eq_mod _ 8
theorem pair_says {c : Int32} (h0 : ¬ c < 0) (h1 : ¬ 65535 < c) : pairCh (lo8 c) (hi8 c) = c := by
  rw [Int32.lt_iff_toInt_lt] at h0 h1
  have e0 : (0 : Int32).toInt = 0 := rfl
  have e1 : (65535 : Int32).toInt = 65535 := rfl
  have hc : c.toInt = c.toBitVec.toNat := by
    have := c.toBitVec.isLt
    have e : c.toInt = c.toBitVec.toInt := rfl
    rw [e] at h0 h1
    rw [e]
    rw [BitVec.toInt_eq_toNat_cond] at h0 h1 ⊢
    split at h0 <;> split <;> omega
  have hn : c.toBitVec.toNat < 65536 := by omega
  have a1 := lo8_and c
  have a2 : (hi8 c &&& 255).toBitVec.toNat = c.toBitVec.toNat / 256 := by
    rw [hi8, lo8_and]
    have e : ((8 : Int32) &&& 31) = 8 := by decide
    rw [e, Int32.toBitVec_shiftRight]
    have e2 : ((8 : Int32).toBitVec.smod 32) = 8#32 := by decide
    rw [e2, BitVec.sshiftRight_eq', BitVec.toNat_sshiftRight_of_msb_false (by rw [BitVec.msb_eq_false_iff_two_mul_lt]; omega)]
    show c.toBitVec.toNat >>> 8 % 256 = _
    rw [Nat.shiftRight_eq_div_pow]
    omega
  unfold pairCh
  apply Int32.toBitVec_inj.mp
  apply BitVec.eq_of_toNat_eq
  have f0 : ((0 : Int32) &&& 31) = 0 := by decide
  have f8 : ((8 : Int32) &&& 31) = 8 := by decide
  rw [f0, f8]
  have g : (((lo8 c &&& 255) <<< (0 : Int32)) ||| ((hi8 c &&& 255) <<< (8 : Int32))).toBitVec.toNat = c.toBitVec.toNat := by
    rw [Int32.toBitVec_or, Int32.toBitVec_shiftLeft, Int32.toBitVec_shiftLeft]
    have s0 : ((0 : Int32).toBitVec.smod 32) = 0#32 := by decide
    have s8 : ((8 : Int32).toBitVec.smod 32) = 8#32 := by decide
    rw [s0, s8, BitVec.toNat_or]
    simp only [BitVec.shiftLeft_eq', BitVec.toNat_shiftLeft, a1, a2]
    show (c.toBitVec.toNat % 256) <<< 0 % 2 ^ 32 ||| (c.toBitVec.toNat / 256) <<< 8 % 2 ^ 32 = _
    rw [Nat.shiftLeft_zero, Nat.mod_eq_of_lt (show c.toBitVec.toNat % 256 < 2 ^ 32 by omega), Nat.mod_eq_of_lt (show (c.toBitVec.toNat / 256) <<< 8 < 2 ^ 32 by rw [Nat.shiftLeft_eq]; omega), Nat.or_comm, ← Nat.shiftLeft_add_eq_or_of_lt (by omega), Nat.shiftLeft_eq]
    omega
  show BitVec.toNat (((((lo8 c &&& 255) <<< (0 : Int32)) ||| ((hi8 c &&& 255) <<< (8 : Int32))).toBitVec.setWidth 16).setWidth 32) = _
  rw [BitVec.toNat_setWidth, BitVec.toNat_setWidth, g]
  omega
end StrChars
namespace StrChars
open Jvm Sem ClassFile Op Lib Jvm.Stand Jvm.Free.XT Jvm.Free.ALB Jvm.Free.JM Jvm.Free
open Jvm.Lib.Cold (StaticIs)
theorem shr1 {n : Nat} (h : 2 * n < 2 ^ 31) : Int32.ofNat (2 * n) >>> ((1 : Int32) &&& 31) = Int32.ofNat n := by
  have e : ((1 : Int32) &&& 31) = 1 := by decide
  rw [e]
  apply Int32.toBitVec_inj.mp
  rw [Int32.toBitVec_shiftRight]
  have e1 : ((1 : Int32).toBitVec.smod 32) = 1#32 := by decide
  have hm : (BitVec.ofNat 32 (2 * n)).toNat = 2 * n := by rw [BitVec.toNat_ofNat, Nat.mod_eq_of_lt (by omega)]
  rw [e1, BitVec.sshiftRight_eq']
  apply BitVec.eq_of_toNat_eq
  show ((BitVec.ofNat 32 (2 * n)).sshiftRight 1).toNat = (BitVec.ofNat 32 n).toNat
  rw [BitVec.toNat_sshiftRight_of_msb_false (by rw [BitVec.msb_eq_false_iff_two_mul_lt, hm]; omega), hm, BitVec.toNat_ofNat, Nat.shiftRight_eq_div_pow]
  omega
/-- charAt's cast of a byte read back -/
def chr8 (u : Int32) : Int32 := (u &&& 255).toUInt32.toUInt16.toUInt32.toInt32
theorem chr8_lo8 {c : Int32} (h0 : ¬ c < 0) (h1 : ¬ 255 < c) : chr8 (lo8 c) = c := by
  have t : ∀ k : Fin 256, (Int32.ofNat k.val).toUInt32.toUInt16.toUInt32.toInt32 = Int32.ofNat k.val := by decide +kernel
  unfold chr8
  rw [lo8_mask h0 h1]
  rw [Int32.lt_iff_toInt_lt] at h0 h1
  have e0 : (0 : Int32).toInt = 0 := rfl
  have e1 : (255 : Int32).toInt = 255 := rfl
  obtain ⟨k, hk⟩ : ∃ k : Nat, c.toInt = k := ⟨c.toInt.toNat, by omega⟩
  have hx : c = Int32.ofNat k := Int32.toInt_inj.mp (by rw [hk, Int32.toInt_ofNat_small (by omega)])
  rw [hx]
  exact t ⟨k, by omega⟩
theorem narrow_ch {c : Int32} (h0 : ¬ c < 0) (h1 : ¬ 65535 < c) : narrow .char (.int c) = .int c := by
  have q : narrow .char (.int (pairCh (lo8 c) (hi8 c))) = .int (pairCh (lo8 c) (hi8 c)) := narrow_c _
  rwa [pair_says h0 h1] at q
/-- the array's cell V codes the n chars f 0 .. f (n - 1) by the coder cd, as the JDK does: coder 1 just where some char is above 255 -/
def Cod (cd : Int32) (n : Nat) (f : Nat → Int32) (V : Cell) : Prop := (cd = 0 ∧ V.slots.size = n ∧ ∀ j, j < n → V.slots[j]? = some (.int (lo8 (f j))) ∧ ¬ 255 < f j) ∨ (cd = 1 ∧ V.slots.size = 2 * n ∧ (∀ j, j < n → V.slots[2 * j]? = some (.int (lo8 (f j))) ∧ V.slots[2 * j + 1]? = some (.int (hi8 (f j)))) ∧ ∃ j, j < n ∧ 255 < f j)
theorem Cod.cd {cd : Int32} {n : Nat} {f : Nat → Int32} {V : Cell} (h : Cod cd n f V) : cd = 0 ∨ cd = 1 := h.imp (fun q => q.1) fun q => q.1
theorem Cod.len {cd : Int32} {n : Nat} {f : Nat → Int32} {V : Cell} (h : Cod cd n f V) (hs : V.slots.size < 2 ^ 31) : Int32.ofNat V.slots.size >>> (cd &&& 31) = Int32.ofNat n := by
  rcases h with ⟨rfl, h, -⟩ | ⟨rfl, h, -⟩
  · rw [shr0, h]
  · rw [h, shr1 (by omega)]
/-- **x is a String of the n chars f 0 .. f (n - 1)**, Latin-1 or UTF-16; its array at t has the cell V -/
def Txt (x t : Addr) (V : Cell) (cd : Int32) (n : Nat) (f : Nat → Int32) (U : State) : Prop := Exact "java/lang/String" x U ∧ Has x "java/lang/String" "value" "[B" (.ref t) U ∧ Has x "java/lang/String" "coder" "B" (.int cd) U ∧ XT.Arr .byte t V U ∧ Cod cd n f V ∧ ∀ j, j < n → ¬ f j < 0 ∧ ¬ 65535 < f j
theorem Txt.mv {x t : Addr} {V : Cell} {cd : Int32} {n : Nat} {f : Nat → Int32} {U U' : State} (h : Txt x t V cd n f U) (hal : U.vm.Alike U'.vm) (hh : U'.heap = U.heap) : Txt x t V cd n f U' := ⟨h.1.mv hal hh, h.2.1.mv hal hh, h.2.2.1.mv hal hh, h.2.2.2.1.mv hal hh, h.2.2.2.2⟩
namespace Cdr
def yN : MethodName := ⟨"java/lang/String", "coder", "()B"⟩
abbrev yB : ByteArray := jdk_42_method_152_code
theorem d0 : decode yB 0 = .ok (.getstatic 38, 3) := by decide +kernel
theorem d3 : decode yB 3 = .ok (.ifCond (.eq) 10, 3) := by decide +kernel
theorem d6 : decode yB 6 = .ok (.aload_n 0, 1) := by decide +kernel
theorem d7 : decode yB 7 = .ok (.getfield 15, 3) := by decide +kernel
theorem d10 : decode yB 10 = .ok (.goto 4, 3) := by decide +kernel
theorem d14 : decode yB 14 = .ok (.ireturn, 1) := by decide +kernel
def site : List Cond := [.fieldLink "java/lang/String" 38 "java/lang/String" "COMPACT_STRINGS" "Z", .fieldLink "java/lang/String" 15 "java/lang/String" "coder" "B"]
def tab : Cond := tabOf yN yB 1 (some .byte) site
def P (x : Addr) (cd z : Int32) (args : Array Value) (s : State) : Prop := args = #[.ref x] ∧ Has x "java/lang/String" "coder" "B" (.int cd) s ∧ (cd = 0 ∨ cd = 1) ∧ StaticIs s "java/lang/String" "COMPACT_STRINGS" "Z" (.int z) ∧ ¬ z = 0
def E (cd : Int32) (r : Option Value) (s u : State) : Prop := XT.PureE (some (.int cd)) r s u
theorem law (l : Launch) (x : Addr) (cd z : Int32) : Law l yN 1 0 0 0 yB 1 (some .byte) site (P x cd z) (E cd) [] 0 0 := by
  refine Law.of_walk (plainFor_of_name (by decide +kernel)) (by decide +kernel) (by decide +kernel) (by decide) (fun _ _ h => by rw [h.1]; rfl) (fun _ U U' hal hh h => ⟨h.1, h.2.1.mv hal hh, h.2.2.1, h.2.2.2.1.there hal hh, h.2.2.2.2⟩) (fun r U U' V V' h1 hal h2 h => XT.PureE.mv r U U' V V' h1 hal h2 h) ?_
  intro p e s m args below meth c s₁ X0 hexec hbytes hml hret hlk hnm hown hh0 W hP
  obtain ⟨rfl, hx, hc, s1, hz⟩ := hP
  have c1 : Steps p.tables e below (s₁.setTop (entryFrame m #[.ref x] 1)) (s₁.setTop (mkF m 0 #[.val (.ref x)] [])) := entry rfl
  obtain ⟨T2, X2, q2, st2⟩ := X0.sget hexec hown (wk W (.fieldLink "java/lang/String" 38 "java/lang/String" "COMPACT_STRINGS" "Z")) s1 (fun _ _ h => by rw [hh0]; exact h) (g := (mkF m 0 #[.val (.ref x)] [])) rfl (hb hbytes d0)
  have hh2 := q2.trans hh0
  have c3 : Steps p.tables e below (s₁.setTop (entryFrame m #[.ref x] 1)) (T2.setTop (mkF m 7 #[.val (.ref x)] [.ref x])) := (c1.trans (st2 _ (Steps.refl _))).trans (by
    refine XS.ifNo X2.here hexec rfl (hb hbytes d3) rfl (i0_eq_f hz) ?_
    refine XS.aloadN X2.here hexec rfl (hb hbytes d6) rfl rfl ?_
    exact Steps.refl _)
  obtain ⟨T4, X4, q4, st4⟩ := X2.hget hexec hown (wk W (.fieldLink "java/lang/String" 15 "java/lang/String" "coder" "B")) (hx.mv X2.warmed.alike hh2) (g := (mkF m 7 #[.val (.ref x)] [.ref x])) rfl (rest := []) rfl (hb hbytes d7)
  have c5 : Steps p.tables e below (s₁.setTop (entryFrame m #[.ref x] 1)) (T4.setTop (mkF m 14 #[.val (.ref x)] [.int cd])) := (c3.trans (st4 _ (Steps.refl _))).trans (by
    refine XS.goto X4.here hexec rfl (pc0 := 10) rfl (hb hbytes d10) (by decide) rfl ?_
    exact Steps.refl _)
  exact ⟨T4, some (.int cd), _, _, _, X4, rfl, rfl, rfl, (fun h => by cases h), ⟨rfl, q4.trans hh2⟩, fun fs hl => c5.trans (X4.ireturnOut hexec hret (by rcases hc with rfl | rfl <;> rfl) (Or.inr (Or.inr (Or.inl rfl))) (hb hbytes d14) hl)⟩
end Cdr
namespace Len
def yN : MethodName := ⟨"java/lang/String", "length", "()I"⟩
abbrev yB : ByteArray := jdk_42_method_54_code
theorem d0 : decode yB 0 = .ok (.aload_n 0, 1) := by decide +kernel
theorem d1 : decode yB 1 = .ok (.getfield 9, 3) := by decide +kernel
theorem d4 : decode yB 4 = .ok (.arraylength, 1) := by decide +kernel
theorem d5 : decode yB 5 = .ok (.aload_n 0, 1) := by decide +kernel
theorem d6 : decode yB 6 = .ok (.invokevirtual 335, 3) := by decide +kernel
theorem d9 : decode yB 9 = .ok (.ishr, 1) := by decide +kernel
theorem d10 : decode yB 10 = .ok (.ireturn, 1) := by decide +kernel
def site : List Cond := [.fieldLink "java/lang/String" 9 "java/lang/String" "value" "[B", Cdr.tab] ++ virtW "java/lang/String" 335 "java/lang/String" Cdr.yN Cdr.yN
def tab : Cond := tabOf yN yB 1 (some .int) site
def P (x t : Addr) (V : Cell) (cd : Int32) (n : Nat) (f : Nat → Int32) (z : Int32) (args : Array Value) (s : State) : Prop := args = #[.ref x] ∧ Txt x t V cd n f s ∧ StaticIs s "java/lang/String" "COMPACT_STRINGS" "Z" (.int z) ∧ ¬ z = 0
def E (n : Nat) (r : Option Value) (s u : State) : Prop := XT.PureE (some (.int (Int32.ofNat n))) r s u
/-- length() of a String of n chars, in either coding -/
theorem law (l : Launch) (x t : Addr) (V : Cell) (cd : Int32) (n : Nat) (f : Nat → Int32) (z : Int32) : Law l yN 1 0 1 13 yB 1 (some .int) site (P x t V cd n f z) (E n) [] 0 0 := by
  refine Law.of_walk (plainFor_of_name (by decide +kernel)) (by decide +kernel) (by decide +kernel) (by decide) (fun _ _ h => by rw [h.1]; rfl) (fun _ U U' hal hh h => ⟨h.1, h.2.1.mv hal hh, h.2.2.1.there hal hh, h.2.2.2⟩) (fun r U U' V V' h1 hal h2 h => XT.PureE.mv r U U' V V' h1 hal h2 h) ?_
  intro p e s m args below meth c s₁ X0 hexec hbytes hml hret hlk hnm hown hh0 W hP
  obtain ⟨rfl, hx, s1, hz⟩ := hP
  have v31 := hx.2.2.2.1.2.2.2
  have c1 : Steps p.tables e below (s₁.setTop (entryFrame m #[.ref x] 1)) (s₁.setTop (mkF m 1 #[.val (.ref x)] [.ref x])) := Steps.trans (entry rfl) (by
    show Steps p.tables e below (s₁.setTop (mkF m 0 #[.val (.ref x)] [])) _
    refine XS.aloadN X0.here hexec rfl (hb hbytes d0) rfl rfl ?_
    exact Steps.refl _)
  obtain ⟨T2, X2, q2, st2⟩ := X0.hget hexec hown (wk W (.fieldLink "java/lang/String" 9 "java/lang/String" "value" "[B")) (hx.mv X0.warmed.alike hh0).2.1 (g := (mkF m 1 #[.val (.ref x)] [.ref x])) rfl (rest := []) rfl (hb hbytes d1)
  have hh2 := q2.trans hh0
  have hx2 := hx.mv X2.warmed.alike hh2
  have c3 : Steps p.tables e below (s₁.setTop (entryFrame m #[.ref x] 1)) (T2.setTop (mkF m 6 #[.val (.ref x)] [.ref x, .int (Int32.ofNat V.slots.size)])) := (c1.trans (st2 _ (Steps.refl _))).trans (by
    refine X2.alen hexec hx2.2.2.2.1 rfl rfl (hb hbytes d4) ?_
    refine XS.aloadN X2.here hexec rfl (hb hbytes d5) rfl rfl ?_
    exact Steps.refl _)
  obtain ⟨v4, T4, X4, E4, g4⟩ := X2.callV hexec (Cdr.law l x cd z) hown (wks W (virtW "java/lang/String" 335 "java/lang/String" Cdr.yN Cdr.yN)) rfl (by decide) (wk W Cdr.tab) (W := 1) (Nat.le_of_ble_eq_true rfl) (Nat.le_of_ble_eq_true rfl) (Nat.le_refl _) (Nat.le_refl _) (hx2.1.fc X2.warmed.alike) hx2.1.is (g := (mkF m 6 #[.val (.ref x)] [.ref x, .int (Int32.ofNat V.slots.size)])) rfl (by rw [hml]; rfl) c3 (argsL := []) (rest := [.int (Int32.ofNat V.slots.size)]) rfl rfl (by show 2 * 0 + (1 + 0) ≤ _; decide) (hb hbytes d6) (⟨rfl, hx2.2.2.1, hx.2.2.2.2.1.cd, s1.there X2.warmed.alike hh2, hz⟩)
  obtain ⟨rfl, q4⟩ := E4
  have c5 : Steps p.tables e below (s₁.setTop (entryFrame m #[.ref x] 1)) (T4.setTop (mkF m 10 #[.val (.ref x)] [.int (Int32.ofNat V.slots.size >>> (cd &&& 31))])) := Steps.trans g4 (by
    refine ishr X4.here hexec rfl (hb hbytes d9) rfl ?_
    exact Steps.refl _)
  rw [hx.2.2.2.2.1.len v31] at c5
  exact ⟨T4, some (.int (Int32.ofNat n)), _, _, _, X4, rfl, rfl, rfl, (fun h => by cases h), ⟨rfl, q4.trans hh2⟩, fun fs hl => c5.trans (X4.ireturnOut hexec hret rfl (Or.inl rfl) (hb hbytes d10) hl)⟩
theorem pays {l : Launch} {R : Room} {p : Program} {e : Env} {below : List Frame} {s : State} {sargs : Array Value} {len W : Nat} (x t : Addr) (V : Cell) (cd : Int32) (n : Nat) (f : Nat → Int32) (z : Int32) (htab : tab.before sargs s = true) (hfr : 2 ≤ R.frames) (hlo : W + 25 ≤ R.locals) :
    Back l R p e below s sargs yN len W (fun A₁ a₁ => A₁.cells + 0 ≤ R.cells ∧ A₁.slots + 0 ≤ R.slots ∧ P x t V cd n f z a₁ A₁.U) (fun A₁ _ v₁ B₁ => E n v₁ A₁.U B₁.U ∧ B₁.locs = A₁.locs ++ [] ∧ B₁.cells = A₁.cells + 0 ∧ B₁.slots = A₁.slots + 0) :=
  (law l x t V cd n f z).pays htab hfr (by omega)
end Len
namespace IsL
def yN : MethodName := ⟨"java/lang/String", "isLatin1", "()Z"⟩
abbrev yB : ByteArray := jdk_42_method_154_code
theorem d0 : decode yB 0 = .ok (.getstatic 38, 3) := by decide +kernel
theorem d3 : decode yB 3 = .ok (.ifCond (.eq) 14, 3) := by decide +kernel
theorem d6 : decode yB 6 = .ok (.aload_n 0, 1) := by decide +kernel
theorem d7 : decode yB 7 = .ok (.getfield 15, 3) := by decide +kernel
theorem d10 : decode yB 10 = .ok (.ifCond (.ne) 7, 3) := by decide +kernel
theorem d13 : decode yB 13 = .ok (.iconst 1, 1) := by decide +kernel
theorem d14 : decode yB 14 = .ok (.goto 4, 3) := by decide +kernel
theorem d17 : decode yB 17 = .ok (.iconst 0, 1) := by decide +kernel
theorem d18 : decode yB 18 = .ok (.ireturn, 1) := by decide +kernel
def site : List Cond := [.fieldLink "java/lang/String" 38 "java/lang/String" "COMPACT_STRINGS" "Z", .fieldLink "java/lang/String" 15 "java/lang/String" "coder" "B"]
def tab : Cond := tabOf yN yB 1 (some .boolean) site
def P (x : Addr) (cd z : Int32) (args : Array Value) (s : State) : Prop := args = #[.ref x] ∧ Has x "java/lang/String" "coder" "B" (.int cd) s ∧ (cd = 0 ∨ cd = 1) ∧ StaticIs s "java/lang/String" "COMPACT_STRINGS" "Z" (.int z) ∧ ¬ z = 0
def E (cd : Int32) (r : Option Value) (s u : State) : Prop := XT.PureE (some (.int (1 - cd))) r s u
theorem law (l : Launch) (x : Addr) (cd z : Int32) : Law l yN 1 0 0 0 yB 1 (some .boolean) site (P x cd z) (E cd) [] 0 0 := by
  refine Law.of_walk (plainFor_of_name (by decide +kernel)) (by decide +kernel) (by decide +kernel) (by decide) (fun _ _ h => by rw [h.1]; rfl) (fun _ U U' hal hh h => ⟨h.1, h.2.1.mv hal hh, h.2.2.1, h.2.2.2.1.there hal hh, h.2.2.2.2⟩) (fun r U U' V V' h1 hal h2 h => XT.PureE.mv r U U' V V' h1 hal h2 h) ?_
  intro p e s m args below meth c s₁ X0 hexec hbytes hml hret hlk hnm hown hh0 W hP
  obtain ⟨rfl, hx, hc, s1, hz⟩ := hP
  have c1 : Steps p.tables e below (s₁.setTop (entryFrame m #[.ref x] 1)) (s₁.setTop (mkF m 0 #[.val (.ref x)] [])) := entry rfl
  obtain ⟨T2, X2, q2, st2⟩ := X0.sget hexec hown (wk W (.fieldLink "java/lang/String" 38 "java/lang/String" "COMPACT_STRINGS" "Z")) s1 (fun _ _ h => by rw [hh0]; exact h) (g := (mkF m 0 #[.val (.ref x)] [])) rfl (hb hbytes d0)
  have hh2 := q2.trans hh0
  have c3 : Steps p.tables e below (s₁.setTop (entryFrame m #[.ref x] 1)) (T2.setTop (mkF m 7 #[.val (.ref x)] [.ref x])) := (c1.trans (st2 _ (Steps.refl _))).trans (by
    refine XS.ifNo X2.here hexec rfl (hb hbytes d3) rfl (i0_eq_f hz) ?_
    refine XS.aloadN X2.here hexec rfl (hb hbytes d6) rfl rfl ?_
    exact Steps.refl _)
  obtain ⟨T4, X4, q4, st4⟩ := X2.hget hexec hown (wk W (.fieldLink "java/lang/String" 15 "java/lang/String" "coder" "B")) (hx.mv X2.warmed.alike hh2) (g := (mkF m 7 #[.val (.ref x)] [.ref x])) rfl (rest := []) rfl (hb hbytes d7)
  have c5 : Steps p.tables e below (s₁.setTop (entryFrame m #[.ref x] 1)) (T4.setTop (mkF m 10 #[.val (.ref x)] [.int cd])) := c3.trans (st4 _ (Steps.refl _))
  have c6 : Steps p.tables e below (s₁.setTop (entryFrame m #[.ref x] 1)) (T4.setTop (mkF m 18 #[.val (.ref x)] [.int (1 - cd)])) := by
    rcases hc with rfl | rfl
    · exact c5.trans (by
        refine XS.ifNo X4.here hexec rfl (hb hbytes d10) rfl (i0_ne_f rfl) ?_
        refine iconstV X4.here hexec rfl 1 (hb hbytes d13) (by decide) ?_
        refine XS.goto X4.here hexec rfl (pc0 := 14) rfl (hb hbytes d14) (by decide) rfl ?_
        exact Steps.refl _)
    · exact c5.trans (by
        refine XS.ifYes X4.here hexec rfl (pc0 := 10) rfl (hb hbytes d10) rfl (i0_ne_t (by decide)) (by decide) rfl ?_
        refine iconstV X4.here hexec rfl 0 (hb hbytes d17) (by decide) ?_
        exact Steps.refl _)
  exact ⟨T4, some (.int (1 - cd)), _, _, _, X4, rfl, rfl, rfl, (fun h => by cases h), ⟨rfl, q4.trans hh2⟩, fun fs hl => c6.trans (X4.ireturnOut hexec hret (by rcases hc with rfl | rfl <;> rfl) (Or.inr (Or.inl rfl)) (hb hbytes d18) hl)⟩
end IsL
namespace LChA
def yN : MethodName := ⟨"java/lang/StringLatin1", "charAt", "([BI)C"⟩
abbrev yB : ByteArray := jdk_43_method_2_code
theorem d0 : decode yB 0 = .ok (.iload_n 1, 1) := by decide +kernel
theorem d1 : decode yB 1 = .ok (.aload_n 0, 1) := by decide +kernel
theorem d2 : decode yB 2 = .ok (.arraylength, 1) := by decide +kernel
theorem d3 : decode yB 3 = .ok (.invokestatic 9, 3) := by decide +kernel
theorem d6 : decode yB 6 = .ok (.aload_n 0, 1) := by decide +kernel
theorem d7 : decode yB 7 = .ok (.iload_n 1, 1) := by decide +kernel
theorem d8 : decode yB 8 = .ok (.baload, 1) := by decide +kernel
theorem d9 : decode yB 9 = .ok (.sipush 255, 3) := by decide +kernel
theorem d12 : decode yB 12 = .ok (.iand, 1) := by decide +kernel
theorem d13 : decode yB 13 = .ok (.i2c, 1) := by decide +kernel
theorem d14 : decode yB 14 = .ok (.ireturn, 1) := by decide +kernel
def site : List Cond := [JO.Str_checkIndex.tab] ++ staticW "java/lang/StringLatin1" 9 JO.Str_checkIndex.yN
def tab : Cond := tabOf yN yB 2 (some .char) site
def P (t : Addr) (V : Cell) (i : Nat) (u : Int32) (fm : Value) (args : Array Value) (s : State) : Prop := args = #[.ref t, .int (Int32.ofNat i)] ∧ XT.Arr .byte t V s ∧ V.slots[i]? = some (.int u) ∧ (StaticIs s "jdk/internal/util/Preconditions" "SIOOBE_FORMATTER" "Ljava/util/function/BiFunction;" fm ∧ fm.isRef = true)
def E (u : Int32) (r : Option Value) (s w : State) : Prop := XT.PureE (some (.int (chr8 u))) r s w
theorem law (l : Launch) (t : Addr) (V : Cell) (i : Nat) (u : Int32) (fm : Value) : Law l yN 2 2 2 27 yB 2 (some .char) site (P t V i u fm) (E u) [] 0 0 := by
  refine Law.of_walk (plainFor_of_name (by decide +kernel)) (by decide +kernel) (by decide +kernel) (by decide) (fun _ _ h => by rw [h.1]; rfl) (fun _ U U' hal hh h => ⟨h.1, h.2.1.mv hal hh, h.2.2.1, h.2.2.2.1.there hal hh, h.2.2.2.2⟩) (fun r U U' V V' h1 hal h2 h => XT.PureE.mv r U U' V V' h1 hal h2 h) ?_
  intro p e s m args below meth c s₁ X0 hexec hbytes hml hret hlk hnm hown hh0 W hP
  obtain ⟨rfl, hV, hu, s1, rf⟩ := hP
  have v31 := hV.2.2.2
  have hi : i < V.slots.size := (Array.getElem?_eq_some_iff.mp hu).1
  have c1 : Steps p.tables e below (s₁.setTop (entryFrame m #[.ref t, .int (Int32.ofNat i)] 2)) (s₁.setTop (mkF m 0 #[.val (.ref t), .val (.int (Int32.ofNat i))] [])) := entry rfl
  have c2 : Steps p.tables e below (s₁.setTop (entryFrame m #[.ref t, .int (Int32.ofNat i)] 2)) (s₁.setTop (mkF m 3 #[.val (.ref t), .val (.int (Int32.ofNat i))] [.int (Int32.ofNat V.slots.size), .int (Int32.ofNat i)])) := c1.trans (by
    refine XS.iloadN X0.here hexec rfl (hb hbytes d0) rfl ?_
    refine XS.aloadN X0.here hexec rfl (hb hbytes d1) rfl rfl ?_
    refine X0.alen hexec (hV.mv X0.warmed.alike hh0) rfl rfl (hb hbytes d2) ?_
    exact Steps.refl _)
  obtain ⟨v3, T3, X3, E3, g3⟩ := X0.callS hexec (JO.Str_checkIndex.law l (Int32.ofNat i) (Int32.ofNat V.slots.size) fm) hown (wks W (staticW "java/lang/StringLatin1" 9 JO.Str_checkIndex.yN)) (wk W JO.Str_checkIndex.tab) (W := 0) (Nat.le_of_ble_eq_true rfl) (Nat.le_of_ble_eq_true rfl) (Nat.le_refl _) (Nat.le_refl _) (g := (mkF m 3 #[.val (.ref t), .val (.int (Int32.ofNat i))] [.int (Int32.ofNat V.slots.size), .int (Int32.ofNat i)])) rfl (by rw [hml]; rfl) c2 (argsL := [.int (Int32.ofNat i), .int (Int32.ofNat V.slots.size)]) (rest := []) rfl rfl (by show 2 * 0 + 0 ≤ _; decide) (hb hbytes d3) (⟨rfl, rf, s1.there X0.warmed.alike hh0, Int32.ofNat_not_neg (by omega), lt32 v31 hi⟩)
  obtain ⟨rfl, q3⟩ := E3
  have hh3 := q3.trans hh0
  have c4 : Steps p.tables e below (s₁.setTop (entryFrame m #[.ref t, .int (Int32.ofNat i)] 2)) (T3.setTop (mkF m 14 #[.val (.ref t), .val (.int (Int32.ofNat i))] [.int (chr8 u)])) := Steps.trans g3 (by
    refine XS.aloadN X3.here hexec rfl (hb hbytes d6) rfl rfl ?_
    refine XS.iloadN X3.here hexec rfl (hb hbytes d7) rfl ?_
    refine X3.aget hexec (hV.mv X3.warmed.alike hh3) rfl hu rfl rfl (hb hbytes d8) ?_
    refine sipushV X3.here hexec rfl 255 (hb hbytes d9) (by decide) ?_
    refine XS.iand X3.here hexec rfl (hb hbytes d12) rfl ?_
    refine i2c X3.here hexec rfl (hb hbytes d13) rfl ?_
    exact Steps.refl _)
  exact ⟨T3, some (.int (chr8 u)), _, _, _, X3, rfl, rfl, rfl, (fun h => by cases h), ⟨rfl, hh3⟩, fun fs hl => c4.trans (X3.ireturnOut hexec hret (narrow_c _) (Or.inr (Or.inr (Or.inr (Or.inl rfl)))) (hb hbytes d14) hl)⟩
end LChA
end StrChars
namespace StrChars.Road
open Jvm Sem ClassFile Op Lib Jvm.Stand Jvm.Free Jvm.Free.XT
open Jvm.Lib.Cold (StaticIs)
theorem consq {a : Array Value} {s : State} {c : Jvm.Cond} {L : List Jvm.Cond} (h0 : c.before a s = true) (h : ∀ w ∈ L, w.before a s = true) : ∀ w ∈ c :: L, w.before a s = true := fun w hw => (List.mem_cons.mp hw).elim (fun e => e ▸ h0) (h w)
/-- the words of String.length(), either coding -/
abbrev wordsLen : List Jvm.Cond := [.code Len.yN Len.yB 1 (some .int), .initialized ST, .fieldLink ST 9 ST "value" "[B", .fieldLink ST 38 ST "COMPACT_STRINGS" "Z", .fieldLink ST 15 ST "coder" "B", .code Cdr.yN Cdr.yB 1 (some .byte), .methodLink ST 335 Cdr.yN, .declares Cdr.yN, .selects ST Cdr.yN Cdr.yN, .instanceMethod Cdr.yN]
theorem tabLen_of {a : Array Value} {s : State} (h : ∀ w ∈ wordsLen, w.before a s = true) : Len.tab.before a s = true := by
  have hc : Cdr.tab.before a s = true := unparts (wk h (.code Cdr.yN Cdr.yB 1 (some .byte))) (wks h (.initialized Cdr.yN.cls :: Cdr.site))
  have q := consq hc h
  exact unparts (wk q (.code Len.yN Len.yB 1 (some .int))) (wks q (.initialized Len.yN.cls :: Len.site))
theorem movedLen {Z s : State} {a0 args : Array Value} (hZ : Z.Warmed39 s.vm) (hw : ∀ d ∈ wordsLen, d.before a0 Z = true) : ∀ d ∈ wordsLen, d.before args s = true := fun d hd => by
  have q := hw d hd
  have t : ∀ d ∈ wordsLen, d = .arrayClass .byte ∨ (d.onTables && d.keepsFace) = true := by decide +kernel
  rcases t d hd with rfl | t
  · exact RoadKit.mvA hZ q
  · exact RoadKit.mv hZ q t
/-- the bytes of the chars cs, low before high -/
def wideBytes : List Int32 → List Value
  | [] => []
  | c :: cs => .int (lo8 c) :: .int (hi8 c) :: wideBytes cs
theorem wide_lo (d : Value) : ∀ (cs : List Int32) (j : Nat), j < cs.length → (wideBytes cs).getD (2 * j) d = .int (lo8 (cs.getD j 0))
  | [], j, h => absurd h (Nat.not_lt_zero j)
  | c :: cs, 0, _ => rfl
  | c :: cs, j + 1, h => by
    have q := wide_lo d cs j (by simpa using h)
    rw [show 2 * (j + 1) = 2 * j + 1 + 1 from by omega]
    simpa [wideBytes] using q
theorem wide_hi (d : Value) : ∀ (cs : List Int32) (j : Nat), j < cs.length → (wideBytes cs).getD (2 * j + 1) d = .int (hi8 (cs.getD j 0))
  | [], j, h => absurd h (Nat.not_lt_zero j)
  | c :: cs, 0, _ => rfl
  | c :: cs, j + 1, h => by
    have q := wide_hi d cs j (by simpa using h)
    rw [show 2 * (j + 1) + 1 = 2 * j + 1 + 1 + 1 from by omega]
    simpa [wideBytes] using q
theorem low_at (d : Value) (cs : List Int32) (j : Nat) (h : j < cs.length) : (cs.map fun c => Value.int (lo8 c)).getD j d = .int (lo8 (cs.getD j 0)) := by
  simp [List.getD_eq_getElem?_getD, h]
/-- an array of N2 bytes vs codes the chars cs by the coder cd -/
def CodA (cs : List Int32) (cd N2 : Int32) (vs : List Value) : Prop := (cd = 0 ∧ N2 = Int32.ofNat cs.length ∧ vs = (cs.map fun c => Value.int (lo8 c)) ∧ ∀ c ∈ cs, ¬ 255 < c) ∨ (cd = 1 ∧ N2 = Int32.ofNat (2 * cs.length) ∧ vs = wideBytes cs ∧ ∃ c ∈ cs, 255 < c)
theorem CodA.cod {cs : List Int32} {cd N2 : Int32} {vs : List Value} {V : Cell} (h : CodA cs cd N2 vs) (hn : 2 * cs.length < 2 ^ 31) (hs : V.slots.size = N2.toNatClampNeg) (hv : RoadKit.Has V vs (.int 0)) : Cod cd cs.length (fun j => cs.getD j 0) V := by
  rcases h with ⟨rfl, rfl, rfl, h⟩ | ⟨rfl, rfl, rfl, c, hc, hw⟩
  · rw [n32 (by omega)] at hs
    exact Or.inl ⟨rfl, hs, fun j hj => ⟨by rw [hv j (by omega), low_at _ _ _ hj], by
      have e : cs.getD j 0 = cs[j] := by simp [List.getD_eq_getElem?_getD, hj]
      show ¬ 255 < cs.getD j 0
      rw [e]; exact h _ (List.getElem_mem _)⟩⟩
  · rw [n32 (by omega)] at hs
    obtain ⟨j, hj, rfl⟩ := List.getElem_of_mem hc
    exact Or.inr ⟨rfl, hs, fun j hj => ⟨by rw [hv _ (by omega), wide_lo _ _ _ hj], by rw [hv _ (by omega), wide_hi _ _ _ hj]⟩, j, hj, by
      have e : cs.getD j 0 = cs[j] := by simp [List.getD_eq_getElem?_getD, hj]
      show 255 < cs.getD j 0
      rw [e]; exact hw⟩
/-- an object of exactly java/lang/String, its two fields found: as the laws ask it -/
theorem strObj {Z U : State} {a0 : Array Value} {kI : Nat} (wi : (Jvm.Cond.instantiable ST kI).before a0 Z = true) (al : Z.vm.Alike U.vm) {x : Addr} {v0 c0 : Value} (E : RoadKit.Exa Z U.heap x ST) (V : RoadKit.Fld Z U.heap x ST "value" "[B" v0) (C : RoadKit.Fld Z U.heap x ST "coder" "B" c0) :
    ∃ (D : Cell) (fV fC : Field), Blank ST x D U ∧ Found ST "value" "[B" fV U ∧ Found ST "coder" "B" fC U ∧ D.slots[fV.slot]? = some v0 ∧ D.slots[fC.slot]? = some c0 ∧ RoadKit.slotOf Z ST "value" "[B" = fV.slot ∧ RoadKit.slotOf Z ST "coder" "B" = fC.slot := by
  obtain ⟨D, cfV, kV, iV, fV, hD, gV, stV, knV, obV, asV, slV⟩ := V
  obtain ⟨D', cfC, kC, iC, fC, hD', gC, stC, -, -, asC, slC⟩ := C
  cases hD.symm.trans hD'
  obtain ⟨D2, kD, e1, e2, e3, e4, e5⟩ := E
  cases hD.symm.trans e1
  obtain ⟨c2, k2, i1, i2, i3, -⟩ := Cond.instantiable_spec wi
  cases e2.symm.trans i1
  cases e3.symm.trans i2
  obtain ⟨kU, u1, u2⟩ := al.2.2 _ _ e3
  exact ⟨D, fV, fC, ⟨hD, ⟨knV, fun q hq => by rw [hq] at obV; cases obV⟩, by rw [al.findClass]; exact e2, kU, u1, by rw [u2]; exact i3, by rw [u2]; exact e5 i3⟩, ⟨SBG.found_only al ⟨cfV, kV, iV, gV⟩, stV⟩, ⟨SBG.found_only al ⟨cfC, kC, iC, gC⟩, stC⟩, slV, slC, by simp [RoadKit.slotOf, gV], by simp [RoadKit.slotOf, gC]⟩
theorem sta_is {Z U : State} (al : Z.vm.Alike U.vm) {C n d : String} {v : Value} (S : RoadKit.Sta Z U.heap C n d v) : StaticIs U C n d v := by
  obtain ⟨cfS, iS, kS, fS, st, cS, t1, t2, t3, t4, t5, t6, t7⟩ := S
  exact StaticIs.there (s := { Z with heap := U.heap }) ⟨cfS, iS, kS, fS, st, cS, t1, t2, t3, t4, t5, (fun q => by rw [q] at t6; cases t6), t7⟩ al rfl
/-- **length() OF SUCH A STRING** -/
theorem lenW {p : Program} {l : Launch} {e : Env} {R : Room} {s : State} {args : Array Value} {below : List Frame} {len W : Nat} {Z : State} {a0 : Array Value} {h : Heap} (hZ : Z.Warmed39 s.vm) (hw : ∀ d ∈ wordsLen, d.before a0 Z = true) {kI : Nat} (wi : (Jvm.Cond.instantiable ST kI).before a0 Z = true)
    {x t : Addr} {kb : ClassId} {cs : List Int32} {cd N2 z : Int32} {vs : List Value} (E : RoadKit.Exa Z h x ST) (V : RoadKit.Fld Z h x ST "value" "[B" (.ref t)) (C : RoadKit.Fld Z h x ST "coder" "B" (.int cd)) (K : RoadKit.Arv Z h t kb .byte N2 vs (.int 0)) (hc : CodA cs cd N2 vs) (hb : ∀ c ∈ cs, ¬ c < 0 ∧ ¬ (65535 : Int32) < c)
    (S : RoadKit.Sta Z h ST "COMPACT_STRINGS" "Z" (.int z)) (hz : ¬ z = 0) (l2 : cs.length ≤ 4000) (hfr : 2 ≤ R.frames) (hlo : W + 25 ≤ R.locals) :
    Back l R p e below s args (⟨"java/lang/String", "length", "()I"⟩ : MethodName) len W (fun P a => a = #[.ref x] ∧ P.U.heap = h ∧ P.cells + 0 ≤ R.cells ∧ P.slots + 0 ≤ R.slots)
      (fun P _ v B => ∃ L, (v = some (.int (Int32.ofNat cs.length)) ∧ L = [] ∧ B.U.heap = h) ∧ B.locs = P.locs ++ L ∧ B.cells = P.cells + 0 ∧ B.slots = P.slots + 0) := by
  obtain ⟨A, K1, K2, K3, K4, K5, K6⟩ := K
  have hcod := hc.cod (by omega) K3 K5
  intro m meth c P g ig mk a X hg hsize hdg hW hn hp'
  obtain ⟨rfl, rfl, r1, r2⟩ := hp'
  have al : Z.vm.Alike P.U.vm := hZ.alike.trans X.warmed.alike
  obtain ⟨D, fV, fC, hB, F1, F2, g1, g2, -, -⟩ := strObj wi al E V C
  have hx : Txt x t A cd cs.length (fun j => cs.getD j 0) P.U := ⟨⟨_, hB.2.2.1, D, hB.1, rfl, by cases q : D.vm <;> first | rfl | exact absurd q (hB.2.1.2 _)⟩, Has.of hB F1 g1, Has.of hB F2 g2, ⟨K1.1, State.isArrayOf_alike al K1.2.1, K1.2.2, by rcases hcod with ⟨-, q, -⟩ | ⟨-, q, -⟩ <;> omega⟩, hcod, fun j hj => by
    have e : cs.getD j 0 = cs[j] := by simp [List.getD_eq_getElem?_getD, hj]
    show ¬ cs.getD j 0 < 0 ∧ ¬ 65535 < cs.getD j 0
    rw [e]; exact hb _ (List.getElem_mem _)⟩
  obtain ⟨v, B, X', ⟨⟨hv, hh⟩, hl, hk, hs⟩, st⟩ := Len.pays x t A cd cs.length (fun j => cs.getD j 0) z (tabLen_of (movedLen hZ hw)) hfr hlo m meth c P g ig mk _ X hg hsize hdg hW hn ⟨r1, r2, rfl, hx, sta_is al S, hz⟩
  exact ⟨v, B, X', ⟨[], ⟨hv, rfl, hh⟩, hl, hk, hs⟩, st⟩
end StrChars.Road
namespace StrChars
open Jvm Sem ClassFile Op Lib Jvm.Stand Jvm.Free.XT Jvm.Free.ALB Jvm.Free.JM Jvm.Free
open Jvm.Lib.Cold (StaticIs)
namespace Emp
def yN : MethodName := ⟨"java/lang/String", "isEmpty", "()Z"⟩
abbrev yB : ByteArray := jdk_42_method_55_code
theorem d0 : decode yB 0 = .ok (.aload_n 0, 1) := by decide +kernel
theorem d1 : decode yB 1 = .ok (.getfield 9, 3) := by decide +kernel
theorem d4 : decode yB 4 = .ok (.arraylength, 1) := by decide +kernel
theorem d5 : decode yB 5 = .ok (.ifCond (.ne) 7, 3) := by decide +kernel
theorem d8 : decode yB 8 = .ok (.iconst 1, 1) := by decide +kernel
theorem d9 : decode yB 9 = .ok (.goto 4, 3) := by decide +kernel
theorem d12 : decode yB 12 = .ok (.iconst 0, 1) := by decide +kernel
theorem d13 : decode yB 13 = .ok (.ireturn, 1) := by decide +kernel
def site : List Cond := [.fieldLink "java/lang/String" 9 "java/lang/String" "value" "[B"]
def tab : Cond := tabOf yN yB 1 (some .boolean) site
def P (x t : Addr) (V : Cell) (cd : Int32) (n : Nat) (f : Nat → Int32) (args : Array Value) (s : State) : Prop := args = #[.ref x] ∧ Txt x t V cd n f s
def E (n : Nat) (r : Option Value) (s u : State) : Prop := XT.PureE (some (.int (if n = 0 then 1 else 0))) r s u
/-- isEmpty() of a String of n chars -/
theorem law (l : Launch) (x t : Addr) (V : Cell) (cd : Int32) (n : Nat) (f : Nat → Int32) : Law l yN 1 0 0 0 yB 1 (some .boolean) site (P x t V cd n f) (E n) [] 0 0 := by
  refine Law.of_walk (plainFor_of_name (by decide +kernel)) (by decide +kernel) (by decide +kernel) (by decide) (fun _ _ h => by rw [h.1]; rfl) (fun _ U U' hal hh h => ⟨h.1, h.2.mv hal hh⟩) (fun r U U' V V' h1 hal h2 h => XT.PureE.mv r U U' V V' h1 hal h2 h) ?_
  intro p e s m args below meth c s₁ X0 hexec hbytes hml hret hlk hnm hown hh0 W hP
  obtain ⟨rfl, hx⟩ := hP
  have v31 := hx.2.2.2.1.2.2.2
  have c1 : Steps p.tables e below (s₁.setTop (entryFrame m #[.ref x] 1)) (s₁.setTop (mkF m 1 #[.val (.ref x)] [.ref x])) := Steps.trans (entry rfl) (by
    show Steps p.tables e below (s₁.setTop (mkF m 0 #[.val (.ref x)] [])) _
    refine XS.aloadN X0.here hexec rfl (hb hbytes d0) rfl rfl ?_
    exact Steps.refl _)
  obtain ⟨T2, X2, q2, st2⟩ := X0.hget hexec hown (wk W (.fieldLink "java/lang/String" 9 "java/lang/String" "value" "[B")) (hx.mv X0.warmed.alike hh0).2.1 (g := (mkF m 1 #[.val (.ref x)] [.ref x])) rfl (rest := []) rfl (hb hbytes d1)
  have hh2 := q2.trans hh0
  have hx2 := hx.mv X2.warmed.alike hh2
  have c3 : Steps p.tables e below (s₁.setTop (entryFrame m #[.ref x] 1)) (T2.setTop (mkF m 5 #[.val (.ref x)] [.int (Int32.ofNat V.slots.size)])) := (c1.trans (st2 _ (Steps.refl _))).trans (by
    refine X2.alen hexec hx2.2.2.2.1 rfl rfl (hb hbytes d4) ?_
    exact Steps.refl _)
  have hz : V.slots.size = 0 ↔ n = 0 := by
    rcases hx.2.2.2.2.1 with ⟨-, q, -⟩ | ⟨-, q, -⟩ <;> omega
  by_cases h0 : n = 0
  · have c4 : Steps p.tables e below (s₁.setTop (entryFrame m #[.ref x] 1)) (T2.setTop (mkF m 13 #[.val (.ref x)] [.int 1])) := c3.trans (by
      refine XS.ifNo X2.here hexec rfl (hb hbytes d5) rfl (i0_ne_f (by rw [hz.mpr h0]; rfl)) ?_
      refine iconstV X2.here hexec rfl 1 (hb hbytes d8) (by decide) ?_
      refine XS.goto X2.here hexec rfl (pc0 := 9) rfl (hb hbytes d9) (by decide) rfl ?_
      exact Steps.refl _)
    exact ⟨T2, some (.int 1), _, _, _, X2, rfl, rfl, rfl, (fun h => by cases h), ⟨by rw [if_pos h0], hh2⟩, fun fs hl => c4.trans (X2.ireturnOut hexec hret rfl (Or.inr (Or.inl rfl)) (hb hbytes d13) hl)⟩
  · have c4 : Steps p.tables e below (s₁.setTop (entryFrame m #[.ref x] 1)) (T2.setTop (mkF m 13 #[.val (.ref x)] [.int 0])) := c3.trans (by
      refine XS.ifYes X2.here hexec rfl (pc0 := 5) rfl (hb hbytes d5) rfl (i0_ne_t (nz32 v31 (by omega))) (by decide) rfl ?_
      refine iconstV X2.here hexec rfl 0 (hb hbytes d12) (by decide) ?_
      exact Steps.refl _)
    exact ⟨T2, some (.int 0), _, _, _, X2, rfl, rfl, rfl, (fun h => by cases h), ⟨by rw [if_neg h0], hh2⟩, fun fs hl => c4.trans (X2.ireturnOut hexec hret rfl (Or.inr (Or.inl rfl)) (hb hbytes d13) hl)⟩
theorem pays {l : Launch} {R : Room} {p : Program} {e : Env} {below : List Frame} {s : State} {sargs : Array Value} {len W : Nat} (x t : Addr) (V : Cell) (cd : Int32) (n : Nat) (f : Nat → Int32) (htab : tab.before sargs s = true) (hfr : 1 ≤ R.frames) (hlo : W + 12 ≤ R.locals) :
    Back l R p e below s sargs yN len W (fun A₁ a₁ => A₁.cells + 0 ≤ R.cells ∧ A₁.slots + 0 ≤ R.slots ∧ P x t V cd n f a₁ A₁.U) (fun A₁ _ v₁ B₁ => E n v₁ A₁.U B₁.U ∧ B₁.locs = A₁.locs ++ [] ∧ B₁.cells = A₁.cells + 0 ∧ B₁.slots = A₁.slots + 0) :=
  (law l x t V cd n f).pays htab hfr (by omega)
end Emp
end StrChars
namespace StrChars.Road
open Jvm Sem ClassFile Op Lib Jvm.Stand Jvm.Free Jvm.Free.XT
open Jvm.Lib.Cold (StaticIs)
/-- the words of String.isEmpty() -/
abbrev wordsEmp : List Jvm.Cond := [.code Emp.yN Emp.yB 1 (some .boolean), .initialized ST, .fieldLink ST 9 ST "value" "[B"]
theorem tabEmp_of {a : Array Value} {s : State} (h : ∀ w ∈ wordsEmp, w.before a s = true) : Emp.tab.before a s = true := unparts (wk h (.code Emp.yN Emp.yB 1 (some .boolean))) (wks h (.initialized Emp.yN.cls :: Emp.site))
theorem movedEmp {Z s : State} {a0 args : Array Value} (hZ : Z.Warmed39 s.vm) (hw : ∀ d ∈ wordsEmp, d.before a0 Z = true) : ∀ d ∈ wordsEmp, d.before args s = true := fun d hd => by
  have t : ∀ d ∈ wordsEmp, (d.onTables && d.keepsFace) = true := by decide +kernel
  exact RoadKit.mv hZ (hw d hd) (t d hd)
/-- the road's facts of a String, as the laws ask it -/
theorem txt_of {Z U : State} {a0 : Array Value} {kI : Nat} (wi : (Jvm.Cond.instantiable ST kI).before a0 Z = true) (al : Z.vm.Alike U.vm) {x t : Addr} {kb : ClassId} {cs : List Int32} {cd N2 : Int32} {vs : List Value} (E : RoadKit.Exa Z U.heap x ST) (V : RoadKit.Fld Z U.heap x ST "value" "[B" (.ref t)) (C : RoadKit.Fld Z U.heap x ST "coder" "B" (.int cd)) (K : RoadKit.Arv Z U.heap t kb .byte N2 vs (.int 0)) (hc : CodA cs cd N2 vs) (hb : ∀ c ∈ cs, ¬ c < 0 ∧ ¬ (65535 : Int32) < c) (l2 : cs.length ≤ 4000) :
    ∃ A, Txt x t A cd cs.length (fun j => cs.getD j 0) U := by
  obtain ⟨A, K1, K2, K3, K4, K5, K6⟩ := K
  have hcod := hc.cod (by omega) K3 K5
  obtain ⟨D, fV, fC, hB, F1, F2, g1, g2, -, -⟩ := strObj wi al E V C
  exact ⟨A, ⟨_, hB.2.2.1, D, hB.1, rfl, by cases q : D.vm <;> first | rfl | exact absurd q (hB.2.1.2 _)⟩, Has.of hB F1 g1, Has.of hB F2 g2, ⟨K1.1, State.isArrayOf_alike al K1.2.1, K1.2.2, by rcases hcod with ⟨-, q, -⟩ | ⟨-, q, -⟩ <;> omega⟩, hcod, fun j hj => by
    have e : cs.getD j 0 = cs[j] := by simp [List.getD_eq_getElem?_getD, hj]
    show ¬ cs.getD j 0 < 0 ∧ ¬ 65535 < cs.getD j 0
    rw [e]; exact hb _ (List.getElem_mem _)⟩
/-- **isEmpty() OF SUCH A STRING** -/
theorem empW {p : Program} {l : Launch} {e : Env} {R : Room} {s : State} {args : Array Value} {below : List Frame} {len W : Nat} {Z : State} {a0 : Array Value} {h : Heap} (hZ : Z.Warmed39 s.vm) (hw : ∀ d ∈ wordsEmp, d.before a0 Z = true) {kI : Nat} (wi : (Jvm.Cond.instantiable ST kI).before a0 Z = true)
    {x t : Addr} {kb : ClassId} {cs : List Int32} {cd N2 : Int32} {vs : List Value} (E : RoadKit.Exa Z h x ST) (V : RoadKit.Fld Z h x ST "value" "[B" (.ref t)) (C : RoadKit.Fld Z h x ST "coder" "B" (.int cd)) (K : RoadKit.Arv Z h t kb .byte N2 vs (.int 0)) (hc : CodA cs cd N2 vs) (hb : ∀ c ∈ cs, ¬ c < 0 ∧ ¬ (65535 : Int32) < c) (l2 : cs.length ≤ 4000) (hfr : 1 ≤ R.frames) (hlo : W + 12 ≤ R.locals) :
    Back l R p e below s args (⟨"java/lang/String", "isEmpty", "()Z"⟩ : MethodName) len W (fun P a => a = #[.ref x] ∧ P.U.heap = h ∧ P.cells + 0 ≤ R.cells ∧ P.slots + 0 ≤ R.slots)
      (fun P _ v B => ∃ L, (v = some (.int (if cs.length = 0 then 1 else 0)) ∧ L = [] ∧ B.U.heap = h) ∧ B.locs = P.locs ++ L ∧ B.cells = P.cells + 0 ∧ B.slots = P.slots + 0) := by
  intro m meth c P g ig mk a X hg hsize hdg hW hn hp'
  obtain ⟨rfl, rfl, r1, r2⟩ := hp'
  have al : Z.vm.Alike P.U.vm := hZ.alike.trans X.warmed.alike
  obtain ⟨A, hx⟩ := txt_of wi al E V C K hc hb l2
  obtain ⟨v, B, X', ⟨⟨hv, hh⟩, hl, hk, hs⟩, st⟩ := Emp.pays x t A cd cs.length (fun j => cs.getD j 0) (tabEmp_of (movedEmp hZ hw)) hfr hlo m meth c P g ig mk _ X hg hsize hdg hW hn ⟨r1, r2, rfl, hx⟩
  exact ⟨v, B, X', ⟨[], ⟨hv, rfl, hh⟩, hl, hk, hs⟩, st⟩
end StrChars.Road
namespace StrChars
open Jvm Sem ClassFile Op Lib Jvm.Stand Jvm.Free.XT Jvm.Free.ALB Jvm.Free.JM Jvm.Free
open Jvm.Lib.Cold (StaticIs)
namespace ChN
def yN : MethodName := ⟨"java/lang/String", "charAt", "(I)C"⟩
abbrev yB : ByteArray := jdk_42_method_56_code
theorem d0 : decode yB 0 = .ok (.aload_n 0, 1) := by decide +kernel
theorem d1 : decode yB 1 = .ok (.invokevirtual 492, 3) := by decide +kernel
theorem d4 : decode yB 4 = .ok (.ifCond (.eq) 12, 3) := by decide +kernel
theorem d7 : decode yB 7 = .ok (.aload_n 0, 1) := by decide +kernel
theorem d8 : decode yB 8 = .ok (.getfield 9, 3) := by decide +kernel
theorem d11 : decode yB 11 = .ok (.iload_n 1, 1) := by decide +kernel
theorem d12 : decode yB 12 = .ok (.invokestatic 495, 3) := by decide +kernel
theorem d15 : decode yB 15 = .ok (.ireturn, 1) := by decide +kernel
def site : List Cond := [.fieldLink "java/lang/String" 9 "java/lang/String" "value" "[B", IsL.tab, LChA.tab] ++ virtW "java/lang/String" 492 "java/lang/String" IsL.yN IsL.yN ++ staticW "java/lang/String" 495 LChA.yN
def tab : Cond := tabOf yN yB 2 (some .char) site
def P (x t : Addr) (V : Cell) (n : Nat) (f : Nat → Int32) (z : Int32) (fm : Value) (i : Nat) (args : Array Value) (s : State) : Prop := args = #[.ref x, .int (Int32.ofNat i)] ∧ Txt x t V 0 n f s ∧ i < n ∧ StaticIs s "java/lang/String" "COMPACT_STRINGS" "Z" (.int z) ∧ ¬ z = 0 ∧ StaticIs s "jdk/internal/util/Preconditions" "SIOOBE_FORMATTER" "Ljava/util/function/BiFunction;" fm ∧ fm.isRef = true
def E (f : Nat → Int32) (i : Nat) (r : Option Value) (s u : State) : Prop := XT.PureE (some (.int (f i))) r s u
/-- charAt(i) of a Latin-1 String of n chars, i < n: f i -/
theorem law (l : Launch) (x t : Addr) (V : Cell) (n : Nat) (f : Nat → Int32) (z : Int32) (fm : Value) (i : Nat) : Law l yN 2 1 3 40 yB 2 (some .char) site (P x t V n f z fm i) (E f i) [] 0 0 := by
  refine Law.of_walk (plainFor_of_name (by decide +kernel)) (by decide +kernel) (by decide +kernel) (by decide) (fun _ _ h => by rw [h.1]; rfl) (fun _ U U' hal hh h => ⟨h.1, h.2.1.mv hal hh, h.2.2.1, h.2.2.2.1.there hal hh, h.2.2.2.2.1, h.2.2.2.2.2.1.there hal hh, h.2.2.2.2.2.2⟩) (fun r U U' V V' h1 hal h2 h => XT.PureE.mv r U U' V V' h1 hal h2 h) ?_
  intro p e s m args below meth c s₁ X0 hexec hbytes hml hret hlk hnm hown hh0 W hP
  obtain ⟨rfl, hx, hi, s1, hz, s3, rf⟩ := hP
  have v31 := hx.2.2.2.1.2.2.2
  have hr := hx.2.2.2.2.2 i hi
  have hx0 := hx.mv X0.warmed.alike hh0
  have c1 : Steps p.tables e below (s₁.setTop (entryFrame m #[.ref x, .int (Int32.ofNat i)] 2)) (s₁.setTop (mkF m 1 #[.val (.ref x), .val (.int (Int32.ofNat i))] [.ref x])) := Steps.trans (entry rfl) (by
    show Steps p.tables e below (s₁.setTop (mkF m 0 #[.val (.ref x), .val (.int (Int32.ofNat i))] [])) _
    refine XS.aloadN X0.here hexec rfl (hb hbytes d0) rfl rfl ?_
    exact Steps.refl _)
  obtain ⟨v2, T2, X2, E2, g2⟩ := X0.callV hexec (IsL.law l x 0 z) hown (wks W (virtW "java/lang/String" 492 "java/lang/String" IsL.yN IsL.yN)) rfl (by decide) (wk W IsL.tab) (W := 0) (Nat.le_of_ble_eq_true rfl) (Nat.le_of_ble_eq_true rfl) (Nat.le_refl _) (Nat.le_refl _) (hx0.1.fc X0.warmed.alike) hx0.1.is (g := (mkF m 1 #[.val (.ref x), .val (.int (Int32.ofNat i))] [.ref x])) rfl (by rw [hml]; rfl) c1 (argsL := []) (rest := []) rfl rfl (by show 2 * 0 + 0 ≤ _; decide) (hb hbytes d1) (⟨rfl, hx0.2.2.1, hx.2.2.2.2.1.cd, s1.there X0.warmed.alike hh0, hz⟩)
  obtain ⟨rfl, q2⟩ := E2
  have hh2 := q2.trans hh0
  have hx2 := hx.mv X2.warmed.alike hh2
  obtain ⟨-, k1, k2⟩ | ⟨k0, -⟩ := hx.2.2.2.2.1
  · have c3 : Steps p.tables e below (s₁.setTop (entryFrame m #[.ref x, .int (Int32.ofNat i)] 2)) (T2.setTop (mkF m 8 #[.val (.ref x), .val (.int (Int32.ofNat i))] [.ref x])) := Steps.trans g2 (by
      refine XS.ifNo X2.here hexec rfl (hb hbytes d4) rfl (i0_eq_f (by decide)) ?_
      refine XS.aloadN X2.here hexec rfl (hb hbytes d7) rfl rfl ?_
      exact Steps.refl _)
    obtain ⟨T4, X4, q4, st4⟩ := X2.hget hexec hown (wk W (.fieldLink "java/lang/String" 9 "java/lang/String" "value" "[B")) hx2.2.1 (g := (mkF m 8 #[.val (.ref x), .val (.int (Int32.ofNat i))] [.ref x])) rfl (rest := []) rfl (hb hbytes d8)
    have hh4 := q4.trans hh2
    have c5 : Steps p.tables e below (s₁.setTop (entryFrame m #[.ref x, .int (Int32.ofNat i)] 2)) (T4.setTop (mkF m 12 #[.val (.ref x), .val (.int (Int32.ofNat i))] [.int (Int32.ofNat i), .ref t])) := (c3.trans (st4 _ (Steps.refl _))).trans (by
      refine XS.iloadN X4.here hexec rfl (hb hbytes d11) rfl ?_
      exact Steps.refl _)
    obtain ⟨v6, T6, X6, E6, g6⟩ := X4.callS hexec (LChA.law l t V i (lo8 (f i)) fm) hown (wks W (staticW "java/lang/String" 495 LChA.yN)) (wk W LChA.tab) (W := 0) (Nat.le_of_ble_eq_true rfl) (Nat.le_of_ble_eq_true rfl) (Nat.le_refl _) (Nat.le_refl _) (g := (mkF m 12 #[.val (.ref x), .val (.int (Int32.ofNat i))] [.int (Int32.ofNat i), .ref t])) rfl (by rw [hml]; rfl) c5 (argsL := [.ref t, .int (Int32.ofNat i)]) (rest := []) rfl rfl (by show 2 * 0 + 0 ≤ _; decide) (hb hbytes d12) (⟨rfl, hx.2.2.2.1.mv X4.warmed.alike hh4, (k2 i hi).1, s3.there X4.warmed.alike hh4, rf⟩)
    obtain ⟨rfl, q6⟩ := E6
    rw [chr8_lo8 hr.1 (k2 i hi).2] at g6
    exact ⟨T6, some (.int (f i)), _, _, _, X6, rfl, rfl, rfl, (fun h => by cases h), ⟨rfl, q6.trans hh4⟩, fun fs hl => Steps.trans g6 (X6.ireturnOut hexec hret (narrow_ch hr.1 hr.2) (Or.inr (Or.inr (Or.inr (Or.inl rfl)))) (hb hbytes d15) hl)⟩
  · exact absurd k0 (by decide)
theorem pays {l : Launch} {R : Room} {p : Program} {e : Env} {below : List Frame} {s : State} {sargs : Array Value} {len W : Nat} (x t : Addr) (V : Cell) (n : Nat) (f : Nat → Int32) (z : Int32) (fm : Value) (i : Nat) (htab : tab.before sargs s = true) (hfr : 4 ≤ R.frames) (hlo : W + 53 ≤ R.locals) :
    Back l R p e below s sargs yN len W (fun A₁ a₁ => A₁.cells + 0 ≤ R.cells ∧ A₁.slots + 0 ≤ R.slots ∧ P x t V n f z fm i a₁ A₁.U) (fun A₁ _ v₁ B₁ => E f i v₁ A₁.U B₁.U ∧ B₁.locs = A₁.locs ++ [] ∧ B₁.cells = A₁.cells + 0 ∧ B₁.slots = A₁.slots + 0) :=
  (law l x t V n f z fm i).pays htab hfr (by omega)
end ChN
end StrChars
namespace StrChars.Road
open Jvm Sem ClassFile Op Lib Jvm.Stand Jvm.Free Jvm.Free.XT
open Jvm.Lib.Cold (StaticIs)
/-- the words of String.charAt(int), the Latin-1 road alone -/
abbrev wordsChN : List Jvm.Cond := [.code ChN.yN ChN.yB 2 (some .char), .initialized ST, .fieldLink ST 9 ST "value" "[B", .fieldLink ST 38 ST "COMPACT_STRINGS" "Z", .fieldLink ST 15 ST "coder" "B", .code IsL.yN IsL.yB 1 (some .boolean), .methodLink ST 492 IsL.yN, .declares IsL.yN, .selects ST IsL.yN IsL.yN, .instanceMethod IsL.yN,
  .methodLink ST 495 LChA.yN, .static LChA.yN, .code LChA.yN LChA.yB 2 (some .char), .initialized "java/lang/StringLatin1", .methodLink "java/lang/StringLatin1" 9 JO.Str_checkIndex.yN, .static JO.Str_checkIndex.yN, .code JO.Str_checkIndex.yN JO.Str_checkIndex.yB 2 none,
  .fieldLink ST 1053 "jdk/internal/util/Preconditions" "SIOOBE_FORMATTER" "Ljava/util/function/BiFunction;", .methodLink ST 1059 JC.PreCheck.yN, .static JC.PreCheck.yN, .code JC.PreCheck.yN JC.PreCheck.yB 3 (some .int), .initialized "jdk/internal/util/Preconditions"]
theorem tabChN_of {a : Array Value} {s : State} (h : ∀ w ∈ wordsChN, w.before a s = true) : ChN.tab.before a s = true := by
  have hp : JC.PreCheck.tab.before a s = true := unparts (wk h (.code JC.PreCheck.yN JC.PreCheck.yB 3 (some .int))) (wks h (.initialized JC.PreCheck.yN.cls :: JC.PreCheck.site))
  have qk := consq hp h
  have hk : JO.Str_checkIndex.tab.before a s = true := unparts (wk qk (.code JO.Str_checkIndex.yN JO.Str_checkIndex.yB 2 none)) (wks qk (.initialized JO.Str_checkIndex.yN.cls :: JO.Str_checkIndex.site))
  have ql := consq hk h
  have hl : LChA.tab.before a s = true := unparts (wk ql (.code LChA.yN LChA.yB 2 (some .char))) (wks ql (.initialized LChA.yN.cls :: LChA.site))
  have hi : IsL.tab.before a s = true := unparts (wk h (.code IsL.yN IsL.yB 1 (some .boolean))) (wks h (.initialized IsL.yN.cls :: IsL.site))
  have q := consq hi (consq hl h)
  exact unparts (wk q (.code ChN.yN ChN.yB 2 (some .char))) (wks q (.initialized ChN.yN.cls :: ChN.site))
theorem movedChN {Z s : State} {a0 args : Array Value} (hZ : Z.Warmed39 s.vm) (hw : ∀ d ∈ wordsChN, d.before a0 Z = true) : ∀ d ∈ wordsChN, d.before args s = true := fun d hd => by
  have t : ∀ d ∈ wordsChN, (d.onTables && d.keepsFace) = true := by decide +kernel
  exact RoadKit.mv hZ (hw d hd) (t d hd)
/-- **charAt(i) OF A LATIN-1 STRING**, i < n: the char -/
theorem chN {p : Program} {l : Launch} {e : Env} {R : Room} {s : State} {args : Array Value} {below : List Frame} {len W : Nat} {Z : State} {a0 : Array Value} {h : Heap} (hZ : Z.Warmed39 s.vm) (hw : ∀ d ∈ wordsChN, d.before a0 Z = true) {kI : Nat} (wi : (Jvm.Cond.instantiable ST kI).before a0 Z = true)
    {x t : Addr} {kb : ClassId} {cs : List Int32} {N2 z : Int32} {vs : List Value} {fm : Value} {i : Nat} {j : Int32} (E : RoadKit.Exa Z h x ST) (V : RoadKit.Fld Z h x ST "value" "[B" (.ref t)) (C : RoadKit.Fld Z h x ST "coder" "B" (.int 0)) (K : RoadKit.Arv Z h t kb .byte N2 vs (.int 0)) (hc : CodA cs 0 N2 vs) (hb : ∀ c ∈ cs, ¬ c < 0 ∧ ¬ (65535 : Int32) < c)
    (S : RoadKit.Sta Z h ST "COMPACT_STRINGS" "Z" (.int z)) (hz : ¬ z = 0) (F : RoadKit.Sta Z h "jdk/internal/util/Preconditions" "SIOOBE_FORMATTER" "Ljava/util/function/BiFunction;" fm) (rf : fm.isRef = true) (l2 : cs.length ≤ 4000) (hi : i < cs.length) (hj : j = Int32.ofNat i) (hfr : 4 ≤ R.frames) (hlo : W + 53 ≤ R.locals) :
    Back l R p e below s args (⟨"java/lang/String", "charAt", "(I)C"⟩ : MethodName) len W (fun P a => a = #[.ref x, .int j] ∧ P.U.heap = h ∧ P.cells + 0 ≤ R.cells ∧ P.slots + 0 ≤ R.slots)
      (fun P _ v B => ∃ L, (v = some (.int (cs.getD i 0)) ∧ L = [] ∧ B.U.heap = h) ∧ B.locs = P.locs ++ L ∧ B.cells = P.cells + 0 ∧ B.slots = P.slots + 0) := by
  subst hj
  intro m meth c P g ig mk a X hg hsize hdg hW hn hp'
  obtain ⟨rfl, rfl, r1, r2⟩ := hp'
  have al : Z.vm.Alike P.U.vm := hZ.alike.trans X.warmed.alike
  obtain ⟨A, hx⟩ := txt_of wi al E V C K hc hb l2
  obtain ⟨v, B, X', ⟨⟨hv, hh⟩, hl, hk, hs⟩, st⟩ := ChN.pays x t A cs.length (fun j => cs.getD j 0) z fm i (tabChN_of (movedChN hZ hw)) hfr hlo m meth c P g ig mk _ X hg hsize hdg hW hn ⟨r1, r2, rfl, hx, hi, sta_is al S, hz, sta_is al F, rf⟩
  exact ⟨v, B, X', ⟨[], ⟨hv, rfl, hh⟩, hl, hk, hs⟩, st⟩
/-- what backV says of its String, as the contracts of this text ask it: cs's low bytes, coder 0 -/
theorem codOf {cs : List Int32} {n : Nat} (hn : cs.length = n) (hb : ∀ c ∈ cs, ¬ 255 < c) : CodA cs 0 (Int32.ofNat n) ((cs.map lo8).map Value.int) := Or.inl ⟨rfl, by rw [hn], by simp [List.map_map, Function.comp_def], hb⟩
end StrChars.Road
end Jvm.Pilot.@@N@@
namespace Jvm.Pilot.@@N@@
open Jvm Jvm.ClassFile Sem Op Lib Jvm.Free Jvm.Stand Jvm.LawKit Jvm.RoadKit Bundle Jvm.Pilot.@@N@@.Jvm.D
/-! the walk, forward: own_G: from here the run comes to an end that meets P -/
def own_G (tb : Tables) (e : Env) (below : List Frame) (P : Outcome → State → Prop) (a : State) : Prop := ∃ s₂ o, Steps tb e below a s₂ ∧ s₂.status = .running ∧ Ended s₂ below o ∧ P o s₂
def own_c (x : Int32) : Int32 := x.toUInt32.toUInt16.toUInt32.toInt32
section OwnKit
variable {tb : Tables} {p : Program} {l : Launch} {e : Env} {R : Room} {s : State} {m : MethodId} {args : Array Value} {below : List Frame} {meth : Method} {c : Code} {T : State} {locs : List Loc} {cells slots : Nat} {P : Outcome → State → Prop} {a b : State} {h : Heap} {Z : State} {a0 : Array Value}
theorem own_w {d : Jvm.Cond} (hw : ∀ d ∈ tables_1, d.before a0 Z = true) (k : Nat) (h : tables_1[k]? = some d) : d.before a0 Z = true := hw _ (List.mem_of_getElem? h)
theorem own_G.go (h : ∀ t, Steps tb e below b t → Steps tb e below a t) (k : own_G tb e below P b) : own_G tb e below P a := by
  obtain ⟨s₂, o, h1, h2⟩ := k
  exact ⟨s₂, o, h _ h1, h2⟩
theorem own_G.via (h : Steps tb e below a b) (k : own_G tb e below P b) : own_G tb e below P a := own_G.go (fun _ q => h.trans q) k
theorem own_G.cast {g g' : JFrame} (q : g = g') (k : own_G tb e below P (T.setTop g')) : own_G tb e below P (T.setTop g) := q ▸ k
theorem own_G.end_ (X : Stand p l e R s m args below meth c T locs cells slots) (hlk : meth.locks = false) {v : Option Value} (hv : meth.sig.returnType = none → v = none)
    (st : ∀ fs, (∀ (f : JFrame) (acts : List Action), f.method = m → f.locked = none → f.entered = [] → (doReturn e (T.setTop f) acts v).1 = T.setFrames fs) → Steps p.tables e below a (T.setFrames fs))
    {Q : Option Value → Heap → List Loc → Prop} {rc rs : Nat} (eT : T.heap = h) (hQ : Q v h locs) (hc : cells ≤ rc) (hs : slots ≤ rs) :
    own_G p.tables e below (fun o t => ∃ v L, o = .returned v ∧ Q v t.heap L ∧ FrameEnd s o t L rc rs) a := by
  obtain ⟨fs, hr, hrun, hended, hW, hsame⟩ := X.leave hv
  subst eT
  exact ⟨_, _, st fs hr, hrun, hended, _, _, rfl, hQ, ⟨_, rfl⟩, hW, hsame.mono hc hs⟩
/-! calls by a payer of backOf's shape -/
theorem own_callS (X : Stand p l e R s m args below meth c T locs cells slots) (hx : p.tables.exec = Jvm.exec) {own : String} {index : Nat} {y : MethodName} {bytes : ByteArray} {maxL : Nat} {ret : Option FieldType}
    (hown : s.vm.findClass own = some m.cls) (hlink : (Jvm.Cond.methodLink own index y).before args s = true) (hstat : (Jvm.Cond.static y).before args s = true) (hinit : (Jvm.Cond.initialized y.cls).before args s = true) (hcode : (Jvm.Cond.code y bytes maxL ret).before args s = true)
    (hy : y.cls ≠ "java/lang/invoke/MethodHandle" ∧ y.cls ≠ "java/lang/invoke/VarHandle") {W rc rs : Nat} {as' : Array Value} {Q : Option Value → Heap → List Loc → Prop}
    (hK : Back l R p e below s args y 3 W (fun A a => a = as' ∧ A.U.heap = h ∧ A.cells + rc ≤ R.cells ∧ A.slots + rs ≤ R.slots) (fun A _ v B => ∃ L, Q v B.U.heap L ∧ B.locs = A.locs ++ L ∧ B.cells = A.cells + rc ∧ B.slots = A.slots + rs))
    {g : JFrame} (hg : g.method = m) (hsize : g.locals.size = c.maxLocals) {argsL rest : List Value} (hlen : ∀ sig, parseMethodDescriptor y.desc = some sig → argsL.length = sig.parameters.length)
    (hstack : g.stack = argsL.reverse ++ rest) (hW : 2 * g.monitorRoom + (rest.map fun v => v.category).sum ≤ W) (hdg : decode c.code g.pc = .ok (.invokestatic index, 3))
    (eT : T.heap = h) (has : argsL.toArray = as') (hc : cells + rc ≤ R.cells) (hs : slots + rs ≤ R.slots) :
    ∃ (v : Option Value) (T' : State) (L : List Loc), Q v T'.heap L ∧ Stand p l e R s m args below meth c T' (locs ++ L) (cells + rc) (slots + rs) ∧ Steps p.tables e below (T.setTop g) (T'.setTop { g with pc := g.pc + 3, stack := v.toList ++ rest }) := by
  obtain ⟨v, vm₁, ⟨T', L', k', n'⟩, -, X', ⟨L, hQ, l1, l2, l3⟩, st⟩ := Jvm.LawKit.callS X hx hown hlink hstat hinit hcode hy hK hg hsize hlen hstack hW hdg (fun _ _ => ⟨has, eT, hc, hs⟩)
  dsimp only [Pt.U, Pt.locs, Pt.cells, Pt.slots] at X' l1 l2 l3 st hQ
  subst l1 l2 l3
  exact ⟨v, T', L, hQ, X', st _ (Steps.refl _)⟩
theorem own_callI (X : Stand p l e R s m args below meth c T locs cells slots) (hx : p.tables.exec = Jvm.exec) {own : String} {index : Nat} {y : MethodName} (hy1 : y.name = "<init>") {bytes : ByteArray} {maxL : Nat}
    (hown : s.vm.findClass own = some m.cls) (hlink : (Jvm.Cond.methodLink own index y).before args s = true) (hinst : (Jvm.Cond.instanceMethod y).before args s = true) (hcode : (Jvm.Cond.code y bytes maxL none).before args s = true)
    (hy : y.cls ≠ "java/lang/invoke/MethodHandle" ∧ y.cls ≠ "java/lang/invoke/VarHandle") {W rc rs : Nat} {as' : Array Value} {Q : Option Value → Heap → List Loc → Prop}
    (hK : Back l R p e below s args y 3 W (fun A a => a = as' ∧ A.U.heap = h ∧ A.cells + rc ≤ R.cells ∧ A.slots + rs ≤ R.slots) (fun A _ v B => ∃ L, Q v B.U.heap L ∧ B.locs = A.locs ++ L ∧ B.cells = A.cells + rc ∧ B.slots = A.slots + rs))
    {a : Addr} {g : JFrame} (hg : g.method = m) (hsize : g.locals.size = c.maxLocals) {argsL rest : List Value} (hlen : ∀ sig, parseMethodDescriptor y.desc = some sig → argsL.length = sig.parameters.length)
    (hstack : g.stack = argsL.reverse ++ .ref a :: rest) (hW : 2 * g.monitorRoom + (rest.map fun v => v.category).sum ≤ W) (hdg : decode c.code g.pc = .ok (.invokespecial index, 3))
    (eT : T.heap = h) (has : (.ref a :: argsL).toArray = as') (hc : cells + rc ≤ R.cells) (hs : slots + rs ≤ R.slots) :
    ∃ (v : Option Value) (T' : State) (L : List Loc), Q v T'.heap L ∧ Stand p l e R s m args below meth c T' (locs ++ L) (cells + rc) (slots + rs) ∧ Steps p.tables e below (T.setTop g) (T'.setTop { g with pc := g.pc + 3, stack := v.toList ++ rest }) := by
  obtain ⟨v, vm₁, ⟨T', L', k', n'⟩, -, X', ⟨L, hQ, l1, l2, l3⟩, st⟩ := X.specialBack hx hy1 hown hlink hinst hcode hy hK hg hsize (Steps.refl _) hlen hstack hW hdg (fun _ _ => ⟨has, eT, hc, hs⟩)
  dsimp only [Pt.U, Pt.locs, Pt.cells, Pt.slots] at X' l1 l2 l3 st hQ
  subst l1 l2 l3
  exact ⟨v, T', L, hQ, X', st⟩
theorem own_callV (X : Stand p l e R s m args below meth c T locs cells slots) (hx : p.tables.exec = Jvm.exec) {own C : String} {index : Nat} {y z : MethodName}
    (hown : s.vm.findClass own = some m.cls) (hlink : (Jvm.Cond.methodLink own index y).before args s = true) (hdecl : (Jvm.Cond.declares y).before args s = true) (hnf : NotFace s y)
    (hsel : (Jvm.Cond.selects C y z).before args s = true) (hinst : (Jvm.Cond.instanceMethod z).before args s = true)
    (hy : y.cls ≠ "java/lang/invoke/MethodHandle" ∧ y.cls ≠ "java/lang/invoke/VarHandle") {W rc rs : Nat} {as' : Array Value} {Q : Option Value → Heap → List Loc → Prop}
    (hK : Back l R p e below s args z 3 W (fun A a => a = as' ∧ A.U.heap = h ∧ A.cells + rc ≤ R.cells ∧ A.slots + rs ≤ R.slots) (fun A _ v B => ∃ L, Q v B.U.heap L ∧ B.locs = A.locs ++ L ∧ B.cells = A.cells + rc ∧ B.slots = A.slots + rs))
    {b : Addr} {cB : ClassId} (hcB : s.vm.findClass C = some cB) (hrecv : IsOf cB T b)
    {g : JFrame} (hg : g.method = m) (hsize : g.locals.size = c.maxLocals) {argsL rest : List Value} (hlen : ∀ sig, parseMethodDescriptor y.desc = some sig → argsL.length = sig.parameters.length)
    (hstack : g.stack = argsL.reverse ++ .ref b :: rest) (hW : 2 * g.monitorRoom + (rest.map fun v => v.category).sum ≤ W) (hdg : decode c.code g.pc = .ok (.invokevirtual index, 3))
    (eT : T.heap = h) (has : (.ref b :: argsL).toArray = as') (hc : cells + rc ≤ R.cells) (hs : slots + rs ≤ R.slots) :
    ∃ (v : Option Value) (T' : State) (L : List Loc), Q v T'.heap L ∧ Stand p l e R s m args below meth c T' (locs ++ L) (cells + rc) (slots + rs) ∧ Steps p.tables e below (T.setTop g) (T'.setTop { g with pc := g.pc + 3, stack := v.toList ++ rest }) := by
  obtain ⟨v, vm₁, ⟨T', L', k', n'⟩, -, X', ⟨L, hQ, l1, l2, l3⟩, st⟩ := X.virtualBack hx hown hlink hdecl hnf hsel hinst hy hK hcB hrecv hg hsize (Steps.refl _) hlen hstack hW hdg (fun _ _ => ⟨has, eT, hc, hs⟩)
  dsimp only [Pt.U, Pt.locs, Pt.cells, Pt.slots] at X' l1 l2 l3 st hQ
  subst l1 l2 l3
  exact ⟨v, T', L, hQ, X', st⟩
/-! stores into an array whose values are known -/
theorem own_stC {k : ClassId} {n : Int32} {vs : List Value} {d : Value} {a : Addr} (X : Stand p l e R s m args below meth c T locs cells slots) (hx : p.tables.exec = Jvm.exec) (hZ : Z.Warmed39 s.vm) (eT : T.heap = h) (V : Arv Z h a k .char n vs d) {j x : Int32} (i : Nat) (hi : i < vs.length) (hji : j.toNatClampNeg = i) (hj : ¬ j < 0 ∧ j < n)
    {g : JFrame} (hg : g.method = m) {rest : List Value} (hs : g.stack = .int x :: .int j :: .ref a :: rest) (hd : decode c.code g.pc = .ok (.castore, 1)) :
    ∃ T' h', Stand p l e R s m args below meth c T' (locs ++ [⟨a, j.toNatClampNeg⟩]) cells slots ∧ T'.heap = h' ∧ Wr h h' a j.toNatClampNeg (.int (nar .char x)) ∧ Arv Z h' a k .char n (vs.set i (.int (nar .char x))) d ∧ ∀ target, Steps p.tables e below (T'.setTop { g with pc := g.pc + 1, stack := rest }) target → Steps p.tables e below (T.setTop g) target := by
  obtain ⟨cl, A, q, S, M, H, U⟩ := V
  obtain ⟨T', h', X', e', W', st⟩ := stC X hx hZ eT A (j := j) (inb_of S hj) hg hs hd
  exact ⟨T', h', X', e', W', Arv.set A q S M H U (fits_nar_char _) W' i hji hi, st⟩
theorem own_stB {k : ClassId} {n : Int32} {vs : List Value} {d : Value} {a : Addr} (X : Stand p l e R s m args below meth c T locs cells slots) (hx : p.tables.exec = Jvm.exec) (hZ : Z.Warmed39 s.vm) (eT : T.heap = h) (V : Arv Z h a k .byte n vs d) {j x : Int32} (i : Nat) (hi : i < vs.length) (hji : j.toNatClampNeg = i) (hj : ¬ j < 0 ∧ j < n)
    {g : JFrame} (hg : g.method = m) {rest : List Value} (hs : g.stack = .int x :: .int j :: .ref a :: rest) (hd : decode c.code g.pc = .ok (.bastore, 1)) :
    ∃ T' h', Stand p l e R s m args below meth c T' (locs ++ [⟨a, j.toNatClampNeg⟩]) cells slots ∧ T'.heap = h' ∧ Wr h h' a j.toNatClampNeg (.int (nar .byte x)) ∧ Arv Z h' a k .byte n (vs.set i (.int (nar .byte x))) d ∧ ∀ target, Steps p.tables e below (T'.setTop { g with pc := g.pc + 1, stack := rest }) target → Steps p.tables e below (T.setTop g) target := by
  obtain ⟨cl, A, q, S, M, H, U⟩ := V
  obtain ⟨T', h', X', e', W', st⟩ := stB X hx hZ eT A (j := j) (inb_of S hj) hg hs hd
  exact ⟨T', h', X', e', W', Arv.set A q S M H U (fits_nar_byte _) W' i hji hi, st⟩
theorem own_stI {k : ClassId} {n : Int32} {vs : List Value} {d : Value} {a : Addr} (X : Stand p l e R s m args below meth c T locs cells slots) (hx : p.tables.exec = Jvm.exec) (hZ : Z.Warmed39 s.vm) (eT : T.heap = h) (V : Arv Z h a k .int n vs d) {j x : Int32} (i : Nat) (hi : i < vs.length) (hji : j.toNatClampNeg = i) (hj : ¬ j < 0 ∧ j < n)
    {g : JFrame} (hg : g.method = m) {rest : List Value} (hs : g.stack = .int x :: .int j :: .ref a :: rest) (hd : decode c.code g.pc = .ok (.iastore, 1)) :
    ∃ T' h', Stand p l e R s m args below meth c T' (locs ++ [⟨a, j.toNatClampNeg⟩]) cells slots ∧ T'.heap = h' ∧ Wr h h' a j.toNatClampNeg (.int x) ∧ Arv Z h' a k .int n (vs.set i (.int x)) d ∧ ∀ target, Steps p.tables e below (T'.setTop { g with pc := g.pc + 1, stack := rest }) target → Steps p.tables e below (T.setTop g) target := by
  obtain ⟨cl, A, q, S, M, H, U⟩ := V
  obtain ⟨T', h', X', e', W', st⟩ := stI X hx hZ eT A (j := j) (inb_of S hj) hg hs hd
  exact ⟨T', h', X', e', W', Arv.set A q S M H U rfl W' i hji hi, st⟩
end OwnKit
/-! entries that are resolved already (fieldRef, methodRef), calls by a private or a super method of an abstract class -/
section OwnKitR
variable {p : Program} {l : Launch} {e : Env} {R : Room} {s : State} {m : MethodId} {args : Array Value} {below : List Frame} {meth : Method} {c : Code} {T : State} {locs : List Loc} {cells slots : Nat} {h : Heap} {Z : State} {a0 : Array Value}
theorem own_ready (X : Stand p l e R s m args below meth c T locs cells slots) (hZ : Z.Warmed39 s.vm) {own O n d : String} {index : Nat} (hown : s.vm.findClass own = some m.cls) (w : (Jvm.Cond.fieldRef own index O n d).before a0 Z = true) {cf i : Nat} {k : Class} {f : Field} (h2 : Z.fieldFound? O n d = some (cf, k, i, f)) : T.vm.fieldReady m.cls index cf f := by
  have hT : Z.Warmed39 T.vm := wtrans hZ X.warmed
  have w' := Cond.fieldRef_warmed39 hT w
  obtain ⟨cf', k', i', f', q1, q2⟩ := Cond.fieldRef_spec (s := Z.setVm T.vm) (cur := m.cls) (by show T.vm.findClass own = some m.cls; rw [X.warmed.alike.findClass]; exact hown) w'
  obtain ⟨k2, hi, -⟩ := State.fieldFound?_setVm (s := Z) hT.alike h2
  cases hi.symm.trans q1
  exact q2
theorem own_getFR (X : Stand p l e R s m args below meth c T locs cells slots) (hx : p.tables.exec = Jvm.exec) (hZ : Z.Warmed39 s.vm) {own O n d : String} {index : Nat} (hown : s.vm.findClass own = some m.cls) (w : (Jvm.Cond.fieldRef own index O n d).before a0 Z = true)
    (eT : T.heap = h) {a : Addr} {v : Value} (F : Fld Z h a O n d v) {g : JFrame} (hg : g.method = m) {rest : List Value} (hs : g.stack = .ref a :: rest) (hd : decode c.code g.pc = .ok (.getfield index, 3)) : ∃ T', Stand p l e R s m args below meth c T' locs cells slots ∧ T'.heap = h ∧ ∀ target, Steps p.tables e below (T'.setTop { g with pc := g.pc + 3, stack := v :: rest }) target → Steps p.tables e below (T.setTop g) target := by
  obtain ⟨cell, cf, k, i, f, h1, h2, h3, h4, -, -, h7⟩ := F
  have hr := own_ready X hZ hown w h2
  refine ⟨T, X, eT, fun target hrest => ?_⟩
  subst hg
  subst eT
  jvm_step X.here [hx, hd, getfield.wp_ready (e := e) (s := T) (f := g) X.here.top hr h3 hs h1 h4 h7]
  exact hrest
theorem own_putFR (X : Stand p l e R s m args below meth c T locs cells slots) (hx : p.tables.exec = Jvm.exec) (hZ : Z.Warmed39 s.vm) {own O n d C : String} {index kk : Nat} {ty : FieldType} (hown : s.vm.findClass own = some m.cls) (w : (Jvm.Cond.fieldRef own index O n d).before a0 Z = true)
    (eT : T.heap = h) {a : Addr} {v old : Value} (F : Fld Z h a O n d old) (E : Exa Z h a C) (L : (Jvm.Cond.lays C O n d).before a0 Z = true) (wi : (Jvm.Cond.instantiable C kk).before a0 Z = true)
    (hty : parseFieldDescriptor d = some ty) (hn : narrow ty v = v) (hf : fits ty v = true) {g : JFrame} (hg : g.method = m) {rest : List Value} (hs : g.stack = v :: .ref a :: rest) (hd : decode c.code g.pc = .ok (.putfield index, 3)) :
    ∃ T' h', Stand p l e R s m args below meth c T' (locs ++ [⟨a, Jvm.RoadKit.slotOf Z O n d⟩]) cells slots ∧ T'.heap = h' ∧ Wr h h' a (Jvm.RoadKit.slotOf Z O n d) v ∧ ∀ target, Steps p.tables e below (T'.setTop { g with pc := g.pc + 3, stack := rest }) target → Steps p.tables e below (T.setTop g) target := by
  obtain ⟨cell, cf, k, i, f, h1, h2, h3, h4, h5, -, h7⟩ := F
  obtain ⟨cell', kc, e1, e2, e3, -⟩ := E
  cases h1.symm.trans e1
  obtain ⟨c1, k1, cf1, kf1, i1, f1, a1, a2, a3, -, -, a6, -⟩ := Laid.spec (Or.inl L)
  cases h2.symm.trans a3
  cases e2.symm.trans a1
  obtain ⟨c2, k2, i1, i2, i3, -⟩ := Cond.instantiable_spec wi
  cases e2.symm.trans i1
  cases a2.symm.trans i2
  have ht := (State.fieldFound?_type h2 hty).2
  have hfit : Z.fitsSlot cell.cls cell.vm f.slot v = true := by
    have q : Z.slotType? cell.cls cell.vm f.slot = some ty := by
      simp only [State.slotType?, a2, Option.bind_eq_bind, Option.bind_some, i3]
      cases hq : cell.vm <;> first | (rw [hq] at h5; exact Bool.noConfusion h5) | (rw [a6, ht])
    simp [State.fitsSlot, q, hf]
  have hT : Z.Warmed39 T.vm := wtrans hZ X.warmed
  have hfit' : T.fitsSlot cell.cls cell.vm f.slot v = true := by rw [← State.fitsSlot_setVm hT.alike] at hfit; exact hfit
  have hfin : hasFlag f.accessFlags Acc.final = false := by
    obtain ⟨_, _, _, _, _, _, -, -, b3, -, b5, -⟩ := Cond.lays_spec L
    cases h2.symm.trans b3
    exact b5
  have hr := own_ready X hZ hown w h2
  have hlt := (Array.getElem?_eq_some_iff.mp h7).1
  have es : Jvm.RoadKit.slotOf Z O n d = f.slot := by simp [Jvm.RoadKit.slotOf, h2]
  rw [es]
  subst eT
  obtain ⟨X', st⟩ := X.putfieldReady hx hr h3 (Or.inl hfin) (a := a) (cell := cell) (v := v) h1 h4 hlt (by rw [ht]; exact hn) hfit' hg hs hd
  exact ⟨_, _, X', rfl, ⟨cell, h1, h5, hlt, rfl⟩, st⟩
theorem own_callPR (X : Stand p l e R s m args below meth c T locs cells slots) (hx : p.tables.exec = Jvm.exec) (hZ : Z.Warmed39 s.vm) {own : String} {index nI : Nat} {y : MethodName} {bytes : ByteArray} {maxL : Nat} {ret : Option FieldType}
    (hown : s.vm.findClass own = some m.cls) (w : (Jvm.Cond.methodRef own index y).before a0 Z = true) (hinst : (Jvm.Cond.instanceMethod y).before a0 Z = true) (hpriv : (Jvm.Cond.privateMethod y).before a0 Z = true) (hmake : (Jvm.Cond.instantiable y.cls nI).before a0 Z = true) (hcode : (Jvm.Cond.code y bytes maxL ret).before a0 Z = true)
    (hy : y.cls ≠ "java/lang/invoke/MethodHandle" ∧ y.cls ≠ "java/lang/invoke/VarHandle") {W rc rs : Nat} {as' : Array Value} {Q : Option Value → Heap → List Loc → Prop}
    (hK : Back l R p e below s args y 3 W (fun A a => a = as' ∧ A.U.heap = h ∧ A.cells + rc ≤ R.cells ∧ A.slots + rs ≤ R.slots) (fun A _ v B => ∃ L, Q v B.U.heap L ∧ B.locs = A.locs ++ L ∧ B.cells = A.cells + rc ∧ B.slots = A.slots + rs))
    {C : String} {a : Addr} (E : Exa Z h a C) {g : JFrame} (hg : g.method = m) (hsize : g.locals.size = c.maxLocals) {argsL rest : List Value} (hlen : ∀ sig, parseMethodDescriptor y.desc = some sig → argsL.length = sig.parameters.length)
    (hstack : g.stack = argsL.reverse ++ .ref a :: rest) (hW : 2 * g.monitorRoom + (rest.map fun v => v.category).sum ≤ W) (hdg : decode c.code g.pc = .ok (.invokevirtual index, 3))
    (eT : T.heap = h) (has : (.ref a :: argsL).toArray = as') (hc : cells + rc ≤ R.cells) (hs : slots + rs ≤ R.slots) :
    ∃ (v : Option Value) (T' : State) (L : List Loc), Q v T'.heap L ∧ Stand p l e R s m args below meth c T' (locs ++ L) (cells + rc) (slots + rs) ∧ Steps p.tables e below (T.setTop g) (T'.setTop { g with pc := g.pc + 3, stack := v.toList ++ rest }) := by
  have hT : Z.Warmed39 T.vm := wtrans hZ X.warmed
  subst eT
  obtain ⟨cell, hcell, hobj⟩ := E.cell
  obtain ⟨mk0, mM0, hnamed0, -⟩ := Cond.instanceMethod_spec hinst
  obtain ⟨mk, mM, hnamed, hM, hstM, habM⟩ := Cond.instanceMethod_spec (mvT (args := args) (s := T) hT hinst)
  obtain ⟨mM', cM, hM', -, -, -, -, -, -, hsig⟩ := Cond.code_spec hnamed (mvT (args := args) (s := T) hT hcode)
  cases hM.symm.trans hM'
  obtain ⟨kc, kP, hf, hkP, -, hni, -⟩ := Cond.instantiable_spec (mvT (args := args) (s := T) hT hmake)
  cases (findClass_of_methodNamed hnamed).symm.trans hf
  have hi : kP.isInterface = false := by
    cases hq : kP.isInterface with
    | false => rfl
    | true => rw [hq] at hni; simp at hni
  obtain ⟨kx, hkx, hnx⟩ := className_of_methodNamed hnamed
  cases hkP.symm.trans hkx
  have hpoly : signaturePolymorphic kP mM = false := by simp [signaturePolymorphic, hnx, hy.1, hy.2]
  have hsel : selectMethod e.platform T.vm cell.cls mk = .method mk := selectMethod_private hM (Cond.privateMethod_at (mvP (args := args) (s := T) hT hpriv) mk mM hnamed hM)
  have w' := Cond.methodRef_warmed39 hT hnamed0 hy w
  obtain ⟨m1, c1, f1, r1, fc, nr⟩ := Cond.methodRef_named e (s := Z.setVm T.vm) (cur := m.cls) (by show T.vm.findClass own = some m.cls; rw [X.warmed.alike.findClass]; exact hown) w'
  have f2 := State.methodFound?_of_named (s := Z.setVm T.vm) (show (Z.setVm T.vm).methodNamed? y = some mk from hnamed) hy
  cases f2.symm.trans f1
  cases (show T.vm.findClass y.cls = some c1 from fc).symm.trans (findClass_of_methodNamed hnamed)
  have st₁ : ∀ target, (∀ acts, Steps p.tables e below (doInvoke e (T.setTop { g with stack := rest }) acts mk (.ref a :: argsL).toArray).1 target) → Steps p.tables e below (T.setTop g) target := fun target hrest => by
    subst hg
    jvm_step X.here [hx, hdg, invokevirtual.wp_named (e := e) (s := T) (f := g) (r := mk) (m := mk) (c' := mk.cls) (k := kP) (k' := kP) (mk := kP) (rmeth := mM) (meth := mM) (a := a) (args := argsL) (rest := rest) (cell := cell)
      X.here.top nr hkP hi r1 hkP hM hpoly hstM (hlen _ hsig) hstack hcell hobj hsel hM habM hkP hi]
    exact hrest
  obtain ⟨v, ⟨T', L', k', n'⟩, X', ⟨L, hQ, l1, l2, l3⟩, st⟩ := hK m meth c ⟨T, locs, cells, slots⟩ { g with stack := rest } (.invokevirtual index) mk (.ref a :: argsL).toArray X hg hsize hdg hW hnamed ⟨has, rfl, hc, hs⟩
  dsimp only [Pt.U, Pt.locs, Pt.cells, Pt.slots] at X' l1 l2 l3 st hQ
  subst l1 l2 l3
  exact ⟨v, T', L, hQ, X', (st₁ _ fun acts => by rw [doInvoke_state]; exact Steps.refl _).trans st⟩
/-- a private method that a word 'selects' names for some class -/
theorem own_callPS (X : Stand p l e R s m args below meth c T locs cells slots) (hx : p.tables.exec = Jvm.exec) {own C0 : String} {index : Nat} {y : MethodName} {bytes : ByteArray} {maxL : Nat} {ret : Option FieldType}
    (hown : s.vm.findClass own = some m.cls) (hlink : (Jvm.Cond.methodLink own index y).before args s = true) (hinst : (Jvm.Cond.instanceMethod y).before args s = true) (hpriv : (Jvm.Cond.privateMethod y).before args s = true) (hsl : (Jvm.Cond.selects C0 y y).before args s = true) (hcode : (Jvm.Cond.code y bytes maxL ret).before args s = true)
    (hy : y.cls ≠ "java/lang/invoke/MethodHandle" ∧ y.cls ≠ "java/lang/invoke/VarHandle") {W rc rs : Nat} {as' : Array Value} {Q : Option Value → Heap → List Loc → Prop}
    (hK : Back l R p e below s args y 3 W (fun A a => a = as' ∧ A.U.heap = h ∧ A.cells + rc ≤ R.cells ∧ A.slots + rs ≤ R.slots) (fun A _ v B => ∃ L, Q v B.U.heap L ∧ B.locs = A.locs ++ L ∧ B.cells = A.cells + rc ∧ B.slots = A.slots + rs))
    {C : String} {a : Addr} (E : Exa Z h a C) {g : JFrame} (hg : g.method = m) (hsize : g.locals.size = c.maxLocals) {argsL rest : List Value} (hlen : ∀ sig, parseMethodDescriptor y.desc = some sig → argsL.length = sig.parameters.length)
    (hstack : g.stack = argsL.reverse ++ .ref a :: rest) (hW : 2 * g.monitorRoom + (rest.map fun v => v.category).sum ≤ W) (hdg : decode c.code g.pc = .ok (.invokevirtual index, 3))
    (eT : T.heap = h) (has : (.ref a :: argsL).toArray = as') (hc : cells + rc ≤ R.cells) (hs : slots + rs ≤ R.slots) :
    ∃ (v : Option Value) (T' : State) (L : List Loc), Q v T'.heap L ∧ Stand p l e R s m args below meth c T' (locs ++ L) (cells + rc) (slots + rs) ∧ Steps p.tables e below (T.setTop g) (T'.setTop { g with pc := g.pc + 3, stack := v.toList ++ rest }) := by
  subst eT
  obtain ⟨cell, hcell, hobj⟩ := E.cell
  obtain ⟨mk, mM, hnamed, hM, hstM, habM⟩ := Cond.instanceMethod_spec hinst
  obtain ⟨mM', cM, hM', -, -, -, -, -, -, hsig⟩ := Cond.code_spec hnamed hcode
  cases hM.symm.trans hM'
  obtain ⟨kP, hkP, hi⟩ := notFace_of_selects hsl mk hnamed
  have hsel : selectMethod e.platform s.vm cell.cls mk = .method mk := selectMethod_private hM (Cond.privateMethod_at hpriv mk mM hnamed hM)
  obtain ⟨vm₁, X₁, st₁⟩ := X.invokevirtual hx hown hlink hnamed hM hstM hkP hi hy (a := a) (cell := cell) hcell hobj hsel hM habM hkP hi (g := g) hg (argsL := argsL) (rest := rest) (hlen _ hsig) hstack hdg
  obtain ⟨v, ⟨T', L', k', n'⟩, X', ⟨L, hQ, l1, l2, l3⟩, st⟩ := hK m meth c ⟨T.setVm vm₁, locs, cells, slots⟩ { g with stack := rest } (.invokevirtual index) mk (.ref a :: argsL).toArray X₁ hg hsize hdg hW (X₁.named hnamed) ⟨has, rfl, hc, hs⟩
  dsimp only [Pt.U, Pt.locs, Pt.cells, Pt.slots] at X' l1 l2 l3 st hQ
  subst l1 l2 l3
  exact ⟨v, T', L, hQ, X', (st₁ _ fun acts => by rw [doInvoke_state]; exact Steps.refl _).trans st⟩
theorem own_sameM {y : MethodName} {C : String} (w3 : (Jvm.Cond.instanceMethod y).before a0 Z = true) (w4 : (Jvm.Cond.superclass C y.cls).before a0 Z = true) (wf : NotFace Z y) (hy : y.cls ≠ "java/lang/invoke/MethodHandle" ∧ y.cls ≠ "java/lang/invoke/VarHandle") : (Jvm.Cond.sameMethod y.cls y.cls y.name y.desc).before a0 Z = true := by
  obtain ⟨mk, mM, hnamed, -⟩ := Cond.instanceMethod_spec w3
  obtain ⟨kP, hkP, hi⟩ := wf mk hnamed
  have f := State.methodFound?_of_named hnamed hy
  have hc := findClass_of_methodNamed hnamed
  have hn' : Z.methodNamed? ⟨y.cls, y.name, y.desc⟩ = some mk := hnamed
  simp [Cond.before, Cond.holds, Cond.value, hc, f, hn', hkP, hi]
theorem own_callU (X : Stand p l e R s m args below meth c T locs cells slots) (hx : p.tables.exec = Jvm.exec) (hZ : Z.Warmed39 s.vm) {own K C0 : String} {index : Nat} {y : MethodName} {bytes : ByteArray} {maxL : Nat} {ret : Option FieldType}
    (hown : s.vm.findClass own = some m.cls) (w1 : (Jvm.Cond.methodLink own index y).before a0 Z = true) (w3 : (Jvm.Cond.instanceMethod y).before a0 Z = true) (w4 : (Jvm.Cond.superclass own y.cls).before a0 Z = true) (wf : NotFace Z y) (wc : (Jvm.Cond.code y bytes maxL ret).before a0 Z = true)
    (hy : y.cls ≠ "java/lang/invoke/MethodHandle" ∧ y.cls ≠ "java/lang/invoke/VarHandle") (hnm : y.name ≠ "<init>") {W rc rs : Nat} {as' : Array Value} {Q : Option Value → Heap → List Loc → Prop}
    (hK : Back l R p e below s args y 3 W (fun A a => a = as' ∧ A.U.heap = h ∧ A.cells + rc ≤ R.cells ∧ A.slots + rs ≤ R.slots) (fun A _ v B => ∃ L, Q v B.U.heap L ∧ B.locs = A.locs ++ L ∧ B.cells = A.cells + rc ∧ B.slots = A.slots + rs))
    {a : Addr} (E : Ins Z h a K true) {g : JFrame} (hg : g.method = m) (hsize : g.locals.size = c.maxLocals) {argsL rest : List Value} (hlen : ∀ sig, parseMethodDescriptor y.desc = some sig → argsL.length = sig.parameters.length)
    (hstack : g.stack = argsL.reverse ++ .ref a :: rest) (hW : 2 * g.monitorRoom + (rest.map fun v => v.category).sum ≤ W) (hdg : decode c.code g.pc = .ok (.invokespecial index, 3))
    (eT : T.heap = h) (has : (.ref a :: argsL).toArray = as') (hc : cells + rc ≤ R.cells) (hs : slots + rs ≤ R.slots) :
    ∃ (v : Option Value) (T' : State) (L : List Loc), Q v T'.heap L ∧ Stand p l e R s m args below meth c T' (locs ++ L) (cells + rc) (slots + rs) ∧ Steps p.tables e below (T.setTop g) (T'.setTop { g with pc := g.pc + 3, stack := v.toList ++ rest }) := by
  obtain ⟨v, vm₁, ⟨T', L', k', n'⟩, -, X', ⟨L, hQ, l1, l2, l3⟩, st⟩ := superBack X hx hZ hown w1 (own_sameM w3 w4 wf hy) w3 w4 hnm hK eT E hg hsize wc hlen hstack hW hdg (fun _ _ => ⟨has, eT, hc, hs⟩)
  dsimp only [Pt.U, Pt.locs, Pt.cells, Pt.slots] at X' l1 l2 l3 st hQ
  subst l1 l2 l3
  exact ⟨v, T', L, hQ, X', st⟩
theorem own_nfSame {C : String} {y z : MethodName} (ws : (Jvm.Cond.selects C y y).before a0 Z = true) (wi : (Jvm.Cond.instanceMethod y).before a0 Z = true) (hc : z.cls = y.cls) : NotFace Z z := fun r0 h0 => by
  obtain ⟨mk, mM, hnamed, -⟩ := Cond.instanceMethod_spec wi
  obtain ⟨kP, hkP, hi⟩ := notFace_of_selects ws mk hnamed
  have q1 := findClass_of_methodNamed h0
  have q2 := findClass_of_methodNamed hnamed
  rw [hc] at q1
  have e : r0.cls = mk.cls := Option.some.inj (q1.symm.trans q2)
  exact ⟨kP, by rw [e]; exact hkP, hi⟩
theorem own_shl0 (x : Int32) : x <<< ((0 : Int32) &&& 31) = x := by
  show x <<< (0 : Int32) = x
  simp
theorem own_shr0 (x : Int32) : x >>> ((0 : Int32) &&& 31) = x := by
  show x >>> (0 : Int32) = x
  simp
theorem own_range {vs : List Value} {dv : Value} {k : Nat} (hk : vs.length = k) : (List.range k).map (fun i => vs.getD (0 + i) dv) = vs := by
  subst hk
  apply List.ext_getElem
  · simp
  · intro i h1 h2
    simp [h2]
end OwnKitR
/-! the same for walks that may load String constants (the frame is the wide one) -/
section OwnKitW
variable {p : Program} {l : Launch} {e : Env} {R : Room} {s : State} {m : MethodId} {args : Array Value} {below : List Frame} {meth : Method} {c : Code} {T : State} {locs : List Loc} {cells slots : Nat} {P : Outcome → State → Prop} {a b : State} {h : Heap} {Z : State} {a0 : Array Value} {vm0 : Vm} {k0 : Nat}
theorem own_since (s : State) (n : Nat) : s.Since s.vm n := (State.WarmedH.refl s).since n
theorem own_G.endW (X : Stand p l e R (s.setVm vm0) m args below meth c T locs cells slots) (hS : s.Since vm0 k0) (hn : k0 ≤ h.size) (hlk : meth.locks = false) {v : Option Value} (hv : meth.sig.returnType = none → v = none)
    (st : ∀ fs, (∀ (f : JFrame) (acts : List Action), f.method = m → f.locked = none → f.entered = [] → (doReturn e (T.setTop f) acts v).1 = T.setFrames fs) → Steps p.tables e below a (T.setFrames fs))
    {Q : Option Value → Heap → List Loc → Prop} {rc rs : Nat} (eT : T.heap = h) (hQ : Q v h locs) (hc : cells ≤ rc) (hs : slots ≤ rs) :
    own_G p.tables e below (fun o t => ∃ v L, o = .returned v ∧ Q v t.heap L ∧ ReturnedEndW s o t L rc rs) a := by
  subst eT
  obtain ⟨fs, hr, hrun, hended, r1, r2, r3, r4⟩ := X.leaveW hS hn hv hlk
  exact ⟨_, _, st fs hr, hrun, hended, _, _, rfl, hQ, r1, r2, r3, r4.mono hc hs⟩
theorem own_backS {y : MethodName} {len W rc rs : Nat} {as' : Array Value} {Q : Option Value → Heap → List Loc → Prop} {S : State}
    (hK : BackS l R p e below S args y len W (fun A a => a = as' ∧ A.U.heap = h ∧ A.cells + rc ≤ R.cells ∧ A.slots + rs ≤ R.slots) (fun A _ v B => ∃ L, Q v B.U.heap L ∧ B.locs = A.locs ++ L ∧ B.cells = A.cells + rc ∧ B.slots = A.slots + rs)) :
    BackS l R p e below S args y len W (fun A a => a = as' ∧ A.U.heap = h ∧ A.cells + rc ≤ R.cells ∧ A.slots + rs ≤ R.slots) (fun A _ v B => ∃ L, (fun v (U : State) L => Q v U.heap L) v B.U L ∧ B.locs = A.locs ++ L ∧ B.cells = A.cells + rc ∧ B.slots = A.slots + rs) := hK
theorem own_callIW (X : Stand p l e R (s.setVm vm0) m args below meth c T locs cells slots) (hx : p.tables.exec = Jvm.exec) (hS : s.Since vm0 k0) (hk : k0 ≤ h.size) (hZ : Z.Warmed39 vm0) {own : String} {index : Nat} {y : MethodName} (hy1 : y.name = "<init>") {bytes : ByteArray} {maxL : Nat}
    (hown : vm0.findClass own = some m.cls) (hlink : (Jvm.Cond.methodLink own index y).before args (s.setVm vm0) = true) (hinst : (Jvm.Cond.instanceMethod y).before args (s.setVm vm0) = true) (hcode : (Jvm.Cond.code y bytes maxL none).before args (s.setVm vm0) = true)
    (hy : y.cls ≠ "java/lang/invoke/MethodHandle" ∧ y.cls ≠ "java/lang/invoke/VarHandle") {W rc rs : Nat} {as' : Array Value} {Q : Option Value → State → List Loc → Prop}
    (hK : BackS l R p e below (s.setVm vm0) args y 3 W (fun A a => a = as' ∧ A.U.heap = h ∧ A.cells + rc ≤ R.cells ∧ A.slots + rs ≤ R.slots) (fun A _ v B => ∃ L, Q v B.U L ∧ B.locs = A.locs ++ L ∧ B.cells = A.cells + rc ∧ B.slots = A.slots + rs))
    {a : Addr} {g : JFrame} (hg : g.method = m) (hsize : g.locals.size = c.maxLocals) {argsL rest : List Value} (hlen : ∀ sig, parseMethodDescriptor y.desc = some sig → argsL.length = sig.parameters.length)
    (hstack : g.stack = argsL.reverse ++ .ref a :: rest) (hW : 2 * g.monitorRoom + (rest.map fun v => v.category).sum ≤ W) (hdg : decode c.code g.pc = .ok (.invokespecial index, 3))
    (eT : T.heap = h) (has : (.ref a :: argsL).toArray = as') (hc : cells + rc ≤ R.cells) (hs : slots + rs ≤ R.slots) :
    ∃ (v : Option Value) (T' : State) (L : List Loc), Q v T' L ∧ Stand p l e R (s.setVm T'.vm) m args below meth c T' (locs ++ L) (cells + rc) (slots + rs) ∧ s.Since T'.vm T'.heap.size ∧ Z.Warmed39 (s.setVm T'.vm).vm ∧ (s.setVm T'.vm).vm.findClass own = some m.cls ∧ Steps p.tables e below (T.setTop g) (T'.setTop { g with pc := g.pc + 3, stack := v.toList ++ rest }) := by
  subst eT
  obtain ⟨v, vm₁, ⟨T', L', k', n'⟩, -, X', h2, hgr, ⟨L, hQ, l1, l2, l3⟩, st⟩ := X.specialBackS hx hy1 hown hlink hinst hcode hy hK hg hsize (Steps.refl _) hlen hstack hW hdg (fun _ _ => ⟨has, rfl, hc, hs⟩)
  dsimp only [Pt.U, Pt.locs, Pt.cells, Pt.slots] at X' l1 l2 l3 st hQ h2 hgr
  subst l1 l2 l3
  obtain ⟨r1, r2, r3, r4⟩ := rebS hS hk X' h2 hgr hZ hown
  exact ⟨v, T', L, hQ, r1, r2, r3, r4, st⟩
theorem own_callSW (X : Stand p l e R (s.setVm vm0) m args below meth c T locs cells slots) (hx : p.tables.exec = Jvm.exec) (hS : s.Since vm0 k0) (hk : k0 ≤ h.size) (hZ : Z.Warmed39 vm0) {own : String} {index : Nat} {y : MethodName} {bytes : ByteArray} {maxL : Nat} {ret : Option FieldType}
    (hown : vm0.findClass own = some m.cls) (hlink : (Jvm.Cond.methodLink own index y).before args (s.setVm vm0) = true) (hstat : (Jvm.Cond.static y).before args (s.setVm vm0) = true) (hinit : (Jvm.Cond.initialized y.cls).before args (s.setVm vm0) = true) (hcode : (Jvm.Cond.code y bytes maxL ret).before args (s.setVm vm0) = true)
    (hy : y.cls ≠ "java/lang/invoke/MethodHandle" ∧ y.cls ≠ "java/lang/invoke/VarHandle") {W rc rs : Nat} {as' : Array Value} {Q : Option Value → State → List Loc → Prop}
    (hK : BackS l R p e below (s.setVm vm0) args y 3 W (fun A a => a = as' ∧ A.U.heap = h ∧ A.cells + rc ≤ R.cells ∧ A.slots + rs ≤ R.slots) (fun A _ v B => ∃ L, Q v B.U L ∧ B.locs = A.locs ++ L ∧ B.cells = A.cells + rc ∧ B.slots = A.slots + rs))
    {g : JFrame} (hg : g.method = m) (hsize : g.locals.size = c.maxLocals) {argsL rest : List Value} (hlen : ∀ sig, parseMethodDescriptor y.desc = some sig → argsL.length = sig.parameters.length)
    (hstack : g.stack = argsL.reverse ++ rest) (hW : 2 * g.monitorRoom + (rest.map fun v => v.category).sum ≤ W) (hdg : decode c.code g.pc = .ok (.invokestatic index, 3))
    (eT : T.heap = h) (has : argsL.toArray = as') (hc : cells + rc ≤ R.cells) (hs : slots + rs ≤ R.slots) :
    ∃ (v : Option Value) (T' : State) (L : List Loc), Q v T' L ∧ Stand p l e R (s.setVm T'.vm) m args below meth c T' (locs ++ L) (cells + rc) (slots + rs) ∧ s.Since T'.vm T'.heap.size ∧ Z.Warmed39 (s.setVm T'.vm).vm ∧ (s.setVm T'.vm).vm.findClass own = some m.cls ∧ Steps p.tables e below (T.setTop g) (T'.setTop { g with pc := g.pc + 3, stack := v.toList ++ rest }) := by
  subst eT
  obtain ⟨v, vm₁, ⟨T', L', k', n'⟩, -, X', h2, hgr, ⟨L, hQ, l1, l2, l3⟩, st⟩ := callSS X hx hown hlink hstat hinit hcode hy hK hg hsize hlen hstack hW hdg (fun _ _ => ⟨has, rfl, hc, hs⟩)
  dsimp only [Pt.U, Pt.locs, Pt.cells, Pt.slots] at X' l1 l2 l3 st hQ h2 hgr
  subst l1 l2 l3
  obtain ⟨r1, r2, r3, r4⟩ := rebS hS hk X' h2 hgr hZ hown
  exact ⟨v, T', L, hQ, r1, r2, r3, r4, st⟩
theorem own_callVW (X : Stand p l e R (s.setVm vm0) m args below meth c T locs cells slots) (hx : p.tables.exec = Jvm.exec) (hS : s.Since vm0 k0) (hk : k0 ≤ h.size) (hZ : Z.Warmed39 vm0) {own C : String} {index : Nat} {y z : MethodName}
    (hown : vm0.findClass own = some m.cls) (hlink : (Jvm.Cond.methodLink own index y).before args (s.setVm vm0) = true) (hdecl : (Jvm.Cond.declares y).before args (s.setVm vm0) = true) (hnf : NotFace (s.setVm vm0) y)
    (hsel : (Jvm.Cond.selects C y z).before args (s.setVm vm0) = true) (hinst : (Jvm.Cond.instanceMethod z).before args (s.setVm vm0) = true)
    (hy : y.cls ≠ "java/lang/invoke/MethodHandle" ∧ y.cls ≠ "java/lang/invoke/VarHandle") {W rc rs : Nat} {as' : Array Value} {Q : Option Value → State → List Loc → Prop}
    (hK : BackS l R p e below (s.setVm vm0) args z 3 W (fun A a => a = as' ∧ A.U.heap = h ∧ A.cells + rc ≤ R.cells ∧ A.slots + rs ≤ R.slots) (fun A _ v B => ∃ L, Q v B.U L ∧ B.locs = A.locs ++ L ∧ B.cells = A.cells + rc ∧ B.slots = A.slots + rs))
    {b : Addr} {cB : ClassId} (hcB : (s.setVm vm0).vm.findClass C = some cB) (hrecv : IsOf cB T b)
    {g : JFrame} (hg : g.method = m) (hsize : g.locals.size = c.maxLocals) {argsL rest : List Value} (hlen : ∀ sig, parseMethodDescriptor y.desc = some sig → argsL.length = sig.parameters.length)
    (hstack : g.stack = argsL.reverse ++ .ref b :: rest) (hW : 2 * g.monitorRoom + (rest.map fun v => v.category).sum ≤ W) (hdg : decode c.code g.pc = .ok (.invokevirtual index, 3))
    (eT : T.heap = h) (has : (.ref b :: argsL).toArray = as') (hc : cells + rc ≤ R.cells) (hs : slots + rs ≤ R.slots) :
    ∃ (v : Option Value) (T' : State) (L : List Loc), Q v T' L ∧ Stand p l e R (s.setVm T'.vm) m args below meth c T' (locs ++ L) (cells + rc) (slots + rs) ∧ s.Since T'.vm T'.heap.size ∧ Z.Warmed39 (s.setVm T'.vm).vm ∧ (s.setVm T'.vm).vm.findClass own = some m.cls ∧ Steps p.tables e below (T.setTop g) (T'.setTop { g with pc := g.pc + 3, stack := v.toList ++ rest }) := by
  subst eT
  obtain ⟨v, vm₁, ⟨T', L', k', n'⟩, -, X', h2, hgr, ⟨L, hQ, l1, l2, l3⟩, st⟩ := X.virtualBackS hx hown hlink hdecl hnf hsel hinst hy hK hcB hrecv hg hsize (Steps.refl _) hlen hstack hW hdg (fun _ _ => ⟨has, rfl, hc, hs⟩)
  dsimp only [Pt.U, Pt.locs, Pt.cells, Pt.slots] at X' l1 l2 l3 st hQ h2 hgr
  subst l1 l2 l3
  obtain ⟨r1, r2, r3, r4⟩ := rebS hS hk X' h2 hgr hZ hown
  exact ⟨v, T', L, hQ, r1, r2, r3, r4, st⟩
end OwnKitW
/-! walks that read String constants: the assumed words are kept as an invariant (CHv, CHr) -/
section OwnKitH
variable {p : Program} {l : Launch} {e : Env} {R : Room} {s : State} {m : MethodId} {args : Array Value} {below : List Frame} {meth : Method} {c : Code} {T : State} {locs : List Loc} {cells slots : Nat} {P : Outcome → State → Prop} {a b : State} {h : Heap} {Z : State} {a0 : Array Value} {vm0 : Vm} {k0 : Nat} {EL : List (String × Nat)}
theorem own_G.endH (X : Stand p l e R (s.setVm vm0) m args below meth c T locs cells slots) (hS : s.Since vm0 k0) (hn : k0 ≤ h.size) (hZ : Z.Warmed39 vm0) (hEW : EW Z a0 EL) (hC : CHr Z EL s.vm s.heap vm0 h) (hlk : meth.locks = false) {v : Option Value} (hv : meth.sig.returnType = none → v = none)
    (st : ∀ fs, (∀ (f : JFrame) (acts : List Action), f.method = m → f.locked = none → f.entered = [] → (doReturn e (T.setTop f) acts v).1 = T.setFrames fs) → Steps p.tables e below a (T.setFrames fs))
    {Q : Option Value → Heap → List Loc → Prop} {rc rs : Nat} (eT : T.heap = h) (hQ : Q v h locs) (hc : cells ≤ rc) (hs : slots ≤ rs) :
    own_G p.tables e below (fun o t => ∃ v L, o = .returned v ∧ Q v t.heap L ∧ CHr Z EL s.vm s.heap t.vm t.heap ∧ ReturnedEndW s o t L rc rs) a := by
  subst eT
  obtain ⟨fs, hr, hrun, hended, r1, r2, r3, r4⟩ := X.leaveW hS hn hv hlk
  exact ⟨_, _, st fs hr, hrun, hended, _, _, rfl, hQ, (show CHr Z EL s.vm s.heap T.vm T.heap from hC.trans (CHv.at X hZ hEW hC.1)), r1, r2, r3, r4.mono hc hs⟩
theorem own_backSH {y : MethodName} {len W rc rs : Nat} {as' : Array Value} {Q : Option Value → Heap → List Loc → Prop} {S : State}
    (hK : BackS l R p e below S args y len W (fun A a => a = as' ∧ A.U.heap = h ∧ A.cells + rc ≤ R.cells ∧ A.slots + rs ≤ R.slots) (fun A _ v B => ∃ L, Q v B.U.heap L ∧ B.locs = A.locs ++ L ∧ B.cells = A.cells + rc ∧ B.slots = A.slots + rs ∧ CHr Z EL vm0 h B.U.vm B.U.heap)) :
    BackS l R p e below S args y len W (fun A a => a = as' ∧ A.U.heap = h ∧ A.cells + rc ≤ R.cells ∧ A.slots + rs ≤ R.slots) (fun A _ v B => ∃ L, (fun v (U : State) L => Q v U.heap L ∧ CHr Z EL vm0 h U.vm U.heap) v B.U L ∧ B.locs = A.locs ++ L ∧ B.cells = A.cells + rc ∧ B.slots = A.slots + rs) := fun m meth c A g ig mk a X hg hsize hdg hW hn hp => by
  obtain ⟨v, B, X', q1, q2, ⟨L, h1, h2, h3, h4, h5⟩, hs⟩ := hK m meth c A g ig mk a X hg hsize hdg hW hn hp
  exact ⟨v, B, X', q1, q2, ⟨L, ⟨h1, h5⟩, h2, h3, h4⟩, hs⟩
end OwnKitH
def own_EL : List (String × Nat) := [("java/lang/String", 7), ("com/example/enlist/enlist/definition/TransactionDefinition", 107), ("com/example/enlist/enlist/definition/TransactionDefinition", 146), ("com/example/enlist/enlist/definition/TransactionDefinition", 148), ("com/example/enlist/enlist/definition/TransactionDefinition", 23)]
theorem own_EW {Z : State} {a0 : Array Value} (hw : ∀ d ∈ tables_1, d.before a0 Z = true) : EW Z a0 own_EL := (EW.cons (own_w hw 18 rfl) (by decide +kernel) (EW.cons (own_w hw 265 rfl) (by decide +kernel) (EW.cons (own_w hw 147 rfl) (by decide +kernel) (EW.cons (own_w hw 196 rfl) (by decide +kernel) (EW.cons (own_w hw 74 rfl) (by decide +kernel) EW.nil)))))
theorem own_lit0 : (∀ c ∈ ("" : String).toList, c.toNat < 256) ∧ ("" : String).toList.map (fun c => Value.int (Jvm.Lit.byteI c.toNat.toUInt16)) = ([] : List Value) := by decide +kernel
theorem own_lit1 : (∀ c ∈ ("" : String).toList, c.toNat < 256) ∧ ("" : String).toList.map (fun c => Value.int (Jvm.Lit.byteI c.toNat.toUInt16)) = ([] : List Value) := by decide +kernel
theorem own_lit2 : (∀ c ∈ ("transaction '" : String).toList, c.toNat < 256) ∧ ("transaction '" : String).toList.map (fun c => Value.int (Jvm.Lit.byteI c.toNat.toUInt16)) = ([(.int (116 : Int32)), (.int (114 : Int32)), (.int (97 : Int32)), (.int (110 : Int32)), (.int (115 : Int32)), (.int (97 : Int32)), (.int (99 : Int32)), (.int (116 : Int32)), (.int (105 : Int32)), (.int (111 : Int32)), (.int (110 : Int32)), (.int (32 : Int32)), (.int (39 : Int32))] : List Value) := by decide +kernel
theorem own_lit3 : (∀ c ∈ ("'" : String).toList, c.toNat < 256) ∧ ("'" : String).toList.map (fun c => Value.int (Jvm.Lit.byteI c.toNat.toUInt16)) = ([(.int (39 : Int32))] : List Value) := by decide +kernel
theorem own_lit4 : (∀ c ∈ ("name" : String).toList, c.toNat < 256) ∧ ("name" : String).toList.map (fun c => Value.int (Jvm.Lit.byteI c.toNat.toUInt16)) = ([(.int (110 : Int32)), (.int (97 : Int32)), (.int (109 : Int32)), (.int (101 : Int32))] : List Value) := by decide +kernel
theorem own_lt {x y : Int32} : x < y ↔ x.toInt < y.toInt := Int32.lt_iff_toInt_lt
theorem own_eq {x y : Int32} : x = y ↔ x.toInt = y.toInt := ⟨fun h => h ▸ rfl, fun h => Int32.toInt_inj.mp h⟩
def own_b (c : Int32) : Prop := ¬ c < 0 ∧ ¬ (255 : Int32) < c
theorem own_b_int {c : Int32} (h : own_b c) : 0 ≤ c.toInt ∧ c.toInt ≤ 255 := by
  obtain ⟨h1, h2⟩ := h
  rw [own_lt] at h1 h2
  have e1 : (0 : Int32).toInt = 0 := rfl
  have e2 : (255 : Int32).toInt = 255 := rfl
  omega
theorem own_b_of {c : Int32} (h : 0 ≤ c.toInt ∧ c.toInt ≤ 255) : own_b c := by
  unfold own_b
  rw [own_lt, own_lt]
  have e1 : (0 : Int32).toInt = 0 := rfl
  have e2 : (255 : Int32).toInt = 255 := rfl
  omega
theorem own_c_small {x : Int32} (h : 0 ≤ x.toInt ∧ x.toInt < 65536) : own_c x = x := by
  rw [own_eq]
  have := c_i2c x
  unfold own_c
  omega
theorem own_narc {x : Int32} (h : own_b x) : nar .char x = x := own_c_small (by have := own_b_int h; omega)
theorem own_mask (x : Int32) : own_b (own_c (x &&& (255 : Int32))) := by
  have h := c_mask x 255 8 (by decide) (by decide)
  rw [own_c_small (by omega)]
  exact own_b_of (by omega)
theorem own_up (cs : List Int32) (h : ∀ c ∈ cs, own_b c) : ∀ c ∈ cs, ¬ c < 0 ∧ ¬ (65535 : Int32) < c := fun c hc => ⟨(h c hc).1, fun q => (h c hc).2 (by rw [Int32.lt_iff_toInt_lt] at q ⊢; have e1 : (65535 : Int32).toInt = 65535 := rfl; have e2 : (255 : Int32).toInt = 255 := rfl; omega)⟩
theorem own_all1 {a : Int32} (h : own_b a) : ∀ c ∈ ([a] : List Int32), own_b c := fun c hc => by rw [List.mem_singleton] at hc; subst hc; exact h

theorem own_sub0 (x : Int32) : x - (0 : Int32) = x := by simp
def own_put (vd us : List Value) (dp ln : Nat) : List Value := vd.take dp ++ us ++ vd.drop (dp + ln)
theorem own_safeNull {Z : State} {EL : List (String × Nat)} {vm : Vm} {h : Heap} {x : Addr} (hal : Z.vm.Alike vm) (E : Exa Z h x "java/lang/String") (F : Fld Z h x "java/lang/String" "value" "[B" .null) : Safe Z EL vm h x := fun B => by
  obtain ⟨p, -, u, a, -, q, -, G, rfl | rfl⟩ := B
  · obtain ⟨cell, cf, k, i, f, h1, h2, h3, -, -, -, h7⟩ := F
    cases (show h[q.sa]? = some q.sC from G.ha).symm.trans h1
    obtain ⟨cS, ⟨⟨-, -, -, ⟨cv, kv, iv, s4, -⟩, -, -, -, s8, -⟩, -⟩, -⟩ := G
    obtain ⟨kv', z4⟩ := ff_back (U := Wst Z vm h) hal s4
    cases h2.symm.trans z4
    cases h7.symm.trans s8
  · obtain ⟨cell, k, e1, e2, e3, -, -⟩ := E
    cases (show h[q.sd]? = some q.SA from G.hd).symm.trans e1
    obtain ⟨cS, -, -, f, -⟩ := G
    have f' : Z.vm.findClass "[B" = some q.SA.cls := by rw [← hal.findClass]; exact f
    exact absurd rfl (ids_ne f' e2 (by decide))
theorem own_fld {args : Array Value} {s : State} {t : Term} {C n d : String} {v : Value} {a : Addr} (h : (Term.field t C n d).eval args s none [] s = some v) (ht : t.eval args s none [] s = some (.ref a)) : s.fieldOf? a C n d = some v := by
  simp only [Term.eval, ht, Option.bind_eq_bind, Option.bind_some] at h
  exact h
/-- the chars of a string of at most four -/
def own_cs (n a b c d : Int32) : List Int32 := [a, b, c, d].take n.toNatClampNeg
def own_l (n : Int32) : Prop := n = 0 ∨ n = 1 ∨ n = 2 ∨ n = 3 ∨ n = 4
theorem own_l5 (x : Int32) : own_l ((x &&& (7 : Int32)) % (5 : Int32)) := by
  have h := c_mask x 7 3 (by decide) (by decide)
  have h2 := (c_irem (x &&& (7 : Int32)) (5 : Int32) 5 rfl).1 (by omega)
  unfold own_l
  rw [own_eq, own_eq, own_eq, own_eq, own_eq]
  have e0 : (0 : Int32).toInt = 0 := rfl
  have e1 : (1 : Int32).toInt = 1 := rfl
  have e2 : (2 : Int32).toInt = 2 := rfl
  have e3 : (3 : Int32).toInt = 3 := rfl
  have e4 : (4 : Int32).toInt = 4 := rfl
  omega
theorem own_cs_b {n a b c d : Int32} (ha : own_b a) (hb : own_b b) (hc : own_b c) (hd : own_b d) : ∀ x ∈ own_cs n a b c d, own_b x := fun x hx => by
  have q := List.mem_of_mem_take hx
  simp only [List.mem_cons, List.not_mem_nil, or_false] at q
  rcases q with rfl | rfl | rfl | rfl
  · exact ha
  · exact hb
  · exact hc
  · exact hd
/-- the chars of the text that toString answers -/
def own_tx (n a b c d : Int32) : List Int32 := [116, 114, 97, 110, 115, 97, 99, 116, 105, 111, 110, 32, 39] ++ own_cs n a b c d ++ [39]
theorem own_tx_b {n a b c d : Int32} (ha : own_b a) (hb : own_b b) (hc : own_b c) (hd : own_b d) : ∀ x ∈ own_tx n a b c d, own_b x := fun x hx => by
  simp only [own_tx, List.mem_append] at hx
  rcases hx with (h | h) | h
  · exact (by decide +kernel : ∀ x ∈ ([116, 114, 97, 110, 115, 97, 99, 116, 105, 111, 110, 32, 39] : List Int32), ¬ x < 0 ∧ ¬ (255 : Int32) < x) x h
  · exact own_cs_b ha hb hc hd x h
  · exact (by decide +kernel : ∀ x ∈ ([39] : List Int32), ¬ x < 0 ∧ ¬ (255 : Int32) < x) x h
theorem own_tx_len {n a b c d : Int32} (hl : own_l n) : Int32.ofNat (own_tx n a b c d).length = n + (14 : Int32) ∧ (own_tx n a b c d).length ≤ 4000 ∧ 12 < (own_tx n a b c d).length ∧ (own_tx n a b c d).getD 12 0 = 39 ∧ (n + (13 : Int32)).toNatClampNeg < (own_tx n a b c d).length ∧ (own_tx n a b c d).getD (n + (13 : Int32)).toNatClampNeg 0 = 39 ∧ n + (13 : Int32) = Int32.ofNat (n + (13 : Int32)).toNatClampNeg := by
  rcases hl with rfl | rfl | rfl | rfl | rfl <;> exact ⟨rfl, Nat.le_of_ble_eq_true rfl, Nat.le_of_ble_eq_true rfl, rfl, Nat.le_of_ble_eq_true rfl, rfl, rfl⟩
def Qp (x : Value) (h0 : Heap) (v : Option Value) (h : Heap) (L : List Loc) : Prop := v = some x ∧ L = [] ∧ h = h0
def Qn (h0 : Heap) (v : Option Value) (h : Heap) (L : List Loc) : Prop := v = none ∧ L = [] ∧ h = h0
theorem pn_1 : plainName "java/lang/String" = true := by first | (simp [plainName, overriddenIn]; done) | decide +kernel
theorem d_jdk42152x_0 : decode jdk_42_method_152_code 0 = .ok (.getstatic 38, 3) := by decide +kernel
theorem d_jdk42152x_3 : decode jdk_42_method_152_code 3 = .ok (.ifCond .eq 10, 3) := by decide +kernel
theorem d_jdk42152x_6 : decode jdk_42_method_152_code 6 = .ok (.aload_n 0, 1) := by decide +kernel
theorem d_jdk42152x_7 : decode jdk_42_method_152_code 7 = .ok (.getfield 15, 3) := by decide +kernel
theorem d_jdk42152x_10 : decode jdk_42_method_152_code 10 = .ok (.goto 4, 3) := by decide +kernel
theorem d_jdk42152x_14 : decode jdk_42_method_152_code 14 = .ok (.ireturn, 1) := by decide +kernel
set_option maxRecDepth 65536 in
set_option maxHeartbeats 40000000 in
theorem rm_cod (l : Launch) (Z : State) (a0 : Array Value) (hw : ∀ d ∈ tables_1, d.before a0 Z = true) (ws : List Jvm.Cond) (a : Addr) (zc : Int32) (h0 : Heap) (n0 : Nat) (Z0 : n0 ≤ h0.size) (C0 : Fld Z h0 a "java/lang/String" "coder" "B" (.int (0 : Int32))) (O2 : Sta Z Z.heap "java/lang/String" "COMPACT_STRINGS" "Z" (.int zc)) (P5 : ¬ (zc = (0 : Int32))) (X00 : Old Z n0 h0) :
    MetFree l (⟨"java/lang/String", "coder", "()B"⟩ : MethodName) (head1 (Jvm.Cond.code (⟨"java/lang/String", "coder", "()B"⟩ : MethodName) jdk_42_method_152_code 1 (some .byte) :: ws) ({ frames := 0, cells := 0, slots := 0, locals := 0 } : Room)) (fun a_ U => a_ = #[(.ref a)] ∧ Z.Warmed39 U.vm ∧ U.heap = h0) (fun _ _ _ _ _ => True) (fun _ U o U' => ∃ v L, o = .returned v ∧ Qp (.int (0 : Int32)) h0 v U'.heap L ∧ FrameEnd U o U' L ({ frames := 0, cells := 0, slots := 0, locals := 0 } : Room).cells ({ frames := 0, cells := 0, slots := 0, locals := 0 } : Room).slots) := by
  refine MetFree.of_bodySF (plainFor_of_name pn_1) hisR ?_
  intro p e s m args below meth c s₁ Bd hml0 hP hK
  obtain ⟨rfl, hZ, hh⟩ := hP
  have hx := Bd.exec
  have hby := Bd.bytes
  have hrt := Bd.returns
  have hlk : meth.locks = false := Bd.notSynchronized
  have hml : c.maxLocals = 1 := hml0
  have hown : s.vm.findClass "java/lang/String" = some m.cls := findClass_of_methodNamed Bd.named
  have hnm := (name_of_methodNamed Bd.named Bd.method).1
  have X0 : Stand p l e ({ frames := 0, cells := 0, slots := 0, locals := 0 } : Room) s m #[(.ref a)] below meth c s₁ [] 0 0 := Stand.of_body Bd
  have e0 : s₁.heap = h0 := by rw [← hh, Bd.state]; rfl
  have N0 := Fr.nil n0
  show own_G p.tables e below (fun o t => ∃ v L, o = .returned v ∧ Qp (.int (0 : Int32)) h0 v t.heap L ∧ FrameEnd s o t L ({ frames := 0, cells := 0, slots := 0, locals := 0 } : Room).cells ({ frames := 0, cells := 0, slots := 0, locals := 0 } : Room).slots) (s₁.setTop (entryFrame m #[(.ref a)] 1))
  refine own_G.cast (show entryFrame m #[(.ref a)] 1 = mkF m 0 #[.val (.ref a)] [] from by first | (simp [entryFrame, mkF, argsToLocals, Value.category]; done) | rfl) ?_
  obtain ⟨T_1, X_1, e_1, st_1⟩ := getS2 X0 hx hZ hown (host := "") (Or.inl (own_w hw 168 rfl)) Via.refl e0 (O2.ext X00.2) (g := (mkF m 0 #[.val (.ref a)] [])) rfl (hb hby d_jdk42152x_0)
  refine own_G.go st_1 ?_
  show own_G _ _ _ _ (T_1.setTop (mkF m 3 #[.val (.ref a)] [(.int zc)]))
  refine own_G.go (fun _ k => XS.ifNo X_1.here hx rfl (hb hby d_jdk42152x_3) rfl ((if0 _ _).trans (feq (P5 : ¬ zc = (0 : Int32))).1) k) ?_
  show own_G _ _ _ _ (T_1.setTop (mkF m 6 #[.val (.ref a)] []))
  refine own_G.go (fun _ k => XS.aloadN X_1.here hx rfl (hb hby d_jdk42152x_6) rfl rfl k) ?_
  show own_G _ _ _ _ (T_1.setTop (mkF m 7 #[.val (.ref a)] [(.ref a)]))
  obtain ⟨T_2, X_2, e_2, st_2⟩ := getF X_1 hx hZ hown (host := "") (Or.inl (own_w hw 25 rfl)) Via.refl e_1 C0 (g := (mkF m 7 #[.val (.ref a)] [(.ref a)])) rfl rfl (hb hby d_jdk42152x_7)
  refine own_G.go st_2 ?_
  show own_G _ _ _ _ (T_2.setTop (mkF m 10 #[.val (.ref a)] [(.int (0 : Int32))]))
  refine own_G.go (fun _ k => XS.goto X_2.here hx rfl (pc0 := 10) (pc' := 14) rfl (hb hby d_jdk42152x_10) (by decide) (by decide) k) ?_
  show own_G _ _ _ _ (T_2.setTop (mkF m 14 #[.val (.ref a)] [(.int (0 : Int32))]))
  exact own_G.end_ X_2 hlk (v := (some (.int (0 : Int32)))) (fun h => by rw [hrt] at h; cases h) (fun fs hr => retN X_2 hx (z := (0 : Int32)) (t := .byte) hrt (by simp) (hb hby d_jdk42152x_14) hr) e_2 ⟨rfl, rfl, rfl⟩ (by decide) (by decide)
theorem pd_1 : parseMethodDescriptor "()B" = some ⟨[], some .byte⟩ := by decide +kernel
theorem d_jdk4254x_0 : decode jdk_42_method_54_code 0 = .ok (.aload_n 0, 1) := by decide +kernel
theorem d_jdk4254x_1 : decode jdk_42_method_54_code 1 = .ok (.getfield 9, 3) := by decide +kernel
theorem d_jdk4254x_4 : decode jdk_42_method_54_code 4 = .ok (.arraylength, 1) := by decide +kernel
theorem d_jdk4254x_5 : decode jdk_42_method_54_code 5 = .ok (.aload_n 0, 1) := by decide +kernel
theorem d_jdk4254x_6 : decode jdk_42_method_54_code 6 = .ok (.invokevirtual 335, 3) := by decide +kernel
theorem d_jdk4254x_9 : decode jdk_42_method_54_code 9 = .ok (.ishr, 1) := by decide +kernel
theorem d_jdk4254x_10 : decode jdk_42_method_54_code 10 = .ok (.ireturn, 1) := by decide +kernel
set_option maxRecDepth 65536 in
set_option maxHeartbeats 40000000 in
theorem rm_len (l : Launch) (Z : State) (a0 : Array Value) (hw : ∀ d ∈ tables_1, d.before a0 Z = true) (ws : List Jvm.Cond) (r t : Addr) (kt : ClassId) (nt : Int32) (us : List Value) (zc : Int32) (h0 : Heap) (n0 : Nat) (Z0 : n0 ≤ h0.size) (E0 : Exa Z h0 r "java/lang/String") (C0 : Fld Z h0 r "java/lang/String" "coder" "B" (.int (0 : Int32))) (V0 : Fld Z h0 r "java/lang/String" "value" "[B" (.ref t)) (K0 : Arv Z h0 t kt .byte nt us (.int (0 : Int32))) (O2 : Sta Z Z.heap "java/lang/String" "COMPACT_STRINGS" "Z" (.int zc)) (P5 : ¬ (zc = (0 : Int32))) (X00 : Old Z n0 h0) :
    MetFree l (⟨"java/lang/String", "length", "()I"⟩ : MethodName) (head1 (Jvm.Cond.code (⟨"java/lang/String", "length", "()I"⟩ : MethodName) jdk_42_method_54_code 1 (some .int) :: ws) ({ frames := 1, cells := 0, slots := 0, locals := 13 } : Room)) (fun a_ U => a_ = #[(.ref r)] ∧ Z.Warmed39 U.vm ∧ U.heap = h0) (fun _ _ _ _ _ => True) (fun _ U o U' => ∃ v L, o = .returned v ∧ Qp (.int nt) h0 v U'.heap L ∧ FrameEnd U o U' L ({ frames := 1, cells := 0, slots := 0, locals := 13 } : Room).cells ({ frames := 1, cells := 0, slots := 0, locals := 13 } : Room).slots) := by
  refine MetFree.of_bodySF (plainFor_of_name pn_1) hisR ?_
  intro p e s m args below meth c s₁ Bd hml0 hP hK
  obtain ⟨rfl, hZ, hh⟩ := hP
  have hx := Bd.exec
  have hby := Bd.bytes
  have hrt := Bd.returns
  have hlk : meth.locks = false := Bd.notSynchronized
  have hml : c.maxLocals = 1 := hml0
  have hown : s.vm.findClass "java/lang/String" = some m.cls := findClass_of_methodNamed Bd.named
  have hnm := (name_of_methodNamed Bd.named Bd.method).1
  have X0 : Stand p l e ({ frames := 1, cells := 0, slots := 0, locals := 13 } : Room) s m #[(.ref r)] below meth c s₁ [] 0 0 := Stand.of_body Bd
  have e0 : s₁.heap = h0 := by rw [← hh, Bd.state]; rfl
  have N0 := Fr.nil n0
  show own_G p.tables e below (fun o t => ∃ v L, o = .returned v ∧ Qp (.int nt) h0 v t.heap L ∧ FrameEnd s o t L ({ frames := 1, cells := 0, slots := 0, locals := 13 } : Room).cells ({ frames := 1, cells := 0, slots := 0, locals := 13 } : Room).slots) (s₁.setTop (entryFrame m #[(.ref r)] 1))
  refine own_G.cast (show entryFrame m #[(.ref r)] 1 = mkF m 0 #[.val (.ref r)] [] from by first | (simp [entryFrame, mkF, argsToLocals, Value.category]; done) | rfl) ?_
  refine own_G.go (fun _ k => XS.aloadN X0.here hx rfl (hb hby d_jdk4254x_0) rfl rfl k) ?_
  show own_G _ _ _ _ (s₁.setTop (mkF m 1 #[.val (.ref r)] [(.ref r)]))
  obtain ⟨T_1, X_1, e_1, st_1⟩ := getF X0 hx hZ hown (host := "") (Or.inl (own_w hw 24 rfl)) Via.refl e0 V0 (g := (mkF m 1 #[.val (.ref r)] [(.ref r)])) rfl rfl (hb hby d_jdk4254x_1)
  refine own_G.go st_1 ?_
  show own_G _ _ _ _ (T_1.setTop (mkF m 4 #[.val (.ref r)] [(.ref t)]))
  obtain ⟨cel_2, A_2, -, S_2, M_2, -, -⟩ := id K0
  refine own_G.go (X_1.arraylength hx (by rw [e_1]; exact A_2.1) (State.isArrayOf_alike hZ.alike A_2.2.1) (g := (mkF m 4 #[.val (.ref r)] [(.ref t)])) rfl rfl (hb hby d_jdk4254x_4)) ?_
  rw [len_of S_2 M_2]
  show own_G _ _ _ _ (T_1.setTop (mkF m 5 #[.val (.ref r)] [(.int nt)]))
  refine own_G.go (fun _ k => XS.aloadN X_1.here hx rfl (hb hby d_jdk4254x_5) rfl rfl k) ?_
  show own_G _ _ _ _ (T_1.setTop (mkF m 6 #[.val (.ref r)] [(.ref r), (.int nt)]))
  obtain ⟨cq_3, kq_3, q_3a, q_3b, q_3c⟩ := isOf hZ e_1 E0
  obtain ⟨_, T_3, L_3, Q_3, X_3, st_3⟩ := own_callV X_1 hx (z := (⟨"java/lang/String", "coder", "()B"⟩ : MethodName)) hown (mvT hZ (own_w hw 163 rfl)) (mvT hZ (own_w hw 164 rfl)) (notFace_of_selects (args := #[]) (mvT hZ (own_w hw 166 rfl))) (mvT hZ (own_w hw 166 rfl)) (mvT hZ (own_w hw 165 rfl)) (by decide) (Q := (Qp (.int (0 : Int32)) h0)) (backOf (W := 1) (rm_cod l Z a0 hw [] r zc h0 n0 Z0 C0 O2 P5 X00) hZ (own_w hw 167 rfl) (own_w hw 6 rfl) (by decide) (by decide)) q_3a q_3c (g := (mkF m 6 #[.val (.ref r)] [(.ref r), (.int nt)])) rfl (by rw [hml]; rfl) (argsL := []) (rest := [(.int nt)]) (lenOf pd_1 rfl) rfl (by show 2 * 0 + _ ≤ _; exact Nat.le_of_eq rfl) (hb hby d_jdk4254x_6) e_1 rfl (by decide) (by decide)
  obtain ⟨rfl, rfl, eh_3⟩ := Q_3
  refine own_G.via st_3 ?_
  have N_3 := Fr.app N0 (Fr.nil n0)
  show own_G _ _ _ _ (T_3.setTop (mkF m 9 #[.val (.ref r)] [(.int (0 : Int32)), (.int nt)]))
  refine own_G.go (fun _ k => XS.ishr X_3.here hx rfl (hb hby d_jdk4254x_9) rfl k) ?_
  show own_G _ _ _ _ (T_3.setTop (mkF m 10 #[.val (.ref r)] [(.int (nt >>> ((0 : Int32) &&& 31)))]))
  rw [own_shr0]
  exact own_G.end_ X_3 hlk (v := (some (.int nt))) (fun h => by rw [hrt] at h; cases h) (fun fs hr => retOut X_3 hx hrt rfl (Or.inl ⟨rfl, Or.inl rfl, _, rfl⟩) (hb hby d_jdk4254x_10) hr) eh_3 ⟨rfl, rfl, rfl⟩ (by decide) (by decide)
def Qgb (Z : State) (b : Addr) (kb : ClassId) (cap nt dp : Int32) (us vd : List Value) (h0 : Heap) (n0 : Nat) (v : Option Value) (h : Heap) (L : List Loc) : Prop := v = none ∧ Fr n0 L ∧ Keep h0 h [b] ∧ Arv Z h b kb .byte cap (own_put vd us dp.toNatClampNeg nt.toNatClampNeg) (.int (0 : Int32))
theorem d_jdk42147x_0 : decode jdk_42_method_147_code 0 = .ok (.aload_n 0, 1) := by decide +kernel
theorem d_jdk42147x_1 : decode jdk_42_method_147_code 1 = .ok (.invokevirtual 335, 3) := by decide +kernel
theorem d_jdk42147x_4 : decode jdk_42_method_147_code 4 = .ok (.iload_n 3, 1) := by decide +kernel
theorem d_jdk42147x_5 : decode jdk_42_method_147_code 5 = .ok (.if_icmp .ne 23, 3) := by decide +kernel
theorem d_jdk42147x_8 : decode jdk_42_method_147_code 8 = .ok (.aload_n 0, 1) := by decide +kernel
theorem d_jdk42147x_9 : decode jdk_42_method_147_code 9 = .ok (.getfield 9, 3) := by decide +kernel
theorem d_jdk42147x_12 : decode jdk_42_method_147_code 12 = .ok (.iconst 0, 1) := by decide +kernel
theorem d_jdk42147x_13 : decode jdk_42_method_147_code 13 = .ok (.aload_n 1, 1) := by decide +kernel
theorem d_jdk42147x_14 : decode jdk_42_method_147_code 14 = .ok (.iload_n 2, 1) := by decide +kernel
theorem d_jdk42147x_15 : decode jdk_42_method_147_code 15 = .ok (.iload_n 3, 1) := by decide +kernel
theorem d_jdk42147x_16 : decode jdk_42_method_147_code 16 = .ok (.ishl, 1) := by decide +kernel
theorem d_jdk42147x_17 : decode jdk_42_method_147_code 17 = .ok (.aload_n 0, 1) := by decide +kernel
theorem d_jdk42147x_18 : decode jdk_42_method_147_code 18 = .ok (.getfield 9, 3) := by decide +kernel
theorem d_jdk42147x_21 : decode jdk_42_method_147_code 21 = .ok (.arraylength, 1) := by decide +kernel
theorem d_jdk42147x_22 : decode jdk_42_method_147_code 22 = .ok (.invokestatic 212, 3) := by decide +kernel
theorem d_jdk42147x_25 : decode jdk_42_method_147_code 25 = .ok (.goto 18, 3) := by decide +kernel
theorem d_jdk42147x_43 : decode jdk_42_method_147_code 43 = .ok (.return_, 1) := by decide +kernel
set_option maxRecDepth 65536 in
set_option maxHeartbeats 40000000 in
theorem rm_gb (l : Launch) (Z : State) (a0 : Array Value) (hw : ∀ d ∈ tables_1, d.before a0 Z = true) (ws : List Jvm.Cond) (r t b : Addr) (kt kb : ClassId) (nt dp cap : Int32) (us vd : List Value) (zc : Int32) (h0 : Heap) (n0 : Nat) (Z0 : n0 ≤ h0.size) (E0 : Exa Z h0 r "java/lang/String") (C0 : Fld Z h0 r "java/lang/String" "coder" "B" (.int (0 : Int32))) (V0 : Fld Z h0 r "java/lang/String" "value" "[B" (.ref t)) (K0 : Arv Z h0 t kt .byte nt us (.int (0 : Int32))) (KB : Arv Z h0 b kb .byte cap vd (.int (0 : Int32))) (gb : n0 ≤ b) (hul : us.length = nt.toNatClampNeg) (h3 : ¬ nt < 0) (hdp : ¬ dp < 0) (h5 : dp.toNatClampNeg + nt.toNatClampNeg ≤ cap.toNatClampNeg) (hl : dp.toNatClampNeg + nt.toNatClampNeg ≤ vd.length) (O2 : Sta Z Z.heap "java/lang/String" "COMPACT_STRINGS" "Z" (.int zc)) (P5 : ¬ (zc = (0 : Int32))) (X00 : Old Z n0 h0) :
    MetFree l (⟨"java/lang/String", "getBytes", "([BIB)V"⟩ : MethodName) (head1 (Jvm.Cond.code (⟨"java/lang/String", "getBytes", "([BIB)V"⟩ : MethodName) jdk_42_method_147_code 4 none :: ws) ({ frames := 1, cells := 0, slots := 0, locals := 18 } : Room)) (fun a_ U => a_ = #[(.ref r), (.ref b), (.int dp), (.int (0 : Int32))] ∧ Z.Warmed39 U.vm ∧ U.heap = h0) (fun _ _ _ _ _ => True) (fun _ U o U' => ∃ v L, o = .returned v ∧ Qgb Z b kb cap nt dp us vd h0 n0 v U'.heap L ∧ FrameEnd U o U' L ({ frames := 1, cells := 0, slots := 0, locals := 18 } : Room).cells ({ frames := 1, cells := 0, slots := 0, locals := 18 } : Room).slots) := by
  refine MetFree.of_bodySF (plainFor_of_name pn_1) hisR ?_
  intro p e s m args below meth c s₁ Bd hml0 hP hK
  obtain ⟨rfl, hZ, hh⟩ := hP
  have hx := Bd.exec
  have hby := Bd.bytes
  have hrt := Bd.returns
  have hlk : meth.locks = false := Bd.notSynchronized
  have hml : c.maxLocals = 4 := hml0
  have hown : s.vm.findClass "java/lang/String" = some m.cls := findClass_of_methodNamed Bd.named
  have hnm := (name_of_methodNamed Bd.named Bd.method).1
  have X0 : Stand p l e ({ frames := 1, cells := 0, slots := 0, locals := 18 } : Room) s m #[(.ref r), (.ref b), (.int dp), (.int (0 : Int32))] below meth c s₁ [] 0 0 := Stand.of_body Bd
  have e0 : s₁.heap = h0 := by rw [← hh, Bd.state]; rfl
  have N0 := Fr.nil n0
  show own_G p.tables e below (fun o t => ∃ v L, o = .returned v ∧ Qgb Z b kb cap nt dp us vd h0 n0 v t.heap L ∧ FrameEnd s o t L ({ frames := 1, cells := 0, slots := 0, locals := 18 } : Room).cells ({ frames := 1, cells := 0, slots := 0, locals := 18 } : Room).slots) (s₁.setTop (entryFrame m #[(.ref r), (.ref b), (.int dp), (.int (0 : Int32))] 4))
  refine own_G.cast (show entryFrame m #[(.ref r), (.ref b), (.int dp), (.int (0 : Int32))] 4 = mkF m 0 #[.val (.ref r), .val (.ref b), .val (.int dp), .val (.int (0 : Int32))] [] from by first | (simp [entryFrame, mkF, argsToLocals, Value.category]; done) | rfl) ?_
  refine own_G.go (fun _ k => XS.aloadN X0.here hx rfl (hb hby d_jdk42147x_0) rfl rfl k) ?_
  show own_G _ _ _ _ (s₁.setTop (mkF m 1 #[.val (.ref r), .val (.ref b), .val (.int dp), .val (.int (0 : Int32))] [(.ref r)]))
  obtain ⟨cq_1, kq_1, q_1a, q_1b, q_1c⟩ := isOf hZ e0 E0
  obtain ⟨_, T_1, L_1, Q_1, X_1, st_1⟩ := own_callV X0 hx (z := (⟨"java/lang/String", "coder", "()B"⟩ : MethodName)) hown (mvT hZ (own_w hw 163 rfl)) (mvT hZ (own_w hw 164 rfl)) (notFace_of_selects (args := #[]) (mvT hZ (own_w hw 166 rfl))) (mvT hZ (own_w hw 166 rfl)) (mvT hZ (own_w hw 165 rfl)) (by decide) (Q := (Qp (.int (0 : Int32)) h0)) (backOf (W := 0) (rm_cod l Z a0 hw [] r zc h0 n0 Z0 C0 O2 P5 X00) hZ (own_w hw 167 rfl) (own_w hw 6 rfl) (by decide) (by decide)) q_1a q_1c (g := (mkF m 1 #[.val (.ref r), .val (.ref b), .val (.int dp), .val (.int (0 : Int32))] [(.ref r)])) rfl (by rw [hml]; rfl) (argsL := []) (rest := []) (lenOf pd_1 rfl) rfl (by show 2 * 0 + _ ≤ _; exact Nat.le_of_eq rfl) (hb hby d_jdk42147x_1) e0 rfl (by decide) (by decide)
  obtain ⟨rfl, rfl, eh_1⟩ := Q_1
  refine own_G.via st_1 ?_
  have N_1 := Fr.app N0 (Fr.nil n0)
  show own_G _ _ _ _ (T_1.setTop (mkF m 4 #[.val (.ref r), .val (.ref b), .val (.int dp), .val (.int (0 : Int32))] [(.int (0 : Int32))]))
  refine own_G.go (fun _ k => XS.iloadN X_1.here hx rfl (hb hby d_jdk42147x_4) rfl k) ?_
  show own_G _ _ _ _ (T_1.setTop (mkF m 5 #[.val (.ref r), .val (.ref b), .val (.int dp), .val (.int (0 : Int32))] [(.int (0 : Int32)), (.int (0 : Int32))]))
  refine own_G.go (fun _ k => XS.icmpNo X_1.here hx rfl (hb hby d_jdk42147x_5) rfl (teq (by decide : (0 : Int32) = (0 : Int32))).2 k) ?_
  show own_G _ _ _ _ (T_1.setTop (mkF m 8 #[.val (.ref r), .val (.ref b), .val (.int dp), .val (.int (0 : Int32))] []))
  refine own_G.go (fun _ k => XS.aloadN X_1.here hx rfl (hb hby d_jdk42147x_8) rfl rfl k) ?_
  show own_G _ _ _ _ (T_1.setTop (mkF m 9 #[.val (.ref r), .val (.ref b), .val (.int dp), .val (.int (0 : Int32))] [(.ref r)]))
  obtain ⟨T_2, X_2, e_2, st_2⟩ := getF X_1 hx hZ hown (host := "") (Or.inl (own_w hw 24 rfl)) Via.refl eh_1 V0 (g := (mkF m 9 #[.val (.ref r), .val (.ref b), .val (.int dp), .val (.int (0 : Int32))] [(.ref r)])) rfl rfl (hb hby d_jdk42147x_9)
  refine own_G.go st_2 ?_
  show own_G _ _ _ _ (T_2.setTop (mkF m 12 #[.val (.ref r), .val (.ref b), .val (.int dp), .val (.int (0 : Int32))] [(.ref t)]))
  refine own_G.go (fun _ k => XS.iconst X_2.here hx rfl (hb hby d_jdk42147x_12) k) ?_
  show own_G _ _ _ _ (T_2.setTop (mkF m 13 #[.val (.ref r), .val (.ref b), .val (.int dp), .val (.int (0 : Int32))] [(.int (0 : Int32)), (.ref t)]))
  refine own_G.go (fun _ k => XS.aloadN X_2.here hx rfl (hb hby d_jdk42147x_13) rfl rfl k) ?_
  show own_G _ _ _ _ (T_2.setTop (mkF m 14 #[.val (.ref r), .val (.ref b), .val (.int dp), .val (.int (0 : Int32))] [(.ref b), (.int (0 : Int32)), (.ref t)]))
  refine own_G.go (fun _ k => XS.iloadN X_2.here hx rfl (hb hby d_jdk42147x_14) rfl k) ?_
  show own_G _ _ _ _ (T_2.setTop (mkF m 15 #[.val (.ref r), .val (.ref b), .val (.int dp), .val (.int (0 : Int32))] [(.int dp), (.ref b), (.int (0 : Int32)), (.ref t)]))
  refine own_G.go (fun _ k => XS.iloadN X_2.here hx rfl (hb hby d_jdk42147x_15) rfl k) ?_
  show own_G _ _ _ _ (T_2.setTop (mkF m 16 #[.val (.ref r), .val (.ref b), .val (.int dp), .val (.int (0 : Int32))] [(.int (0 : Int32)), (.int dp), (.ref b), (.int (0 : Int32)), (.ref t)]))
  refine own_G.go (fun _ k => XS.ishl X_2.here hx rfl (hb hby d_jdk42147x_16) rfl k) ?_
  show own_G _ _ _ _ (T_2.setTop (mkF m 17 #[.val (.ref r), .val (.ref b), .val (.int dp), .val (.int (0 : Int32))] [(.int (dp <<< ((0 : Int32) &&& 31))), (.ref b), (.int (0 : Int32)), (.ref t)]))
  rw [own_shl0]
  refine own_G.go (fun _ k => XS.aloadN X_2.here hx rfl (hb hby d_jdk42147x_17) rfl rfl k) ?_
  show own_G _ _ _ _ (T_2.setTop (mkF m 18 #[.val (.ref r), .val (.ref b), .val (.int dp), .val (.int (0 : Int32))] [(.ref r), (.int dp), (.ref b), (.int (0 : Int32)), (.ref t)]))
  obtain ⟨T_3, X_3, e_3, st_3⟩ := getF X_2 hx hZ hown (host := "") (Or.inl (own_w hw 24 rfl)) Via.refl e_2 V0 (g := (mkF m 18 #[.val (.ref r), .val (.ref b), .val (.int dp), .val (.int (0 : Int32))] [(.ref r), (.int dp), (.ref b), (.int (0 : Int32)), (.ref t)])) rfl rfl (hb hby d_jdk42147x_18)
  refine own_G.go st_3 ?_
  show own_G _ _ _ _ (T_3.setTop (mkF m 21 #[.val (.ref r), .val (.ref b), .val (.int dp), .val (.int (0 : Int32))] [(.ref t), (.int dp), (.ref b), (.int (0 : Int32)), (.ref t)]))
  obtain ⟨cel_4, A_4, -, S_4, M_4, -, -⟩ := id K0
  refine own_G.go (X_3.arraylength hx (by rw [e_3]; exact A_4.1) (State.isArrayOf_alike hZ.alike A_4.2.1) (g := (mkF m 21 #[.val (.ref r), .val (.ref b), .val (.int dp), .val (.int (0 : Int32))] [(.ref t), (.int dp), (.ref b), (.int (0 : Int32)), (.ref t)])) rfl rfl (hb hby d_jdk42147x_21)) ?_
  rw [len_of S_4 M_4]
  show own_G _ _ _ _ (T_3.setTop (mkF m 22 #[.val (.ref r), .val (.ref b), .val (.int dp), .val (.int (0 : Int32))] [(.int nt), (.int dp), (.ref b), (.int (0 : Int32)), (.ref t)]))
  obtain ⟨T_5, h_5, L_5, X_5, e_5, N_5, K_5, V_5, st_5⟩ := cpA X_3 hx hZ hown (own_w hw 192 rfl) (own_w hw 195 rfl) (own_w hw 193 rfl) (own_w hw 194 rfl) e_3 K0 KB (sp := (0 : Int32)) (dp := dp) (nn := nt) (Or.inl ⟨rfl, rfl⟩) (by decide) hdp h3 (Nat.le_of_eq (Nat.zero_add _)) h5 (us := us) (own_range hul).symm hl N_1 gb (g := (mkF m 22 #[.val (.ref r), .val (.ref b), .val (.int dp), .val (.int (0 : Int32))] [(.int nt), (.int dp), (.ref b), (.int (0 : Int32)), (.ref t)])) rfl (by rw [hml]; rfl) rfl (hb hby d_jdk42147x_22) (by decide) (W := 0) (by show 2 * 0 + _ ≤ _; exact Nat.le_of_eq rfl) (by decide)
  refine own_G.go st_5 ?_
  have V_5q : Arv Z h_5 b kb .byte cap (own_put vd us (dp).toNatClampNeg (nt).toNatClampNeg) (.int (0 : Int32)) := V_5
  show own_G _ _ _ _ (T_5.setTop (mkF m 25 #[.val (.ref r), .val (.ref b), .val (.int dp), .val (.int (0 : Int32))] []))
  refine own_G.go (fun _ k => XS.goto X_5.here hx rfl (pc0 := 25) (pc' := 43) rfl (hb hby d_jdk42147x_25) (by decide) (by decide) k) ?_
  show own_G _ _ _ _ (T_5.setTop (mkF m 43 #[.val (.ref r), .val (.ref b), .val (.int dp), .val (.int (0 : Int32))] []))
  exact own_G.end_ X_5 hlk (v := none) (fun _ => rfl) (fun fs hr => X_5.returnOut hx hrt (hb hby d_jdk42147x_43) hr) e_5 ⟨rfl, N_5, ((Keep.refl h0 [b]).trans K_5 (allS (Or.inl (List.mem_of_getElem? (i := 0) rfl)) all0)), V_5q⟩ (by decide) (by decide)
theorem pn_2 : plainName "java/lang/AbstractStringBuilder" = true := by first | (simp [plainName, overriddenIn]; done) | decide +kernel
theorem d_jdk6871x_0 : decode jdk_68_method_71_code 0 = .ok (.getstatic 18, 3) := by decide +kernel
theorem d_jdk6871x_3 : decode jdk_68_method_71_code 3 = .ok (.ifCond .eq 18, 3) := by decide +kernel
theorem d_jdk6871x_6 : decode jdk_68_method_71_code 6 = .ok (.aload_n 0, 1) := by decide +kernel
theorem d_jdk6871x_7 : decode jdk_68_method_71_code 7 = .ok (.getfield 22, 3) := by decide +kernel
theorem d_jdk6871x_10 : decode jdk_68_method_71_code 10 = .ok (.aload_n 1, 1) := by decide +kernel
theorem d_jdk6871x_11 : decode jdk_68_method_71_code 11 = .ok (.invokevirtual 40, 3) := by decide +kernel
theorem d_jdk6871x_14 : decode jdk_68_method_71_code 14 = .ok (.if_icmp .eq 7, 3) := by decide +kernel
theorem d_jdk6871x_21 : decode jdk_68_method_71_code 21 = .ok (.return_, 1) := by decide +kernel
set_option maxRecDepth 65536 in
set_option maxHeartbeats 40000000 in
theorem rm_inf (l : Launch) (Z : State) (a0 : Array Value) (hw : ∀ d ∈ tables_1, d.before a0 Z = true) (ws : List Jvm.Cond) (sb r : Addr) (zc : Int32) (h0 : Heap) (n0 : Nat) (Z0 : n0 ≤ h0.size) (ES : Exa Z h0 sb "java/lang/StringBuilder") (SC : Fld Z h0 sb "java/lang/AbstractStringBuilder" "coder" "B" (.int (0 : Int32))) (E0 : Exa Z h0 r "java/lang/String") (C0 : Fld Z h0 r "java/lang/String" "coder" "B" (.int (0 : Int32))) (O2 : Sta Z Z.heap "java/lang/String" "COMPACT_STRINGS" "Z" (.int zc)) (P5 : ¬ (zc = (0 : Int32))) (X00 : Old Z n0 h0) :
    MetFree l (⟨"java/lang/AbstractStringBuilder", "inflateIfNeededFor", "(Ljava/lang/String;)V"⟩ : MethodName) (head1 (Jvm.Cond.code (⟨"java/lang/AbstractStringBuilder", "inflateIfNeededFor", "(Ljava/lang/String;)V"⟩ : MethodName) jdk_68_method_71_code 2 none :: ws) ({ frames := 1, cells := 0, slots := 0, locals := 13 } : Room)) (fun a_ U => a_ = #[(.ref sb), (.ref r)] ∧ Z.Warmed39 U.vm ∧ U.heap = h0) (fun _ _ _ _ _ => True) (fun _ U o U' => ∃ v L, o = .returned v ∧ Qn h0 v U'.heap L ∧ FrameEnd U o U' L ({ frames := 1, cells := 0, slots := 0, locals := 13 } : Room).cells ({ frames := 1, cells := 0, slots := 0, locals := 13 } : Room).slots) := by
  refine MetFree.of_bodySF (plainFor_of_name pn_2) hisR ?_
  intro p e s m args below meth c s₁ Bd hml0 hP hK
  obtain ⟨rfl, hZ, hh⟩ := hP
  have hx := Bd.exec
  have hby := Bd.bytes
  have hrt := Bd.returns
  have hlk : meth.locks = false := Bd.notSynchronized
  have hml : c.maxLocals = 2 := hml0
  have hown : s.vm.findClass "java/lang/AbstractStringBuilder" = some m.cls := findClass_of_methodNamed Bd.named
  have hnm := (name_of_methodNamed Bd.named Bd.method).1
  have X0 : Stand p l e ({ frames := 1, cells := 0, slots := 0, locals := 13 } : Room) s m #[(.ref sb), (.ref r)] below meth c s₁ [] 0 0 := Stand.of_body Bd
  have e0 : s₁.heap = h0 := by rw [← hh, Bd.state]; rfl
  have N0 := Fr.nil n0
  show own_G p.tables e below (fun o t => ∃ v L, o = .returned v ∧ Qn h0 v t.heap L ∧ FrameEnd s o t L ({ frames := 1, cells := 0, slots := 0, locals := 13 } : Room).cells ({ frames := 1, cells := 0, slots := 0, locals := 13 } : Room).slots) (s₁.setTop (entryFrame m #[(.ref sb), (.ref r)] 2))
  refine own_G.cast (show entryFrame m #[(.ref sb), (.ref r)] 2 = mkF m 0 #[.val (.ref sb), .val (.ref r)] [] from by first | (simp [entryFrame, mkF, argsToLocals, Value.category]; done) | rfl) ?_
  obtain ⟨T_1, X_1, e_1, st_1⟩ := getS2 X0 hx hZ hown (host := "") (Or.inl (own_w hw 142 rfl)) Via.refl e0 (O2.ext X00.2) (g := (mkF m 0 #[.val (.ref sb), .val (.ref r)] [])) rfl (hb hby d_jdk6871x_0)
  refine own_G.go st_1 ?_
  show own_G _ _ _ _ (T_1.setTop (mkF m 3 #[.val (.ref sb), .val (.ref r)] [(.int zc)]))
  refine own_G.go (fun _ k => XS.ifNo X_1.here hx rfl (hb hby d_jdk6871x_3) rfl ((if0 _ _).trans (feq (P5 : ¬ zc = (0 : Int32))).1) k) ?_
  show own_G _ _ _ _ (T_1.setTop (mkF m 6 #[.val (.ref sb), .val (.ref r)] []))
  refine own_G.go (fun _ k => XS.aloadN X_1.here hx rfl (hb hby d_jdk6871x_6) rfl rfl k) ?_
  show own_G _ _ _ _ (T_1.setTop (mkF m 7 #[.val (.ref sb), .val (.ref r)] [(.ref sb)]))
  obtain ⟨T_2, X_2, e_2, st_2⟩ := getF X_1 hx hZ hown (host := "") (Or.inl (own_w hw 145 rfl)) Via.refl e_1 SC (g := (mkF m 7 #[.val (.ref sb), .val (.ref r)] [(.ref sb)])) rfl rfl (hb hby d_jdk6871x_7)
  refine own_G.go st_2 ?_
  show own_G _ _ _ _ (T_2.setTop (mkF m 10 #[.val (.ref sb), .val (.ref r)] [(.int (0 : Int32))]))
  refine own_G.go (fun _ k => XS.aloadN X_2.here hx rfl (hb hby d_jdk6871x_10) rfl rfl k) ?_
  show own_G _ _ _ _ (T_2.setTop (mkF m 11 #[.val (.ref sb), .val (.ref r)] [(.ref r), (.int (0 : Int32))]))
  obtain ⟨cq_3, kq_3, q_3a, q_3b, q_3c⟩ := isOf hZ e_2 E0
  obtain ⟨_, T_3, L_3, Q_3, X_3, st_3⟩ := own_callV X_2 hx (z := (⟨"java/lang/String", "coder", "()B"⟩ : MethodName)) hown (mvT hZ (own_w hw 186 rfl)) (mvT hZ (own_w hw 164 rfl)) (notFace_of_selects (args := #[]) (mvT hZ (own_w hw 166 rfl))) (mvT hZ (own_w hw 166 rfl)) (mvT hZ (own_w hw 165 rfl)) (by decide) (Q := (Qp (.int (0 : Int32)) h0)) (backOf (W := 1) (rm_cod l Z a0 hw [] r zc h0 n0 Z0 C0 O2 P5 X00) hZ (own_w hw 167 rfl) (own_w hw 6 rfl) (by decide) (by decide)) q_3a q_3c (g := (mkF m 11 #[.val (.ref sb), .val (.ref r)] [(.ref r), (.int (0 : Int32))])) rfl (by rw [hml]; rfl) (argsL := []) (rest := [(.int (0 : Int32))]) (lenOf pd_1 rfl) rfl (by show 2 * 0 + _ ≤ _; exact Nat.le_of_eq rfl) (hb hby d_jdk6871x_11) e_2 rfl (by decide) (by decide)
  obtain ⟨rfl, rfl, eh_3⟩ := Q_3
  refine own_G.via st_3 ?_
  have N_3 := Fr.app N0 (Fr.nil n0)
  show own_G _ _ _ _ (T_3.setTop (mkF m 14 #[.val (.ref sb), .val (.ref r)] [(.int (0 : Int32)), (.int (0 : Int32))]))
  refine own_G.go (fun _ k => XS.icmpYes X_3.here hx rfl (pc0 := 14) (pc' := 21) rfl (hb hby d_jdk6871x_14) rfl (teq (by decide : (0 : Int32) = (0 : Int32))).1 (by decide) (by decide) k) ?_
  show own_G _ _ _ _ (T_3.setTop (mkF m 21 #[.val (.ref sb), .val (.ref r)] []))
  exact own_G.end_ X_3 hlk (v := none) (fun _ => rfl) (fun fs hr => X_3.returnOut hx hrt (hb hby d_jdk6871x_21) hr) eh_3 ⟨rfl, rfl, rfl⟩ (by decide) (by decide)
theorem pd_2 : parseMethodDescriptor "(Ljava/lang/String;)V" = some ⟨[(.object "java/lang/String")], none⟩ := by decide +kernel
theorem pd_3 : parseMethodDescriptor "([BIB)V" = some ⟨[(.array .byte), .int, .byte], none⟩ := by decide +kernel
theorem d_jdk6873x_0 : decode jdk_68_method_73_code 0 = .ok (.aload_n 0, 1) := by decide +kernel
theorem d_jdk6873x_1 : decode jdk_68_method_73_code 1 = .ok (.aload_n 2, 1) := by decide +kernel
theorem d_jdk6873x_2 : decode jdk_68_method_73_code 2 = .ok (.invokevirtual 397, 3) := by decide +kernel
theorem d_jdk6873x_5 : decode jdk_68_method_73_code 5 = .ok (.aload_n 2, 1) := by decide +kernel
theorem d_jdk6873x_6 : decode jdk_68_method_73_code 6 = .ok (.aload_n 0, 1) := by decide +kernel
theorem d_jdk6873x_7 : decode jdk_68_method_73_code 7 = .ok (.getfield 15, 3) := by decide +kernel
theorem d_jdk6873x_10 : decode jdk_68_method_73_code 10 = .ok (.iload_n 1, 1) := by decide +kernel
theorem d_jdk6873x_11 : decode jdk_68_method_73_code 11 = .ok (.aload_n 0, 1) := by decide +kernel
theorem d_jdk6873x_12 : decode jdk_68_method_73_code 12 = .ok (.getfield 22, 3) := by decide +kernel
theorem d_jdk6873x_15 : decode jdk_68_method_73_code 15 = .ok (.invokevirtual 399, 3) := by decide +kernel
theorem d_jdk6873x_18 : decode jdk_68_method_73_code 18 = .ok (.return_, 1) := by decide +kernel
set_option maxRecDepth 65536 in
set_option maxHeartbeats 40000000 in
theorem rm_psa (l : Launch) (Z : State) (a0 : Array Value) (hw : ∀ d ∈ tables_1, d.before a0 Z = true) (ws : List Jvm.Cond) (sb : Addr) (r t b : Addr) (kt kb : ClassId) (nt dp cap : Int32) (us vd : List Value) (zc : Int32) (h0 : Heap) (n0 : Nat) (Z0 : n0 ≤ h0.size) (ES : Exa Z h0 sb "java/lang/StringBuilder") (SV : Fld Z h0 sb "java/lang/AbstractStringBuilder" "value" "[B" (.ref b)) (SC : Fld Z h0 sb "java/lang/AbstractStringBuilder" "coder" "B" (.int (0 : Int32))) (E0 : Exa Z h0 r "java/lang/String") (C0 : Fld Z h0 r "java/lang/String" "coder" "B" (.int (0 : Int32))) (V0 : Fld Z h0 r "java/lang/String" "value" "[B" (.ref t)) (K0 : Arv Z h0 t kt .byte nt us (.int (0 : Int32))) (KB : Arv Z h0 b kb .byte cap vd (.int (0 : Int32))) (gb : n0 ≤ b) (hul : us.length = nt.toNatClampNeg) (h3 : ¬ nt < 0) (hdp : ¬ dp < 0) (h5 : dp.toNatClampNeg + nt.toNatClampNeg ≤ cap.toNatClampNeg) (hl : dp.toNatClampNeg + nt.toNatClampNeg ≤ vd.length) (O2 : Sta Z Z.heap "java/lang/String" "COMPACT_STRINGS" "Z" (.int zc)) (P5 : ¬ (zc = (0 : Int32))) (X00 : Old Z n0 h0) :
    MetFree l (⟨"java/lang/AbstractStringBuilder", "putStringAt", "(ILjava/lang/String;)V"⟩ : MethodName) (head1 (Jvm.Cond.code (⟨"java/lang/AbstractStringBuilder", "putStringAt", "(ILjava/lang/String;)V"⟩ : MethodName) jdk_68_method_73_code 3 none :: ws) ({ frames := 2, cells := 0, slots := 0, locals := 33 } : Room)) (fun a_ U => a_ = #[(.ref sb), (.int dp), (.ref r)] ∧ Z.Warmed39 U.vm ∧ U.heap = h0) (fun _ _ _ _ _ => True) (fun _ U o U' => ∃ v L, o = .returned v ∧ Qgb Z b kb cap nt dp us vd h0 n0 v U'.heap L ∧ FrameEnd U o U' L ({ frames := 2, cells := 0, slots := 0, locals := 33 } : Room).cells ({ frames := 2, cells := 0, slots := 0, locals := 33 } : Room).slots) := by
  refine MetFree.of_bodySF (plainFor_of_name pn_2) hisR ?_
  intro p e s m args below meth c s₁ Bd hml0 hP hK
  obtain ⟨rfl, hZ, hh⟩ := hP
  have hx := Bd.exec
  have hby := Bd.bytes
  have hrt := Bd.returns
  have hlk : meth.locks = false := Bd.notSynchronized
  have hml : c.maxLocals = 3 := hml0
  have hown : s.vm.findClass "java/lang/AbstractStringBuilder" = some m.cls := findClass_of_methodNamed Bd.named
  have hnm := (name_of_methodNamed Bd.named Bd.method).1
  have X0 : Stand p l e ({ frames := 2, cells := 0, slots := 0, locals := 33 } : Room) s m #[(.ref sb), (.int dp), (.ref r)] below meth c s₁ [] 0 0 := Stand.of_body Bd
  have e0 : s₁.heap = h0 := by rw [← hh, Bd.state]; rfl
  have N0 := Fr.nil n0
  show own_G p.tables e below (fun o t => ∃ v L, o = .returned v ∧ Qgb Z b kb cap nt dp us vd h0 n0 v t.heap L ∧ FrameEnd s o t L ({ frames := 2, cells := 0, slots := 0, locals := 33 } : Room).cells ({ frames := 2, cells := 0, slots := 0, locals := 33 } : Room).slots) (s₁.setTop (entryFrame m #[(.ref sb), (.int dp), (.ref r)] 3))
  refine own_G.cast (show entryFrame m #[(.ref sb), (.int dp), (.ref r)] 3 = mkF m 0 #[.val (.ref sb), .val (.int dp), .val (.ref r)] [] from by first | (simp [entryFrame, mkF, argsToLocals, Value.category]; done) | rfl) ?_
  refine own_G.go (fun _ k => XS.aloadN X0.here hx rfl (hb hby d_jdk6873x_0) rfl rfl k) ?_
  show own_G _ _ _ _ (s₁.setTop (mkF m 1 #[.val (.ref sb), .val (.int dp), .val (.ref r)] [(.ref sb)]))
  refine own_G.go (fun _ k => XS.aloadN X0.here hx rfl (hb hby d_jdk6873x_1) rfl rfl k) ?_
  show own_G _ _ _ _ (s₁.setTop (mkF m 2 #[.val (.ref sb), .val (.int dp), .val (.ref r)] [(.ref r), (.ref sb)]))
  obtain ⟨_, T_1, L_1, Q_1, X_1, st_1⟩ := own_callPS X0 hx hown (mvT hZ (own_w hw 181 rfl)) (mvT hZ (own_w hw 182 rfl)) (mvP hZ (own_w hw 183 rfl)) (mvT hZ (own_w hw 184 rfl)) (mvT hZ (own_w hw 185 rfl)) (by decide) (Q := (Qn h0)) (backOf (W := 0) (rm_inf l Z a0 hw [] sb r zc h0 n0 Z0 ES SC E0 C0 O2 P5 X00) hZ (own_w hw 185 rfl) (own_w hw 139 rfl) (by decide) (by decide)) ES (g := (mkF m 2 #[.val (.ref sb), .val (.int dp), .val (.ref r)] [(.ref r), (.ref sb)])) rfl (by rw [hml]; rfl) (argsL := [(.ref r)]) (rest := []) (lenOf pd_2 rfl) rfl (by show 2 * 0 + _ ≤ _; exact Nat.le_of_eq rfl) (hb hby d_jdk6873x_2) e0 rfl (by decide) (by decide)
  obtain ⟨rfl, rfl, eh_1⟩ := Q_1
  refine own_G.via st_1 ?_
  have N_1 := Fr.app N0 (Fr.nil n0)
  show own_G _ _ _ _ (T_1.setTop (mkF m 5 #[.val (.ref sb), .val (.int dp), .val (.ref r)] []))
  refine own_G.go (fun _ k => XS.aloadN X_1.here hx rfl (hb hby d_jdk6873x_5) rfl rfl k) ?_
  show own_G _ _ _ _ (T_1.setTop (mkF m 6 #[.val (.ref sb), .val (.int dp), .val (.ref r)] [(.ref r)]))
  refine own_G.go (fun _ k => XS.aloadN X_1.here hx rfl (hb hby d_jdk6873x_6) rfl rfl k) ?_
  show own_G _ _ _ _ (T_1.setTop (mkF m 7 #[.val (.ref sb), .val (.int dp), .val (.ref r)] [(.ref sb), (.ref r)]))
  obtain ⟨T_2, X_2, e_2, st_2⟩ := getF X_1 hx hZ hown (host := "") (Or.inl (own_w hw 143 rfl)) Via.refl eh_1 SV (g := (mkF m 7 #[.val (.ref sb), .val (.int dp), .val (.ref r)] [(.ref sb), (.ref r)])) rfl rfl (hb hby d_jdk6873x_7)
  refine own_G.go st_2 ?_
  show own_G _ _ _ _ (T_2.setTop (mkF m 10 #[.val (.ref sb), .val (.int dp), .val (.ref r)] [(.ref b), (.ref r)]))
  refine own_G.go (fun _ k => XS.iloadN X_2.here hx rfl (hb hby d_jdk6873x_10) rfl k) ?_
  show own_G _ _ _ _ (T_2.setTop (mkF m 11 #[.val (.ref sb), .val (.int dp), .val (.ref r)] [(.int dp), (.ref b), (.ref r)]))
  refine own_G.go (fun _ k => XS.aloadN X_2.here hx rfl (hb hby d_jdk6873x_11) rfl rfl k) ?_
  show own_G _ _ _ _ (T_2.setTop (mkF m 12 #[.val (.ref sb), .val (.int dp), .val (.ref r)] [(.ref sb), (.int dp), (.ref b), (.ref r)]))
  obtain ⟨T_3, X_3, e_3, st_3⟩ := getF X_2 hx hZ hown (host := "") (Or.inl (own_w hw 145 rfl)) Via.refl e_2 SC (g := (mkF m 12 #[.val (.ref sb), .val (.int dp), .val (.ref r)] [(.ref sb), (.int dp), (.ref b), (.ref r)])) rfl rfl (hb hby d_jdk6873x_12)
  refine own_G.go st_3 ?_
  show own_G _ _ _ _ (T_3.setTop (mkF m 15 #[.val (.ref sb), .val (.int dp), .val (.ref r)] [(.int (0 : Int32)), (.int dp), (.ref b), (.ref r)]))
  obtain ⟨cq_4, kq_4, q_4a, q_4b, q_4c⟩ := isOf hZ e_3 E0
  obtain ⟨_, T_4, L_4, Q_4, X_4, st_4⟩ := own_callV X_3 hx (z := (⟨"java/lang/String", "getBytes", "([BIB)V"⟩ : MethodName)) hown (mvT hZ (own_w hw 187 rfl)) (mvT hZ (own_w hw 188 rfl)) (notFace_of_selects (args := #[]) (mvT hZ (own_w hw 190 rfl))) (mvT hZ (own_w hw 190 rfl)) (mvT hZ (own_w hw 189 rfl)) (by decide) (Q := (Qgb Z b kb cap nt dp us vd h0 n0)) (backOf (W := 0) (rm_gb l Z a0 hw [] r t b kt kb nt dp cap us vd zc h0 n0 Z0 E0 C0 V0 K0 KB gb hul h3 hdp h5 hl O2 P5 X00) hZ (own_w hw 191 rfl) (own_w hw 6 rfl) (by decide) (by decide)) q_4a q_4c (g := (mkF m 15 #[.val (.ref sb), .val (.int dp), .val (.ref r)] [(.int (0 : Int32)), (.int dp), (.ref b), (.ref r)])) rfl (by rw [hml]; rfl) (argsL := [(.ref b), (.int dp), (.int (0 : Int32))]) (rest := []) (lenOf pd_3 rfl) rfl (by show 2 * 0 + _ ≤ _; exact Nat.le_of_eq rfl) (hb hby d_jdk6873x_15) e_3 rfl (by decide) (by decide)
  obtain ⟨rfl, Nq_4, K_4, V_4⟩ := Q_4
  refine own_G.via st_4 ?_
  have N_4 := Fr.app N_1 Nq_4
  show own_G _ _ _ _ (T_4.setTop (mkF m 18 #[.val (.ref sb), .val (.int dp), .val (.ref r)] []))
  exact own_G.end_ X_4 hlk (v := none) (fun _ => rfl) (fun fs hr => X_4.returnOut hx hrt (hb hby d_jdk6873x_18) hr) rfl ⟨rfl, N_4, ((Keep.refl h0 [b]).trans K_4 (allS (Or.inl (List.mem_of_getElem? (i := 0) rfl)) all0)), V_4⟩ (by decide) (by decide)
theorem d_jdk689x_0 : decode jdk_68_method_9_code 0 = .ok (.aload_n 0, 1) := by decide +kernel
theorem d_jdk689x_1 : decode jdk_68_method_9_code 1 = .ok (.getfield 15, 3) := by decide +kernel
theorem d_jdk689x_4 : decode jdk_68_method_9_code 4 = .ok (.arraylength, 1) := by decide +kernel
theorem d_jdk689x_5 : decode jdk_68_method_9_code 5 = .ok (.aload_n 0, 1) := by decide +kernel
theorem d_jdk689x_6 : decode jdk_68_method_9_code 6 = .ok (.getfield 22, 3) := by decide +kernel
theorem d_jdk689x_9 : decode jdk_68_method_9_code 9 = .ok (.ishr, 1) := by decide +kernel
theorem d_jdk689x_10 : decode jdk_68_method_9_code 10 = .ok (.istore_n 2, 1) := by decide +kernel
theorem d_jdk689x_11 : decode jdk_68_method_9_code 11 = .ok (.iload_n 1, 1) := by decide +kernel
theorem d_jdk689x_12 : decode jdk_68_method_9_code 12 = .ok (.iload_n 2, 1) := by decide +kernel
theorem d_jdk689x_13 : decode jdk_68_method_9_code 13 = .ok (.isub, 1) := by decide +kernel
theorem d_jdk689x_14 : decode jdk_68_method_9_code 14 = .ok (.ifCond .le 24, 3) := by decide +kernel
theorem d_jdk689x_38 : decode jdk_68_method_9_code 38 = .ok (.return_, 1) := by decide +kernel
set_option maxRecDepth 65536 in
set_option maxHeartbeats 40000000 in
theorem rm_ecn (l : Launch) (Z : State) (a0 : Array Value) (hw : ∀ d ∈ tables_1, d.before a0 Z = true) (ws : List Jvm.Cond) (sb b : Addr) (kb : ClassId) (cap mn : Int32) (vd : List Value) (h0 : Heap) (n0 : Nat) (Z0 : n0 ≤ h0.size) (SV : Fld Z h0 sb "java/lang/AbstractStringBuilder" "value" "[B" (.ref b)) (SC : Fld Z h0 sb "java/lang/AbstractStringBuilder" "coder" "B" (.int (0 : Int32))) (KB : Arv Z h0 b kb .byte cap vd (.int (0 : Int32))) (hng : ¬ (0 : Int32) < (mn - cap)) :
    MetFree l (⟨"java/lang/AbstractStringBuilder", "ensureCapacityInternal", "(I)V"⟩ : MethodName) (head1 (Jvm.Cond.code (⟨"java/lang/AbstractStringBuilder", "ensureCapacityInternal", "(I)V"⟩ : MethodName) jdk_68_method_9_code 3 none :: ws) ({ frames := 0, cells := 0, slots := 0, locals := 0 } : Room)) (fun a_ U => a_ = #[(.ref sb), (.int mn)] ∧ Z.Warmed39 U.vm ∧ U.heap = h0) (fun _ _ _ _ _ => True) (fun _ U o U' => ∃ v L, o = .returned v ∧ Qn h0 v U'.heap L ∧ FrameEnd U o U' L ({ frames := 0, cells := 0, slots := 0, locals := 0 } : Room).cells ({ frames := 0, cells := 0, slots := 0, locals := 0 } : Room).slots) := by
  refine MetFree.of_bodySF (plainFor_of_name pn_2) hisR ?_
  intro p e s m args below meth c s₁ Bd hml0 hP hK
  obtain ⟨rfl, hZ, hh⟩ := hP
  have hx := Bd.exec
  have hby := Bd.bytes
  have hrt := Bd.returns
  have hlk : meth.locks = false := Bd.notSynchronized
  have hml : c.maxLocals = 3 := hml0
  have hown : s.vm.findClass "java/lang/AbstractStringBuilder" = some m.cls := findClass_of_methodNamed Bd.named
  have hnm := (name_of_methodNamed Bd.named Bd.method).1
  have X0 : Stand p l e ({ frames := 0, cells := 0, slots := 0, locals := 0 } : Room) s m #[(.ref sb), (.int mn)] below meth c s₁ [] 0 0 := Stand.of_body Bd
  have e0 : s₁.heap = h0 := by rw [← hh, Bd.state]; rfl
  have N0 := Fr.nil n0
  show own_G p.tables e below (fun o t => ∃ v L, o = .returned v ∧ Qn h0 v t.heap L ∧ FrameEnd s o t L ({ frames := 0, cells := 0, slots := 0, locals := 0 } : Room).cells ({ frames := 0, cells := 0, slots := 0, locals := 0 } : Room).slots) (s₁.setTop (entryFrame m #[(.ref sb), (.int mn)] 3))
  refine own_G.cast (show entryFrame m #[(.ref sb), (.int mn)] 3 = mkF m 0 #[.val (.ref sb), .val (.int mn), .unset] [] from by first | (simp [entryFrame, mkF, argsToLocals, Value.category]; done) | rfl) ?_
  refine own_G.go (fun _ k => XS.aloadN X0.here hx rfl (hb hby d_jdk689x_0) rfl rfl k) ?_
  show own_G _ _ _ _ (s₁.setTop (mkF m 1 #[.val (.ref sb), .val (.int mn), .unset] [(.ref sb)]))
  obtain ⟨T_1, X_1, e_1, st_1⟩ := getF X0 hx hZ hown (host := "") (Or.inl (own_w hw 143 rfl)) Via.refl e0 SV (g := (mkF m 1 #[.val (.ref sb), .val (.int mn), .unset] [(.ref sb)])) rfl rfl (hb hby d_jdk689x_1)
  refine own_G.go st_1 ?_
  show own_G _ _ _ _ (T_1.setTop (mkF m 4 #[.val (.ref sb), .val (.int mn), .unset] [(.ref b)]))
  obtain ⟨cel_2, A_2, -, S_2, M_2, -, -⟩ := id KB
  refine own_G.go (X_1.arraylength hx (by rw [e_1]; exact A_2.1) (State.isArrayOf_alike hZ.alike A_2.2.1) (g := (mkF m 4 #[.val (.ref sb), .val (.int mn), .unset] [(.ref b)])) rfl rfl (hb hby d_jdk689x_4)) ?_
  rw [len_of S_2 M_2]
  show own_G _ _ _ _ (T_1.setTop (mkF m 5 #[.val (.ref sb), .val (.int mn), .unset] [(.int cap)]))
  refine own_G.go (fun _ k => XS.aloadN X_1.here hx rfl (hb hby d_jdk689x_5) rfl rfl k) ?_
  show own_G _ _ _ _ (T_1.setTop (mkF m 6 #[.val (.ref sb), .val (.int mn), .unset] [(.ref sb), (.int cap)]))
  obtain ⟨T_3, X_3, e_3, st_3⟩ := getF X_1 hx hZ hown (host := "") (Or.inl (own_w hw 145 rfl)) Via.refl e_1 SC (g := (mkF m 6 #[.val (.ref sb), .val (.int mn), .unset] [(.ref sb), (.int cap)])) rfl rfl (hb hby d_jdk689x_6)
  refine own_G.go st_3 ?_
  show own_G _ _ _ _ (T_3.setTop (mkF m 9 #[.val (.ref sb), .val (.int mn), .unset] [(.int (0 : Int32)), (.int cap)]))
  refine own_G.go (fun _ k => XS.ishr X_3.here hx rfl (hb hby d_jdk689x_9) rfl k) ?_
  show own_G _ _ _ _ (T_3.setTop (mkF m 10 #[.val (.ref sb), .val (.int mn), .unset] [(.int (cap >>> ((0 : Int32) &&& 31)))]))
  rw [own_shr0]
  refine own_G.go (fun _ k => XS.istoreN X_3.here hx rfl (hb hby d_jdk689x_10) rfl (l' := #[.val (.ref sb), .val (.int mn), .val (.int cap)]) rfl k) ?_
  show own_G _ _ _ _ (T_3.setTop (mkF m 11 #[.val (.ref sb), .val (.int mn), .val (.int cap)] []))
  refine own_G.go (fun _ k => XS.iloadN X_3.here hx rfl (hb hby d_jdk689x_11) rfl k) ?_
  show own_G _ _ _ _ (T_3.setTop (mkF m 12 #[.val (.ref sb), .val (.int mn), .val (.int cap)] [(.int mn)]))
  refine own_G.go (fun _ k => XS.iloadN X_3.here hx rfl (hb hby d_jdk689x_12) rfl k) ?_
  show own_G _ _ _ _ (T_3.setTop (mkF m 13 #[.val (.ref sb), .val (.int mn), .val (.int cap)] [(.int cap), (.int mn)]))
  refine own_G.go (fun _ k => XS.isub X_3.here hx rfl (hb hby d_jdk689x_13) rfl k) ?_
  show own_G _ _ _ _ (T_3.setTop (mkF m 14 #[.val (.ref sb), .val (.int mn), .val (.int cap)] [(.int (mn - cap))]))
  refine own_G.go (fun _ k => XS.ifYes X_3.here hx rfl (pc0 := 14) (pc' := 38) rfl (hb hby d_jdk689x_14) rfl ((if0 _ _).trans (flt (hng : ¬ (0 : Int32) < (mn - cap))).2.2.2) (by decide) (by decide) k) ?_
  show own_G _ _ _ _ (T_3.setTop (mkF m 38 #[.val (.ref sb), .val (.int mn), .val (.int cap)] []))
  exact own_G.end_ X_3 hlk (v := none) (fun _ => rfl) (fun fs hr => X_3.returnOut hx hrt (hb hby d_jdk689x_38) hr) e_3 ⟨rfl, rfl, rfl⟩ (by decide) (by decide)
theorem d_jdk2965x_0 : decode jdk_29_method_65_code 0 = .ok (.iload_n 0, 1) := by decide +kernel
theorem d_jdk2965x_1 : decode jdk_29_method_65_code 1 = .ok (.iload_n 1, 1) := by decide +kernel
theorem d_jdk2965x_2 : decode jdk_29_method_65_code 2 = .ok (.if_icmp .lt 7, 3) := by decide +kernel
theorem d_jdk2965x_9 : decode jdk_29_method_65_code 9 = .ok (.iload_n 1, 1) := by decide +kernel
theorem d_jdk2965x_10 : decode jdk_29_method_65_code 10 = .ok (.ireturn, 1) := by decide +kernel
set_option maxRecDepth 65536 in
set_option maxHeartbeats 40000000 in
theorem rm_max (l : Launch) (Z : State) (a0 : Array Value) (hw : ∀ d ∈ tables_1, d.before a0 Z = true) (ws : List Jvm.Cond) (x y : Int32) (h0 : Heap) (n0 : Nat) (Z0 : n0 ≤ h0.size) (hcm : x < y) :
    MetFree l (⟨"java/lang/Math", "max", "(II)I"⟩ : MethodName) (head1 (Jvm.Cond.code (⟨"java/lang/Math", "max", "(II)I"⟩ : MethodName) jdk_29_method_65_code 2 (some .int) :: ws) ({ frames := 0, cells := 0, slots := 0, locals := 0 } : Room)) (fun a_ U => a_ = #[(.int x), (.int y)] ∧ Z.Warmed39 U.vm ∧ U.heap = h0) (fun _ _ _ _ _ => True) (fun _ U o U' => ∃ v L, o = .returned v ∧ Qp (.int y) h0 v U'.heap L ∧ FrameEnd U o U' L ({ frames := 0, cells := 0, slots := 0, locals := 0 } : Room).cells ({ frames := 0, cells := 0, slots := 0, locals := 0 } : Room).slots) := by
  refine MetFree.of_bodySF (Jvm.Free.JP.mathPlain rfl (by decide +kernel)) hisR ?_
  intro p e s m args below meth c s₁ Bd hml0 hP hK
  obtain ⟨rfl, hZ, hh⟩ := hP
  have hx := Bd.exec
  have hby := Bd.bytes
  have hrt := Bd.returns
  have hlk : meth.locks = false := Bd.notSynchronized
  have hml : c.maxLocals = 2 := hml0
  have hown : s.vm.findClass "java/lang/Math" = some m.cls := findClass_of_methodNamed Bd.named
  have hnm := (name_of_methodNamed Bd.named Bd.method).1
  have X0 : Stand p l e ({ frames := 0, cells := 0, slots := 0, locals := 0 } : Room) s m #[(.int x), (.int y)] below meth c s₁ [] 0 0 := Stand.of_body Bd
  have e0 : s₁.heap = h0 := by rw [← hh, Bd.state]; rfl
  have N0 := Fr.nil n0
  show own_G p.tables e below (fun o t => ∃ v L, o = .returned v ∧ Qp (.int y) h0 v t.heap L ∧ FrameEnd s o t L ({ frames := 0, cells := 0, slots := 0, locals := 0 } : Room).cells ({ frames := 0, cells := 0, slots := 0, locals := 0 } : Room).slots) (s₁.setTop (entryFrame m #[(.int x), (.int y)] 2))
  refine own_G.cast (show entryFrame m #[(.int x), (.int y)] 2 = mkF m 0 #[.val (.int x), .val (.int y)] [] from by first | (simp [entryFrame, mkF, argsToLocals, Value.category]; done) | rfl) ?_
  refine own_G.go (fun _ k => XS.iloadN X0.here hx rfl (hb hby d_jdk2965x_0) rfl k) ?_
  show own_G _ _ _ _ (s₁.setTop (mkF m 1 #[.val (.int x), .val (.int y)] [(.int x)]))
  refine own_G.go (fun _ k => XS.iloadN X0.here hx rfl (hb hby d_jdk2965x_1) rfl k) ?_
  show own_G _ _ _ _ (s₁.setTop (mkF m 2 #[.val (.int x), .val (.int y)] [(.int y), (.int x)]))
  refine own_G.go (fun _ k => XS.icmpYes X0.here hx rfl (pc0 := 2) (pc' := 9) rfl (hb hby d_jdk2965x_2) rfl (tlt (hcm : x < y)).1 (by decide) (by decide) k) ?_
  show own_G _ _ _ _ (s₁.setTop (mkF m 9 #[.val (.int x), .val (.int y)] []))
  refine own_G.go (fun _ k => XS.iloadN X0.here hx rfl (hb hby d_jdk2965x_9) rfl k) ?_
  show own_G _ _ _ _ (s₁.setTop (mkF m 10 #[.val (.int x), .val (.int y)] [(.int y)]))
  exact own_G.end_ X0 hlk (v := (some (.int y))) (fun h => by rw [hrt] at h; cases h) (fun fs hr => retOut X0 hx hrt rfl (Or.inl ⟨rfl, Or.inl rfl, _, rfl⟩) (hb hby d_jdk2965x_10) hr) e0 ⟨rfl, rfl, rfl⟩ (by decide) (by decide)
theorem d_jdk2969x_0 : decode jdk_29_method_69_code 0 = .ok (.iload_n 0, 1) := by decide +kernel
theorem d_jdk2969x_1 : decode jdk_29_method_69_code 1 = .ok (.iload_n 1, 1) := by decide +kernel
theorem d_jdk2969x_2 : decode jdk_29_method_69_code 2 = .ok (.if_icmp .gt 7, 3) := by decide +kernel
theorem d_jdk2969x_5 : decode jdk_29_method_69_code 5 = .ok (.iload_n 0, 1) := by decide +kernel
theorem d_jdk2969x_6 : decode jdk_29_method_69_code 6 = .ok (.goto 4, 3) := by decide +kernel
theorem d_jdk2969x_10 : decode jdk_29_method_69_code 10 = .ok (.ireturn, 1) := by decide +kernel
set_option maxRecDepth 65536 in
set_option maxHeartbeats 40000000 in
theorem rm_min1 (l : Launch) (Z : State) (a0 : Array Value) (hw : ∀ d ∈ tables_1, d.before a0 Z = true) (ws : List Jvm.Cond) (x y : Int32) (h0 : Heap) (n0 : Nat) (Z0 : n0 ≤ h0.size) (hcm : ¬ y < x) :
    MetFree l (⟨"java/lang/Math", "min", "(II)I"⟩ : MethodName) (head1 (Jvm.Cond.code (⟨"java/lang/Math", "min", "(II)I"⟩ : MethodName) jdk_29_method_69_code 2 (some .int) :: ws) ({ frames := 0, cells := 0, slots := 0, locals := 0 } : Room)) (fun a_ U => a_ = #[(.int x), (.int y)] ∧ Z.Warmed39 U.vm ∧ U.heap = h0) (fun _ _ _ _ _ => True) (fun _ U o U' => ∃ v L, o = .returned v ∧ Qp (.int x) h0 v U'.heap L ∧ FrameEnd U o U' L ({ frames := 0, cells := 0, slots := 0, locals := 0 } : Room).cells ({ frames := 0, cells := 0, slots := 0, locals := 0 } : Room).slots) := by
  refine MetFree.of_bodySF (Jvm.Free.JP.mathPlain rfl (by decide +kernel)) hisR ?_
  intro p e s m args below meth c s₁ Bd hml0 hP hK
  obtain ⟨rfl, hZ, hh⟩ := hP
  have hx := Bd.exec
  have hby := Bd.bytes
  have hrt := Bd.returns
  have hlk : meth.locks = false := Bd.notSynchronized
  have hml : c.maxLocals = 2 := hml0
  have hown : s.vm.findClass "java/lang/Math" = some m.cls := findClass_of_methodNamed Bd.named
  have hnm := (name_of_methodNamed Bd.named Bd.method).1
  have X0 : Stand p l e ({ frames := 0, cells := 0, slots := 0, locals := 0 } : Room) s m #[(.int x), (.int y)] below meth c s₁ [] 0 0 := Stand.of_body Bd
  have e0 : s₁.heap = h0 := by rw [← hh, Bd.state]; rfl
  have N0 := Fr.nil n0
  show own_G p.tables e below (fun o t => ∃ v L, o = .returned v ∧ Qp (.int x) h0 v t.heap L ∧ FrameEnd s o t L ({ frames := 0, cells := 0, slots := 0, locals := 0 } : Room).cells ({ frames := 0, cells := 0, slots := 0, locals := 0 } : Room).slots) (s₁.setTop (entryFrame m #[(.int x), (.int y)] 2))
  refine own_G.cast (show entryFrame m #[(.int x), (.int y)] 2 = mkF m 0 #[.val (.int x), .val (.int y)] [] from by first | (simp [entryFrame, mkF, argsToLocals, Value.category]; done) | rfl) ?_
  refine own_G.go (fun _ k => XS.iloadN X0.here hx rfl (hb hby d_jdk2969x_0) rfl k) ?_
  show own_G _ _ _ _ (s₁.setTop (mkF m 1 #[.val (.int x), .val (.int y)] [(.int x)]))
  refine own_G.go (fun _ k => XS.iloadN X0.here hx rfl (hb hby d_jdk2969x_1) rfl k) ?_
  show own_G _ _ _ _ (s₁.setTop (mkF m 2 #[.val (.int x), .val (.int y)] [(.int y), (.int x)]))
  refine own_G.go (fun _ k => XS.icmpNo X0.here hx rfl (hb hby d_jdk2969x_2) rfl (flt (hcm : ¬ y < x)).2.2.1 k) ?_
  show own_G _ _ _ _ (s₁.setTop (mkF m 5 #[.val (.int x), .val (.int y)] []))
  refine own_G.go (fun _ k => XS.iloadN X0.here hx rfl (hb hby d_jdk2969x_5) rfl k) ?_
  show own_G _ _ _ _ (s₁.setTop (mkF m 6 #[.val (.int x), .val (.int y)] [(.int x)]))
  refine own_G.go (fun _ k => XS.goto X0.here hx rfl (pc0 := 6) (pc' := 10) rfl (hb hby d_jdk2969x_6) (by decide) (by decide) k) ?_
  show own_G _ _ _ _ (s₁.setTop (mkF m 10 #[.val (.int x), .val (.int y)] [(.int x)]))
  exact own_G.end_ X0 hlk (v := (some (.int x))) (fun h => by rw [hrt] at h; cases h) (fun fs hr => retOut X0 hx hrt rfl (Or.inl ⟨rfl, Or.inl rfl, _, rfl⟩) (hb hby d_jdk2969x_10) hr) e0 ⟨rfl, rfl, rfl⟩ (by decide) (by decide)
theorem d_jdk2969x_9 : decode jdk_29_method_69_code 9 = .ok (.iload_n 1, 1) := by decide +kernel
set_option maxRecDepth 65536 in
set_option maxHeartbeats 40000000 in
theorem rm_min2 (l : Launch) (Z : State) (a0 : Array Value) (hw : ∀ d ∈ tables_1, d.before a0 Z = true) (ws : List Jvm.Cond) (x y : Int32) (h0 : Heap) (n0 : Nat) (Z0 : n0 ≤ h0.size) (hcm : y < x) :
    MetFree l (⟨"java/lang/Math", "min", "(II)I"⟩ : MethodName) (head1 (Jvm.Cond.code (⟨"java/lang/Math", "min", "(II)I"⟩ : MethodName) jdk_29_method_69_code 2 (some .int) :: ws) ({ frames := 0, cells := 0, slots := 0, locals := 0 } : Room)) (fun a_ U => a_ = #[(.int x), (.int y)] ∧ Z.Warmed39 U.vm ∧ U.heap = h0) (fun _ _ _ _ _ => True) (fun _ U o U' => ∃ v L, o = .returned v ∧ Qp (.int y) h0 v U'.heap L ∧ FrameEnd U o U' L ({ frames := 0, cells := 0, slots := 0, locals := 0 } : Room).cells ({ frames := 0, cells := 0, slots := 0, locals := 0 } : Room).slots) := by
  refine MetFree.of_bodySF (Jvm.Free.JP.mathPlain rfl (by decide +kernel)) hisR ?_
  intro p e s m args below meth c s₁ Bd hml0 hP hK
  obtain ⟨rfl, hZ, hh⟩ := hP
  have hx := Bd.exec
  have hby := Bd.bytes
  have hrt := Bd.returns
  have hlk : meth.locks = false := Bd.notSynchronized
  have hml : c.maxLocals = 2 := hml0
  have hown : s.vm.findClass "java/lang/Math" = some m.cls := findClass_of_methodNamed Bd.named
  have hnm := (name_of_methodNamed Bd.named Bd.method).1
  have X0 : Stand p l e ({ frames := 0, cells := 0, slots := 0, locals := 0 } : Room) s m #[(.int x), (.int y)] below meth c s₁ [] 0 0 := Stand.of_body Bd
  have e0 : s₁.heap = h0 := by rw [← hh, Bd.state]; rfl
  have N0 := Fr.nil n0
  show own_G p.tables e below (fun o t => ∃ v L, o = .returned v ∧ Qp (.int y) h0 v t.heap L ∧ FrameEnd s o t L ({ frames := 0, cells := 0, slots := 0, locals := 0 } : Room).cells ({ frames := 0, cells := 0, slots := 0, locals := 0 } : Room).slots) (s₁.setTop (entryFrame m #[(.int x), (.int y)] 2))
  refine own_G.cast (show entryFrame m #[(.int x), (.int y)] 2 = mkF m 0 #[.val (.int x), .val (.int y)] [] from by first | (simp [entryFrame, mkF, argsToLocals, Value.category]; done) | rfl) ?_
  refine own_G.go (fun _ k => XS.iloadN X0.here hx rfl (hb hby d_jdk2969x_0) rfl k) ?_
  show own_G _ _ _ _ (s₁.setTop (mkF m 1 #[.val (.int x), .val (.int y)] [(.int x)]))
  refine own_G.go (fun _ k => XS.iloadN X0.here hx rfl (hb hby d_jdk2969x_1) rfl k) ?_
  show own_G _ _ _ _ (s₁.setTop (mkF m 2 #[.val (.int x), .val (.int y)] [(.int y), (.int x)]))
  refine own_G.go (fun _ k => XS.icmpYes X0.here hx rfl (pc0 := 2) (pc' := 9) rfl (hb hby d_jdk2969x_2) rfl (tlt (hcm : y < x)).2.2.1 (by decide) (by decide) k) ?_
  show own_G _ _ _ _ (s₁.setTop (mkF m 9 #[.val (.int x), .val (.int y)] []))
  refine own_G.go (fun _ k => XS.iloadN X0.here hx rfl (hb hby d_jdk2969x_9) rfl k) ?_
  show own_G _ _ _ _ (s₁.setTop (mkF m 10 #[.val (.int x), .val (.int y)] [(.int y)]))
  exact own_G.end_ X0 hlk (v := (some (.int y))) (fun h => by rw [hrt] at h; cases h) (fun fs hr => retOut X0 hx hrt rfl (Or.inl ⟨rfl, Or.inl rfl, _, rfl⟩) (hb hby d_jdk2969x_10) hr) e0 ⟨rfl, rfl, rfl⟩ (by decide) (by decide)
theorem pn_3 : plainName "jdk/internal/util/ArraysSupport" = true := by first | (simp [plainName, overriddenIn]; done) | decide +kernel
theorem pd_4 : parseMethodDescriptor "(II)I" = some ⟨[.int, .int], some .int⟩ := by decide +kernel
theorem d_jdk4827x_0 : decode jdk_48_method_27_code 0 = .ok (.iload_n 0, 1) := by decide +kernel
theorem d_jdk4827x_1 : decode jdk_48_method_27_code 1 = .ok (.iload_n 1, 1) := by decide +kernel
theorem d_jdk4827x_2 : decode jdk_48_method_27_code 2 = .ok (.iload_n 2, 1) := by decide +kernel
theorem d_jdk4827x_3 : decode jdk_48_method_27_code 3 = .ok (.invokestatic 194, 3) := by decide +kernel
theorem d_jdk4827x_6 : decode jdk_48_method_27_code 6 = .ok (.iadd, 1) := by decide +kernel
theorem d_jdk4827x_7 : decode jdk_48_method_27_code 7 = .ok (.istore_n 3, 1) := by decide +kernel
theorem d_jdk4827x_8 : decode jdk_48_method_27_code 8 = .ok (.iconst 0, 1) := by decide +kernel
theorem d_jdk4827x_9 : decode jdk_48_method_27_code 9 = .ok (.iload_n 3, 1) := by decide +kernel
theorem d_jdk4827x_10 : decode jdk_48_method_27_code 10 = .ok (.if_icmp .ge 11, 3) := by decide +kernel
theorem d_jdk4827x_13 : decode jdk_48_method_27_code 13 = .ok (.iload_n 3, 1) := by decide +kernel
theorem d_jdk4827x_14 : decode jdk_48_method_27_code 14 = .ok (.ldc 200, 2) := by decide +kernel
theorem d_jdk4827x_16 : decode jdk_48_method_27_code 16 = .ok (.if_icmp .gt 5, 3) := by decide +kernel
theorem d_jdk4827x_19 : decode jdk_48_method_27_code 19 = .ok (.iload_n 3, 1) := by decide +kernel
theorem d_jdk4827x_20 : decode jdk_48_method_27_code 20 = .ok (.ireturn, 1) := by decide +kernel
set_option maxRecDepth 65536 in
set_option maxHeartbeats 40000000 in
theorem rm_nl (l : Launch) (Z : State) (a0 : Array Value) (hw : ∀ d ∈ tables_1, d.before a0 Z = true) (ws : List Jvm.Cond)  (h0 : Heap) (n0 : Nat) (Z0 : n0 ≤ h0.size)  :
    MetFree l (⟨"jdk/internal/util/ArraysSupport", "newLength", "(III)I"⟩ : MethodName) (head1 (Jvm.Cond.code (⟨"jdk/internal/util/ArraysSupport", "newLength", "(III)I"⟩ : MethodName) jdk_48_method_27_code 4 (some .int) :: ws) ({ frames := 1, cells := 0, slots := 0, locals := 14 } : Room)) (fun a_ U => a_ = #[(.int (16 : Int32)), (.int (1 : Int32)), (.int (18 : Int32))] ∧ Z.Warmed39 U.vm ∧ U.heap = h0) (fun _ _ _ _ _ => True) (fun _ U o U' => ∃ v L, o = .returned v ∧ Qp (.int (34 : Int32)) h0 v U'.heap L ∧ FrameEnd U o U' L ({ frames := 1, cells := 0, slots := 0, locals := 14 } : Room).cells ({ frames := 1, cells := 0, slots := 0, locals := 14 } : Room).slots) := by
  refine MetFree.of_bodySF (plainFor_of_name pn_3) hisR ?_
  intro p e s m args below meth c s₁ Bd hml0 hP hK
  obtain ⟨rfl, hZ, hh⟩ := hP
  have hx := Bd.exec
  have hby := Bd.bytes
  have hrt := Bd.returns
  have hlk : meth.locks = false := Bd.notSynchronized
  have hml : c.maxLocals = 4 := hml0
  have hown : s.vm.findClass "jdk/internal/util/ArraysSupport" = some m.cls := findClass_of_methodNamed Bd.named
  have hnm := (name_of_methodNamed Bd.named Bd.method).1
  have X0 : Stand p l e ({ frames := 1, cells := 0, slots := 0, locals := 14 } : Room) s m #[(.int (16 : Int32)), (.int (1 : Int32)), (.int (18 : Int32))] below meth c s₁ [] 0 0 := Stand.of_body Bd
  have e0 : s₁.heap = h0 := by rw [← hh, Bd.state]; rfl
  have N0 := Fr.nil n0
  show own_G p.tables e below (fun o t => ∃ v L, o = .returned v ∧ Qp (.int (34 : Int32)) h0 v t.heap L ∧ FrameEnd s o t L ({ frames := 1, cells := 0, slots := 0, locals := 14 } : Room).cells ({ frames := 1, cells := 0, slots := 0, locals := 14 } : Room).slots) (s₁.setTop (entryFrame m #[(.int (16 : Int32)), (.int (1 : Int32)), (.int (18 : Int32))] 4))
  refine own_G.cast (show entryFrame m #[(.int (16 : Int32)), (.int (1 : Int32)), (.int (18 : Int32))] 4 = mkF m 0 #[.val (.int (16 : Int32)), .val (.int (1 : Int32)), .val (.int (18 : Int32)), .unset] [] from by first | (simp [entryFrame, mkF, argsToLocals, Value.category]; done) | rfl) ?_
  refine own_G.go (fun _ k => XS.iloadN X0.here hx rfl (hb hby d_jdk4827x_0) rfl k) ?_
  show own_G _ _ _ _ (s₁.setTop (mkF m 1 #[.val (.int (16 : Int32)), .val (.int (1 : Int32)), .val (.int (18 : Int32)), .unset] [(.int (16 : Int32))]))
  refine own_G.go (fun _ k => XS.iloadN X0.here hx rfl (hb hby d_jdk4827x_1) rfl k) ?_
  show own_G _ _ _ _ (s₁.setTop (mkF m 2 #[.val (.int (16 : Int32)), .val (.int (1 : Int32)), .val (.int (18 : Int32)), .unset] [(.int (1 : Int32)), (.int (16 : Int32))]))
  refine own_G.go (fun _ k => XS.iloadN X0.here hx rfl (hb hby d_jdk4827x_2) rfl k) ?_
  show own_G _ _ _ _ (s₁.setTop (mkF m 3 #[.val (.int (16 : Int32)), .val (.int (1 : Int32)), .val (.int (18 : Int32)), .unset] [(.int (18 : Int32)), (.int (1 : Int32)), (.int (16 : Int32))]))
  obtain ⟨_, T_1, L_1, Q_1, X_1, st_1⟩ := own_callS X0 hx hown (mvT hZ (own_w hw 290 rfl)) (mvT hZ (own_w hw 291 rfl)) (mvT hZ (own_w hw 239 rfl)) (mvT hZ (own_w hw 292 rfl)) (by decide) (Q := (Qp (.int (18 : Int32)) h0)) (backOf (W := 1) (rm_max l Z a0 hw [] (1 : Int32) (18 : Int32) h0 n0 Z0 (by decide)) hZ (own_w hw 292 rfl) (own_w hw 239 rfl) (by decide) (by decide)) (g := (mkF m 3 #[.val (.int (16 : Int32)), .val (.int (1 : Int32)), .val (.int (18 : Int32)), .unset] [(.int (18 : Int32)), (.int (1 : Int32)), (.int (16 : Int32))])) rfl (by rw [hml]; rfl) (argsL := [(.int (1 : Int32)), (.int (18 : Int32))]) (rest := [(.int (16 : Int32))]) (lenOf pd_4 rfl) rfl (by show 2 * 0 + _ ≤ _; exact Nat.le_of_eq rfl) (hb hby d_jdk4827x_3) e0 rfl (by decide) (by decide)
  obtain ⟨rfl, rfl, eh_1⟩ := Q_1
  refine own_G.via st_1 ?_
  have N_1 := Fr.app N0 (Fr.nil n0)
  show own_G _ _ _ _ (T_1.setTop (mkF m 6 #[.val (.int (16 : Int32)), .val (.int (1 : Int32)), .val (.int (18 : Int32)), .unset] [(.int (18 : Int32)), (.int (16 : Int32))]))
  refine own_G.go (fun _ k => XS.iadd X_1.here hx rfl (hb hby d_jdk4827x_6) rfl k) ?_
  show own_G _ _ _ _ (T_1.setTop (mkF m 7 #[.val (.int (16 : Int32)), .val (.int (1 : Int32)), .val (.int (18 : Int32)), .unset] [(.int (34 : Int32))]))
  refine own_G.go (fun _ k => XS.istoreN X_1.here hx rfl (hb hby d_jdk4827x_7) rfl (l' := #[.val (.int (16 : Int32)), .val (.int (1 : Int32)), .val (.int (18 : Int32)), .val (.int (34 : Int32))]) rfl k) ?_
  show own_G _ _ _ _ (T_1.setTop (mkF m 8 #[.val (.int (16 : Int32)), .val (.int (1 : Int32)), .val (.int (18 : Int32)), .val (.int (34 : Int32))] []))
  refine own_G.go (fun _ k => XS.iconst X_1.here hx rfl (hb hby d_jdk4827x_8) k) ?_
  show own_G _ _ _ _ (T_1.setTop (mkF m 9 #[.val (.int (16 : Int32)), .val (.int (1 : Int32)), .val (.int (18 : Int32)), .val (.int (34 : Int32))] [(.int (0 : Int32))]))
  refine own_G.go (fun _ k => XS.iloadN X_1.here hx rfl (hb hby d_jdk4827x_9) rfl k) ?_
  show own_G _ _ _ _ (T_1.setTop (mkF m 10 #[.val (.int (16 : Int32)), .val (.int (1 : Int32)), .val (.int (18 : Int32)), .val (.int (34 : Int32))] [(.int (34 : Int32)), (.int (0 : Int32))]))
  refine own_G.go (fun _ k => XS.icmpNo X_1.here hx rfl (hb hby d_jdk4827x_10) rfl (tlt (by decide : (0 : Int32) < (34 : Int32))).2.1 k) ?_
  show own_G _ _ _ _ (T_1.setTop (mkF m 13 #[.val (.int (16 : Int32)), .val (.int (1 : Int32)), .val (.int (18 : Int32)), .val (.int (34 : Int32))] []))
  refine own_G.go (fun _ k => XS.iloadN X_1.here hx rfl (hb hby d_jdk4827x_13) rfl k) ?_
  show own_G _ _ _ _ (T_1.setTop (mkF m 14 #[.val (.int (16 : Int32)), .val (.int (1 : Int32)), .val (.int (18 : Int32)), .val (.int (34 : Int32))] [(.int (34 : Int32))]))
  refine own_G.go (X_1.ldcInt hx hown (mvT hZ (own_w hw 293 rfl)) (g := (mkF m 14 #[.val (.int (16 : Int32)), .val (.int (1 : Int32)), .val (.int (18 : Int32)), .val (.int (34 : Int32))] [(.int (34 : Int32))])) rfl (hb hby d_jdk4827x_14)) ?_
  show own_G _ _ _ _ (T_1.setTop (mkF m 16 #[.val (.int (16 : Int32)), .val (.int (1 : Int32)), .val (.int (18 : Int32)), .val (.int (34 : Int32))] [(.int (2147483639 : Int32)), (.int (34 : Int32))]))
  refine own_G.go (fun _ k => XS.icmpNo X_1.here hx rfl (hb hby d_jdk4827x_16) rfl (flt (by decide : ¬ ((2147483639 : Int32) < (34 : Int32)))).2.2.1 k) ?_
  show own_G _ _ _ _ (T_1.setTop (mkF m 19 #[.val (.int (16 : Int32)), .val (.int (1 : Int32)), .val (.int (18 : Int32)), .val (.int (34 : Int32))] []))
  refine own_G.go (fun _ k => XS.iloadN X_1.here hx rfl (hb hby d_jdk4827x_19) rfl k) ?_
  show own_G _ _ _ _ (T_1.setTop (mkF m 20 #[.val (.int (16 : Int32)), .val (.int (1 : Int32)), .val (.int (18 : Int32)), .val (.int (34 : Int32))] [(.int (34 : Int32))]))
  exact own_G.end_ X_1 hlk (v := (some (.int (34 : Int32)))) (fun h => by rw [hrt] at h; cases h) (fun fs hr => retOut X_1 hx hrt rfl (Or.inl ⟨rfl, Or.inl rfl, _, rfl⟩) (hb hby d_jdk4827x_20) hr) eh_1 ⟨rfl, rfl, rfl⟩ (by decide) (by decide)
theorem pd_5 : parseMethodDescriptor "(III)I" = some ⟨[.int, .int, .int], some .int⟩ := by decide +kernel
theorem d_jdk6810x_0 : decode jdk_68_method_10_code 0 = .ok (.aload_n 0, 1) := by decide +kernel
theorem d_jdk6810x_1 : decode jdk_68_method_10_code 1 = .ok (.getfield 15, 3) := by decide +kernel
theorem d_jdk6810x_4 : decode jdk_68_method_10_code 4 = .ok (.arraylength, 1) := by decide +kernel
theorem d_jdk6810x_5 : decode jdk_68_method_10_code 5 = .ok (.istore_n 2, 1) := by decide +kernel
theorem d_jdk6810x_6 : decode jdk_68_method_10_code 6 = .ok (.iload_n 1, 1) := by decide +kernel
theorem d_jdk6810x_7 : decode jdk_68_method_10_code 7 = .ok (.aload_n 0, 1) := by decide +kernel
theorem d_jdk6810x_8 : decode jdk_68_method_10_code 8 = .ok (.getfield 22, 3) := by decide +kernel
theorem d_jdk6810x_11 : decode jdk_68_method_10_code 11 = .ok (.ishl, 1) := by decide +kernel
theorem d_jdk6810x_12 : decode jdk_68_method_10_code 12 = .ok (.istore_n 3, 1) := by decide +kernel
theorem d_jdk6810x_13 : decode jdk_68_method_10_code 13 = .ok (.iload_n 3, 1) := by decide +kernel
theorem d_jdk6810x_14 : decode jdk_68_method_10_code 14 = .ok (.iload_n 2, 1) := by decide +kernel
theorem d_jdk6810x_15 : decode jdk_68_method_10_code 15 = .ok (.isub, 1) := by decide +kernel
theorem d_jdk6810x_16 : decode jdk_68_method_10_code 16 = .ok (.istore 4, 2) := by decide +kernel
theorem d_jdk6810x_18 : decode jdk_68_method_10_code 18 = .ok (.iload_n 2, 1) := by decide +kernel
theorem d_jdk6810x_19 : decode jdk_68_method_10_code 19 = .ok (.iload 4, 2) := by decide +kernel
theorem d_jdk6810x_21 : decode jdk_68_method_10_code 21 = .ok (.iload_n 2, 1) := by decide +kernel
theorem d_jdk6810x_22 : decode jdk_68_method_10_code 22 = .ok (.iconst 2, 1) := by decide +kernel
theorem d_jdk6810x_23 : decode jdk_68_method_10_code 23 = .ok (.aload_n 0, 1) := by decide +kernel
theorem d_jdk6810x_24 : decode jdk_68_method_10_code 24 = .ok (.getfield 22, 3) := by decide +kernel
theorem d_jdk6810x_27 : decode jdk_68_method_10_code 27 = .ok (.ishl, 1) := by decide +kernel
theorem d_jdk6810x_28 : decode jdk_68_method_10_code 28 = .ok (.iadd, 1) := by decide +kernel
theorem d_jdk6810x_29 : decode jdk_68_method_10_code 29 = .ok (.invokestatic 114, 3) := by decide +kernel
theorem d_jdk6810x_32 : decode jdk_68_method_10_code 32 = .ok (.istore 5, 2) := by decide +kernel
theorem d_jdk6810x_34 : decode jdk_68_method_10_code 34 = .ok (.iload 5, 2) := by decide +kernel
theorem d_jdk6810x_36 : decode jdk_68_method_10_code 36 = .ok (.ldc 39, 2) := by decide +kernel
theorem d_jdk6810x_38 : decode jdk_68_method_10_code 38 = .ok (.if_icmp .ne 13, 3) := by decide +kernel
theorem d_jdk6810x_51 : decode jdk_68_method_10_code 51 = .ok (.iload 5, 2) := by decide +kernel
theorem d_jdk6810x_53 : decode jdk_68_method_10_code 53 = .ok (.aload_n 0, 1) := by decide +kernel
theorem d_jdk6810x_54 : decode jdk_68_method_10_code 54 = .ok (.getfield 22, 3) := by decide +kernel
theorem d_jdk6810x_57 : decode jdk_68_method_10_code 57 = .ok (.ishr, 1) := by decide +kernel
theorem d_jdk6810x_58 : decode jdk_68_method_10_code 58 = .ok (.ireturn, 1) := by decide +kernel
set_option maxRecDepth 65536 in
set_option maxHeartbeats 40000000 in
theorem rm_nc (l : Launch) (Z : State) (a0 : Array Value) (hw : ∀ d ∈ tables_1, d.before a0 Z = true) (ws : List Jvm.Cond) (sb b : Addr) (kb : ClassId) (vd : List Value) (h0 : Heap) (n0 : Nat) (Z0 : n0 ≤ h0.size) (SV : Fld Z h0 sb "java/lang/AbstractStringBuilder" "value" "[B" (.ref b)) (SC : Fld Z h0 sb "java/lang/AbstractStringBuilder" "coder" "B" (.int (0 : Int32))) (KB : Arv Z h0 b kb .byte (16 : Int32) vd (.int (0 : Int32))) :
    MetFree l (⟨"java/lang/AbstractStringBuilder", "newCapacity", "(I)I"⟩ : MethodName) (head1 (Jvm.Cond.code (⟨"java/lang/AbstractStringBuilder", "newCapacity", "(I)I"⟩ : MethodName) jdk_68_method_10_code 6 (some .int) :: ws) ({ frames := 2, cells := 0, slots := 0, locals := 29 } : Room)) (fun a_ U => a_ = #[(.ref sb), (.int (17 : Int32))] ∧ Z.Warmed39 U.vm ∧ U.heap = h0) (fun _ _ _ _ _ => True) (fun _ U o U' => ∃ v L, o = .returned v ∧ Qp (.int (34 : Int32)) h0 v U'.heap L ∧ FrameEnd U o U' L ({ frames := 2, cells := 0, slots := 0, locals := 29 } : Room).cells ({ frames := 2, cells := 0, slots := 0, locals := 29 } : Room).slots) := by
  refine MetFree.of_bodySF (plainFor_of_name pn_2) hisR ?_
  intro p e s m args below meth c s₁ Bd hml0 hP hK
  obtain ⟨rfl, hZ, hh⟩ := hP
  have hx := Bd.exec
  have hby := Bd.bytes
  have hrt := Bd.returns
  have hlk : meth.locks = false := Bd.notSynchronized
  have hml : c.maxLocals = 6 := hml0
  have hown : s.vm.findClass "java/lang/AbstractStringBuilder" = some m.cls := findClass_of_methodNamed Bd.named
  have hnm := (name_of_methodNamed Bd.named Bd.method).1
  have X0 : Stand p l e ({ frames := 2, cells := 0, slots := 0, locals := 29 } : Room) s m #[(.ref sb), (.int (17 : Int32))] below meth c s₁ [] 0 0 := Stand.of_body Bd
  have e0 : s₁.heap = h0 := by rw [← hh, Bd.state]; rfl
  have N0 := Fr.nil n0
  show own_G p.tables e below (fun o t => ∃ v L, o = .returned v ∧ Qp (.int (34 : Int32)) h0 v t.heap L ∧ FrameEnd s o t L ({ frames := 2, cells := 0, slots := 0, locals := 29 } : Room).cells ({ frames := 2, cells := 0, slots := 0, locals := 29 } : Room).slots) (s₁.setTop (entryFrame m #[(.ref sb), (.int (17 : Int32))] 6))
  refine own_G.cast (show entryFrame m #[(.ref sb), (.int (17 : Int32))] 6 = mkF m 0 #[.val (.ref sb), .val (.int (17 : Int32)), .unset, .unset, .unset, .unset] [] from by first | (simp [entryFrame, mkF, argsToLocals, Value.category]; done) | rfl) ?_
  refine own_G.go (fun _ k => XS.aloadN X0.here hx rfl (hb hby d_jdk6810x_0) rfl rfl k) ?_
  show own_G _ _ _ _ (s₁.setTop (mkF m 1 #[.val (.ref sb), .val (.int (17 : Int32)), .unset, .unset, .unset, .unset] [(.ref sb)]))
  obtain ⟨T_1, X_1, e_1, st_1⟩ := getF X0 hx hZ hown (host := "") (Or.inl (own_w hw 143 rfl)) Via.refl e0 SV (g := (mkF m 1 #[.val (.ref sb), .val (.int (17 : Int32)), .unset, .unset, .unset, .unset] [(.ref sb)])) rfl rfl (hb hby d_jdk6810x_1)
  refine own_G.go st_1 ?_
  show own_G _ _ _ _ (T_1.setTop (mkF m 4 #[.val (.ref sb), .val (.int (17 : Int32)), .unset, .unset, .unset, .unset] [(.ref b)]))
  obtain ⟨cel_2, A_2, -, S_2, M_2, -, -⟩ := id KB
  refine own_G.go (X_1.arraylength hx (by rw [e_1]; exact A_2.1) (State.isArrayOf_alike hZ.alike A_2.2.1) (g := (mkF m 4 #[.val (.ref sb), .val (.int (17 : Int32)), .unset, .unset, .unset, .unset] [(.ref b)])) rfl rfl (hb hby d_jdk6810x_4)) ?_
  rw [len_of S_2 M_2]
  show own_G _ _ _ _ (T_1.setTop (mkF m 5 #[.val (.ref sb), .val (.int (17 : Int32)), .unset, .unset, .unset, .unset] [(.int (16 : Int32))]))
  refine own_G.go (fun _ k => XS.istoreN X_1.here hx rfl (hb hby d_jdk6810x_5) rfl (l' := #[.val (.ref sb), .val (.int (17 : Int32)), .val (.int (16 : Int32)), .unset, .unset, .unset]) rfl k) ?_
  show own_G _ _ _ _ (T_1.setTop (mkF m 6 #[.val (.ref sb), .val (.int (17 : Int32)), .val (.int (16 : Int32)), .unset, .unset, .unset] []))
  refine own_G.go (fun _ k => XS.iloadN X_1.here hx rfl (hb hby d_jdk6810x_6) rfl k) ?_
  show own_G _ _ _ _ (T_1.setTop (mkF m 7 #[.val (.ref sb), .val (.int (17 : Int32)), .val (.int (16 : Int32)), .unset, .unset, .unset] [(.int (17 : Int32))]))
  refine own_G.go (fun _ k => XS.aloadN X_1.here hx rfl (hb hby d_jdk6810x_7) rfl rfl k) ?_
  show own_G _ _ _ _ (T_1.setTop (mkF m 8 #[.val (.ref sb), .val (.int (17 : Int32)), .val (.int (16 : Int32)), .unset, .unset, .unset] [(.ref sb), (.int (17 : Int32))]))
  obtain ⟨T_3, X_3, e_3, st_3⟩ := getF X_1 hx hZ hown (host := "") (Or.inl (own_w hw 145 rfl)) Via.refl e_1 SC (g := (mkF m 8 #[.val (.ref sb), .val (.int (17 : Int32)), .val (.int (16 : Int32)), .unset, .unset, .unset] [(.ref sb), (.int (17 : Int32))])) rfl rfl (hb hby d_jdk6810x_8)
  refine own_G.go st_3 ?_
  show own_G _ _ _ _ (T_3.setTop (mkF m 11 #[.val (.ref sb), .val (.int (17 : Int32)), .val (.int (16 : Int32)), .unset, .unset, .unset] [(.int (0 : Int32)), (.int (17 : Int32))]))
  refine own_G.go (fun _ k => XS.ishl X_3.here hx rfl (hb hby d_jdk6810x_11) rfl k) ?_
  show own_G _ _ _ _ (T_3.setTop (mkF m 12 #[.val (.ref sb), .val (.int (17 : Int32)), .val (.int (16 : Int32)), .unset, .unset, .unset] [(.int ((17 : Int32) <<< ((0 : Int32) &&& 31)))]))
  rw [own_shl0]
  refine own_G.go (fun _ k => XS.istoreN X_3.here hx rfl (hb hby d_jdk6810x_12) rfl (l' := #[.val (.ref sb), .val (.int (17 : Int32)), .val (.int (16 : Int32)), .val (.int (17 : Int32)), .unset, .unset]) rfl k) ?_
  show own_G _ _ _ _ (T_3.setTop (mkF m 13 #[.val (.ref sb), .val (.int (17 : Int32)), .val (.int (16 : Int32)), .val (.int (17 : Int32)), .unset, .unset] []))
  refine own_G.go (fun _ k => XS.iloadN X_3.here hx rfl (hb hby d_jdk6810x_13) rfl k) ?_
  show own_G _ _ _ _ (T_3.setTop (mkF m 14 #[.val (.ref sb), .val (.int (17 : Int32)), .val (.int (16 : Int32)), .val (.int (17 : Int32)), .unset, .unset] [(.int (17 : Int32))]))
  refine own_G.go (fun _ k => XS.iloadN X_3.here hx rfl (hb hby d_jdk6810x_14) rfl k) ?_
  show own_G _ _ _ _ (T_3.setTop (mkF m 15 #[.val (.ref sb), .val (.int (17 : Int32)), .val (.int (16 : Int32)), .val (.int (17 : Int32)), .unset, .unset] [(.int (16 : Int32)), (.int (17 : Int32))]))
  refine own_G.go (fun _ k => XS.isub X_3.here hx rfl (hb hby d_jdk6810x_15) rfl k) ?_
  show own_G _ _ _ _ (T_3.setTop (mkF m 16 #[.val (.ref sb), .val (.int (17 : Int32)), .val (.int (16 : Int32)), .val (.int (17 : Int32)), .unset, .unset] [(.int (1 : Int32))]))
  refine own_G.go (fun _ k => XS.istore X_3.here hx rfl (hb hby d_jdk6810x_16) rfl (l' := #[.val (.ref sb), .val (.int (17 : Int32)), .val (.int (16 : Int32)), .val (.int (17 : Int32)), .val (.int (1 : Int32)), .unset]) rfl k) ?_
  show own_G _ _ _ _ (T_3.setTop (mkF m 18 #[.val (.ref sb), .val (.int (17 : Int32)), .val (.int (16 : Int32)), .val (.int (17 : Int32)), .val (.int (1 : Int32)), .unset] []))
  refine own_G.go (fun _ k => XS.iloadN X_3.here hx rfl (hb hby d_jdk6810x_18) rfl k) ?_
  show own_G _ _ _ _ (T_3.setTop (mkF m 19 #[.val (.ref sb), .val (.int (17 : Int32)), .val (.int (16 : Int32)), .val (.int (17 : Int32)), .val (.int (1 : Int32)), .unset] [(.int (16 : Int32))]))
  refine own_G.go (fun _ k => XS.iload X_3.here hx rfl (hb hby d_jdk6810x_19) rfl k) ?_
  show own_G _ _ _ _ (T_3.setTop (mkF m 21 #[.val (.ref sb), .val (.int (17 : Int32)), .val (.int (16 : Int32)), .val (.int (17 : Int32)), .val (.int (1 : Int32)), .unset] [(.int (1 : Int32)), (.int (16 : Int32))]))
  refine own_G.go (fun _ k => XS.iloadN X_3.here hx rfl (hb hby d_jdk6810x_21) rfl k) ?_
  show own_G _ _ _ _ (T_3.setTop (mkF m 22 #[.val (.ref sb), .val (.int (17 : Int32)), .val (.int (16 : Int32)), .val (.int (17 : Int32)), .val (.int (1 : Int32)), .unset] [(.int (16 : Int32)), (.int (1 : Int32)), (.int (16 : Int32))]))
  refine own_G.go (fun _ k => XS.iconst X_3.here hx rfl (hb hby d_jdk6810x_22) k) ?_
  show own_G _ _ _ _ (T_3.setTop (mkF m 23 #[.val (.ref sb), .val (.int (17 : Int32)), .val (.int (16 : Int32)), .val (.int (17 : Int32)), .val (.int (1 : Int32)), .unset] [(.int (2 : Int32)), (.int (16 : Int32)), (.int (1 : Int32)), (.int (16 : Int32))]))
  refine own_G.go (fun _ k => XS.aloadN X_3.here hx rfl (hb hby d_jdk6810x_23) rfl rfl k) ?_
  show own_G _ _ _ _ (T_3.setTop (mkF m 24 #[.val (.ref sb), .val (.int (17 : Int32)), .val (.int (16 : Int32)), .val (.int (17 : Int32)), .val (.int (1 : Int32)), .unset] [(.ref sb), (.int (2 : Int32)), (.int (16 : Int32)), (.int (1 : Int32)), (.int (16 : Int32))]))
  obtain ⟨T_4, X_4, e_4, st_4⟩ := getF X_3 hx hZ hown (host := "") (Or.inl (own_w hw 145 rfl)) Via.refl e_3 SC (g := (mkF m 24 #[.val (.ref sb), .val (.int (17 : Int32)), .val (.int (16 : Int32)), .val (.int (17 : Int32)), .val (.int (1 : Int32)), .unset] [(.ref sb), (.int (2 : Int32)), (.int (16 : Int32)), (.int (1 : Int32)), (.int (16 : Int32))])) rfl rfl (hb hby d_jdk6810x_24)
  refine own_G.go st_4 ?_
  show own_G _ _ _ _ (T_4.setTop (mkF m 27 #[.val (.ref sb), .val (.int (17 : Int32)), .val (.int (16 : Int32)), .val (.int (17 : Int32)), .val (.int (1 : Int32)), .unset] [(.int (0 : Int32)), (.int (2 : Int32)), (.int (16 : Int32)), (.int (1 : Int32)), (.int (16 : Int32))]))
  refine own_G.go (fun _ k => XS.ishl X_4.here hx rfl (hb hby d_jdk6810x_27) rfl k) ?_
  show own_G _ _ _ _ (T_4.setTop (mkF m 28 #[.val (.ref sb), .val (.int (17 : Int32)), .val (.int (16 : Int32)), .val (.int (17 : Int32)), .val (.int (1 : Int32)), .unset] [(.int ((2 : Int32) <<< ((0 : Int32) &&& 31))), (.int (16 : Int32)), (.int (1 : Int32)), (.int (16 : Int32))]))
  rw [own_shl0]
  refine own_G.go (fun _ k => XS.iadd X_4.here hx rfl (hb hby d_jdk6810x_28) rfl k) ?_
  show own_G _ _ _ _ (T_4.setTop (mkF m 29 #[.val (.ref sb), .val (.int (17 : Int32)), .val (.int (16 : Int32)), .val (.int (17 : Int32)), .val (.int (1 : Int32)), .unset] [(.int (18 : Int32)), (.int (1 : Int32)), (.int (16 : Int32))]))
  obtain ⟨_, T_5, L_5, Q_5, X_5, st_5⟩ := own_callS X_4 hx hown (mvT hZ (own_w hw 286 rfl)) (mvT hZ (own_w hw 287 rfl)) (mvT hZ (own_w hw 288 rfl)) (mvT hZ (own_w hw 289 rfl)) (by decide) (Q := (Qp (.int (34 : Int32)) h0)) (backOf (W := 0) (rm_nl l Z a0 hw []  h0 n0 Z0 ) hZ (own_w hw 289 rfl) (own_w hw 288 rfl) (by decide) (by decide)) (g := (mkF m 29 #[.val (.ref sb), .val (.int (17 : Int32)), .val (.int (16 : Int32)), .val (.int (17 : Int32)), .val (.int (1 : Int32)), .unset] [(.int (18 : Int32)), (.int (1 : Int32)), (.int (16 : Int32))])) rfl (by rw [hml]; rfl) (argsL := [(.int (16 : Int32)), (.int (1 : Int32)), (.int (18 : Int32))]) (rest := []) (lenOf pd_5 rfl) rfl (by show 2 * 0 + _ ≤ _; exact Nat.le_of_eq rfl) (hb hby d_jdk6810x_29) e_4 rfl (by decide) (by decide)
  obtain ⟨rfl, rfl, eh_5⟩ := Q_5
  refine own_G.via st_5 ?_
  have N_5 := Fr.app N0 (Fr.nil n0)
  show own_G _ _ _ _ (T_5.setTop (mkF m 32 #[.val (.ref sb), .val (.int (17 : Int32)), .val (.int (16 : Int32)), .val (.int (17 : Int32)), .val (.int (1 : Int32)), .unset] [(.int (34 : Int32))]))
  refine own_G.go (fun _ k => XS.istore X_5.here hx rfl (hb hby d_jdk6810x_32) rfl (l' := #[.val (.ref sb), .val (.int (17 : Int32)), .val (.int (16 : Int32)), .val (.int (17 : Int32)), .val (.int (1 : Int32)), .val (.int (34 : Int32))]) rfl k) ?_
  show own_G _ _ _ _ (T_5.setTop (mkF m 34 #[.val (.ref sb), .val (.int (17 : Int32)), .val (.int (16 : Int32)), .val (.int (17 : Int32)), .val (.int (1 : Int32)), .val (.int (34 : Int32))] []))
  refine own_G.go (fun _ k => XS.iload X_5.here hx rfl (hb hby d_jdk6810x_34) rfl k) ?_
  show own_G _ _ _ _ (T_5.setTop (mkF m 36 #[.val (.ref sb), .val (.int (17 : Int32)), .val (.int (16 : Int32)), .val (.int (17 : Int32)), .val (.int (1 : Int32)), .val (.int (34 : Int32))] [(.int (34 : Int32))]))
  refine own_G.go (X_5.ldcInt hx hown (mvT hZ (own_w hw 294 rfl)) (g := (mkF m 36 #[.val (.ref sb), .val (.int (17 : Int32)), .val (.int (16 : Int32)), .val (.int (17 : Int32)), .val (.int (1 : Int32)), .val (.int (34 : Int32))] [(.int (34 : Int32))])) rfl (hb hby d_jdk6810x_36)) ?_
  show own_G _ _ _ _ (T_5.setTop (mkF m 38 #[.val (.ref sb), .val (.int (17 : Int32)), .val (.int (16 : Int32)), .val (.int (17 : Int32)), .val (.int (1 : Int32)), .val (.int (34 : Int32))] [(.int (2147483647 : Int32)), (.int (34 : Int32))]))
  refine own_G.go (fun _ k => XS.icmpYes X_5.here hx rfl (pc0 := 38) (pc' := 51) rfl (hb hby d_jdk6810x_38) rfl (feq (by decide : ¬ ((34 : Int32) = (2147483647 : Int32)))).2 (by decide) (by decide) k) ?_
  show own_G _ _ _ _ (T_5.setTop (mkF m 51 #[.val (.ref sb), .val (.int (17 : Int32)), .val (.int (16 : Int32)), .val (.int (17 : Int32)), .val (.int (1 : Int32)), .val (.int (34 : Int32))] []))
  refine own_G.go (fun _ k => XS.iload X_5.here hx rfl (hb hby d_jdk6810x_51) rfl k) ?_
  show own_G _ _ _ _ (T_5.setTop (mkF m 53 #[.val (.ref sb), .val (.int (17 : Int32)), .val (.int (16 : Int32)), .val (.int (17 : Int32)), .val (.int (1 : Int32)), .val (.int (34 : Int32))] [(.int (34 : Int32))]))
  refine own_G.go (fun _ k => XS.aloadN X_5.here hx rfl (hb hby d_jdk6810x_53) rfl rfl k) ?_
  show own_G _ _ _ _ (T_5.setTop (mkF m 54 #[.val (.ref sb), .val (.int (17 : Int32)), .val (.int (16 : Int32)), .val (.int (17 : Int32)), .val (.int (1 : Int32)), .val (.int (34 : Int32))] [(.ref sb), (.int (34 : Int32))]))
  obtain ⟨T_6, X_6, e_6, st_6⟩ := getF X_5 hx hZ hown (host := "") (Or.inl (own_w hw 145 rfl)) Via.refl eh_5 SC (g := (mkF m 54 #[.val (.ref sb), .val (.int (17 : Int32)), .val (.int (16 : Int32)), .val (.int (17 : Int32)), .val (.int (1 : Int32)), .val (.int (34 : Int32))] [(.ref sb), (.int (34 : Int32))])) rfl rfl (hb hby d_jdk6810x_54)
  refine own_G.go st_6 ?_
  show own_G _ _ _ _ (T_6.setTop (mkF m 57 #[.val (.ref sb), .val (.int (17 : Int32)), .val (.int (16 : Int32)), .val (.int (17 : Int32)), .val (.int (1 : Int32)), .val (.int (34 : Int32))] [(.int (0 : Int32)), (.int (34 : Int32))]))
  refine own_G.go (fun _ k => XS.ishr X_6.here hx rfl (hb hby d_jdk6810x_57) rfl k) ?_
  show own_G _ _ _ _ (T_6.setTop (mkF m 58 #[.val (.ref sb), .val (.int (17 : Int32)), .val (.int (16 : Int32)), .val (.int (17 : Int32)), .val (.int (1 : Int32)), .val (.int (34 : Int32))] [(.int ((34 : Int32) >>> ((0 : Int32) &&& 31)))]))
  rw [own_shr0]
  exact own_G.end_ X_6 hlk (v := (some (.int (34 : Int32)))) (fun h => by rw [hrt] at h; cases h) (fun fs hr => retOut X_6 hx hrt rfl (Or.inl ⟨rfl, Or.inl rfl, _, rfl⟩) (hb hby d_jdk6810x_58) hr) e_6 ⟨rfl, rfl, rfl⟩ (by decide) (by decide)
def own_z34 : List Value := List.replicate 34 (Value.int 0)
def own_gr (vd : List Value) : List Value := own_put own_z34 vd 0 16
def Qco (Z : State) (n : Int32) (vs : List Value) (h0 : Heap) (n0 : Nat) (v : Option Value) (h : Heap) (L : List Loc) : Prop := ∃ (b : Addr) (kb : ClassId), v = some (.ref b) ∧ Fr n0 L ∧ Keep h0 h [] ∧ h0.size ≤ b ∧ Arv Z h b kb .byte n vs (.int (0 : Int32))
theorem pn_4 : plainName "java/util/Arrays" = true := by first | (simp [plainName, overriddenIn]; done) | decide +kernel
theorem d_jdk65121x_0 : decode jdk_65_method_121_code 0 = .ok (.iload_n 1, 1) := by decide +kernel
theorem d_jdk65121x_1 : decode jdk_65_method_121_code 1 = .ok (.aload_n 0, 1) := by decide +kernel
theorem d_jdk65121x_2 : decode jdk_65_method_121_code 2 = .ok (.arraylength, 1) := by decide +kernel
theorem d_jdk65121x_3 : decode jdk_65_method_121_code 3 = .ok (.if_icmp .ne 11, 3) := by decide +kernel
theorem d_jdk65121x_14 : decode jdk_65_method_121_code 14 = .ok (.iload_n 1, 1) := by decide +kernel
theorem d_jdk65121x_15 : decode jdk_65_method_121_code 15 = .ok (.newarray .byte, 2) := by decide +kernel
theorem d_jdk65121x_17 : decode jdk_65_method_121_code 17 = .ok (.astore_n 2, 1) := by decide +kernel
theorem d_jdk65121x_18 : decode jdk_65_method_121_code 18 = .ok (.aload_n 0, 1) := by decide +kernel
theorem d_jdk65121x_19 : decode jdk_65_method_121_code 19 = .ok (.iconst 0, 1) := by decide +kernel
theorem d_jdk65121x_20 : decode jdk_65_method_121_code 20 = .ok (.aload_n 2, 1) := by decide +kernel
theorem d_jdk65121x_21 : decode jdk_65_method_121_code 21 = .ok (.iconst 0, 1) := by decide +kernel
theorem d_jdk65121x_22 : decode jdk_65_method_121_code 22 = .ok (.aload_n 0, 1) := by decide +kernel
theorem d_jdk65121x_23 : decode jdk_65_method_121_code 23 = .ok (.arraylength, 1) := by decide +kernel
theorem d_jdk65121x_24 : decode jdk_65_method_121_code 24 = .ok (.iload_n 1, 1) := by decide +kernel
theorem d_jdk65121x_25 : decode jdk_65_method_121_code 25 = .ok (.invokestatic 304, 3) := by decide +kernel
theorem d_jdk65121x_28 : decode jdk_65_method_121_code 28 = .ok (.invokestatic 150, 3) := by decide +kernel
theorem d_jdk65121x_31 : decode jdk_65_method_121_code 31 = .ok (.aload_n 2, 1) := by decide +kernel
theorem d_jdk65121x_32 : decode jdk_65_method_121_code 32 = .ok (.areturn, 1) := by decide +kernel
set_option maxRecDepth 65536 in
set_option maxHeartbeats 40000000 in
theorem rm_cpo (l : Launch) (Z : State) (a0 : Array Value) (hw : ∀ d ∈ tables_1, d.before a0 Z = true) (ws : List Jvm.Cond) (b : Addr) (kb : ClassId) (vd : List Value) (h0 : Heap) (n0 : Nat) (Z0 : n0 ≤ h0.size) (KB : Arv Z h0 b kb .byte (16 : Int32) vd (.int (0 : Int32))) (hvl : vd.length = 16) :
    MetFree l (⟨"java/util/Arrays", "copyOf", "([BI)[B"⟩ : MethodName) (head1 (Jvm.Cond.code (⟨"java/util/Arrays", "copyOf", "([BI)[B"⟩ : MethodName) jdk_65_method_121_code 3 (some (.array .byte)) :: ws) ({ frames := 1, cells := 1, slots := 34, locals := 18 } : Room)) (fun a_ U => a_ = #[(.ref b), (.int (34 : Int32))] ∧ Z.Warmed39 U.vm ∧ U.heap = h0) (fun _ _ _ _ _ => True) (fun _ U o U' => ∃ v L, o = .returned v ∧ Qco Z (34 : Int32) (own_gr vd) h0 n0 v U'.heap L ∧ FrameEnd U o U' L ({ frames := 1, cells := 1, slots := 34, locals := 18 } : Room).cells ({ frames := 1, cells := 1, slots := 34, locals := 18 } : Room).slots) := by
  refine MetFree.of_bodySF (plainFor_of_name pn_4) hisR ?_
  intro p e s m args below meth c s₁ Bd hml0 hP hK
  obtain ⟨rfl, hZ, hh⟩ := hP
  have hx := Bd.exec
  have hby := Bd.bytes
  have hrt := Bd.returns
  have hlk : meth.locks = false := Bd.notSynchronized
  have hml : c.maxLocals = 3 := hml0
  have hown : s.vm.findClass "java/util/Arrays" = some m.cls := findClass_of_methodNamed Bd.named
  have hnm := (name_of_methodNamed Bd.named Bd.method).1
  have X0 : Stand p l e ({ frames := 1, cells := 1, slots := 34, locals := 18 } : Room) s m #[(.ref b), (.int (34 : Int32))] below meth c s₁ [] 0 0 := Stand.of_body Bd
  have e0 : s₁.heap = h0 := by rw [← hh, Bd.state]; rfl
  have N0 := Fr.nil n0
  show own_G p.tables e below (fun o t => ∃ v L, o = .returned v ∧ Qco Z (34 : Int32) (own_gr vd) h0 n0 v t.heap L ∧ FrameEnd s o t L ({ frames := 1, cells := 1, slots := 34, locals := 18 } : Room).cells ({ frames := 1, cells := 1, slots := 34, locals := 18 } : Room).slots) (s₁.setTop (entryFrame m #[(.ref b), (.int (34 : Int32))] 3))
  refine own_G.cast (show entryFrame m #[(.ref b), (.int (34 : Int32))] 3 = mkF m 0 #[.val (.ref b), .val (.int (34 : Int32)), .unset] [] from by first | (simp [entryFrame, mkF, argsToLocals, Value.category]; done) | rfl) ?_
  refine own_G.go (fun _ k => XS.iloadN X0.here hx rfl (hb hby d_jdk65121x_0) rfl k) ?_
  show own_G _ _ _ _ (s₁.setTop (mkF m 1 #[.val (.ref b), .val (.int (34 : Int32)), .unset] [(.int (34 : Int32))]))
  refine own_G.go (fun _ k => XS.aloadN X0.here hx rfl (hb hby d_jdk65121x_1) rfl rfl k) ?_
  show own_G _ _ _ _ (s₁.setTop (mkF m 2 #[.val (.ref b), .val (.int (34 : Int32)), .unset] [(.ref b), (.int (34 : Int32))]))
  obtain ⟨cel_1, A_1, -, S_1, M_1, -, -⟩ := id KB
  refine own_G.go (X0.arraylength hx (by rw [e0]; exact A_1.1) (State.isArrayOf_alike hZ.alike A_1.2.1) (g := (mkF m 2 #[.val (.ref b), .val (.int (34 : Int32)), .unset] [(.ref b), (.int (34 : Int32))])) rfl rfl (hb hby d_jdk65121x_2)) ?_
  rw [len_of S_1 M_1]
  show own_G _ _ _ _ (s₁.setTop (mkF m 3 #[.val (.ref b), .val (.int (34 : Int32)), .unset] [(.int (16 : Int32)), (.int (34 : Int32))]))
  refine own_G.go (fun _ k => XS.icmpYes X0.here hx rfl (pc0 := 3) (pc' := 14) rfl (hb hby d_jdk65121x_3) rfl (feq (by decide : ¬ ((34 : Int32) = (16 : Int32)))).2 (by decide) (by decide) k) ?_
  show own_G _ _ _ _ (s₁.setTop (mkF m 14 #[.val (.ref b), .val (.int (34 : Int32)), .unset] []))
  refine own_G.go (fun _ k => XS.iloadN X0.here hx rfl (hb hby d_jdk65121x_14) rfl k) ?_
  show own_G _ _ _ _ (s₁.setTop (mkF m 15 #[.val (.ref b), .val (.int (34 : Int32)), .unset] [(.int (34 : Int32))]))
  obtain ⟨T_2, h_2, k_2, X_2, e_2, E_2, A_2, st_2⟩ := newP X0 hx hZ (own_w hw 19 rfl) e0 (g := (mkF m 15 #[.val (.ref b), .val (.int (34 : Int32)), .unset] [(.int (34 : Int32))])) rfl (hb hby d_jdk65121x_15) rfl (by decide : ¬ ((34 : Int32) < (0 : Int32))) (cap := 34) (by decide : ((34 : Int32)).toNatClampNeg ≤ 34) (by decide) (by decide) (by decide)
  obtain ⟨a_2, g_2⟩ : ∃ z, z = h0.size := ⟨_, rfl⟩
  rw [← g_2] at A_2 st_2
  refine own_G.go st_2 ?_
  have V_2 : Arv Z h_2 a_2 k_2 .byte (34 : Int32) ([(.int (0 : Int32)), (.int (0 : Int32)), (.int (0 : Int32)), (.int (0 : Int32)), (.int (0 : Int32)), (.int (0 : Int32)), (.int (0 : Int32)), (.int (0 : Int32)), (.int (0 : Int32)), (.int (0 : Int32)), (.int (0 : Int32)), (.int (0 : Int32)), (.int (0 : Int32)), (.int (0 : Int32)), (.int (0 : Int32)), (.int (0 : Int32)), (.int (0 : Int32)), (.int (0 : Int32)), (.int (0 : Int32)), (.int (0 : Int32)), (.int (0 : Int32)), (.int (0 : Int32)), (.int (0 : Int32)), (.int (0 : Int32)), (.int (0 : Int32)), (.int (0 : Int32)), (.int (0 : Int32)), (.int (0 : Int32)), (.int (0 : Int32)), (.int (0 : Int32)), (.int (0 : Int32)), (.int (0 : Int32)), (.int (0 : Int32)), (.int (0 : Int32))] : List Value) (.int (0 : Int32)) := (Arv.new A_2 (by decide : ¬ ((34 : Int32) < (0 : Int32)))).pad (pad_rep [] (.int (0 : Int32)) 34)
  show own_G _ _ _ _ (T_2.setTop (mkF m 17 #[.val (.ref b), .val (.int (34 : Int32)), .unset] [(.ref a_2)]))
  refine own_G.go (fun _ k => XS.astoreN X_2.here hx rfl (hb hby d_jdk65121x_17) rfl rfl (l' := #[.val (.ref b), .val (.int (34 : Int32)), .val (.ref a_2)]) rfl k) ?_
  show own_G _ _ _ _ (T_2.setTop (mkF m 18 #[.val (.ref b), .val (.int (34 : Int32)), .val (.ref a_2)] []))
  refine own_G.go (fun _ k => XS.aloadN X_2.here hx rfl (hb hby d_jdk65121x_18) rfl rfl k) ?_
  show own_G _ _ _ _ (T_2.setTop (mkF m 19 #[.val (.ref b), .val (.int (34 : Int32)), .val (.ref a_2)] [(.ref b)]))
  refine own_G.go (fun _ k => XS.iconst X_2.here hx rfl (hb hby d_jdk65121x_19) k) ?_
  show own_G _ _ _ _ (T_2.setTop (mkF m 20 #[.val (.ref b), .val (.int (34 : Int32)), .val (.ref a_2)] [(.int (0 : Int32)), (.ref b)]))
  refine own_G.go (fun _ k => XS.aloadN X_2.here hx rfl (hb hby d_jdk65121x_20) rfl rfl k) ?_
  show own_G _ _ _ _ (T_2.setTop (mkF m 21 #[.val (.ref b), .val (.int (34 : Int32)), .val (.ref a_2)] [(.ref a_2), (.int (0 : Int32)), (.ref b)]))
  refine own_G.go (fun _ k => XS.iconst X_2.here hx rfl (hb hby d_jdk65121x_21) k) ?_
  show own_G _ _ _ _ (T_2.setTop (mkF m 22 #[.val (.ref b), .val (.int (34 : Int32)), .val (.ref a_2)] [(.int (0 : Int32)), (.ref a_2), (.int (0 : Int32)), (.ref b)]))
  refine own_G.go (fun _ k => XS.aloadN X_2.here hx rfl (hb hby d_jdk65121x_22) rfl rfl k) ?_
  show own_G _ _ _ _ (T_2.setTop (mkF m 23 #[.val (.ref b), .val (.int (34 : Int32)), .val (.ref a_2)] [(.ref b), (.int (0 : Int32)), (.ref a_2), (.int (0 : Int32)), (.ref b)]))
  have KB'_4 : Arv Z h_2 b kb .byte (16 : Int32) vd (.int (0 : Int32)) := (KB.ext E_2)
  obtain ⟨cel_3, A_3, -, S_3, M_3, -, -⟩ := id KB'_4
  refine own_G.go (X_2.arraylength hx (by rw [e_2]; exact A_3.1) (State.isArrayOf_alike hZ.alike A_3.2.1) (g := (mkF m 23 #[.val (.ref b), .val (.int (34 : Int32)), .val (.ref a_2)] [(.ref b), (.int (0 : Int32)), (.ref a_2), (.int (0 : Int32)), (.ref b)])) rfl rfl (hb hby d_jdk65121x_23)) ?_
  rw [len_of S_3 M_3]
  show own_G _ _ _ _ (T_2.setTop (mkF m 24 #[.val (.ref b), .val (.int (34 : Int32)), .val (.ref a_2)] [(.int (16 : Int32)), (.int (0 : Int32)), (.ref a_2), (.int (0 : Int32)), (.ref b)]))
  refine own_G.go (fun _ k => XS.iloadN X_2.here hx rfl (hb hby d_jdk65121x_24) rfl k) ?_
  show own_G _ _ _ _ (T_2.setTop (mkF m 25 #[.val (.ref b), .val (.int (34 : Int32)), .val (.ref a_2)] [(.int (34 : Int32)), (.int (16 : Int32)), (.int (0 : Int32)), (.ref a_2), (.int (0 : Int32)), (.ref b)]))
  obtain ⟨_, T_5, L_5, Q_5, X_5, st_5⟩ := own_callS X_2 hx hown (mvT hZ (own_w hw 237 rfl)) (mvT hZ (own_w hw 238 rfl)) (mvT hZ (own_w hw 239 rfl)) (mvT hZ (own_w hw 240 rfl)) (by decide) (Q := (Qp (.int (16 : Int32)) h_2)) (backOf (W := 4) (rm_min1 l Z a0 hw [] (16 : Int32) (34 : Int32) h_2 n0 (Nat.le_trans Z0 E_2.1) (by decide)) hZ (own_w hw 240 rfl) (own_w hw 239 rfl) (by decide) (by decide)) (g := (mkF m 25 #[.val (.ref b), .val (.int (34 : Int32)), .val (.ref a_2)] [(.int (34 : Int32)), (.int (16 : Int32)), (.int (0 : Int32)), (.ref a_2), (.int (0 : Int32)), (.ref b)])) rfl (by rw [hml]; rfl) (argsL := [(.int (16 : Int32)), (.int (34 : Int32))]) (rest := [(.int (0 : Int32)), (.ref a_2), (.int (0 : Int32)), (.ref b)]) (lenOf pd_4 rfl) rfl (by show 2 * 0 + _ ≤ _; exact Nat.le_of_eq rfl) (hb hby d_jdk65121x_25) e_2 rfl (by decide) (by decide)
  obtain ⟨rfl, rfl, eh_5⟩ := Q_5
  refine own_G.via st_5 ?_
  have N_5 := Fr.app N0 (Fr.nil n0)
  show own_G _ _ _ _ (T_5.setTop (mkF m 28 #[.val (.ref b), .val (.int (34 : Int32)), .val (.ref a_2)] [(.int (16 : Int32)), (.int (0 : Int32)), (.ref a_2), (.int (0 : Int32)), (.ref b)]))
  have g0_a_2 : n0 ≤ a_2 := Nat.le_trans Z0 (Nat.le_of_eq g_2.symm)
  obtain ⟨T_6, h_6, L_6, X_6, e_6, N_6, K_6, V_6, st_6⟩ := cpA X_5 hx hZ hown (own_w hw 241 rfl) (own_w hw 195 rfl) (own_w hw 193 rfl) (own_w hw 194 rfl) eh_5 KB'_4 V_2 (sp := (0 : Int32)) (dp := (0 : Int32)) (nn := (16 : Int32)) (Or.inl ⟨rfl, rfl⟩) (by decide) (by decide) (by decide) (by decide) (by decide) (us := vd) (own_range hvl).symm (by decide) N_5 g0_a_2 (g := (mkF m 28 #[.val (.ref b), .val (.int (34 : Int32)), .val (.ref a_2)] [(.int (16 : Int32)), (.int (0 : Int32)), (.ref a_2), (.int (0 : Int32)), (.ref b)])) rfl (by rw [hml]; rfl) rfl (hb hby d_jdk65121x_28) (by decide) (W := 0) (by show 2 * 0 + _ ≤ _; exact Nat.le_of_eq rfl) (by decide)
  refine own_G.go st_6 ?_
  have V_6q : Arv Z h_6 a_2 k_2 .byte (34 : Int32) (own_put ([(.int (0 : Int32)), (.int (0 : Int32)), (.int (0 : Int32)), (.int (0 : Int32)), (.int (0 : Int32)), (.int (0 : Int32)), (.int (0 : Int32)), (.int (0 : Int32)), (.int (0 : Int32)), (.int (0 : Int32)), (.int (0 : Int32)), (.int (0 : Int32)), (.int (0 : Int32)), (.int (0 : Int32)), (.int (0 : Int32)), (.int (0 : Int32)), (.int (0 : Int32)), (.int (0 : Int32)), (.int (0 : Int32)), (.int (0 : Int32)), (.int (0 : Int32)), (.int (0 : Int32)), (.int (0 : Int32)), (.int (0 : Int32)), (.int (0 : Int32)), (.int (0 : Int32)), (.int (0 : Int32)), (.int (0 : Int32)), (.int (0 : Int32)), (.int (0 : Int32)), (.int (0 : Int32)), (.int (0 : Int32)), (.int (0 : Int32)), (.int (0 : Int32))] : List Value) vd ((0 : Int32)).toNatClampNeg ((16 : Int32)).toNatClampNeg) (.int (0 : Int32)) := V_6
  show own_G _ _ _ _ (T_6.setTop (mkF m 31 #[.val (.ref b), .val (.int (34 : Int32)), .val (.ref a_2)] []))
  refine own_G.go (fun _ k => XS.aloadN X_6.here hx rfl (hb hby d_jdk65121x_31) rfl rfl k) ?_
  show own_G _ _ _ _ (T_6.setTop (mkF m 32 #[.val (.ref b), .val (.int (34 : Int32)), .val (.ref a_2)] [(.ref a_2)]))
  exact own_G.end_ X_6 hlk (v := (some (.ref a_2))) (fun h => by rw [hrt] at h; cases h) (fun fs hr => retOut X_6 hx hrt rfl (Or.inr (Or.inr (Or.inr (Or.inr ⟨rfl, rfl, rfl⟩)))) (hb hby d_jdk65121x_32) hr) e_6 ⟨a_2, k_2, rfl, N_6, (((Keep.refl h0 []).ext E_2).trans K_6 (allS (Or.inr (Nat.le_of_eq g_2.symm)) all0)), (Nat.le_of_eq g_2.symm), V_6q⟩ (by decide) (by decide)
def Qec (Z : State) (sb : Addr) (cnt : Int32) (vd : List Value) (h0 : Heap) (n0 : Nat) (v : Option Value) (h : Heap) (L : List Loc) : Prop := ∃ (b : Addr) (kb : ClassId), v = none ∧ Fr n0 L ∧ Keep h0 h [sb] ∧ h0.size ≤ b ∧ Exa Z h sb "java/lang/StringBuilder" ∧ Fld Z h sb "java/lang/AbstractStringBuilder" "value" "[B" (.ref b) ∧ Fld Z h sb "java/lang/AbstractStringBuilder" "coder" "B" (.int (0 : Int32)) ∧ Fld Z h sb "java/lang/AbstractStringBuilder" "count" "I" (.int cnt) ∧ Arv Z h b kb .byte (34 : Int32) (own_gr vd) (.int (0 : Int32))
theorem pd_6 : parseMethodDescriptor "(I)I" = some ⟨[.int], some .int⟩ := by decide +kernel
theorem pd_7 : parseMethodDescriptor "([BI)[B" = some ⟨[(.array .byte), .int], some (.array .byte)⟩ := by decide +kernel
theorem d_jdk689x_17 : decode jdk_68_method_9_code 17 = .ok (.aload_n 0, 1) := by decide +kernel
theorem d_jdk689x_18 : decode jdk_68_method_9_code 18 = .ok (.aload_n 0, 1) := by decide +kernel
theorem d_jdk689x_19 : decode jdk_68_method_9_code 19 = .ok (.getfield 15, 3) := by decide +kernel
theorem d_jdk689x_22 : decode jdk_68_method_9_code 22 = .ok (.aload_n 0, 1) := by decide +kernel
theorem d_jdk689x_23 : decode jdk_68_method_9_code 23 = .ok (.iload_n 1, 1) := by decide +kernel
theorem d_jdk689x_24 : decode jdk_68_method_9_code 24 = .ok (.invokevirtual 104, 3) := by decide +kernel
theorem d_jdk689x_27 : decode jdk_68_method_9_code 27 = .ok (.aload_n 0, 1) := by decide +kernel
theorem d_jdk689x_28 : decode jdk_68_method_9_code 28 = .ok (.getfield 22, 3) := by decide +kernel
theorem d_jdk689x_31 : decode jdk_68_method_9_code 31 = .ok (.ishl, 1) := by decide +kernel
theorem d_jdk689x_32 : decode jdk_68_method_9_code 32 = .ok (.invokestatic 108, 3) := by decide +kernel
theorem d_jdk689x_35 : decode jdk_68_method_9_code 35 = .ok (.putfield 15, 3) := by decide +kernel
set_option maxRecDepth 65536 in
set_option maxHeartbeats 40000000 in
theorem rm_ecg (l : Launch) (Z : State) (a0 : Array Value) (hw : ∀ d ∈ tables_1, d.before a0 Z = true) (ws : List Jvm.Cond) (sb b : Addr) (kb : ClassId) (cnt : Int32) (vd : List Value) (h0 : Heap) (n0 : Nat) (Z0 : n0 ≤ h0.size) (gs : n0 ≤ sb) (ES : Exa Z h0 sb "java/lang/StringBuilder") (SV : Fld Z h0 sb "java/lang/AbstractStringBuilder" "value" "[B" (.ref b)) (SC : Fld Z h0 sb "java/lang/AbstractStringBuilder" "coder" "B" (.int (0 : Int32))) (SN : Fld Z h0 sb "java/lang/AbstractStringBuilder" "count" "I" (.int cnt)) (KB : Arv Z h0 b kb .byte (16 : Int32) vd (.int (0 : Int32))) (hvl : vd.length = 16) :
    MetFree l (⟨"java/lang/AbstractStringBuilder", "ensureCapacityInternal", "(I)V"⟩ : MethodName) (head1 (Jvm.Cond.code (⟨"java/lang/AbstractStringBuilder", "ensureCapacityInternal", "(I)V"⟩ : MethodName) jdk_68_method_9_code 3 none :: ws) ({ frames := 3, cells := 1, slots := 34, locals := 48 } : Room)) (fun a_ U => a_ = #[(.ref sb), (.int (17 : Int32))] ∧ Z.Warmed39 U.vm ∧ U.heap = h0) (fun _ _ _ _ _ => True) (fun _ U o U' => ∃ v L, o = .returned v ∧ Qec Z sb cnt vd h0 n0 v U'.heap L ∧ FrameEnd U o U' L ({ frames := 3, cells := 1, slots := 34, locals := 48 } : Room).cells ({ frames := 3, cells := 1, slots := 34, locals := 48 } : Room).slots) := by
  refine MetFree.of_bodySF (plainFor_of_name pn_2) hisR ?_
  intro p e s m args below meth c s₁ Bd hml0 hP hK
  obtain ⟨rfl, hZ, hh⟩ := hP
  have hx := Bd.exec
  have hby := Bd.bytes
  have hrt := Bd.returns
  have hlk : meth.locks = false := Bd.notSynchronized
  have hml : c.maxLocals = 3 := hml0
  have hown : s.vm.findClass "java/lang/AbstractStringBuilder" = some m.cls := findClass_of_methodNamed Bd.named
  have hnm := (name_of_methodNamed Bd.named Bd.method).1
  have X0 : Stand p l e ({ frames := 3, cells := 1, slots := 34, locals := 48 } : Room) s m #[(.ref sb), (.int (17 : Int32))] below meth c s₁ [] 0 0 := Stand.of_body Bd
  have e0 : s₁.heap = h0 := by rw [← hh, Bd.state]; rfl
  have N0 := Fr.nil n0
  show own_G p.tables e below (fun o t => ∃ v L, o = .returned v ∧ Qec Z sb cnt vd h0 n0 v t.heap L ∧ FrameEnd s o t L ({ frames := 3, cells := 1, slots := 34, locals := 48 } : Room).cells ({ frames := 3, cells := 1, slots := 34, locals := 48 } : Room).slots) (s₁.setTop (entryFrame m #[(.ref sb), (.int (17 : Int32))] 3))
  refine own_G.cast (show entryFrame m #[(.ref sb), (.int (17 : Int32))] 3 = mkF m 0 #[.val (.ref sb), .val (.int (17 : Int32)), .unset] [] from by first | (simp [entryFrame, mkF, argsToLocals, Value.category]; done) | rfl) ?_
  refine own_G.go (fun _ k => XS.aloadN X0.here hx rfl (hb hby d_jdk689x_0) rfl rfl k) ?_
  show own_G _ _ _ _ (s₁.setTop (mkF m 1 #[.val (.ref sb), .val (.int (17 : Int32)), .unset] [(.ref sb)]))
  obtain ⟨T_1, X_1, e_1, st_1⟩ := getF X0 hx hZ hown (host := "") (Or.inl (own_w hw 143 rfl)) Via.refl e0 SV (g := (mkF m 1 #[.val (.ref sb), .val (.int (17 : Int32)), .unset] [(.ref sb)])) rfl rfl (hb hby d_jdk689x_1)
  refine own_G.go st_1 ?_
  show own_G _ _ _ _ (T_1.setTop (mkF m 4 #[.val (.ref sb), .val (.int (17 : Int32)), .unset] [(.ref b)]))
  obtain ⟨cel_2, A_2, -, S_2, M_2, -, -⟩ := id KB
  refine own_G.go (X_1.arraylength hx (by rw [e_1]; exact A_2.1) (State.isArrayOf_alike hZ.alike A_2.2.1) (g := (mkF m 4 #[.val (.ref sb), .val (.int (17 : Int32)), .unset] [(.ref b)])) rfl rfl (hb hby d_jdk689x_4)) ?_
  rw [len_of S_2 M_2]
  show own_G _ _ _ _ (T_1.setTop (mkF m 5 #[.val (.ref sb), .val (.int (17 : Int32)), .unset] [(.int (16 : Int32))]))
  refine own_G.go (fun _ k => XS.aloadN X_1.here hx rfl (hb hby d_jdk689x_5) rfl rfl k) ?_
  show own_G _ _ _ _ (T_1.setTop (mkF m 6 #[.val (.ref sb), .val (.int (17 : Int32)), .unset] [(.ref sb), (.int (16 : Int32))]))
  obtain ⟨T_3, X_3, e_3, st_3⟩ := getF X_1 hx hZ hown (host := "") (Or.inl (own_w hw 145 rfl)) Via.refl e_1 SC (g := (mkF m 6 #[.val (.ref sb), .val (.int (17 : Int32)), .unset] [(.ref sb), (.int (16 : Int32))])) rfl rfl (hb hby d_jdk689x_6)
  refine own_G.go st_3 ?_
  show own_G _ _ _ _ (T_3.setTop (mkF m 9 #[.val (.ref sb), .val (.int (17 : Int32)), .unset] [(.int (0 : Int32)), (.int (16 : Int32))]))
  refine own_G.go (fun _ k => XS.ishr X_3.here hx rfl (hb hby d_jdk689x_9) rfl k) ?_
  show own_G _ _ _ _ (T_3.setTop (mkF m 10 #[.val (.ref sb), .val (.int (17 : Int32)), .unset] [(.int ((16 : Int32) >>> ((0 : Int32) &&& 31)))]))
  rw [own_shr0]
  refine own_G.go (fun _ k => XS.istoreN X_3.here hx rfl (hb hby d_jdk689x_10) rfl (l' := #[.val (.ref sb), .val (.int (17 : Int32)), .val (.int (16 : Int32))]) rfl k) ?_
  show own_G _ _ _ _ (T_3.setTop (mkF m 11 #[.val (.ref sb), .val (.int (17 : Int32)), .val (.int (16 : Int32))] []))
  refine own_G.go (fun _ k => XS.iloadN X_3.here hx rfl (hb hby d_jdk689x_11) rfl k) ?_
  show own_G _ _ _ _ (T_3.setTop (mkF m 12 #[.val (.ref sb), .val (.int (17 : Int32)), .val (.int (16 : Int32))] [(.int (17 : Int32))]))
  refine own_G.go (fun _ k => XS.iloadN X_3.here hx rfl (hb hby d_jdk689x_12) rfl k) ?_
  show own_G _ _ _ _ (T_3.setTop (mkF m 13 #[.val (.ref sb), .val (.int (17 : Int32)), .val (.int (16 : Int32))] [(.int (16 : Int32)), (.int (17 : Int32))]))
  refine own_G.go (fun _ k => XS.isub X_3.here hx rfl (hb hby d_jdk689x_13) rfl k) ?_
  show own_G _ _ _ _ (T_3.setTop (mkF m 14 #[.val (.ref sb), .val (.int (17 : Int32)), .val (.int (16 : Int32))] [(.int (1 : Int32))]))
  refine own_G.go (fun _ k => XS.ifNo X_3.here hx rfl (hb hby d_jdk689x_14) rfl ((if0 _ _).trans (tlt (by decide : (0 : Int32) < (1 : Int32))).2.2.2) k) ?_
  show own_G _ _ _ _ (T_3.setTop (mkF m 17 #[.val (.ref sb), .val (.int (17 : Int32)), .val (.int (16 : Int32))] []))
  refine own_G.go (fun _ k => XS.aloadN X_3.here hx rfl (hb hby d_jdk689x_17) rfl rfl k) ?_
  show own_G _ _ _ _ (T_3.setTop (mkF m 18 #[.val (.ref sb), .val (.int (17 : Int32)), .val (.int (16 : Int32))] [(.ref sb)]))
  refine own_G.go (fun _ k => XS.aloadN X_3.here hx rfl (hb hby d_jdk689x_18) rfl rfl k) ?_
  show own_G _ _ _ _ (T_3.setTop (mkF m 19 #[.val (.ref sb), .val (.int (17 : Int32)), .val (.int (16 : Int32))] [(.ref sb), (.ref sb)]))
  obtain ⟨T_4, X_4, e_4, st_4⟩ := getF X_3 hx hZ hown (host := "") (Or.inl (own_w hw 143 rfl)) Via.refl e_3 SV (g := (mkF m 19 #[.val (.ref sb), .val (.int (17 : Int32)), .val (.int (16 : Int32))] [(.ref sb), (.ref sb)])) rfl rfl (hb hby d_jdk689x_19)
  refine own_G.go st_4 ?_
  show own_G _ _ _ _ (T_4.setTop (mkF m 22 #[.val (.ref sb), .val (.int (17 : Int32)), .val (.int (16 : Int32))] [(.ref b), (.ref sb)]))
  refine own_G.go (fun _ k => XS.aloadN X_4.here hx rfl (hb hby d_jdk689x_22) rfl rfl k) ?_
  show own_G _ _ _ _ (T_4.setTop (mkF m 23 #[.val (.ref sb), .val (.int (17 : Int32)), .val (.int (16 : Int32))] [(.ref sb), (.ref b), (.ref sb)]))
  refine own_G.go (fun _ k => XS.iloadN X_4.here hx rfl (hb hby d_jdk689x_23) rfl k) ?_
  show own_G _ _ _ _ (T_4.setTop (mkF m 24 #[.val (.ref sb), .val (.int (17 : Int32)), .val (.int (16 : Int32))] [(.int (17 : Int32)), (.ref sb), (.ref b), (.ref sb)]))
  obtain ⟨_, T_5, L_5, Q_5, X_5, st_5⟩ := own_callPS X_4 hx hown (mvT hZ (own_w hw 281 rfl)) (mvT hZ (own_w hw 282 rfl)) (mvP hZ (own_w hw 283 rfl)) (mvT hZ (own_w hw 284 rfl)) (mvT hZ (own_w hw 285 rfl)) (by decide) (Q := (Qp (.int (34 : Int32)) h0)) (backOf (W := 2) (rm_nc l Z a0 hw [] sb b kb vd h0 n0 Z0 SV SC KB) hZ (own_w hw 285 rfl) (own_w hw 139 rfl) (by decide) (by decide)) ES (g := (mkF m 24 #[.val (.ref sb), .val (.int (17 : Int32)), .val (.int (16 : Int32))] [(.int (17 : Int32)), (.ref sb), (.ref b), (.ref sb)])) rfl (by rw [hml]; rfl) (argsL := [(.int (17 : Int32))]) (rest := [(.ref b), (.ref sb)]) (lenOf pd_6 rfl) rfl (by show 2 * 0 + _ ≤ _; exact Nat.le_of_eq rfl) (hb hby d_jdk689x_24) e_4 rfl (by decide) (by decide)
  obtain ⟨rfl, rfl, eh_5⟩ := Q_5
  refine own_G.via st_5 ?_
  have N_5 := Fr.app N0 (Fr.nil n0)
  show own_G _ _ _ _ (T_5.setTop (mkF m 27 #[.val (.ref sb), .val (.int (17 : Int32)), .val (.int (16 : Int32))] [(.int (34 : Int32)), (.ref b), (.ref sb)]))
  refine own_G.go (fun _ k => XS.aloadN X_5.here hx rfl (hb hby d_jdk689x_27) rfl rfl k) ?_
  show own_G _ _ _ _ (T_5.setTop (mkF m 28 #[.val (.ref sb), .val (.int (17 : Int32)), .val (.int (16 : Int32))] [(.ref sb), (.int (34 : Int32)), (.ref b), (.ref sb)]))
  obtain ⟨T_6, X_6, e_6, st_6⟩ := getF X_5 hx hZ hown (host := "") (Or.inl (own_w hw 145 rfl)) Via.refl eh_5 SC (g := (mkF m 28 #[.val (.ref sb), .val (.int (17 : Int32)), .val (.int (16 : Int32))] [(.ref sb), (.int (34 : Int32)), (.ref b), (.ref sb)])) rfl rfl (hb hby d_jdk689x_28)
  refine own_G.go st_6 ?_
  show own_G _ _ _ _ (T_6.setTop (mkF m 31 #[.val (.ref sb), .val (.int (17 : Int32)), .val (.int (16 : Int32))] [(.int (0 : Int32)), (.int (34 : Int32)), (.ref b), (.ref sb)]))
  refine own_G.go (fun _ k => XS.ishl X_6.here hx rfl (hb hby d_jdk689x_31) rfl k) ?_
  show own_G _ _ _ _ (T_6.setTop (mkF m 32 #[.val (.ref sb), .val (.int (17 : Int32)), .val (.int (16 : Int32))] [(.int ((34 : Int32) <<< ((0 : Int32) &&& 31))), (.ref b), (.ref sb)]))
  rw [own_shl0]
  obtain ⟨_, T_7, L_7, Q_7, X_7, st_7⟩ := own_callS X_6 hx hown (mvT hZ (own_w hw 295 rfl)) (mvT hZ (own_w hw 296 rfl)) (mvT hZ (own_w hw 229 rfl)) (mvT hZ (own_w hw 297 rfl)) (by decide) (Q := (Qco Z (34 : Int32) (own_gr vd) h0 n0)) (backOf (W := 1) (rm_cpo l Z a0 hw [] b kb vd h0 n0 Z0 KB hvl) hZ (own_w hw 297 rfl) (own_w hw 229 rfl) (by decide) (by decide)) (g := (mkF m 32 #[.val (.ref sb), .val (.int (17 : Int32)), .val (.int (16 : Int32))] [(.int (34 : Int32)), (.ref b), (.ref sb)])) rfl (by rw [hml]; rfl) (argsL := [(.ref b), (.int (34 : Int32))]) (rest := [(.ref sb)]) (lenOf pd_7 rfl) rfl (by show 2 * 0 + _ ≤ _; exact Nat.le_of_eq rfl) (hb hby d_jdk689x_32) e_6 rfl (by decide) (by decide)
  obtain ⟨q_7, kq_7, rfl, Nq_7, K_7, lo_7, V_7⟩ := Q_7
  refine own_G.via st_7 ?_
  have N_7 := Fr.app N_5 Nq_7
  show own_G _ _ _ _ (T_7.setTop (mkF m 35 #[.val (.ref sb), .val (.int (17 : Int32)), .val (.int (16 : Int32))] [(.ref q_7), (.ref sb)]))
  have SV'_8 : Fld Z T_7.heap sb "java/lang/AbstractStringBuilder" "value" "[B" (.ref b) := (SV.keep K_7 nin0)
  have ES'_9 : Exa Z T_7.heap sb "java/lang/StringBuilder" := (ES.keep K_7)
  obtain ⟨T_10, h_10, X_10, e_10, W_10, st_10⟩ := putF X_7 hx hZ hown (host := "") (Or.inl (own_w hw 143 rfl)) Via.refl rfl SV'_8 ES'_9 (Or.inl (own_w hw 144 rfl)) (own_w hw 130 rfl) (ty := (.array .byte)) (by decide) rfl rfl (g := (mkF m 35 #[.val (.ref sb), .val (.int (17 : Int32)), .val (.int (16 : Int32))] [(.ref q_7), (.ref sb)])) rfl rfl (hb hby d_jdk689x_35)
  refine own_G.go st_10 ?_
  have F_10 : Fld Z h_10 sb "java/lang/AbstractStringBuilder" "value" "[B" (.ref q_7) := SV'_8.same W_10
  have N_10 := Fr.snoc X_10 N_7 gs
  show own_G _ _ _ _ (T_10.setTop (mkF m 38 #[.val (.ref sb), .val (.int (17 : Int32)), .val (.int (16 : Int32))] []))
  have ES'_11 : Exa Z h_10 sb "java/lang/StringBuilder" := (ES'_9.wr W_10)
  have SC'_12 : Fld Z h_10 sb "java/lang/AbstractStringBuilder" "coder" "B" (.int (0 : Int32)) := ((SC.keep K_7 nin0).other W_10 (Or.inr (slot_ne (C := "java/lang/StringBuilder") (Or.inl (own_w hw 146 rfl)) (Or.inl (own_w hw 144 rfl)) (by decide) (by decide : parseFieldDescriptor "B" = some .byte) (by decide : parseFieldDescriptor "[B" = some (.array .byte)))))
  have SN'_13 : Fld Z h_10 sb "java/lang/AbstractStringBuilder" "count" "I" (.int cnt) := ((SN.keep K_7 nin0).other W_10 (Or.inr (slot_ne (C := "java/lang/StringBuilder") (Or.inl (own_w hw 170 rfl)) (Or.inl (own_w hw 144 rfl)) (by decide) (by decide : parseFieldDescriptor "I" = some .int) (by decide : parseFieldDescriptor "[B" = some (.array .byte)))))
  have V_7'_14 : Arv Z h_10 q_7 kq_7 .byte (34 : Int32) (own_gr vd) (.int (0 : Int32)) := (V_7.other W_10 (Ne.symm (Nat.ne_of_lt (Nat.lt_of_lt_of_le ES.lt lo_7))))
  exact own_G.end_ X_10 hlk (v := none) (fun _ => rfl) (fun fs hr => X_10.returnOut hx hrt (hb hby d_jdk689x_38) hr) e_10 ⟨q_7, kq_7, rfl, N_10, (((Keep.refl h0 [sb]).trans K_7 all0).wr W_10 (Or.inl (List.mem_of_getElem? (i := 0) rfl))), lo_7, ES'_11, F_10, SC'_12, SN'_13, V_7'_14⟩ (by decide) (by decide)
def QapN (Z : State) (sb b : Addr) (kb : ClassId) (cap cnt nt : Int32) (us vd : List Value) (h0 : Heap) (n0 : Nat) (v : Option Value) (h : Heap) (L : List Loc) : Prop := v = some (.ref sb) ∧ Fr n0 L ∧ Keep h0 h [sb, b] ∧ Exa Z h sb "java/lang/StringBuilder" ∧ Fld Z h sb "java/lang/AbstractStringBuilder" "value" "[B" (.ref b) ∧ Fld Z h sb "java/lang/AbstractStringBuilder" "coder" "B" (.int (0 : Int32)) ∧ Fld Z h sb "java/lang/AbstractStringBuilder" "count" "I" (.int (cnt + nt)) ∧ Arv Z h b kb .byte cap (own_put vd us cnt.toNatClampNeg nt.toNatClampNeg) (.int (0 : Int32))
def QapG (Z : State) (sb : Addr) (cnt nt : Int32) (us vd : List Value) (h0 : Heap) (n0 : Nat) (v : Option Value) (h : Heap) (L : List Loc) : Prop := ∃ (b : Addr) (kb : ClassId), v = some (.ref sb) ∧ Fr n0 L ∧ Keep h0 h [sb] ∧ h0.size ≤ b ∧ Exa Z h sb "java/lang/StringBuilder" ∧ Fld Z h sb "java/lang/AbstractStringBuilder" "value" "[B" (.ref b) ∧ Fld Z h sb "java/lang/AbstractStringBuilder" "coder" "B" (.int (0 : Int32)) ∧ Fld Z h sb "java/lang/AbstractStringBuilder" "count" "I" (.int (cnt + nt)) ∧ Arv Z h b kb .byte (34 : Int32) (own_put (own_gr vd) us cnt.toNatClampNeg nt.toNatClampNeg) (.int (0 : Int32))
theorem pd_8 : parseMethodDescriptor "()I" = some ⟨[], some .int⟩ := by decide +kernel
theorem pd_9 : parseMethodDescriptor "(I)V" = some ⟨[.int], none⟩ := by decide +kernel
theorem pd_10 : parseMethodDescriptor "(ILjava/lang/String;)V" = some ⟨[.int, (.object "java/lang/String")], none⟩ := by decide +kernel
theorem d_jdk6822x_0 : decode jdk_68_method_22_code 0 = .ok (.aload_n 1, 1) := by decide +kernel
theorem d_jdk6822x_1 : decode jdk_68_method_22_code 1 = .ok (.ifnonnull 8, 3) := by decide +kernel
theorem d_jdk6822x_9 : decode jdk_68_method_22_code 9 = .ok (.aload_n 1, 1) := by decide +kernel
theorem d_jdk6822x_10 : decode jdk_68_method_22_code 10 = .ok (.invokevirtual 32, 3) := by decide +kernel
theorem d_jdk6822x_13 : decode jdk_68_method_22_code 13 = .ok (.istore_n 2, 1) := by decide +kernel
theorem d_jdk6822x_14 : decode jdk_68_method_22_code 14 = .ok (.aload_n 0, 1) := by decide +kernel
theorem d_jdk6822x_15 : decode jdk_68_method_22_code 15 = .ok (.aload_n 0, 1) := by decide +kernel
theorem d_jdk6822x_16 : decode jdk_68_method_22_code 16 = .ok (.getfield 79, 3) := by decide +kernel
theorem d_jdk6822x_19 : decode jdk_68_method_22_code 19 = .ok (.iload_n 2, 1) := by decide +kernel
theorem d_jdk6822x_20 : decode jdk_68_method_22_code 20 = .ok (.iadd, 1) := by decide +kernel
theorem d_jdk6822x_21 : decode jdk_68_method_22_code 21 = .ok (.invokevirtual 100, 3) := by decide +kernel
theorem d_jdk6822x_24 : decode jdk_68_method_22_code 24 = .ok (.aload_n 0, 1) := by decide +kernel
theorem d_jdk6822x_25 : decode jdk_68_method_22_code 25 = .ok (.aload_n 0, 1) := by decide +kernel
theorem d_jdk6822x_26 : decode jdk_68_method_22_code 26 = .ok (.getfield 79, 3) := by decide +kernel
theorem d_jdk6822x_29 : decode jdk_68_method_22_code 29 = .ok (.aload_n 1, 1) := by decide +kernel
theorem d_jdk6822x_30 : decode jdk_68_method_22_code 30 = .ok (.invokevirtual 208, 3) := by decide +kernel
theorem d_jdk6822x_33 : decode jdk_68_method_22_code 33 = .ok (.aload_n 0, 1) := by decide +kernel
theorem d_jdk6822x_34 : decode jdk_68_method_22_code 34 = .ok (.dup, 1) := by decide +kernel
theorem d_jdk6822x_35 : decode jdk_68_method_22_code 35 = .ok (.getfield 79, 3) := by decide +kernel
theorem d_jdk6822x_38 : decode jdk_68_method_22_code 38 = .ok (.iload_n 2, 1) := by decide +kernel
theorem d_jdk6822x_39 : decode jdk_68_method_22_code 39 = .ok (.iadd, 1) := by decide +kernel
theorem d_jdk6822x_40 : decode jdk_68_method_22_code 40 = .ok (.putfield 79, 3) := by decide +kernel
theorem d_jdk6822x_43 : decode jdk_68_method_22_code 43 = .ok (.aload_n 0, 1) := by decide +kernel
theorem d_jdk6822x_44 : decode jdk_68_method_22_code 44 = .ok (.areturn, 1) := by decide +kernel
set_option maxRecDepth 65536 in
set_option maxHeartbeats 40000000 in
theorem rm_apN (l : Launch) (Z : State) (a0 : Array Value) (hw : ∀ d ∈ tables_1, d.before a0 Z = true) (ws : List Jvm.Cond) (sb r t b : Addr) (kt kb : ClassId) (cap cnt nt : Int32) (us vd : List Value) (zc : Int32) (h0 : Heap) (n0 : Nat) (Z0 : n0 ≤ h0.size) (ES : Exa Z h0 sb "java/lang/StringBuilder") (SV : Fld Z h0 sb "java/lang/AbstractStringBuilder" "value" "[B" (.ref b)) (SC : Fld Z h0 sb "java/lang/AbstractStringBuilder" "coder" "B" (.int (0 : Int32))) (SN : Fld Z h0 sb "java/lang/AbstractStringBuilder" "count" "I" (.int cnt)) (E0 : Exa Z h0 r "java/lang/String") (C0 : Fld Z h0 r "java/lang/String" "coder" "B" (.int (0 : Int32))) (V0 : Fld Z h0 r "java/lang/String" "value" "[B" (.ref t)) (K0 : Arv Z h0 t kt .byte nt us (.int (0 : Int32))) (KB : Arv Z h0 b kb .byte cap vd (.int (0 : Int32))) (gb : n0 ≤ b) (hsb : sb ≠ b) (hl : cnt.toNatClampNeg + nt.toNatClampNeg ≤ vd.length) (hng : ¬ (0 : Int32) < ((cnt + nt) - cap)) (gs : n0 ≤ sb) (hul : us.length = nt.toNatClampNeg) (h3 : ¬ nt < 0) (hdp : ¬ cnt < 0) (h5 : cnt.toNatClampNeg + nt.toNatClampNeg ≤ (cap).toNatClampNeg) (O2 : Sta Z Z.heap "java/lang/String" "COMPACT_STRINGS" "Z" (.int zc)) (P5 : ¬ (zc = (0 : Int32))) (X00 : Old Z n0 h0) :
    MetFree l (⟨"java/lang/AbstractStringBuilder", "append", "(Ljava/lang/String;)Ljava/lang/AbstractStringBuilder;"⟩ : MethodName) (head1 (Jvm.Cond.code (⟨"java/lang/AbstractStringBuilder", "append", "(Ljava/lang/String;)Ljava/lang/AbstractStringBuilder;"⟩ : MethodName) jdk_68_method_22_code 3 (some (.object "java/lang/AbstractStringBuilder")) :: ws) ({ frames := 3, cells := 0, slots := 0, locals := 47 } : Room)) (fun a_ U => a_ = #[(.ref sb), (.ref r)] ∧ Z.Warmed39 U.vm ∧ U.heap = h0) (fun _ _ _ _ _ => True) (fun _ U o U' => ∃ v L, o = .returned v ∧ QapN Z sb b kb cap cnt nt us vd h0 n0 v U'.heap L ∧ FrameEnd U o U' L ({ frames := 3, cells := 0, slots := 0, locals := 47 } : Room).cells ({ frames := 3, cells := 0, slots := 0, locals := 47 } : Room).slots) := by
  refine MetFree.of_bodySF (plainFor_of_name pn_2) hisR ?_
  intro p e s m args below meth c s₁ Bd hml0 hP hK
  obtain ⟨rfl, hZ, hh⟩ := hP
  have hx := Bd.exec
  have hby := Bd.bytes
  have hrt := Bd.returns
  have hlk : meth.locks = false := Bd.notSynchronized
  have hml : c.maxLocals = 3 := hml0
  have hown : s.vm.findClass "java/lang/AbstractStringBuilder" = some m.cls := findClass_of_methodNamed Bd.named
  have hnm := (name_of_methodNamed Bd.named Bd.method).1
  have X0 : Stand p l e ({ frames := 3, cells := 0, slots := 0, locals := 47 } : Room) s m #[(.ref sb), (.ref r)] below meth c s₁ [] 0 0 := Stand.of_body Bd
  have e0 : s₁.heap = h0 := by rw [← hh, Bd.state]; rfl
  have N0 := Fr.nil n0
  show own_G p.tables e below (fun o t => ∃ v L, o = .returned v ∧ QapN Z sb b kb cap cnt nt us vd h0 n0 v t.heap L ∧ FrameEnd s o t L ({ frames := 3, cells := 0, slots := 0, locals := 47 } : Room).cells ({ frames := 3, cells := 0, slots := 0, locals := 47 } : Room).slots) (s₁.setTop (entryFrame m #[(.ref sb), (.ref r)] 3))
  refine own_G.cast (show entryFrame m #[(.ref sb), (.ref r)] 3 = mkF m 0 #[.val (.ref sb), .val (.ref r), .unset] [] from by first | (simp [entryFrame, mkF, argsToLocals, Value.category]; done) | rfl) ?_
  refine own_G.go (fun _ k => XS.aloadN X0.here hx rfl (hb hby d_jdk6822x_0) rfl rfl k) ?_
  show own_G _ _ _ _ (s₁.setTop (mkF m 1 #[.val (.ref sb), .val (.ref r), .unset] [(.ref r)]))
  refine own_G.go (fun _ k => XS.ifnonnullYes X0.here hx rfl (pc0 := 1) (pc' := 9) rfl (hb hby d_jdk6822x_1) rfl (by decide) (by decide) k) ?_
  show own_G _ _ _ _ (s₁.setTop (mkF m 9 #[.val (.ref sb), .val (.ref r), .unset] []))
  refine own_G.go (fun _ k => XS.aloadN X0.here hx rfl (hb hby d_jdk6822x_9) rfl rfl k) ?_
  show own_G _ _ _ _ (s₁.setTop (mkF m 10 #[.val (.ref sb), .val (.ref r), .unset] [(.ref r)]))
  obtain ⟨cq_1, kq_1, q_1a, q_1b, q_1c⟩ := isOf hZ e0 E0
  obtain ⟨_, T_1, L_1, Q_1, X_1, st_1⟩ := own_callV X0 hx (z := (⟨"java/lang/String", "length", "()I"⟩ : MethodName)) hown (mvT hZ (own_w hw 158 rfl)) (mvT hZ (own_w hw 159 rfl)) (notFace_of_selects (args := #[]) (mvT hZ (own_w hw 161 rfl))) (mvT hZ (own_w hw 161 rfl)) (mvT hZ (own_w hw 160 rfl)) (by decide) (Q := (Qp (.int nt) h0)) (backOf (W := 0) (rm_len l Z a0 hw [] r t kt nt us zc h0 n0 Z0 E0 C0 V0 K0 O2 P5 X00) hZ (own_w hw 162 rfl) (own_w hw 6 rfl) (by decide) (by decide)) q_1a q_1c (g := (mkF m 10 #[.val (.ref sb), .val (.ref r), .unset] [(.ref r)])) rfl (by rw [hml]; rfl) (argsL := []) (rest := []) (lenOf pd_8 rfl) rfl (by show 2 * 0 + _ ≤ _; exact Nat.le_of_eq rfl) (hb hby d_jdk6822x_10) e0 rfl (by decide) (by decide)
  obtain ⟨rfl, rfl, eh_1⟩ := Q_1
  refine own_G.via st_1 ?_
  have N_1 := Fr.app N0 (Fr.nil n0)
  show own_G _ _ _ _ (T_1.setTop (mkF m 13 #[.val (.ref sb), .val (.ref r), .unset] [(.int nt)]))
  refine own_G.go (fun _ k => XS.istoreN X_1.here hx rfl (hb hby d_jdk6822x_13) rfl (l' := #[.val (.ref sb), .val (.ref r), .val (.int nt)]) rfl k) ?_
  show own_G _ _ _ _ (T_1.setTop (mkF m 14 #[.val (.ref sb), .val (.ref r), .val (.int nt)] []))
  refine own_G.go (fun _ k => XS.aloadN X_1.here hx rfl (hb hby d_jdk6822x_14) rfl rfl k) ?_
  show own_G _ _ _ _ (T_1.setTop (mkF m 15 #[.val (.ref sb), .val (.ref r), .val (.int nt)] [(.ref sb)]))
  refine own_G.go (fun _ k => XS.aloadN X_1.here hx rfl (hb hby d_jdk6822x_15) rfl rfl k) ?_
  show own_G _ _ _ _ (T_1.setTop (mkF m 16 #[.val (.ref sb), .val (.ref r), .val (.int nt)] [(.ref sb), (.ref sb)]))
  obtain ⟨T_2, X_2, e_2, st_2⟩ := getF X_1 hx hZ hown (host := "") (Or.inl (own_w hw 169 rfl)) Via.refl eh_1 SN (g := (mkF m 16 #[.val (.ref sb), .val (.ref r), .val (.int nt)] [(.ref sb), (.ref sb)])) rfl rfl (hb hby d_jdk6822x_16)
  refine own_G.go st_2 ?_
  show own_G _ _ _ _ (T_2.setTop (mkF m 19 #[.val (.ref sb), .val (.ref r), .val (.int nt)] [(.int cnt), (.ref sb)]))
  refine own_G.go (fun _ k => XS.iloadN X_2.here hx rfl (hb hby d_jdk6822x_19) rfl k) ?_
  show own_G _ _ _ _ (T_2.setTop (mkF m 20 #[.val (.ref sb), .val (.ref r), .val (.int nt)] [(.int nt), (.int cnt), (.ref sb)]))
  refine own_G.go (fun _ k => XS.iadd X_2.here hx rfl (hb hby d_jdk6822x_20) rfl k) ?_
  show own_G _ _ _ _ (T_2.setTop (mkF m 21 #[.val (.ref sb), .val (.ref r), .val (.int nt)] [(.int (cnt + nt)), (.ref sb)]))
  obtain ⟨_, T_3, L_3, Q_3, X_3, st_3⟩ := own_callPS X_2 hx hown (mvT hZ (own_w hw 171 rfl)) (mvT hZ (own_w hw 172 rfl)) (mvP hZ (own_w hw 173 rfl)) (mvT hZ (own_w hw 174 rfl)) (mvT hZ (own_w hw 175 rfl)) (by decide) (Q := (Qn h0)) (backOf (W := 0) (rm_ecn l Z a0 hw [] sb b kb cap (cnt + nt) vd h0 n0 Z0 SV SC KB hng) hZ (own_w hw 175 rfl) (own_w hw 139 rfl) (by decide) (by decide)) ES (g := (mkF m 21 #[.val (.ref sb), .val (.ref r), .val (.int nt)] [(.int (cnt + nt)), (.ref sb)])) rfl (by rw [hml]; rfl) (argsL := [(.int (cnt + nt))]) (rest := []) (lenOf pd_9 rfl) rfl (by show 2 * 0 + _ ≤ _; exact Nat.le_of_eq rfl) (hb hby d_jdk6822x_21) e_2 rfl (by decide) (by decide)
  obtain ⟨rfl, rfl, eh_3⟩ := Q_3
  refine own_G.via st_3 ?_
  have N_3 := Fr.app N_1 (Fr.nil n0)
  show own_G _ _ _ _ (T_3.setTop (mkF m 24 #[.val (.ref sb), .val (.ref r), .val (.int nt)] []))
  refine own_G.go (fun _ k => XS.aloadN X_3.here hx rfl (hb hby d_jdk6822x_24) rfl rfl k) ?_
  show own_G _ _ _ _ (T_3.setTop (mkF m 25 #[.val (.ref sb), .val (.ref r), .val (.int nt)] [(.ref sb)]))
  refine own_G.go (fun _ k => XS.aloadN X_3.here hx rfl (hb hby d_jdk6822x_25) rfl rfl k) ?_
  show own_G _ _ _ _ (T_3.setTop (mkF m 26 #[.val (.ref sb), .val (.ref r), .val (.int nt)] [(.ref sb), (.ref sb)]))
  obtain ⟨T_4, X_4, e_4, st_4⟩ := getF X_3 hx hZ hown (host := "") (Or.inl (own_w hw 169 rfl)) Via.refl eh_3 SN (g := (mkF m 26 #[.val (.ref sb), .val (.ref r), .val (.int nt)] [(.ref sb), (.ref sb)])) rfl rfl (hb hby d_jdk6822x_26)
  refine own_G.go st_4 ?_
  show own_G _ _ _ _ (T_4.setTop (mkF m 29 #[.val (.ref sb), .val (.ref r), .val (.int nt)] [(.int cnt), (.ref sb)]))
  refine own_G.go (fun _ k => XS.aloadN X_4.here hx rfl (hb hby d_jdk6822x_29) rfl rfl k) ?_
  show own_G _ _ _ _ (T_4.setTop (mkF m 30 #[.val (.ref sb), .val (.ref r), .val (.int nt)] [(.ref r), (.int cnt), (.ref sb)]))
  obtain ⟨_, T_5, L_5, Q_5, X_5, st_5⟩ := own_callPS X_4 hx hown (mvT hZ (own_w hw 176 rfl)) (mvT hZ (own_w hw 177 rfl)) (mvP hZ (own_w hw 178 rfl)) (mvT hZ (own_w hw 179 rfl)) (mvT hZ (own_w hw 180 rfl)) (by decide) (Q := (Qgb Z b kb cap nt cnt us vd h0 n0)) (backOf (W := 0) (rm_psa l Z a0 hw [] sb r t b kt kb nt cnt cap us vd zc h0 n0 Z0 ES SV SC E0 C0 V0 K0 KB gb hul h3 hdp h5 hl O2 P5 X00) hZ (own_w hw 180 rfl) (own_w hw 139 rfl) (by decide) (by decide)) ES (g := (mkF m 30 #[.val (.ref sb), .val (.ref r), .val (.int nt)] [(.ref r), (.int cnt), (.ref sb)])) rfl (by rw [hml]; rfl) (argsL := [(.int cnt), (.ref r)]) (rest := []) (lenOf pd_10 rfl) rfl (by show 2 * 0 + _ ≤ _; exact Nat.le_of_eq rfl) (hb hby d_jdk6822x_30) e_4 rfl (by decide) (by decide)
  obtain ⟨rfl, Nq_5, K_5, V_5⟩ := Q_5
  refine own_G.via st_5 ?_
  have N_5 := Fr.app N_3 Nq_5
  show own_G _ _ _ _ (T_5.setTop (mkF m 33 #[.val (.ref sb), .val (.ref r), .val (.int nt)] []))
  refine own_G.go (fun _ k => XS.aloadN X_5.here hx rfl (hb hby d_jdk6822x_33) rfl rfl k) ?_
  show own_G _ _ _ _ (T_5.setTop (mkF m 34 #[.val (.ref sb), .val (.ref r), .val (.int nt)] [(.ref sb)]))
  refine own_G.go (fun _ k => XS.dup X_5.here hx rfl (hb hby d_jdk6822x_34) rfl rfl k) ?_
  show own_G _ _ _ _ (T_5.setTop (mkF m 35 #[.val (.ref sb), .val (.ref r), .val (.int nt)] [(.ref sb), (.ref sb)]))
  have SN'_6 : Fld Z T_5.heap sb "java/lang/AbstractStringBuilder" "count" "I" (.int cnt) := (SN.keep K_5 (ninS hsb nin0))
  obtain ⟨T_7, X_7, e_7, st_7⟩ := getF X_5 hx hZ hown (host := "") (Or.inl (own_w hw 169 rfl)) Via.refl rfl SN'_6 (g := (mkF m 35 #[.val (.ref sb), .val (.ref r), .val (.int nt)] [(.ref sb), (.ref sb)])) rfl rfl (hb hby d_jdk6822x_35)
  refine own_G.go st_7 ?_
  show own_G _ _ _ _ (T_7.setTop (mkF m 38 #[.val (.ref sb), .val (.ref r), .val (.int nt)] [(.int cnt), (.ref sb)]))
  refine own_G.go (fun _ k => XS.iloadN X_7.here hx rfl (hb hby d_jdk6822x_38) rfl k) ?_
  show own_G _ _ _ _ (T_7.setTop (mkF m 39 #[.val (.ref sb), .val (.ref r), .val (.int nt)] [(.int nt), (.int cnt), (.ref sb)]))
  refine own_G.go (fun _ k => XS.iadd X_7.here hx rfl (hb hby d_jdk6822x_39) rfl k) ?_
  show own_G _ _ _ _ (T_7.setTop (mkF m 40 #[.val (.ref sb), .val (.ref r), .val (.int nt)] [(.int (cnt + nt)), (.ref sb)]))
  have ES'_8 : Exa Z T_5.heap sb "java/lang/StringBuilder" := (ES.keep K_5)
  obtain ⟨T_9, h_9, X_9, e_9, W_9, st_9⟩ := putF X_7 hx hZ hown (host := "") (Or.inl (own_w hw 169 rfl)) Via.refl e_7 SN'_6 ES'_8 (Or.inl (own_w hw 170 rfl)) (own_w hw 130 rfl) (ty := .int) (by decide) rfl rfl (g := (mkF m 40 #[.val (.ref sb), .val (.ref r), .val (.int nt)] [(.int (cnt + nt)), (.ref sb)])) rfl rfl (hb hby d_jdk6822x_40)
  refine own_G.go st_9 ?_
  have F_9 : Fld Z h_9 sb "java/lang/AbstractStringBuilder" "count" "I" (.int (cnt + nt)) := SN'_6.same W_9
  have N_9 := Fr.snoc X_9 N_5 gs
  show own_G _ _ _ _ (T_9.setTop (mkF m 43 #[.val (.ref sb), .val (.ref r), .val (.int nt)] []))
  refine own_G.go (fun _ k => XS.aloadN X_9.here hx rfl (hb hby d_jdk6822x_43) rfl rfl k) ?_
  show own_G _ _ _ _ (T_9.setTop (mkF m 44 #[.val (.ref sb), .val (.ref r), .val (.int nt)] [(.ref sb)]))
  have ES'_10 : Exa Z h_9 sb "java/lang/StringBuilder" := (ES'_8.wr W_9)
  have SV'_11 : Fld Z h_9 sb "java/lang/AbstractStringBuilder" "value" "[B" (.ref b) := ((SV.keep K_5 (ninS hsb nin0)).other W_9 (Or.inr (slot_ne (C := "java/lang/StringBuilder") (Or.inl (own_w hw 144 rfl)) (Or.inl (own_w hw 170 rfl)) (by decide) (by decide : parseFieldDescriptor "[B" = some (.array .byte)) (by decide : parseFieldDescriptor "I" = some .int))))
  have SC'_12 : Fld Z h_9 sb "java/lang/AbstractStringBuilder" "coder" "B" (.int (0 : Int32)) := ((SC.keep K_5 (ninS hsb nin0)).other W_9 (Or.inr (slot_ne (C := "java/lang/StringBuilder") (Or.inl (own_w hw 146 rfl)) (Or.inl (own_w hw 170 rfl)) (by decide) (by decide : parseFieldDescriptor "B" = some .byte) (by decide : parseFieldDescriptor "I" = some .int))))
  have V_5'_13 : Arv Z h_9 b kb .byte cap (own_put vd us (cnt).toNatClampNeg nt.toNatClampNeg) (.int (0 : Int32)) := (V_5.other W_9 (Ne.symm hsb))
  exact own_G.end_ X_9 hlk (v := (some (.ref sb))) (fun h => by rw [hrt] at h; cases h) (fun fs hr => retOut X_9 hx hrt rfl (Or.inr (Or.inr (Or.inr (Or.inr ⟨rfl, rfl, rfl⟩)))) (hb hby d_jdk6822x_44) hr) e_9 ⟨rfl, N_9, (((Keep.refl h0 [sb, b]).trans K_5 (allS (Or.inl (List.mem_of_getElem? (i := 1) rfl)) all0)).wr W_9 (Or.inl (List.mem_of_getElem? (i := 0) rfl))), ES'_10, SV'_11, SC'_12, F_9, V_5'_13⟩ (by decide) (by decide)
set_option maxRecDepth 65536 in
set_option maxHeartbeats 40000000 in
theorem rm_apG (l : Launch) (Z : State) (a0 : Array Value) (hw : ∀ d ∈ tables_1, d.before a0 Z = true) (ws : List Jvm.Cond) (sb r t b : Addr) (kt kb : ClassId) (cnt nt : Int32) (us vd : List Value) (zc : Int32) (h0 : Heap) (n0 : Nat) (Z0 : n0 ≤ h0.size) (ES : Exa Z h0 sb "java/lang/StringBuilder") (SV : Fld Z h0 sb "java/lang/AbstractStringBuilder" "value" "[B" (.ref b)) (SC : Fld Z h0 sb "java/lang/AbstractStringBuilder" "coder" "B" (.int (0 : Int32))) (SN : Fld Z h0 sb "java/lang/AbstractStringBuilder" "count" "I" (.int cnt)) (E0 : Exa Z h0 r "java/lang/String") (C0 : Fld Z h0 r "java/lang/String" "coder" "B" (.int (0 : Int32))) (V0 : Fld Z h0 r "java/lang/String" "value" "[B" (.ref t)) (K0 : Arv Z h0 t kt .byte nt us (.int (0 : Int32))) (hrs : r ≠ sb) (hts : t ≠ sb) (KB : Arv Z h0 b kb .byte (16 : Int32) vd (.int (0 : Int32))) (hvl : vd.length = 16) (h17 : cnt + nt = (17 : Int32)) (hl : cnt.toNatClampNeg + nt.toNatClampNeg ≤ (own_gr vd).length) (gs : n0 ≤ sb) (hul : us.length = nt.toNatClampNeg) (h3 : ¬ nt < 0) (hdp : ¬ cnt < 0) (h5 : cnt.toNatClampNeg + nt.toNatClampNeg ≤ (34 : Int32).toNatClampNeg) (O2 : Sta Z Z.heap "java/lang/String" "COMPACT_STRINGS" "Z" (.int zc)) (P5 : ¬ (zc = (0 : Int32))) (X00 : Old Z n0 h0) :
    MetFree l (⟨"java/lang/AbstractStringBuilder", "append", "(Ljava/lang/String;)Ljava/lang/AbstractStringBuilder;"⟩ : MethodName) (head1 (Jvm.Cond.code (⟨"java/lang/AbstractStringBuilder", "append", "(Ljava/lang/String;)Ljava/lang/AbstractStringBuilder;"⟩ : MethodName) jdk_68_method_22_code 3 (some (.object "java/lang/AbstractStringBuilder")) :: ws) ({ frames := 4, cells := 1, slots := 34, locals := 62 } : Room)) (fun a_ U => a_ = #[(.ref sb), (.ref r)] ∧ Z.Warmed39 U.vm ∧ U.heap = h0) (fun _ _ _ _ _ => True) (fun _ U o U' => ∃ v L, o = .returned v ∧ QapG Z sb cnt nt us vd h0 n0 v U'.heap L ∧ FrameEnd U o U' L ({ frames := 4, cells := 1, slots := 34, locals := 62 } : Room).cells ({ frames := 4, cells := 1, slots := 34, locals := 62 } : Room).slots) := by
  refine MetFree.of_bodySF (plainFor_of_name pn_2) hisR ?_
  intro p e s m args below meth c s₁ Bd hml0 hP hK
  obtain ⟨rfl, hZ, hh⟩ := hP
  have hx := Bd.exec
  have hby := Bd.bytes
  have hrt := Bd.returns
  have hlk : meth.locks = false := Bd.notSynchronized
  have hml : c.maxLocals = 3 := hml0
  have hown : s.vm.findClass "java/lang/AbstractStringBuilder" = some m.cls := findClass_of_methodNamed Bd.named
  have hnm := (name_of_methodNamed Bd.named Bd.method).1
  have X0 : Stand p l e ({ frames := 4, cells := 1, slots := 34, locals := 62 } : Room) s m #[(.ref sb), (.ref r)] below meth c s₁ [] 0 0 := Stand.of_body Bd
  have e0 : s₁.heap = h0 := by rw [← hh, Bd.state]; rfl
  have N0 := Fr.nil n0
  show own_G p.tables e below (fun o t => ∃ v L, o = .returned v ∧ QapG Z sb cnt nt us vd h0 n0 v t.heap L ∧ FrameEnd s o t L ({ frames := 4, cells := 1, slots := 34, locals := 62 } : Room).cells ({ frames := 4, cells := 1, slots := 34, locals := 62 } : Room).slots) (s₁.setTop (entryFrame m #[(.ref sb), (.ref r)] 3))
  refine own_G.cast (show entryFrame m #[(.ref sb), (.ref r)] 3 = mkF m 0 #[.val (.ref sb), .val (.ref r), .unset] [] from by first | (simp [entryFrame, mkF, argsToLocals, Value.category]; done) | rfl) ?_
  refine own_G.go (fun _ k => XS.aloadN X0.here hx rfl (hb hby d_jdk6822x_0) rfl rfl k) ?_
  show own_G _ _ _ _ (s₁.setTop (mkF m 1 #[.val (.ref sb), .val (.ref r), .unset] [(.ref r)]))
  refine own_G.go (fun _ k => XS.ifnonnullYes X0.here hx rfl (pc0 := 1) (pc' := 9) rfl (hb hby d_jdk6822x_1) rfl (by decide) (by decide) k) ?_
  show own_G _ _ _ _ (s₁.setTop (mkF m 9 #[.val (.ref sb), .val (.ref r), .unset] []))
  refine own_G.go (fun _ k => XS.aloadN X0.here hx rfl (hb hby d_jdk6822x_9) rfl rfl k) ?_
  show own_G _ _ _ _ (s₁.setTop (mkF m 10 #[.val (.ref sb), .val (.ref r), .unset] [(.ref r)]))
  obtain ⟨cq_1, kq_1, q_1a, q_1b, q_1c⟩ := isOf hZ e0 E0
  obtain ⟨_, T_1, L_1, Q_1, X_1, st_1⟩ := own_callV X0 hx (z := (⟨"java/lang/String", "length", "()I"⟩ : MethodName)) hown (mvT hZ (own_w hw 158 rfl)) (mvT hZ (own_w hw 159 rfl)) (notFace_of_selects (args := #[]) (mvT hZ (own_w hw 161 rfl))) (mvT hZ (own_w hw 161 rfl)) (mvT hZ (own_w hw 160 rfl)) (by decide) (Q := (Qp (.int nt) h0)) (backOf (W := 0) (rm_len l Z a0 hw [] r t kt nt us zc h0 n0 Z0 E0 C0 V0 K0 O2 P5 X00) hZ (own_w hw 162 rfl) (own_w hw 6 rfl) (by decide) (by decide)) q_1a q_1c (g := (mkF m 10 #[.val (.ref sb), .val (.ref r), .unset] [(.ref r)])) rfl (by rw [hml]; rfl) (argsL := []) (rest := []) (lenOf pd_8 rfl) rfl (by show 2 * 0 + _ ≤ _; exact Nat.le_of_eq rfl) (hb hby d_jdk6822x_10) e0 rfl (by decide) (by decide)
  obtain ⟨rfl, rfl, eh_1⟩ := Q_1
  refine own_G.via st_1 ?_
  have N_1 := Fr.app N0 (Fr.nil n0)
  show own_G _ _ _ _ (T_1.setTop (mkF m 13 #[.val (.ref sb), .val (.ref r), .unset] [(.int nt)]))
  refine own_G.go (fun _ k => XS.istoreN X_1.here hx rfl (hb hby d_jdk6822x_13) rfl (l' := #[.val (.ref sb), .val (.ref r), .val (.int nt)]) rfl k) ?_
  show own_G _ _ _ _ (T_1.setTop (mkF m 14 #[.val (.ref sb), .val (.ref r), .val (.int nt)] []))
  refine own_G.go (fun _ k => XS.aloadN X_1.here hx rfl (hb hby d_jdk6822x_14) rfl rfl k) ?_
  show own_G _ _ _ _ (T_1.setTop (mkF m 15 #[.val (.ref sb), .val (.ref r), .val (.int nt)] [(.ref sb)]))
  refine own_G.go (fun _ k => XS.aloadN X_1.here hx rfl (hb hby d_jdk6822x_15) rfl rfl k) ?_
  show own_G _ _ _ _ (T_1.setTop (mkF m 16 #[.val (.ref sb), .val (.ref r), .val (.int nt)] [(.ref sb), (.ref sb)]))
  obtain ⟨T_2, X_2, e_2, st_2⟩ := getF X_1 hx hZ hown (host := "") (Or.inl (own_w hw 169 rfl)) Via.refl eh_1 SN (g := (mkF m 16 #[.val (.ref sb), .val (.ref r), .val (.int nt)] [(.ref sb), (.ref sb)])) rfl rfl (hb hby d_jdk6822x_16)
  refine own_G.go st_2 ?_
  show own_G _ _ _ _ (T_2.setTop (mkF m 19 #[.val (.ref sb), .val (.ref r), .val (.int nt)] [(.int cnt), (.ref sb)]))
  refine own_G.go (fun _ k => XS.iloadN X_2.here hx rfl (hb hby d_jdk6822x_19) rfl k) ?_
  show own_G _ _ _ _ (T_2.setTop (mkF m 20 #[.val (.ref sb), .val (.ref r), .val (.int nt)] [(.int nt), (.int cnt), (.ref sb)]))
  refine own_G.go (fun _ k => XS.iadd X_2.here hx rfl (hb hby d_jdk6822x_20) rfl k) ?_
  show own_G _ _ _ _ (T_2.setTop (mkF m 21 #[.val (.ref sb), .val (.ref r), .val (.int nt)] [(.int (cnt + nt)), (.ref sb)]))
  rw [h17]
  obtain ⟨_, T_3, L_3, Q_3, X_3, st_3⟩ := own_callPS X_2 hx hown (mvT hZ (own_w hw 171 rfl)) (mvT hZ (own_w hw 172 rfl)) (mvP hZ (own_w hw 173 rfl)) (mvT hZ (own_w hw 174 rfl)) (mvT hZ (own_w hw 175 rfl)) (by decide) (Q := (Qec Z sb cnt vd h0 n0)) (backOf (W := 0) (rm_ecg l Z a0 hw [] sb b kb cnt vd h0 n0 Z0 gs ES SV SC SN KB hvl) hZ (own_w hw 175 rfl) (own_w hw 139 rfl) (by decide) (by decide)) ES (g := (mkF m 21 #[.val (.ref sb), .val (.ref r), .val (.int nt)] [(.int (17 : Int32)), (.ref sb)])) rfl (by rw [hml]; rfl) (argsL := [(.int (17 : Int32))]) (rest := []) (lenOf pd_9 rfl) rfl (by show 2 * 0 + _ ≤ _; exact Nat.le_of_eq rfl) (hb hby d_jdk6822x_21) e_2 rfl (by decide) (by decide)
  obtain ⟨q_3, kq_3, rfl, Nq_3, K_3, lo_3, Es_3, Fv_3, Fc_3, Fn_3, V_3⟩ := Q_3
  refine own_G.via st_3 ?_
  have N_3 := Fr.app N_1 Nq_3
  show own_G _ _ _ _ (T_3.setTop (mkF m 24 #[.val (.ref sb), .val (.ref r), .val (.int nt)] []))
  refine own_G.go (fun _ k => XS.aloadN X_3.here hx rfl (hb hby d_jdk6822x_24) rfl rfl k) ?_
  show own_G _ _ _ _ (T_3.setTop (mkF m 25 #[.val (.ref sb), .val (.ref r), .val (.int nt)] [(.ref sb)]))
  refine own_G.go (fun _ k => XS.aloadN X_3.here hx rfl (hb hby d_jdk6822x_25) rfl rfl k) ?_
  show own_G _ _ _ _ (T_3.setTop (mkF m 26 #[.val (.ref sb), .val (.ref r), .val (.int nt)] [(.ref sb), (.ref sb)]))
  obtain ⟨T_4, X_4, e_4, st_4⟩ := getF X_3 hx hZ hown (host := "") (Or.inl (own_w hw 169 rfl)) Via.refl rfl Fn_3 (g := (mkF m 26 #[.val (.ref sb), .val (.ref r), .val (.int nt)] [(.ref sb), (.ref sb)])) rfl rfl (hb hby d_jdk6822x_26)
  refine own_G.go st_4 ?_
  show own_G _ _ _ _ (T_4.setTop (mkF m 29 #[.val (.ref sb), .val (.ref r), .val (.int nt)] [(.int cnt), (.ref sb)]))
  refine own_G.go (fun _ k => XS.aloadN X_4.here hx rfl (hb hby d_jdk6822x_29) rfl rfl k) ?_
  show own_G _ _ _ _ (T_4.setTop (mkF m 30 #[.val (.ref sb), .val (.ref r), .val (.int nt)] [(.ref r), (.int cnt), (.ref sb)]))
  have E0'_5 : Exa Z T_3.heap r "java/lang/String" := (E0.keep K_3)
  have C0'_6 : Fld Z T_3.heap r "java/lang/String" "coder" "B" (.int (0 : Int32)) := (C0.keep K_3 (ninS hrs nin0))
  have V0'_7 : Fld Z T_3.heap r "java/lang/String" "value" "[B" (.ref t) := (V0.keep K_3 (ninS hrs nin0))
  have K0'_8 : Arv Z T_3.heap t kt .byte nt us (.int (0 : Int32)) := (K0.keep K_3 (ninS hts nin0))
  have g0_q_3 : n0 ≤ q_3 := Nat.le_trans Z0 lo_3
  have O_9d : Old Z n0 T_3.heap := (X00.keep K_3 (allS gs all0))
  obtain ⟨_, T_10, L_10, Q_10, X_10, st_10⟩ := own_callPS X_4 hx hown (mvT hZ (own_w hw 176 rfl)) (mvT hZ (own_w hw 177 rfl)) (mvP hZ (own_w hw 178 rfl)) (mvT hZ (own_w hw 179 rfl)) (mvT hZ (own_w hw 180 rfl)) (by decide) (Q := (Qgb Z q_3 kq_3 (34 : Int32) nt cnt us (own_gr vd) T_3.heap n0)) (backOf (W := 0) (rm_psa l Z a0 hw [] sb r t q_3 kt kq_3 nt cnt (34 : Int32) us (own_gr vd) zc T_3.heap n0 (Nat.le_trans Z0 K_3.1) Es_3 Fv_3 Fc_3 E0'_5 C0'_6 V0'_7 K0'_8 V_3 g0_q_3 hul h3 hdp h5 hl O2 P5 O_9d) hZ (own_w hw 180 rfl) (own_w hw 139 rfl) (by decide) (by decide)) Es_3 (g := (mkF m 30 #[.val (.ref sb), .val (.ref r), .val (.int nt)] [(.ref r), (.int cnt), (.ref sb)])) rfl (by rw [hml]; rfl) (argsL := [(.int cnt), (.ref r)]) (rest := []) (lenOf pd_10 rfl) rfl (by show 2 * 0 + _ ≤ _; exact Nat.le_of_eq rfl) (hb hby d_jdk6822x_30) e_4 rfl (by decide) (by decide)
  obtain ⟨rfl, Nq_10, K_10, V_10⟩ := Q_10
  refine own_G.via st_10 ?_
  have N_10 := Fr.app N_3 Nq_10
  show own_G _ _ _ _ (T_10.setTop (mkF m 33 #[.val (.ref sb), .val (.ref r), .val (.int nt)] []))
  refine own_G.go (fun _ k => XS.aloadN X_10.here hx rfl (hb hby d_jdk6822x_33) rfl rfl k) ?_
  show own_G _ _ _ _ (T_10.setTop (mkF m 34 #[.val (.ref sb), .val (.ref r), .val (.int nt)] [(.ref sb)]))
  refine own_G.go (fun _ k => XS.dup X_10.here hx rfl (hb hby d_jdk6822x_34) rfl rfl k) ?_
  show own_G _ _ _ _ (T_10.setTop (mkF m 35 #[.val (.ref sb), .val (.ref r), .val (.int nt)] [(.ref sb), (.ref sb)]))
  have Fn_3'_11 : Fld Z T_10.heap sb "java/lang/AbstractStringBuilder" "count" "I" (.int cnt) := (Fn_3.keep K_10 (ninS (Nat.ne_of_lt (Nat.lt_of_lt_of_le ES.lt lo_3)) nin0))
  obtain ⟨T_12, X_12, e_12, st_12⟩ := getF X_10 hx hZ hown (host := "") (Or.inl (own_w hw 169 rfl)) Via.refl rfl Fn_3'_11 (g := (mkF m 35 #[.val (.ref sb), .val (.ref r), .val (.int nt)] [(.ref sb), (.ref sb)])) rfl rfl (hb hby d_jdk6822x_35)
  refine own_G.go st_12 ?_
  show own_G _ _ _ _ (T_12.setTop (mkF m 38 #[.val (.ref sb), .val (.ref r), .val (.int nt)] [(.int cnt), (.ref sb)]))
  refine own_G.go (fun _ k => XS.iloadN X_12.here hx rfl (hb hby d_jdk6822x_38) rfl k) ?_
  show own_G _ _ _ _ (T_12.setTop (mkF m 39 #[.val (.ref sb), .val (.ref r), .val (.int nt)] [(.int nt), (.int cnt), (.ref sb)]))
  refine own_G.go (fun _ k => XS.iadd X_12.here hx rfl (hb hby d_jdk6822x_39) rfl k) ?_
  show own_G _ _ _ _ (T_12.setTop (mkF m 40 #[.val (.ref sb), .val (.ref r), .val (.int nt)] [(.int (cnt + nt)), (.ref sb)]))
  have Es_3'_13 : Exa Z T_10.heap sb "java/lang/StringBuilder" := (Es_3.keep K_10)
  obtain ⟨T_14, h_14, X_14, e_14, W_14, st_14⟩ := putF X_12 hx hZ hown (host := "") (Or.inl (own_w hw 169 rfl)) Via.refl e_12 Fn_3'_11 Es_3'_13 (Or.inl (own_w hw 170 rfl)) (own_w hw 130 rfl) (ty := .int) (by decide) rfl rfl (g := (mkF m 40 #[.val (.ref sb), .val (.ref r), .val (.int nt)] [(.int (cnt + nt)), (.ref sb)])) rfl rfl (hb hby d_jdk6822x_40)
  refine own_G.go st_14 ?_
  have F_14 : Fld Z h_14 sb "java/lang/AbstractStringBuilder" "count" "I" (.int (cnt + nt)) := Fn_3'_11.same W_14
  have N_14 := Fr.snoc X_14 N_10 gs
  show own_G _ _ _ _ (T_14.setTop (mkF m 43 #[.val (.ref sb), .val (.ref r), .val (.int nt)] []))
  refine own_G.go (fun _ k => XS.aloadN X_14.here hx rfl (hb hby d_jdk6822x_43) rfl rfl k) ?_
  show own_G _ _ _ _ (T_14.setTop (mkF m 44 #[.val (.ref sb), .val (.ref r), .val (.int nt)] [(.ref sb)]))
  have Es_3'_15 : Exa Z h_14 sb "java/lang/StringBuilder" := (Es_3'_13.wr W_14)
  have Fv_3'_16 : Fld Z h_14 sb "java/lang/AbstractStringBuilder" "value" "[B" (.ref q_3) := ((Fv_3.keep K_10 (ninS (Nat.ne_of_lt (Nat.lt_of_lt_of_le ES.lt lo_3)) nin0)).other W_14 (Or.inr (slot_ne (C := "java/lang/StringBuilder") (Or.inl (own_w hw 144 rfl)) (Or.inl (own_w hw 170 rfl)) (by decide) (by decide : parseFieldDescriptor "[B" = some (.array .byte)) (by decide : parseFieldDescriptor "I" = some .int))))
  have Fc_3'_17 : Fld Z h_14 sb "java/lang/AbstractStringBuilder" "coder" "B" (.int (0 : Int32)) := ((Fc_3.keep K_10 (ninS (Nat.ne_of_lt (Nat.lt_of_lt_of_le ES.lt lo_3)) nin0)).other W_14 (Or.inr (slot_ne (C := "java/lang/StringBuilder") (Or.inl (own_w hw 146 rfl)) (Or.inl (own_w hw 170 rfl)) (by decide) (by decide : parseFieldDescriptor "B" = some .byte) (by decide : parseFieldDescriptor "I" = some .int))))
  have V_10'_18 : Arv Z h_14 q_3 kq_3 .byte (34 : Int32) (own_put (own_gr vd) us (cnt).toNatClampNeg nt.toNatClampNeg) (.int (0 : Int32)) := (V_10.other W_14 (Ne.symm (Nat.ne_of_lt (Nat.lt_of_lt_of_le ES.lt lo_3))))
  exact own_G.end_ X_14 hlk (v := (some (.ref sb))) (fun h => by rw [hrt] at h; cases h) (fun fs hr => retOut X_14 hx hrt rfl (Or.inr (Or.inr (Or.inr (Or.inr ⟨rfl, rfl, rfl⟩)))) (hb hby d_jdk6822x_44) hr) e_14 ⟨q_3, kq_3, rfl, N_14, ((((Keep.refl h0 [sb]).trans K_3 (allS (Or.inl (List.mem_of_getElem? (i := 0) rfl)) all0)).trans K_10 (allS (Or.inr lo_3) all0)).wr W_14 (Or.inl (List.mem_of_getElem? (i := 0) rfl))), lo_3, Es_3'_15, Fv_3'_16, Fc_3'_17, F_14, V_10'_18⟩ (by decide) (by decide)
theorem pn_5 : plainName "java/lang/StringBuilder" = true := by first | (simp [plainName, overriddenIn]; done) | decide +kernel
theorem pd_11 : parseMethodDescriptor "(Ljava/lang/String;)Ljava/lang/AbstractStringBuilder;" = some ⟨[(.object "java/lang/String")], some (.object "java/lang/AbstractStringBuilder")⟩ := by decide +kernel
theorem d_jdk677x_0 : decode jdk_67_method_7_code 0 = .ok (.aload_n 0, 1) := by decide +kernel
theorem d_jdk677x_1 : decode jdk_67_method_7_code 1 = .ok (.aload_n 1, 1) := by decide +kernel
theorem d_jdk677x_2 : decode jdk_67_method_7_code 2 = .ok (.invokespecial 29, 3) := by decide +kernel
theorem d_jdk677x_5 : decode jdk_67_method_7_code 5 = .ok (.pop, 1) := by decide +kernel
theorem d_jdk677x_6 : decode jdk_67_method_7_code 6 = .ok (.aload_n 0, 1) := by decide +kernel
theorem d_jdk677x_7 : decode jdk_67_method_7_code 7 = .ok (.areturn, 1) := by decide +kernel
set_option maxRecDepth 65536 in
set_option maxHeartbeats 40000000 in
theorem rm_asN (l : Launch) (Z : State) (a0 : Array Value) (hw : ∀ d ∈ tables_1, d.before a0 Z = true) (ws : List Jvm.Cond) (sb r t b : Addr) (kt kb : ClassId) (cap cnt nt : Int32) (us vd : List Value) (zc : Int32) (h0 : Heap) (n0 : Nat) (Z0 : n0 ≤ h0.size) (ES : Exa Z h0 sb "java/lang/StringBuilder") (SV : Fld Z h0 sb "java/lang/AbstractStringBuilder" "value" "[B" (.ref b)) (SC : Fld Z h0 sb "java/lang/AbstractStringBuilder" "coder" "B" (.int (0 : Int32))) (SN : Fld Z h0 sb "java/lang/AbstractStringBuilder" "count" "I" (.int cnt)) (E0 : Exa Z h0 r "java/lang/String") (C0 : Fld Z h0 r "java/lang/String" "coder" "B" (.int (0 : Int32))) (V0 : Fld Z h0 r "java/lang/String" "value" "[B" (.ref t)) (K0 : Arv Z h0 t kt .byte nt us (.int (0 : Int32))) (KB : Arv Z h0 b kb .byte cap vd (.int (0 : Int32))) (gb : n0 ≤ b) (hsb : sb ≠ b) (hl : cnt.toNatClampNeg + nt.toNatClampNeg ≤ vd.length) (hng : ¬ (0 : Int32) < ((cnt + nt) - cap)) (gs : n0 ≤ sb) (hul : us.length = nt.toNatClampNeg) (h3 : ¬ nt < 0) (hdp : ¬ cnt < 0) (h5 : cnt.toNatClampNeg + nt.toNatClampNeg ≤ (cap).toNatClampNeg) (O2 : Sta Z Z.heap "java/lang/String" "COMPACT_STRINGS" "Z" (.int zc)) (P5 : ¬ (zc = (0 : Int32))) (X00 : Old Z n0 h0) :
    MetFree l (⟨"java/lang/StringBuilder", "append", "(Ljava/lang/String;)Ljava/lang/StringBuilder;"⟩ : MethodName) (head1 (Jvm.Cond.code (⟨"java/lang/StringBuilder", "append", "(Ljava/lang/String;)Ljava/lang/StringBuilder;"⟩ : MethodName) jdk_67_method_7_code 2 (some (.object "java/lang/StringBuilder")) :: ws) ({ frames := 4, cells := 0, slots := 0, locals := 61 } : Room)) (fun a_ U => a_ = #[(.ref sb), (.ref r)] ∧ Z.Warmed39 U.vm ∧ U.heap = h0) (fun _ _ _ _ _ => True) (fun _ U o U' => ∃ v L, o = .returned v ∧ QapN Z sb b kb cap cnt nt us vd h0 n0 v U'.heap L ∧ FrameEnd U o U' L ({ frames := 4, cells := 0, slots := 0, locals := 61 } : Room).cells ({ frames := 4, cells := 0, slots := 0, locals := 61 } : Room).slots) := by
  refine MetFree.of_bodySF (plainFor_of_name pn_5) hisR ?_
  intro p e s m args below meth c s₁ Bd hml0 hP hK
  obtain ⟨rfl, hZ, hh⟩ := hP
  have hx := Bd.exec
  have hby := Bd.bytes
  have hrt := Bd.returns
  have hlk : meth.locks = false := Bd.notSynchronized
  have hml : c.maxLocals = 2 := hml0
  have hown : s.vm.findClass "java/lang/StringBuilder" = some m.cls := findClass_of_methodNamed Bd.named
  have hnm := (name_of_methodNamed Bd.named Bd.method).1
  have X0 : Stand p l e ({ frames := 4, cells := 0, slots := 0, locals := 61 } : Room) s m #[(.ref sb), (.ref r)] below meth c s₁ [] 0 0 := Stand.of_body Bd
  have e0 : s₁.heap = h0 := by rw [← hh, Bd.state]; rfl
  have N0 := Fr.nil n0
  show own_G p.tables e below (fun o t => ∃ v L, o = .returned v ∧ QapN Z sb b kb cap cnt nt us vd h0 n0 v t.heap L ∧ FrameEnd s o t L ({ frames := 4, cells := 0, slots := 0, locals := 61 } : Room).cells ({ frames := 4, cells := 0, slots := 0, locals := 61 } : Room).slots) (s₁.setTop (entryFrame m #[(.ref sb), (.ref r)] 2))
  refine own_G.cast (show entryFrame m #[(.ref sb), (.ref r)] 2 = mkF m 0 #[.val (.ref sb), .val (.ref r)] [] from by first | (simp [entryFrame, mkF, argsToLocals, Value.category]; done) | rfl) ?_
  refine own_G.go (fun _ k => XS.aloadN X0.here hx rfl (hb hby d_jdk677x_0) rfl rfl k) ?_
  show own_G _ _ _ _ (s₁.setTop (mkF m 1 #[.val (.ref sb), .val (.ref r)] [(.ref sb)]))
  refine own_G.go (fun _ k => XS.aloadN X0.here hx rfl (hb hby d_jdk677x_1) rfl rfl k) ?_
  show own_G _ _ _ _ (s₁.setTop (mkF m 2 #[.val (.ref sb), .val (.ref r)] [(.ref r), (.ref sb)]))
  obtain ⟨_, T_1, L_1, Q_1, X_1, st_1⟩ := own_callU X0 hx hZ (C0 := "") hown (own_w hw 153 rfl) (own_w hw 154 rfl) (own_w hw 155 rfl) (own_nfSame (y := (⟨"java/lang/AbstractStringBuilder", "getValue", "()[B"⟩ : MethodName)) (z := (⟨"java/lang/AbstractStringBuilder", "append", "(Ljava/lang/String;)Ljava/lang/AbstractStringBuilder;"⟩ : MethodName)) (own_w hw 212 rfl) (own_w hw 211 rfl) rfl) (own_w hw 157 rfl) (by decide) (by decide) (Q := (QapN Z sb b kb cap cnt nt us vd h0 n0)) (backOf (W := 0) (rm_apN l Z a0 hw [] sb r t b kt kb cap cnt nt us vd zc h0 n0 Z0 ES SV SC SN E0 C0 V0 K0 KB gb hsb hl hng gs hul h3 hdp h5 O2 P5 X00) hZ (own_w hw 157 rfl) (own_w hw 139 rfl) (by decide) (by decide)) (Ins.self ES) (g := (mkF m 2 #[.val (.ref sb), .val (.ref r)] [(.ref r), (.ref sb)])) rfl (by rw [hml]; rfl) (argsL := [(.ref r)]) (rest := []) (lenOf pd_11 rfl) rfl (by show 2 * 0 + _ ≤ _; exact Nat.le_of_eq rfl) (hb hby d_jdk677x_2) e0 rfl (by decide) (by decide)
  obtain ⟨rfl, Nq_1, K_1, Es_1, Fv_1, Fc_1, Fn_1, V_1⟩ := Q_1
  refine own_G.via st_1 ?_
  have N_1 := Fr.app N0 Nq_1
  show own_G _ _ _ _ (T_1.setTop (mkF m 5 #[.val (.ref sb), .val (.ref r)] [(.ref sb)]))
  refine own_G.go (fun _ k => XS.pop X_1.here hx rfl (hb hby d_jdk677x_5) rfl rfl k) ?_
  show own_G _ _ _ _ (T_1.setTop (mkF m 6 #[.val (.ref sb), .val (.ref r)] []))
  refine own_G.go (fun _ k => XS.aloadN X_1.here hx rfl (hb hby d_jdk677x_6) rfl rfl k) ?_
  show own_G _ _ _ _ (T_1.setTop (mkF m 7 #[.val (.ref sb), .val (.ref r)] [(.ref sb)]))
  exact own_G.end_ X_1 hlk (v := (some (.ref sb))) (fun h => by rw [hrt] at h; cases h) (fun fs hr => retOut X_1 hx hrt rfl (Or.inr (Or.inr (Or.inr (Or.inr ⟨rfl, rfl, rfl⟩)))) (hb hby d_jdk677x_7) hr) rfl ⟨rfl, N_1, ((Keep.refl h0 [sb, b]).trans K_1 (allS (Or.inl (List.mem_of_getElem? (i := 0) rfl)) (allS (Or.inl (List.mem_of_getElem? (i := 1) rfl)) all0))), Es_1, Fv_1, Fc_1, Fn_1, V_1⟩ (by decide) (by decide)
set_option maxRecDepth 65536 in
set_option maxHeartbeats 40000000 in
theorem rm_asG (l : Launch) (Z : State) (a0 : Array Value) (hw : ∀ d ∈ tables_1, d.before a0 Z = true) (ws : List Jvm.Cond) (sb r t b : Addr) (kt kb : ClassId) (cnt nt : Int32) (us vd : List Value) (zc : Int32) (h0 : Heap) (n0 : Nat) (Z0 : n0 ≤ h0.size) (ES : Exa Z h0 sb "java/lang/StringBuilder") (SV : Fld Z h0 sb "java/lang/AbstractStringBuilder" "value" "[B" (.ref b)) (SC : Fld Z h0 sb "java/lang/AbstractStringBuilder" "coder" "B" (.int (0 : Int32))) (SN : Fld Z h0 sb "java/lang/AbstractStringBuilder" "count" "I" (.int cnt)) (E0 : Exa Z h0 r "java/lang/String") (C0 : Fld Z h0 r "java/lang/String" "coder" "B" (.int (0 : Int32))) (V0 : Fld Z h0 r "java/lang/String" "value" "[B" (.ref t)) (K0 : Arv Z h0 t kt .byte nt us (.int (0 : Int32))) (hrs : r ≠ sb) (hts : t ≠ sb) (KB : Arv Z h0 b kb .byte (16 : Int32) vd (.int (0 : Int32))) (hvl : vd.length = 16) (h17 : cnt + nt = (17 : Int32)) (hl : cnt.toNatClampNeg + nt.toNatClampNeg ≤ (own_gr vd).length) (gs : n0 ≤ sb) (hul : us.length = nt.toNatClampNeg) (h3 : ¬ nt < 0) (hdp : ¬ cnt < 0) (h5 : cnt.toNatClampNeg + nt.toNatClampNeg ≤ (34 : Int32).toNatClampNeg) (O2 : Sta Z Z.heap "java/lang/String" "COMPACT_STRINGS" "Z" (.int zc)) (P5 : ¬ (zc = (0 : Int32))) (X00 : Old Z n0 h0) :
    MetFree l (⟨"java/lang/StringBuilder", "append", "(Ljava/lang/String;)Ljava/lang/StringBuilder;"⟩ : MethodName) (head1 (Jvm.Cond.code (⟨"java/lang/StringBuilder", "append", "(Ljava/lang/String;)Ljava/lang/StringBuilder;"⟩ : MethodName) jdk_67_method_7_code 2 (some (.object "java/lang/StringBuilder")) :: ws) ({ frames := 5, cells := 1, slots := 34, locals := 76 } : Room)) (fun a_ U => a_ = #[(.ref sb), (.ref r)] ∧ Z.Warmed39 U.vm ∧ U.heap = h0) (fun _ _ _ _ _ => True) (fun _ U o U' => ∃ v L, o = .returned v ∧ QapG Z sb cnt nt us vd h0 n0 v U'.heap L ∧ FrameEnd U o U' L ({ frames := 5, cells := 1, slots := 34, locals := 76 } : Room).cells ({ frames := 5, cells := 1, slots := 34, locals := 76 } : Room).slots) := by
  refine MetFree.of_bodySF (plainFor_of_name pn_5) hisR ?_
  intro p e s m args below meth c s₁ Bd hml0 hP hK
  obtain ⟨rfl, hZ, hh⟩ := hP
  have hx := Bd.exec
  have hby := Bd.bytes
  have hrt := Bd.returns
  have hlk : meth.locks = false := Bd.notSynchronized
  have hml : c.maxLocals = 2 := hml0
  have hown : s.vm.findClass "java/lang/StringBuilder" = some m.cls := findClass_of_methodNamed Bd.named
  have hnm := (name_of_methodNamed Bd.named Bd.method).1
  have X0 : Stand p l e ({ frames := 5, cells := 1, slots := 34, locals := 76 } : Room) s m #[(.ref sb), (.ref r)] below meth c s₁ [] 0 0 := Stand.of_body Bd
  have e0 : s₁.heap = h0 := by rw [← hh, Bd.state]; rfl
  have N0 := Fr.nil n0
  show own_G p.tables e below (fun o t => ∃ v L, o = .returned v ∧ QapG Z sb cnt nt us vd h0 n0 v t.heap L ∧ FrameEnd s o t L ({ frames := 5, cells := 1, slots := 34, locals := 76 } : Room).cells ({ frames := 5, cells := 1, slots := 34, locals := 76 } : Room).slots) (s₁.setTop (entryFrame m #[(.ref sb), (.ref r)] 2))
  refine own_G.cast (show entryFrame m #[(.ref sb), (.ref r)] 2 = mkF m 0 #[.val (.ref sb), .val (.ref r)] [] from by first | (simp [entryFrame, mkF, argsToLocals, Value.category]; done) | rfl) ?_
  refine own_G.go (fun _ k => XS.aloadN X0.here hx rfl (hb hby d_jdk677x_0) rfl rfl k) ?_
  show own_G _ _ _ _ (s₁.setTop (mkF m 1 #[.val (.ref sb), .val (.ref r)] [(.ref sb)]))
  refine own_G.go (fun _ k => XS.aloadN X0.here hx rfl (hb hby d_jdk677x_1) rfl rfl k) ?_
  show own_G _ _ _ _ (s₁.setTop (mkF m 2 #[.val (.ref sb), .val (.ref r)] [(.ref r), (.ref sb)]))
  obtain ⟨_, T_1, L_1, Q_1, X_1, st_1⟩ := own_callU X0 hx hZ (C0 := "") hown (own_w hw 153 rfl) (own_w hw 154 rfl) (own_w hw 155 rfl) (own_nfSame (y := (⟨"java/lang/AbstractStringBuilder", "getValue", "()[B"⟩ : MethodName)) (z := (⟨"java/lang/AbstractStringBuilder", "append", "(Ljava/lang/String;)Ljava/lang/AbstractStringBuilder;"⟩ : MethodName)) (own_w hw 212 rfl) (own_w hw 211 rfl) rfl) (own_w hw 157 rfl) (by decide) (by decide) (Q := (QapG Z sb cnt nt us vd h0 n0)) (backOf (W := 0) (rm_apG l Z a0 hw [] sb r t b kt kb cnt nt us vd zc h0 n0 Z0 ES SV SC SN E0 C0 V0 K0 hrs hts KB hvl h17 hl gs hul h3 hdp h5 O2 P5 X00) hZ (own_w hw 157 rfl) (own_w hw 139 rfl) (by decide) (by decide)) (Ins.self ES) (g := (mkF m 2 #[.val (.ref sb), .val (.ref r)] [(.ref r), (.ref sb)])) rfl (by rw [hml]; rfl) (argsL := [(.ref r)]) (rest := []) (lenOf pd_11 rfl) rfl (by show 2 * 0 + _ ≤ _; exact Nat.le_of_eq rfl) (hb hby d_jdk677x_2) e0 rfl (by decide) (by decide)
  obtain ⟨q_1, kq_1, rfl, Nq_1, K_1, lo_1, Es_1, Fv_1, Fc_1, Fn_1, V_1⟩ := Q_1
  refine own_G.via st_1 ?_
  have N_1 := Fr.app N0 Nq_1
  show own_G _ _ _ _ (T_1.setTop (mkF m 5 #[.val (.ref sb), .val (.ref r)] [(.ref sb)]))
  refine own_G.go (fun _ k => XS.pop X_1.here hx rfl (hb hby d_jdk677x_5) rfl rfl k) ?_
  show own_G _ _ _ _ (T_1.setTop (mkF m 6 #[.val (.ref sb), .val (.ref r)] []))
  refine own_G.go (fun _ k => XS.aloadN X_1.here hx rfl (hb hby d_jdk677x_6) rfl rfl k) ?_
  show own_G _ _ _ _ (T_1.setTop (mkF m 7 #[.val (.ref sb), .val (.ref r)] [(.ref sb)]))
  exact own_G.end_ X_1 hlk (v := (some (.ref sb))) (fun h => by rw [hrt] at h; cases h) (fun fs hr => retOut X_1 hx hrt rfl (Or.inr (Or.inr (Or.inr (Or.inr ⟨rfl, rfl, rfl⟩)))) (hb hby d_jdk677x_7) hr) rfl ⟨q_1, kq_1, rfl, N_1, ((Keep.refl h0 [sb]).trans K_1 (allS (Or.inl (List.mem_of_getElem? (i := 0) rfl)) all0)), lo_1, Es_1, Fv_1, Fc_1, Fn_1, V_1⟩ (by decide) (by decide)
def own_z16 : List Value := List.replicate 16 (Value.int 0)
def Qsb (Z : State) (sb : Addr) (h0 : Heap) (n0 : Nat) (v : Option Value) (h : Heap) (L : List Loc) : Prop := ∃ (b : Addr) (kb : ClassId), v = none ∧ Fr n0 L ∧ Keep h0 h [sb] ∧ h0.size ≤ b ∧ Exa Z h sb "java/lang/StringBuilder" ∧ Fld Z h sb "java/lang/AbstractStringBuilder" "value" "[B" (.ref b) ∧ Fld Z h sb "java/lang/AbstractStringBuilder" "coder" "B" (.int (0 : Int32)) ∧ Fld Z h sb "java/lang/AbstractStringBuilder" "count" "I" (.int (0 : Int32)) ∧ Exa Z h b "[B" ∧ Arv Z h b kb .byte (16 : Int32) own_z16 (.int (0 : Int32))
theorem d_jdk682x_0 : decode jdk_68_method_2_code 0 = .ok (.aload_n 0, 1) := by decide +kernel
theorem d_jdk682x_1 : decode jdk_68_method_2_code 1 = .ok (.invokespecial 3, 3) := by decide +kernel
theorem d_jdk682x_4 : decode jdk_68_method_2_code 4 = .ok (.getstatic 18, 3) := by decide +kernel
theorem d_jdk682x_7 : decode jdk_68_method_2_code 7 = .ok (.ifCond .eq 18, 3) := by decide +kernel
theorem d_jdk682x_10 : decode jdk_68_method_2_code 10 = .ok (.aload_n 0, 1) := by decide +kernel
theorem d_jdk682x_11 : decode jdk_68_method_2_code 11 = .ok (.iload_n 1, 1) := by decide +kernel
theorem d_jdk682x_12 : decode jdk_68_method_2_code 12 = .ok (.newarray .byte, 2) := by decide +kernel
theorem d_jdk682x_14 : decode jdk_68_method_2_code 14 = .ok (.putfield 15, 3) := by decide +kernel
theorem d_jdk682x_17 : decode jdk_68_method_2_code 17 = .ok (.aload_n 0, 1) := by decide +kernel
theorem d_jdk682x_18 : decode jdk_68_method_2_code 18 = .ok (.iconst 0, 1) := by decide +kernel
theorem d_jdk682x_19 : decode jdk_68_method_2_code 19 = .ok (.putfield 22, 3) := by decide +kernel
theorem d_jdk682x_22 : decode jdk_68_method_2_code 22 = .ok (.goto 16, 3) := by decide +kernel
theorem d_jdk682x_38 : decode jdk_68_method_2_code 38 = .ok (.return_, 1) := by decide +kernel
set_option maxRecDepth 65536 in
set_option maxHeartbeats 40000000 in
theorem rm_asi (l : Launch) (Z : State) (a0 : Array Value) (hw : ∀ d ∈ tables_1, d.before a0 Z = true) (ws : List Jvm.Cond) (sb : Addr) (zc : Int32) (h0 : Heap) (n0 : Nat) (Z0 : n0 ≤ h0.size) (gs : n0 ≤ sb) (ES : Exa Z h0 sb "java/lang/StringBuilder") (SV : Fld Z h0 sb "java/lang/AbstractStringBuilder" "value" "[B" .null) (SC : Fld Z h0 sb "java/lang/AbstractStringBuilder" "coder" "B" (.int (0 : Int32))) (SN : Fld Z h0 sb "java/lang/AbstractStringBuilder" "count" "I" (.int (0 : Int32))) (O2 : Sta Z Z.heap "java/lang/String" "COMPACT_STRINGS" "Z" (.int zc)) (P5 : ¬ (zc = (0 : Int32))) (X00 : Old Z n0 h0) :
    MetFree l (⟨"java/lang/AbstractStringBuilder", "<init>", "(I)V"⟩ : MethodName) (head1 (Jvm.Cond.code (⟨"java/lang/AbstractStringBuilder", "<init>", "(I)V"⟩ : MethodName) jdk_68_method_2_code 2 none :: ws) ({ frames := 1, cells := 1, slots := 16, locals := 12 } : Room)) (fun a_ U => a_ = #[(.ref sb), (.int (16 : Int32))] ∧ Z.Warmed39 U.vm ∧ U.heap = h0) (fun _ _ _ _ _ => True) (fun _ U o U' => ∃ v L, o = .returned v ∧ Qsb Z sb h0 n0 v U'.heap L ∧ FrameEnd U o U' L ({ frames := 1, cells := 1, slots := 16, locals := 12 } : Room).cells ({ frames := 1, cells := 1, slots := 16, locals := 12 } : Room).slots) := by
  refine MetFree.of_bodySF (plainFor_of_name pn_2) hisR ?_
  intro p e s m args below meth c s₁ Bd hml0 hP hK
  obtain ⟨rfl, hZ, hh⟩ := hP
  have hx := Bd.exec
  have hby := Bd.bytes
  have hrt := Bd.returns
  have hlk : meth.locks = false := Bd.notSynchronized
  have hml : c.maxLocals = 2 := hml0
  have hown : s.vm.findClass "java/lang/AbstractStringBuilder" = some m.cls := findClass_of_methodNamed Bd.named
  have hnm := (name_of_methodNamed Bd.named Bd.method).1
  have X0 : Stand p l e ({ frames := 1, cells := 1, slots := 16, locals := 12 } : Room) s m #[(.ref sb), (.int (16 : Int32))] below meth c s₁ [] 0 0 := Stand.of_body Bd
  have e0 : s₁.heap = h0 := by rw [← hh, Bd.state]; rfl
  have N0 := Fr.nil n0
  show own_G p.tables e below (fun o t => ∃ v L, o = .returned v ∧ Qsb Z sb h0 n0 v t.heap L ∧ FrameEnd s o t L ({ frames := 1, cells := 1, slots := 16, locals := 12 } : Room).cells ({ frames := 1, cells := 1, slots := 16, locals := 12 } : Room).slots) (s₁.setTop (entryFrame m #[(.ref sb), (.int (16 : Int32))] 2))
  refine own_G.cast (show entryFrame m #[(.ref sb), (.int (16 : Int32))] 2 = mkF m 0 #[.val (.ref sb), .val (.int (16 : Int32))] [] from by first | (simp [entryFrame, mkF, argsToLocals, Value.category]; done) | rfl) ?_
  refine own_G.go (fun _ k => XS.aloadN X0.here hx rfl (hb hby d_jdk682x_0) rfl rfl k) ?_
  show own_G _ _ _ _ (s₁.setTop (mkF m 1 #[.val (.ref sb), .val (.int (16 : Int32))] [(.ref sb)]))
  obtain ⟨T_1, X_1, e_1, st_1⟩ := initO X0 hx hZ hown (own_w hw 141 rfl) (own_w hw 16 rfl) (own_w hw 17 rfl) e0 (g := (mkF m 1 #[.val (.ref sb), .val (.int (16 : Int32))] [(.ref sb)])) rfl (by rw [hml]; rfl) rfl (hb hby d_jdk682x_1) (by decide) (W := 0) (by show 2 * 0 + _ ≤ _; exact Nat.le_of_eq rfl) (by decide)
  refine own_G.go st_1 ?_
  show own_G _ _ _ _ (T_1.setTop (mkF m 4 #[.val (.ref sb), .val (.int (16 : Int32))] []))
  obtain ⟨T_2, X_2, e_2, st_2⟩ := getS2 X_1 hx hZ hown (host := "") (Or.inl (own_w hw 142 rfl)) Via.refl e_1 (O2.ext X00.2) (g := (mkF m 4 #[.val (.ref sb), .val (.int (16 : Int32))] [])) rfl (hb hby d_jdk682x_4)
  refine own_G.go st_2 ?_
  show own_G _ _ _ _ (T_2.setTop (mkF m 7 #[.val (.ref sb), .val (.int (16 : Int32))] [(.int zc)]))
  refine own_G.go (fun _ k => XS.ifNo X_2.here hx rfl (hb hby d_jdk682x_7) rfl ((if0 _ _).trans (feq (P5 : ¬ zc = (0 : Int32))).1) k) ?_
  show own_G _ _ _ _ (T_2.setTop (mkF m 10 #[.val (.ref sb), .val (.int (16 : Int32))] []))
  refine own_G.go (fun _ k => XS.aloadN X_2.here hx rfl (hb hby d_jdk682x_10) rfl rfl k) ?_
  show own_G _ _ _ _ (T_2.setTop (mkF m 11 #[.val (.ref sb), .val (.int (16 : Int32))] [(.ref sb)]))
  refine own_G.go (fun _ k => XS.iloadN X_2.here hx rfl (hb hby d_jdk682x_11) rfl k) ?_
  show own_G _ _ _ _ (T_2.setTop (mkF m 12 #[.val (.ref sb), .val (.int (16 : Int32))] [(.int (16 : Int32)), (.ref sb)]))
  obtain ⟨T_3, h_3, k_3, X_3, e_3, E_3, A_3, B_3, st_3⟩ := newPE X_2 hx hZ (own_w hw 19 rfl) e_2 (g := (mkF m 12 #[.val (.ref sb), .val (.int (16 : Int32))] [(.int (16 : Int32)), (.ref sb)])) rfl (hb hby d_jdk682x_12) rfl (by decide : ¬ ((16 : Int32) < (0 : Int32))) (cap := 16) (by decide : ((16 : Int32)).toNatClampNeg ≤ 16) (by decide) (by decide) (by decide) (ad := "[B") (by decide +kernel)
  obtain ⟨a_3, g_3⟩ : ∃ z, z = h0.size := ⟨_, rfl⟩
  rw [← g_3] at A_3 B_3 st_3
  refine own_G.go st_3 ?_
  have V_3 : Arv Z h_3 a_3 k_3 .byte (16 : Int32) ([(.int (0 : Int32)), (.int (0 : Int32)), (.int (0 : Int32)), (.int (0 : Int32)), (.int (0 : Int32)), (.int (0 : Int32)), (.int (0 : Int32)), (.int (0 : Int32)), (.int (0 : Int32)), (.int (0 : Int32)), (.int (0 : Int32)), (.int (0 : Int32)), (.int (0 : Int32)), (.int (0 : Int32)), (.int (0 : Int32)), (.int (0 : Int32))] : List Value) (.int (0 : Int32)) := (Arv.new A_3 (by decide : ¬ ((16 : Int32) < (0 : Int32)))).pad (pad_rep [] (.int (0 : Int32)) 16)
  show own_G _ _ _ _ (T_3.setTop (mkF m 14 #[.val (.ref sb), .val (.int (16 : Int32))] [(.ref a_3), (.ref sb)]))
  have SV'_4 : Fld Z h_3 sb "java/lang/AbstractStringBuilder" "value" "[B" .null := (SV.ext E_3)
  have ES'_5 : Exa Z h_3 sb "java/lang/StringBuilder" := (ES.ext E_3)
  obtain ⟨T_6, h_6, X_6, e_6, W_6, st_6⟩ := putF X_3 hx hZ hown (host := "") (Or.inl (own_w hw 143 rfl)) Via.refl e_3 SV'_4 ES'_5 (Or.inl (own_w hw 144 rfl)) (own_w hw 130 rfl) (ty := (.array .byte)) (by decide) rfl rfl (g := (mkF m 14 #[.val (.ref sb), .val (.int (16 : Int32))] [(.ref a_3), (.ref sb)])) rfl rfl (hb hby d_jdk682x_14)
  refine own_G.go st_6 ?_
  have F_6 : Fld Z h_6 sb "java/lang/AbstractStringBuilder" "value" "[B" (.ref a_3) := SV'_4.same W_6
  have N_6 := Fr.snoc X_6 N0 gs
  show own_G _ _ _ _ (T_6.setTop (mkF m 17 #[.val (.ref sb), .val (.int (16 : Int32))] []))
  refine own_G.go (fun _ k => XS.aloadN X_6.here hx rfl (hb hby d_jdk682x_17) rfl rfl k) ?_
  show own_G _ _ _ _ (T_6.setTop (mkF m 18 #[.val (.ref sb), .val (.int (16 : Int32))] [(.ref sb)]))
  refine own_G.go (fun _ k => XS.iconst X_6.here hx rfl (hb hby d_jdk682x_18) k) ?_
  show own_G _ _ _ _ (T_6.setTop (mkF m 19 #[.val (.ref sb), .val (.int (16 : Int32))] [(.int (0 : Int32)), (.ref sb)]))
  have SC'_7 : Fld Z h_6 sb "java/lang/AbstractStringBuilder" "coder" "B" (.int (0 : Int32)) := ((SC.ext E_3).other W_6 (Or.inr (slot_ne (C := "java/lang/StringBuilder") (Or.inl (own_w hw 146 rfl)) (Or.inl (own_w hw 144 rfl)) (by decide) (by decide : parseFieldDescriptor "B" = some .byte) (by decide : parseFieldDescriptor "[B" = some (.array .byte)))))
  have ES'_8 : Exa Z h_6 sb "java/lang/StringBuilder" := (ES'_5.wr W_6)
  obtain ⟨T_9, h_9, X_9, e_9, W_9, st_9⟩ := putFN X_6 hx hZ hown (own_w hw 145 rfl) Via.refl e_6 SC'_7 ES'_8 (Or.inl (own_w hw 146 rfl)) (own_w hw 130 rfl) (ty := .byte) (v' := (.int (0 : Int32))) (by decide) rfl rfl (g := (mkF m 19 #[.val (.ref sb), .val (.int (16 : Int32))] [(.int (0 : Int32)), (.ref sb)])) rfl rfl (hb hby d_jdk682x_19)
  refine own_G.go st_9 ?_
  have F_9 : Fld Z h_9 sb "java/lang/AbstractStringBuilder" "coder" "B" (.int (0 : Int32)) := SC'_7.same W_9
  have N_9 := Fr.snoc X_9 N_6 gs
  show own_G _ _ _ _ (T_9.setTop (mkF m 22 #[.val (.ref sb), .val (.int (16 : Int32))] []))
  refine own_G.go (fun _ k => XS.goto X_9.here hx rfl (pc0 := 22) (pc' := 38) rfl (hb hby d_jdk682x_22) (by decide) (by decide) k) ?_
  show own_G _ _ _ _ (T_9.setTop (mkF m 38 #[.val (.ref sb), .val (.int (16 : Int32))] []))
  have ES'_10 : Exa Z h_9 sb "java/lang/StringBuilder" := (ES'_8.wr W_9)
  have F_6'_11 : Fld Z h_9 sb "java/lang/AbstractStringBuilder" "value" "[B" (.ref a_3) := (F_6.other W_9 (Or.inr (slot_ne (C := "java/lang/StringBuilder") (Or.inl (own_w hw 144 rfl)) (Or.inl (own_w hw 146 rfl)) (by decide) (by decide : parseFieldDescriptor "[B" = some (.array .byte)) (by decide : parseFieldDescriptor "B" = some .byte))))
  have SN'_12 : Fld Z h_9 sb "java/lang/AbstractStringBuilder" "count" "I" (.int (0 : Int32)) := (((SN.ext E_3).other W_6 (Or.inr (slot_ne (C := "java/lang/StringBuilder") (Or.inl (own_w hw 170 rfl)) (Or.inl (own_w hw 144 rfl)) (by decide) (by decide : parseFieldDescriptor "I" = some .int) (by decide : parseFieldDescriptor "[B" = some (.array .byte))))).other W_9 (Or.inr (slot_ne (C := "java/lang/StringBuilder") (Or.inl (own_w hw 170 rfl)) (Or.inl (own_w hw 146 rfl)) (by decide) (by decide : parseFieldDescriptor "I" = some .int) (by decide : parseFieldDescriptor "B" = some .byte))))
  have B_3'_13 : Exa Z h_9 a_3 "[B" := ((B_3.wr W_6).wr W_9)
  have V_3'_14 : Arv Z h_9 a_3 k_3 .byte (16 : Int32) ([(.int (0 : Int32)), (.int (0 : Int32)), (.int (0 : Int32)), (.int (0 : Int32)), (.int (0 : Int32)), (.int (0 : Int32)), (.int (0 : Int32)), (.int (0 : Int32)), (.int (0 : Int32)), (.int (0 : Int32)), (.int (0 : Int32)), (.int (0 : Int32)), (.int (0 : Int32)), (.int (0 : Int32)), (.int (0 : Int32)), (.int (0 : Int32))] : List Value) (.int (0 : Int32)) := ((V_3.other W_6 (Ne.symm (Nat.ne_of_lt (Nat.lt_of_lt_of_le ES.lt (Nat.le_of_eq g_3.symm))))).other W_9 (Ne.symm (Nat.ne_of_lt (Nat.lt_of_lt_of_le ES.lt (Nat.le_of_eq g_3.symm)))))
  exact own_G.end_ X_9 hlk (v := none) (fun _ => rfl) (fun fs hr => X_9.returnOut hx hrt (hb hby d_jdk682x_38) hr) e_9 ⟨a_3, k_3, rfl, N_9, ((((Keep.refl h0 [sb]).ext E_3).wr W_6 (Or.inl (List.mem_of_getElem? (i := 0) rfl))).wr W_9 (Or.inl (List.mem_of_getElem? (i := 0) rfl))), (Nat.le_of_eq g_3.symm), ES'_10, F_6'_11, F_9, SN'_12, B_3'_13, V_3'_14⟩ (by decide) (by decide)
theorem d_jdk671x_0 : decode jdk_67_method_1_code 0 = .ok (.aload_n 0, 1) := by decide +kernel
theorem d_jdk671x_1 : decode jdk_67_method_1_code 1 = .ok (.bipush 16, 2) := by decide +kernel
theorem d_jdk671x_3 : decode jdk_67_method_1_code 3 = .ok (.invokespecial 1, 3) := by decide +kernel
theorem d_jdk671x_6 : decode jdk_67_method_1_code 6 = .ok (.return_, 1) := by decide +kernel
set_option maxRecDepth 65536 in
set_option maxHeartbeats 40000000 in
theorem rm_sbi (l : Launch) (Z : State) (a0 : Array Value) (hw : ∀ d ∈ tables_1, d.before a0 Z = true) (ws : List Jvm.Cond) (sb : Addr) (zc : Int32) (h0 : Heap) (n0 : Nat) (Z0 : n0 ≤ h0.size) (gs : n0 ≤ sb) (ES : Exa Z h0 sb "java/lang/StringBuilder") (SV : Fld Z h0 sb "java/lang/AbstractStringBuilder" "value" "[B" .null) (SC : Fld Z h0 sb "java/lang/AbstractStringBuilder" "coder" "B" (.int (0 : Int32))) (SN : Fld Z h0 sb "java/lang/AbstractStringBuilder" "count" "I" (.int (0 : Int32))) (O2 : Sta Z Z.heap "java/lang/String" "COMPACT_STRINGS" "Z" (.int zc)) (P5 : ¬ (zc = (0 : Int32))) (X00 : Old Z n0 h0) :
    MetFree l (⟨"java/lang/StringBuilder", "<init>", "()V"⟩ : MethodName) (head1 (Jvm.Cond.code (⟨"java/lang/StringBuilder", "<init>", "()V"⟩ : MethodName) jdk_67_method_1_code 1 none :: ws) ({ frames := 2, cells := 1, slots := 16, locals := 25 } : Room)) (fun a_ U => a_ = #[(.ref sb)] ∧ Z.Warmed39 U.vm ∧ U.heap = h0) (fun _ _ _ _ _ => True) (fun _ U o U' => ∃ v L, o = .returned v ∧ Qsb Z sb h0 n0 v U'.heap L ∧ FrameEnd U o U' L ({ frames := 2, cells := 1, slots := 16, locals := 25 } : Room).cells ({ frames := 2, cells := 1, slots := 16, locals := 25 } : Room).slots) := by
  refine MetFree.of_bodySF (plainFor_of_name pn_5) hisR ?_
  intro p e s m args below meth c s₁ Bd hml0 hP hK
  obtain ⟨rfl, hZ, hh⟩ := hP
  have hx := Bd.exec
  have hby := Bd.bytes
  have hrt := Bd.returns
  have hlk : meth.locks = false := Bd.notSynchronized
  have hml : c.maxLocals = 1 := hml0
  have hown : s.vm.findClass "java/lang/StringBuilder" = some m.cls := findClass_of_methodNamed Bd.named
  have hnm := (name_of_methodNamed Bd.named Bd.method).1
  have X0 : Stand p l e ({ frames := 2, cells := 1, slots := 16, locals := 25 } : Room) s m #[(.ref sb)] below meth c s₁ [] 0 0 := Stand.of_body Bd
  have e0 : s₁.heap = h0 := by rw [← hh, Bd.state]; rfl
  have N0 := Fr.nil n0
  show own_G p.tables e below (fun o t => ∃ v L, o = .returned v ∧ Qsb Z sb h0 n0 v t.heap L ∧ FrameEnd s o t L ({ frames := 2, cells := 1, slots := 16, locals := 25 } : Room).cells ({ frames := 2, cells := 1, slots := 16, locals := 25 } : Room).slots) (s₁.setTop (entryFrame m #[(.ref sb)] 1))
  refine own_G.cast (show entryFrame m #[(.ref sb)] 1 = mkF m 0 #[.val (.ref sb)] [] from by first | (simp [entryFrame, mkF, argsToLocals, Value.category]; done) | rfl) ?_
  refine own_G.go (fun _ k => XS.aloadN X0.here hx rfl (hb hby d_jdk671x_0) rfl rfl k) ?_
  show own_G _ _ _ _ (s₁.setTop (mkF m 1 #[.val (.ref sb)] [(.ref sb)]))
  refine own_G.go (fun _ k => XS.bipush X0.here hx rfl (hb hby d_jdk671x_1) k) ?_
  show own_G _ _ _ _ (s₁.setTop (mkF m 3 #[.val (.ref sb)] [(.int (16 : Int32)), (.ref sb)]))
  obtain ⟨_, T_1, L_1, Q_1, X_1, st_1⟩ := own_callI X0 hx rfl hown (mvT hZ (own_w hw 135 rfl)) (mvT hZ (own_w hw 136 rfl)) (mvT hZ (own_w hw 140 rfl)) (by decide) (Q := (Qsb Z sb h0 n0)) (backOf (W := 0) (rm_asi l Z a0 hw [] sb zc h0 n0 Z0 gs ES SV SC SN O2 P5 X00) hZ (own_w hw 140 rfl) (own_w hw 139 rfl) (by decide) (by decide)) (a := sb) (g := (mkF m 3 #[.val (.ref sb)] [(.int (16 : Int32)), (.ref sb)])) rfl (by rw [hml]; rfl) (argsL := [(.int (16 : Int32))]) (rest := []) (lenOf pd_9 rfl) rfl (by show 2 * 0 + _ ≤ _; exact Nat.le_of_eq rfl) (hb hby d_jdk671x_3) e0 rfl (by decide) (by decide)
  obtain ⟨q_1, kq_1, rfl, Nq_1, K_1, lo_1, Es_1, Fv_1, Fc_1, Fn_1, Eb_1, V_1⟩ := Q_1
  refine own_G.via st_1 ?_
  have N_1 := Fr.app N0 Nq_1
  show own_G _ _ _ _ (T_1.setTop (mkF m 6 #[.val (.ref sb)] []))
  exact own_G.end_ X_1 hlk (v := none) (fun _ => rfl) (fun fs hr => X_1.returnOut hx hrt (hb hby d_jdk671x_6) hr) rfl ⟨q_1, kq_1, rfl, N_1, ((Keep.refl h0 [sb]).trans K_1 (allS (Or.inl (List.mem_of_getElem? (i := 0) rfl)) all0)), lo_1, Es_1, Fv_1, Fc_1, Fn_1, Eb_1, V_1⟩ (by decide) (by decide)
theorem d_jdk6864x_0 : decode jdk_68_method_64_code 0 = .ok (.aload_n 0, 1) := by decide +kernel
theorem d_jdk6864x_1 : decode jdk_68_method_64_code 1 = .ok (.getfield 15, 3) := by decide +kernel
theorem d_jdk6864x_4 : decode jdk_68_method_64_code 4 = .ok (.areturn, 1) := by decide +kernel
set_option maxRecDepth 65536 in
set_option maxHeartbeats 40000000 in
theorem rm_gv (l : Launch) (Z : State) (a0 : Array Value) (hw : ∀ d ∈ tables_1, d.before a0 Z = true) (ws : List Jvm.Cond) (sb b : Addr) (h0 : Heap) (n0 : Nat) (Z0 : n0 ≤ h0.size) (SV : Fld Z h0 sb "java/lang/AbstractStringBuilder" "value" "[B" (.ref b)) :
    MetFree l (⟨"java/lang/AbstractStringBuilder", "getValue", "()[B"⟩ : MethodName) (head1 (Jvm.Cond.code (⟨"java/lang/AbstractStringBuilder", "getValue", "()[B"⟩ : MethodName) jdk_68_method_64_code 1 (some (.array .byte)) :: ws) ({ frames := 0, cells := 0, slots := 0, locals := 0 } : Room)) (fun a_ U => a_ = #[(.ref sb)] ∧ Z.Warmed39 U.vm ∧ U.heap = h0) (fun _ _ _ _ _ => True) (fun _ U o U' => ∃ v L, o = .returned v ∧ Qp (.ref b) h0 v U'.heap L ∧ FrameEnd U o U' L ({ frames := 0, cells := 0, slots := 0, locals := 0 } : Room).cells ({ frames := 0, cells := 0, slots := 0, locals := 0 } : Room).slots) := by
  refine MetFree.of_bodySF (plainFor_of_name pn_2) hisR ?_
  intro p e s m args below meth c s₁ Bd hml0 hP hK
  obtain ⟨rfl, hZ, hh⟩ := hP
  have hx := Bd.exec
  have hby := Bd.bytes
  have hrt := Bd.returns
  have hlk : meth.locks = false := Bd.notSynchronized
  have hml : c.maxLocals = 1 := hml0
  have hown : s.vm.findClass "java/lang/AbstractStringBuilder" = some m.cls := findClass_of_methodNamed Bd.named
  have hnm := (name_of_methodNamed Bd.named Bd.method).1
  have X0 : Stand p l e ({ frames := 0, cells := 0, slots := 0, locals := 0 } : Room) s m #[(.ref sb)] below meth c s₁ [] 0 0 := Stand.of_body Bd
  have e0 : s₁.heap = h0 := by rw [← hh, Bd.state]; rfl
  have N0 := Fr.nil n0
  show own_G p.tables e below (fun o t => ∃ v L, o = .returned v ∧ Qp (.ref b) h0 v t.heap L ∧ FrameEnd s o t L ({ frames := 0, cells := 0, slots := 0, locals := 0 } : Room).cells ({ frames := 0, cells := 0, slots := 0, locals := 0 } : Room).slots) (s₁.setTop (entryFrame m #[(.ref sb)] 1))
  refine own_G.cast (show entryFrame m #[(.ref sb)] 1 = mkF m 0 #[.val (.ref sb)] [] from by first | (simp [entryFrame, mkF, argsToLocals, Value.category]; done) | rfl) ?_
  refine own_G.go (fun _ k => XS.aloadN X0.here hx rfl (hb hby d_jdk6864x_0) rfl rfl k) ?_
  show own_G _ _ _ _ (s₁.setTop (mkF m 1 #[.val (.ref sb)] [(.ref sb)]))
  obtain ⟨T_1, X_1, e_1, st_1⟩ := getF X0 hx hZ hown (host := "") (Or.inl (own_w hw 143 rfl)) Via.refl e0 SV (g := (mkF m 1 #[.val (.ref sb)] [(.ref sb)])) rfl rfl (hb hby d_jdk6864x_1)
  refine own_G.go st_1 ?_
  show own_G _ _ _ _ (T_1.setTop (mkF m 4 #[.val (.ref sb)] [(.ref b)]))
  exact own_G.end_ X_1 hlk (v := (some (.ref b))) (fun h => by rw [hrt] at h; cases h) (fun fs hr => retOut X_1 hx hrt rfl (Or.inr (Or.inr (Or.inr (Or.inr ⟨rfl, rfl, rfl⟩)))) (hb hby d_jdk6864x_4) hr) e_1 ⟨rfl, rfl, rfl⟩ (by decide) (by decide)
theorem d_jdk686x_0 : decode jdk_68_method_6_code 0 = .ok (.aload_n 0, 1) := by decide +kernel
theorem d_jdk686x_1 : decode jdk_68_method_6_code 1 = .ok (.getfield 79, 3) := by decide +kernel
theorem d_jdk686x_4 : decode jdk_68_method_6_code 4 = .ok (.ireturn, 1) := by decide +kernel
set_option maxRecDepth 65536 in
set_option maxHeartbeats 40000000 in
theorem rm_la (l : Launch) (Z : State) (a0 : Array Value) (hw : ∀ d ∈ tables_1, d.before a0 Z = true) (ws : List Jvm.Cond) (sb : Addr) (cnt : Int32) (h0 : Heap) (n0 : Nat) (Z0 : n0 ≤ h0.size) (SN : Fld Z h0 sb "java/lang/AbstractStringBuilder" "count" "I" (.int cnt)) :
    MetFree l (⟨"java/lang/AbstractStringBuilder", "length", "()I"⟩ : MethodName) (head1 (Jvm.Cond.code (⟨"java/lang/AbstractStringBuilder", "length", "()I"⟩ : MethodName) jdk_68_method_6_code 1 (some .int) :: ws) ({ frames := 0, cells := 0, slots := 0, locals := 0 } : Room)) (fun a_ U => a_ = #[(.ref sb)] ∧ Z.Warmed39 U.vm ∧ U.heap = h0) (fun _ _ _ _ _ => True) (fun _ U o U' => ∃ v L, o = .returned v ∧ Qp (.int cnt) h0 v U'.heap L ∧ FrameEnd U o U' L ({ frames := 0, cells := 0, slots := 0, locals := 0 } : Room).cells ({ frames := 0, cells := 0, slots := 0, locals := 0 } : Room).slots) := by
  refine MetFree.of_bodySF (plainFor_of_name pn_2) hisR ?_
  intro p e s m args below meth c s₁ Bd hml0 hP hK
  obtain ⟨rfl, hZ, hh⟩ := hP
  have hx := Bd.exec
  have hby := Bd.bytes
  have hrt := Bd.returns
  have hlk : meth.locks = false := Bd.notSynchronized
  have hml : c.maxLocals = 1 := hml0
  have hown : s.vm.findClass "java/lang/AbstractStringBuilder" = some m.cls := findClass_of_methodNamed Bd.named
  have hnm := (name_of_methodNamed Bd.named Bd.method).1
  have X0 : Stand p l e ({ frames := 0, cells := 0, slots := 0, locals := 0 } : Room) s m #[(.ref sb)] below meth c s₁ [] 0 0 := Stand.of_body Bd
  have e0 : s₁.heap = h0 := by rw [← hh, Bd.state]; rfl
  have N0 := Fr.nil n0
  show own_G p.tables e below (fun o t => ∃ v L, o = .returned v ∧ Qp (.int cnt) h0 v t.heap L ∧ FrameEnd s o t L ({ frames := 0, cells := 0, slots := 0, locals := 0 } : Room).cells ({ frames := 0, cells := 0, slots := 0, locals := 0 } : Room).slots) (s₁.setTop (entryFrame m #[(.ref sb)] 1))
  refine own_G.cast (show entryFrame m #[(.ref sb)] 1 = mkF m 0 #[.val (.ref sb)] [] from by first | (simp [entryFrame, mkF, argsToLocals, Value.category]; done) | rfl) ?_
  refine own_G.go (fun _ k => XS.aloadN X0.here hx rfl (hb hby d_jdk686x_0) rfl rfl k) ?_
  show own_G _ _ _ _ (s₁.setTop (mkF m 1 #[.val (.ref sb)] [(.ref sb)]))
  obtain ⟨T_1, X_1, e_1, st_1⟩ := getF X0 hx hZ hown (host := "") (Or.inl (own_w hw 169 rfl)) Via.refl e0 SN (g := (mkF m 1 #[.val (.ref sb)] [(.ref sb)])) rfl rfl (hb hby d_jdk686x_1)
  refine own_G.go st_1 ?_
  show own_G _ _ _ _ (T_1.setTop (mkF m 4 #[.val (.ref sb)] [(.int cnt)]))
  exact own_G.end_ X_1 hlk (v := (some (.int cnt))) (fun h => by rw [hrt] at h; cases h) (fun fs hr => retOut X_1 hx hrt rfl (Or.inl ⟨rfl, Or.inl rfl, _, rfl⟩) (hb hby d_jdk686x_4) hr) e_1 ⟨rfl, rfl, rfl⟩ (by decide) (by decide)
theorem d_jdk6793x_0 : decode jdk_67_method_93_code 0 = .ok (.aload_n 0, 1) := by decide +kernel
theorem d_jdk6793x_1 : decode jdk_67_method_93_code 1 = .ok (.invokespecial 343, 3) := by decide +kernel
theorem d_jdk6793x_4 : decode jdk_67_method_93_code 4 = .ok (.ireturn, 1) := by decide +kernel
set_option maxRecDepth 65536 in
set_option maxHeartbeats 40000000 in
theorem rm_ls (l : Launch) (Z : State) (a0 : Array Value) (hw : ∀ d ∈ tables_1, d.before a0 Z = true) (ws : List Jvm.Cond) (sb : Addr) (cnt : Int32) (h0 : Heap) (n0 : Nat) (Z0 : n0 ≤ h0.size) (ES : Exa Z h0 sb "java/lang/StringBuilder") (SN : Fld Z h0 sb "java/lang/AbstractStringBuilder" "count" "I" (.int cnt)) :
    MetFree l (⟨"java/lang/StringBuilder", "length", "()I"⟩ : MethodName) (head1 (Jvm.Cond.code (⟨"java/lang/StringBuilder", "length", "()I"⟩ : MethodName) jdk_67_method_93_code 1 (some .int) :: ws) ({ frames := 1, cells := 0, slots := 0, locals := 12 } : Room)) (fun a_ U => a_ = #[(.ref sb)] ∧ Z.Warmed39 U.vm ∧ U.heap = h0) (fun _ _ _ _ _ => True) (fun _ U o U' => ∃ v L, o = .returned v ∧ Qp (.int cnt) h0 v U'.heap L ∧ FrameEnd U o U' L ({ frames := 1, cells := 0, slots := 0, locals := 12 } : Room).cells ({ frames := 1, cells := 0, slots := 0, locals := 12 } : Room).slots) := by
  refine MetFree.of_bodySF (plainFor_of_name pn_5) hisR ?_
  intro p e s m args below meth c s₁ Bd hml0 hP hK
  obtain ⟨rfl, hZ, hh⟩ := hP
  have hx := Bd.exec
  have hby := Bd.bytes
  have hrt := Bd.returns
  have hlk : meth.locks = false := Bd.notSynchronized
  have hml : c.maxLocals = 1 := hml0
  have hown : s.vm.findClass "java/lang/StringBuilder" = some m.cls := findClass_of_methodNamed Bd.named
  have hnm := (name_of_methodNamed Bd.named Bd.method).1
  have X0 : Stand p l e ({ frames := 1, cells := 0, slots := 0, locals := 12 } : Room) s m #[(.ref sb)] below meth c s₁ [] 0 0 := Stand.of_body Bd
  have e0 : s₁.heap = h0 := by rw [← hh, Bd.state]; rfl
  have N0 := Fr.nil n0
  show own_G p.tables e below (fun o t => ∃ v L, o = .returned v ∧ Qp (.int cnt) h0 v t.heap L ∧ FrameEnd s o t L ({ frames := 1, cells := 0, slots := 0, locals := 12 } : Room).cells ({ frames := 1, cells := 0, slots := 0, locals := 12 } : Room).slots) (s₁.setTop (entryFrame m #[(.ref sb)] 1))
  refine own_G.cast (show entryFrame m #[(.ref sb)] 1 = mkF m 0 #[.val (.ref sb)] [] from by first | (simp [entryFrame, mkF, argsToLocals, Value.category]; done) | rfl) ?_
  refine own_G.go (fun _ k => XS.aloadN X0.here hx rfl (hb hby d_jdk6793x_0) rfl rfl k) ?_
  show own_G _ _ _ _ (s₁.setTop (mkF m 1 #[.val (.ref sb)] [(.ref sb)]))
  obtain ⟨_, T_1, L_1, Q_1, X_1, st_1⟩ := own_callU X0 hx hZ (C0 := "") hown (own_w hw 220 rfl) (own_w hw 216 rfl) (own_w hw 155 rfl) (own_nfSame (y := (⟨"java/lang/AbstractStringBuilder", "getValue", "()[B"⟩ : MethodName)) (z := (⟨"java/lang/AbstractStringBuilder", "length", "()I"⟩ : MethodName)) (own_w hw 212 rfl) (own_w hw 211 rfl) rfl) (own_w hw 221 rfl) (by decide) (by decide) (Q := (Qp (.int cnt) h0)) (backOf (W := 0) (rm_la l Z a0 hw [] sb cnt h0 n0 Z0 SN) hZ (own_w hw 221 rfl) (own_w hw 139 rfl) (by decide) (by decide)) (Ins.self ES) (g := (mkF m 1 #[.val (.ref sb)] [(.ref sb)])) rfl (by rw [hml]; rfl) (argsL := []) (rest := []) (lenOf pd_8 rfl) rfl (by show 2 * 0 + _ ≤ _; exact Nat.le_of_eq rfl) (hb hby d_jdk6793x_1) e0 rfl (by decide) (by decide)
  obtain ⟨rfl, rfl, eh_1⟩ := Q_1
  refine own_G.via st_1 ?_
  have N_1 := Fr.app N0 (Fr.nil n0)
  show own_G _ _ _ _ (T_1.setTop (mkF m 4 #[.val (.ref sb)] [(.int cnt)]))
  exact own_G.end_ X_1 hlk (v := (some (.int cnt))) (fun h => by rw [hrt] at h; cases h) (fun fs hr => retOut X_1 hx hrt rfl (Or.inl ⟨rfl, Or.inl rfl, _, rfl⟩) (hb hby d_jdk6793x_4) hr) eh_1 ⟨rfl, rfl, rfl⟩ (by decide) (by decide)
theorem d_jdk6868x_0 : decode jdk_68_method_68_code 0 = .ok (.getstatic 18, 3) := by decide +kernel
theorem d_jdk6868x_3 : decode jdk_68_method_68_code 3 = .ok (.ifCond .eq 14, 3) := by decide +kernel
theorem d_jdk6868x_6 : decode jdk_68_method_68_code 6 = .ok (.aload_n 0, 1) := by decide +kernel
theorem d_jdk6868x_7 : decode jdk_68_method_68_code 7 = .ok (.getfield 22, 3) := by decide +kernel
theorem d_jdk6868x_10 : decode jdk_68_method_68_code 10 = .ok (.ifCond .ne 7, 3) := by decide +kernel
theorem d_jdk6868x_13 : decode jdk_68_method_68_code 13 = .ok (.iconst 1, 1) := by decide +kernel
theorem d_jdk6868x_14 : decode jdk_68_method_68_code 14 = .ok (.goto 4, 3) := by decide +kernel
theorem d_jdk6868x_18 : decode jdk_68_method_68_code 18 = .ok (.ireturn, 1) := by decide +kernel
set_option maxRecDepth 65536 in
set_option maxHeartbeats 40000000 in
theorem rm_il (l : Launch) (Z : State) (a0 : Array Value) (hw : ∀ d ∈ tables_1, d.before a0 Z = true) (ws : List Jvm.Cond) (sb : Addr) (zc : Int32) (h0 : Heap) (n0 : Nat) (Z0 : n0 ≤ h0.size) (SC : Fld Z h0 sb "java/lang/AbstractStringBuilder" "coder" "B" (.int (0 : Int32))) (O2 : Sta Z Z.heap "java/lang/String" "COMPACT_STRINGS" "Z" (.int zc)) (P5 : ¬ (zc = (0 : Int32))) (X00 : Old Z n0 h0) :
    MetFree l (⟨"java/lang/AbstractStringBuilder", "isLatin1", "()Z"⟩ : MethodName) (head1 (Jvm.Cond.code (⟨"java/lang/AbstractStringBuilder", "isLatin1", "()Z"⟩ : MethodName) jdk_68_method_68_code 1 (some .boolean) :: ws) ({ frames := 0, cells := 0, slots := 0, locals := 0 } : Room)) (fun a_ U => a_ = #[(.ref sb)] ∧ Z.Warmed39 U.vm ∧ U.heap = h0) (fun _ _ _ _ _ => True) (fun _ U o U' => ∃ v L, o = .returned v ∧ Qp (.int (1 : Int32)) h0 v U'.heap L ∧ FrameEnd U o U' L ({ frames := 0, cells := 0, slots := 0, locals := 0 } : Room).cells ({ frames := 0, cells := 0, slots := 0, locals := 0 } : Room).slots) := by
  refine MetFree.of_bodySF (plainFor_of_name pn_2) hisR ?_
  intro p e s m args below meth c s₁ Bd hml0 hP hK
  obtain ⟨rfl, hZ, hh⟩ := hP
  have hx := Bd.exec
  have hby := Bd.bytes
  have hrt := Bd.returns
  have hlk : meth.locks = false := Bd.notSynchronized
  have hml : c.maxLocals = 1 := hml0
  have hown : s.vm.findClass "java/lang/AbstractStringBuilder" = some m.cls := findClass_of_methodNamed Bd.named
  have hnm := (name_of_methodNamed Bd.named Bd.method).1
  have X0 : Stand p l e ({ frames := 0, cells := 0, slots := 0, locals := 0 } : Room) s m #[(.ref sb)] below meth c s₁ [] 0 0 := Stand.of_body Bd
  have e0 : s₁.heap = h0 := by rw [← hh, Bd.state]; rfl
  have N0 := Fr.nil n0
  show own_G p.tables e below (fun o t => ∃ v L, o = .returned v ∧ Qp (.int (1 : Int32)) h0 v t.heap L ∧ FrameEnd s o t L ({ frames := 0, cells := 0, slots := 0, locals := 0 } : Room).cells ({ frames := 0, cells := 0, slots := 0, locals := 0 } : Room).slots) (s₁.setTop (entryFrame m #[(.ref sb)] 1))
  refine own_G.cast (show entryFrame m #[(.ref sb)] 1 = mkF m 0 #[.val (.ref sb)] [] from by first | (simp [entryFrame, mkF, argsToLocals, Value.category]; done) | rfl) ?_
  obtain ⟨T_1, X_1, e_1, st_1⟩ := getS2 X0 hx hZ hown (host := "") (Or.inl (own_w hw 142 rfl)) Via.refl e0 (O2.ext X00.2) (g := (mkF m 0 #[.val (.ref sb)] [])) rfl (hb hby d_jdk6868x_0)
  refine own_G.go st_1 ?_
  show own_G _ _ _ _ (T_1.setTop (mkF m 3 #[.val (.ref sb)] [(.int zc)]))
  refine own_G.go (fun _ k => XS.ifNo X_1.here hx rfl (hb hby d_jdk6868x_3) rfl ((if0 _ _).trans (feq (P5 : ¬ zc = (0 : Int32))).1) k) ?_
  show own_G _ _ _ _ (T_1.setTop (mkF m 6 #[.val (.ref sb)] []))
  refine own_G.go (fun _ k => XS.aloadN X_1.here hx rfl (hb hby d_jdk6868x_6) rfl rfl k) ?_
  show own_G _ _ _ _ (T_1.setTop (mkF m 7 #[.val (.ref sb)] [(.ref sb)]))
  obtain ⟨T_2, X_2, e_2, st_2⟩ := getF X_1 hx hZ hown (host := "") (Or.inl (own_w hw 145 rfl)) Via.refl e_1 SC (g := (mkF m 7 #[.val (.ref sb)] [(.ref sb)])) rfl rfl (hb hby d_jdk6868x_7)
  refine own_G.go st_2 ?_
  show own_G _ _ _ _ (T_2.setTop (mkF m 10 #[.val (.ref sb)] [(.int (0 : Int32))]))
  refine own_G.go (fun _ k => XS.ifNo X_2.here hx rfl (hb hby d_jdk6868x_10) rfl ((if0 _ _).trans (teq (by decide : (0 : Int32) = (0 : Int32))).2) k) ?_
  show own_G _ _ _ _ (T_2.setTop (mkF m 13 #[.val (.ref sb)] []))
  refine own_G.go (fun _ k => XS.iconst X_2.here hx rfl (hb hby d_jdk6868x_13) k) ?_
  show own_G _ _ _ _ (T_2.setTop (mkF m 14 #[.val (.ref sb)] [(.int (1 : Int32))]))
  refine own_G.go (fun _ k => XS.goto X_2.here hx rfl (pc0 := 14) (pc' := 18) rfl (hb hby d_jdk6868x_14) (by decide) (by decide) k) ?_
  show own_G _ _ _ _ (T_2.setTop (mkF m 18 #[.val (.ref sb)] [(.int (1 : Int32))]))
  exact own_G.end_ X_2 hlk (v := (some (.int (1 : Int32)))) (fun h => by rw [hrt] at h; cases h) (fun fs hr => retN X_2 hx (z := (1 : Int32)) (t := .boolean) hrt (by simp) (hb hby d_jdk6868x_18) hr) e_2 ⟨rfl, rfl, rfl⟩ (by decide) (by decide)
theorem d_jdk65131x_0 : decode jdk_65_method_131_code 0 = .ok (.iload_n 1, 1) := by decide +kernel
theorem d_jdk65131x_1 : decode jdk_65_method_131_code 1 = .ok (.iload_n 0, 1) := by decide +kernel
theorem d_jdk65131x_2 : decode jdk_65_method_131_code 2 = .ok (.if_icmp .ge 35, 3) := by decide +kernel
theorem d_jdk65131x_37 : decode jdk_65_method_131_code 37 = .ok (.return_, 1) := by decide +kernel
set_option maxRecDepth 65536 in
set_option maxHeartbeats 40000000 in
theorem rm_chk (l : Launch) (Z : State) (a0 : Array Value) (hw : ∀ d ∈ tables_1, d.before a0 Z = true) (ws : List Jvm.Cond) (cnt : Int32) (h0 : Heap) (n0 : Nat) (Z0 : n0 ≤ h0.size) (hc0 : ¬ cnt < (0 : Int32)) :
    MetFree l (⟨"java/util/Arrays", "checkLength", "(II)V"⟩ : MethodName) (head1 (Jvm.Cond.code (⟨"java/util/Arrays", "checkLength", "(II)V"⟩ : MethodName) jdk_65_method_131_code 2 none :: ws) ({ frames := 0, cells := 0, slots := 0, locals := 0 } : Room)) (fun a_ U => a_ = #[(.int (0 : Int32)), (.int cnt)] ∧ Z.Warmed39 U.vm ∧ U.heap = h0) (fun _ _ _ _ _ => True) (fun _ U o U' => ∃ v L, o = .returned v ∧ Qn h0 v U'.heap L ∧ FrameEnd U o U' L ({ frames := 0, cells := 0, slots := 0, locals := 0 } : Room).cells ({ frames := 0, cells := 0, slots := 0, locals := 0 } : Room).slots) := by
  refine MetFree.of_bodySF (plainFor_of_name pn_4) hisR ?_
  intro p e s m args below meth c s₁ Bd hml0 hP hK
  obtain ⟨rfl, hZ, hh⟩ := hP
  have hx := Bd.exec
  have hby := Bd.bytes
  have hrt := Bd.returns
  have hlk : meth.locks = false := Bd.notSynchronized
  have hml : c.maxLocals = 2 := hml0
  have hown : s.vm.findClass "java/util/Arrays" = some m.cls := findClass_of_methodNamed Bd.named
  have hnm := (name_of_methodNamed Bd.named Bd.method).1
  have X0 : Stand p l e ({ frames := 0, cells := 0, slots := 0, locals := 0 } : Room) s m #[(.int (0 : Int32)), (.int cnt)] below meth c s₁ [] 0 0 := Stand.of_body Bd
  have e0 : s₁.heap = h0 := by rw [← hh, Bd.state]; rfl
  have N0 := Fr.nil n0
  show own_G p.tables e below (fun o t => ∃ v L, o = .returned v ∧ Qn h0 v t.heap L ∧ FrameEnd s o t L ({ frames := 0, cells := 0, slots := 0, locals := 0 } : Room).cells ({ frames := 0, cells := 0, slots := 0, locals := 0 } : Room).slots) (s₁.setTop (entryFrame m #[(.int (0 : Int32)), (.int cnt)] 2))
  refine own_G.cast (show entryFrame m #[(.int (0 : Int32)), (.int cnt)] 2 = mkF m 0 #[.val (.int (0 : Int32)), .val (.int cnt)] [] from by first | (simp [entryFrame, mkF, argsToLocals, Value.category]; done) | rfl) ?_
  refine own_G.go (fun _ k => XS.iloadN X0.here hx rfl (hb hby d_jdk65131x_0) rfl k) ?_
  show own_G _ _ _ _ (s₁.setTop (mkF m 1 #[.val (.int (0 : Int32)), .val (.int cnt)] [(.int cnt)]))
  refine own_G.go (fun _ k => XS.iloadN X0.here hx rfl (hb hby d_jdk65131x_1) rfl k) ?_
  show own_G _ _ _ _ (s₁.setTop (mkF m 2 #[.val (.int (0 : Int32)), .val (.int cnt)] [(.int (0 : Int32)), (.int cnt)]))
  refine own_G.go (fun _ k => XS.icmpYes X0.here hx rfl (pc0 := 2) (pc' := 37) rfl (hb hby d_jdk65131x_2) rfl (flt (hc0 : ¬ cnt < (0 : Int32))).2.1 (by decide) (by decide) k) ?_
  show own_G _ _ _ _ (s₁.setTop (mkF m 37 #[.val (.int (0 : Int32)), .val (.int cnt)] []))
  exact own_G.end_ X0 hlk (v := none) (fun _ => rfl) (fun fs hr => X0.returnOut hx hrt (hb hby d_jdk65131x_37) hr) e0 ⟨rfl, rfl, rfl⟩ (by decide) (by decide)
def own_cr (vd : List Value) (cnt : Int32) : List Value := own_put (List.replicate cnt.toNatClampNeg (Value.int 0)) ((List.range cnt.toNatClampNeg).map fun i => vd.getD (0 + i) (Value.int 0)) 0 cnt.toNatClampNeg
theorem pd_12 : parseMethodDescriptor "(II)V" = some ⟨[.int, .int], none⟩ := by decide +kernel
theorem d_jdk65133x_0 : decode jdk_65_method_133_code 0 = .ok (.iload_n 1, 1) := by decide +kernel
theorem d_jdk65133x_1 : decode jdk_65_method_133_code 1 = .ok (.iload_n 2, 1) := by decide +kernel
theorem d_jdk65133x_2 : decode jdk_65_method_133_code 2 = .ok (.invokestatic 343, 3) := by decide +kernel
theorem d_jdk65133x_5 : decode jdk_65_method_133_code 5 = .ok (.iload_n 2, 1) := by decide +kernel
theorem d_jdk65133x_6 : decode jdk_65_method_133_code 6 = .ok (.iload_n 1, 1) := by decide +kernel
theorem d_jdk65133x_7 : decode jdk_65_method_133_code 7 = .ok (.isub, 1) := by decide +kernel
theorem d_jdk65133x_8 : decode jdk_65_method_133_code 8 = .ok (.istore_n 3, 1) := by decide +kernel
theorem d_jdk65133x_9 : decode jdk_65_method_133_code 9 = .ok (.iload_n 3, 1) := by decide +kernel
theorem d_jdk65133x_10 : decode jdk_65_method_133_code 10 = .ok (.newarray .byte, 2) := by decide +kernel
theorem d_jdk65133x_12 : decode jdk_65_method_133_code 12 = .ok (.astore 4, 2) := by decide +kernel
theorem d_jdk65133x_14 : decode jdk_65_method_133_code 14 = .ok (.aload_n 0, 1) := by decide +kernel
theorem d_jdk65133x_15 : decode jdk_65_method_133_code 15 = .ok (.iload_n 1, 1) := by decide +kernel
theorem d_jdk65133x_16 : decode jdk_65_method_133_code 16 = .ok (.aload 4, 2) := by decide +kernel
theorem d_jdk65133x_18 : decode jdk_65_method_133_code 18 = .ok (.iconst 0, 1) := by decide +kernel
theorem d_jdk65133x_19 : decode jdk_65_method_133_code 19 = .ok (.aload_n 0, 1) := by decide +kernel
theorem d_jdk65133x_20 : decode jdk_65_method_133_code 20 = .ok (.arraylength, 1) := by decide +kernel
theorem d_jdk65133x_21 : decode jdk_65_method_133_code 21 = .ok (.iload_n 1, 1) := by decide +kernel
theorem d_jdk65133x_22 : decode jdk_65_method_133_code 22 = .ok (.isub, 1) := by decide +kernel
theorem d_jdk65133x_23 : decode jdk_65_method_133_code 23 = .ok (.iload_n 3, 1) := by decide +kernel
theorem d_jdk65133x_24 : decode jdk_65_method_133_code 24 = .ok (.invokestatic 304, 3) := by decide +kernel
theorem d_jdk65133x_27 : decode jdk_65_method_133_code 27 = .ok (.invokestatic 150, 3) := by decide +kernel
theorem d_jdk65133x_30 : decode jdk_65_method_133_code 30 = .ok (.aload 4, 2) := by decide +kernel
theorem d_jdk65133x_32 : decode jdk_65_method_133_code 32 = .ok (.areturn, 1) := by decide +kernel
set_option maxRecDepth 65536 in
set_option maxHeartbeats 40000000 in
theorem rm_crb (l : Launch) (Z : State) (a0 : Array Value) (hw : ∀ d ∈ tables_1, d.before a0 Z = true) (ws : List Jvm.Cond) (b : Addr) (kb : ClassId) (cap cnt : Int32) (vd : List Value) (h0 : Heap) (n0 : Nat) (Z0 : n0 ≤ h0.size) (KB : Arv Z h0 b kb .byte cap vd (.int (0 : Int32))) (hc0 : ¬ cnt < (0 : Int32)) (h18 : cnt.toNatClampNeg ≤ 18) (hlt : cnt < cap) (hcap : cnt.toNatClampNeg ≤ cap.toNatClampNeg) (hne : ¬ cnt = cap)  :
    MetFree l (⟨"java/util/Arrays", "copyOfRangeByte", "([BII)[B"⟩ : MethodName) (head1 (Jvm.Cond.code (⟨"java/util/Arrays", "copyOfRangeByte", "([BII)[B"⟩ : MethodName) jdk_65_method_133_code 5 (some (.array .byte)) :: ws) ({ frames := 1, cells := 1, slots := 18, locals := 18 } : Room)) (fun a_ U => a_ = #[(.ref b), (.int (0 : Int32)), (.int cnt)] ∧ Z.Warmed39 U.vm ∧ U.heap = h0) (fun _ _ _ _ _ => True) (fun _ U o U' => ∃ v L, o = .returned v ∧ Qco Z cnt (own_cr vd cnt) h0 n0 v U'.heap L ∧ FrameEnd U o U' L ({ frames := 1, cells := 1, slots := 18, locals := 18 } : Room).cells ({ frames := 1, cells := 1, slots := 18, locals := 18 } : Room).slots) := by
  refine MetFree.of_bodySF (plainFor_of_name pn_4) hisR ?_
  intro p e s m args below meth c s₁ Bd hml0 hP hK
  obtain ⟨rfl, hZ, hh⟩ := hP
  have hx := Bd.exec
  have hby := Bd.bytes
  have hrt := Bd.returns
  have hlk : meth.locks = false := Bd.notSynchronized
  have hml : c.maxLocals = 5 := hml0
  have hown : s.vm.findClass "java/util/Arrays" = some m.cls := findClass_of_methodNamed Bd.named
  have hnm := (name_of_methodNamed Bd.named Bd.method).1
  have X0 : Stand p l e ({ frames := 1, cells := 1, slots := 18, locals := 18 } : Room) s m #[(.ref b), (.int (0 : Int32)), (.int cnt)] below meth c s₁ [] 0 0 := Stand.of_body Bd
  have e0 : s₁.heap = h0 := by rw [← hh, Bd.state]; rfl
  have N0 := Fr.nil n0
  show own_G p.tables e below (fun o t => ∃ v L, o = .returned v ∧ Qco Z cnt (own_cr vd cnt) h0 n0 v t.heap L ∧ FrameEnd s o t L ({ frames := 1, cells := 1, slots := 18, locals := 18 } : Room).cells ({ frames := 1, cells := 1, slots := 18, locals := 18 } : Room).slots) (s₁.setTop (entryFrame m #[(.ref b), (.int (0 : Int32)), (.int cnt)] 5))
  refine own_G.cast (show entryFrame m #[(.ref b), (.int (0 : Int32)), (.int cnt)] 5 = mkF m 0 #[.val (.ref b), .val (.int (0 : Int32)), .val (.int cnt), .unset, .unset] [] from by first | (simp [entryFrame, mkF, argsToLocals, Value.category]; done) | rfl) ?_
  refine own_G.go (fun _ k => XS.iloadN X0.here hx rfl (hb hby d_jdk65133x_0) rfl k) ?_
  show own_G _ _ _ _ (s₁.setTop (mkF m 1 #[.val (.ref b), .val (.int (0 : Int32)), .val (.int cnt), .unset, .unset] [(.int (0 : Int32))]))
  refine own_G.go (fun _ k => XS.iloadN X0.here hx rfl (hb hby d_jdk65133x_1) rfl k) ?_
  show own_G _ _ _ _ (s₁.setTop (mkF m 2 #[.val (.ref b), .val (.int (0 : Int32)), .val (.int cnt), .unset, .unset] [(.int cnt), (.int (0 : Int32))]))
  obtain ⟨_, T_1, L_1, Q_1, X_1, st_1⟩ := own_callS X0 hx hown (mvT hZ (own_w hw 234 rfl)) (mvT hZ (own_w hw 235 rfl)) (mvT hZ (own_w hw 229 rfl)) (mvT hZ (own_w hw 236 rfl)) (by decide) (Q := (Qn h0)) (backOf (W := 0) (rm_chk l Z a0 hw [] cnt h0 n0 Z0 hc0) hZ (own_w hw 236 rfl) (own_w hw 229 rfl) (by decide) (by decide)) (g := (mkF m 2 #[.val (.ref b), .val (.int (0 : Int32)), .val (.int cnt), .unset, .unset] [(.int cnt), (.int (0 : Int32))])) rfl (by rw [hml]; rfl) (argsL := [(.int (0 : Int32)), (.int cnt)]) (rest := []) (lenOf pd_12 rfl) rfl (by show 2 * 0 + _ ≤ _; exact Nat.le_of_eq rfl) (hb hby d_jdk65133x_2) e0 rfl (by decide) (by decide)
  obtain ⟨rfl, rfl, eh_1⟩ := Q_1
  refine own_G.via st_1 ?_
  have N_1 := Fr.app N0 (Fr.nil n0)
  show own_G _ _ _ _ (T_1.setTop (mkF m 5 #[.val (.ref b), .val (.int (0 : Int32)), .val (.int cnt), .unset, .unset] []))
  refine own_G.go (fun _ k => XS.iloadN X_1.here hx rfl (hb hby d_jdk65133x_5) rfl k) ?_
  show own_G _ _ _ _ (T_1.setTop (mkF m 6 #[.val (.ref b), .val (.int (0 : Int32)), .val (.int cnt), .unset, .unset] [(.int cnt)]))
  refine own_G.go (fun _ k => XS.iloadN X_1.here hx rfl (hb hby d_jdk65133x_6) rfl k) ?_
  show own_G _ _ _ _ (T_1.setTop (mkF m 7 #[.val (.ref b), .val (.int (0 : Int32)), .val (.int cnt), .unset, .unset] [(.int (0 : Int32)), (.int cnt)]))
  refine own_G.go (fun _ k => XS.isub X_1.here hx rfl (hb hby d_jdk65133x_7) rfl k) ?_
  show own_G _ _ _ _ (T_1.setTop (mkF m 8 #[.val (.ref b), .val (.int (0 : Int32)), .val (.int cnt), .unset, .unset] [(.int (cnt - (0 : Int32)))]))
  rw [own_sub0]
  refine own_G.go (fun _ k => XS.istoreN X_1.here hx rfl (hb hby d_jdk65133x_8) rfl (l' := #[.val (.ref b), .val (.int (0 : Int32)), .val (.int cnt), .val (.int cnt), .unset]) rfl k) ?_
  show own_G _ _ _ _ (T_1.setTop (mkF m 9 #[.val (.ref b), .val (.int (0 : Int32)), .val (.int cnt), .val (.int cnt), .unset] []))
  refine own_G.go (fun _ k => XS.iloadN X_1.here hx rfl (hb hby d_jdk65133x_9) rfl k) ?_
  show own_G _ _ _ _ (T_1.setTop (mkF m 10 #[.val (.ref b), .val (.int (0 : Int32)), .val (.int cnt), .val (.int cnt), .unset] [(.int cnt)]))
  obtain ⟨T_2, h_2, k_2, X_2, e_2, E_2, A_2, st_2⟩ := newP X_1 hx hZ (own_w hw 19 rfl) eh_1 (g := (mkF m 10 #[.val (.ref b), .val (.int (0 : Int32)), .val (.int cnt), .val (.int cnt), .unset] [(.int cnt)])) rfl (hb hby d_jdk65133x_10) rfl hc0 (cap := 18) h18 (by decide) (by decide) (by decide)
  obtain ⟨a_2, g_2⟩ : ∃ z, z = h0.size := ⟨_, rfl⟩
  rw [← g_2] at A_2 st_2
  refine own_G.go st_2 ?_
  have V_2 : Arv Z h_2 a_2 k_2 .byte cnt (List.replicate (cnt).toNatClampNeg (Value.int 0)) (.int (0 : Int32)) := (Arv.new A_2 hc0).pad (pad_rep [] (.int (0 : Int32)) (cnt).toNatClampNeg)
  show own_G _ _ _ _ (T_2.setTop (mkF m 12 #[.val (.ref b), .val (.int (0 : Int32)), .val (.int cnt), .val (.int cnt), .unset] [(.ref a_2)]))
  refine own_G.go (fun _ k => XS.astore X_2.here hx rfl (hb hby d_jdk65133x_12) rfl rfl (l' := #[.val (.ref b), .val (.int (0 : Int32)), .val (.int cnt), .val (.int cnt), .val (.ref a_2)]) rfl k) ?_
  show own_G _ _ _ _ (T_2.setTop (mkF m 14 #[.val (.ref b), .val (.int (0 : Int32)), .val (.int cnt), .val (.int cnt), .val (.ref a_2)] []))
  refine own_G.go (fun _ k => XS.aloadN X_2.here hx rfl (hb hby d_jdk65133x_14) rfl rfl k) ?_
  show own_G _ _ _ _ (T_2.setTop (mkF m 15 #[.val (.ref b), .val (.int (0 : Int32)), .val (.int cnt), .val (.int cnt), .val (.ref a_2)] [(.ref b)]))
  refine own_G.go (fun _ k => XS.iloadN X_2.here hx rfl (hb hby d_jdk65133x_15) rfl k) ?_
  show own_G _ _ _ _ (T_2.setTop (mkF m 16 #[.val (.ref b), .val (.int (0 : Int32)), .val (.int cnt), .val (.int cnt), .val (.ref a_2)] [(.int (0 : Int32)), (.ref b)]))
  refine own_G.go (fun _ k => XS.aload X_2.here hx rfl (hb hby d_jdk65133x_16) rfl rfl k) ?_
  show own_G _ _ _ _ (T_2.setTop (mkF m 18 #[.val (.ref b), .val (.int (0 : Int32)), .val (.int cnt), .val (.int cnt), .val (.ref a_2)] [(.ref a_2), (.int (0 : Int32)), (.ref b)]))
  refine own_G.go (fun _ k => XS.iconst X_2.here hx rfl (hb hby d_jdk65133x_18) k) ?_
  show own_G _ _ _ _ (T_2.setTop (mkF m 19 #[.val (.ref b), .val (.int (0 : Int32)), .val (.int cnt), .val (.int cnt), .val (.ref a_2)] [(.int (0 : Int32)), (.ref a_2), (.int (0 : Int32)), (.ref b)]))
  refine own_G.go (fun _ k => XS.aloadN X_2.here hx rfl (hb hby d_jdk65133x_19) rfl rfl k) ?_
  show own_G _ _ _ _ (T_2.setTop (mkF m 20 #[.val (.ref b), .val (.int (0 : Int32)), .val (.int cnt), .val (.int cnt), .val (.ref a_2)] [(.ref b), (.int (0 : Int32)), (.ref a_2), (.int (0 : Int32)), (.ref b)]))
  have KB'_4 : Arv Z h_2 b kb .byte cap vd (.int (0 : Int32)) := (KB.ext E_2)
  obtain ⟨cel_3, A_3, -, S_3, M_3, -, -⟩ := id KB'_4
  refine own_G.go (X_2.arraylength hx (by rw [e_2]; exact A_3.1) (State.isArrayOf_alike hZ.alike A_3.2.1) (g := (mkF m 20 #[.val (.ref b), .val (.int (0 : Int32)), .val (.int cnt), .val (.int cnt), .val (.ref a_2)] [(.ref b), (.int (0 : Int32)), (.ref a_2), (.int (0 : Int32)), (.ref b)])) rfl rfl (hb hby d_jdk65133x_20)) ?_
  rw [len_of S_3 M_3]
  show own_G _ _ _ _ (T_2.setTop (mkF m 21 #[.val (.ref b), .val (.int (0 : Int32)), .val (.int cnt), .val (.int cnt), .val (.ref a_2)] [(.int cap), (.int (0 : Int32)), (.ref a_2), (.int (0 : Int32)), (.ref b)]))
  refine own_G.go (fun _ k => XS.iloadN X_2.here hx rfl (hb hby d_jdk65133x_21) rfl k) ?_
  show own_G _ _ _ _ (T_2.setTop (mkF m 22 #[.val (.ref b), .val (.int (0 : Int32)), .val (.int cnt), .val (.int cnt), .val (.ref a_2)] [(.int (0 : Int32)), (.int cap), (.int (0 : Int32)), (.ref a_2), (.int (0 : Int32)), (.ref b)]))
  refine own_G.go (fun _ k => XS.isub X_2.here hx rfl (hb hby d_jdk65133x_22) rfl k) ?_
  show own_G _ _ _ _ (T_2.setTop (mkF m 23 #[.val (.ref b), .val (.int (0 : Int32)), .val (.int cnt), .val (.int cnt), .val (.ref a_2)] [(.int (cap - (0 : Int32))), (.int (0 : Int32)), (.ref a_2), (.int (0 : Int32)), (.ref b)]))
  rw [own_sub0]
  refine own_G.go (fun _ k => XS.iloadN X_2.here hx rfl (hb hby d_jdk65133x_23) rfl k) ?_
  show own_G _ _ _ _ (T_2.setTop (mkF m 24 #[.val (.ref b), .val (.int (0 : Int32)), .val (.int cnt), .val (.int cnt), .val (.ref a_2)] [(.int cnt), (.int cap), (.int (0 : Int32)), (.ref a_2), (.int (0 : Int32)), (.ref b)]))
  obtain ⟨_, T_5, L_5, Q_5, X_5, st_5⟩ := own_callS X_2 hx hown (mvT hZ (own_w hw 237 rfl)) (mvT hZ (own_w hw 238 rfl)) (mvT hZ (own_w hw 239 rfl)) (mvT hZ (own_w hw 240 rfl)) (by decide) (Q := (Qp (.int cnt) h_2)) (backOf (W := 4) (rm_min2 l Z a0 hw [] cap cnt h_2 n0 (Nat.le_trans Z0 E_2.1) hlt) hZ (own_w hw 240 rfl) (own_w hw 239 rfl) (by decide) (by decide)) (g := (mkF m 24 #[.val (.ref b), .val (.int (0 : Int32)), .val (.int cnt), .val (.int cnt), .val (.ref a_2)] [(.int cnt), (.int cap), (.int (0 : Int32)), (.ref a_2), (.int (0 : Int32)), (.ref b)])) rfl (by rw [hml]; rfl) (argsL := [(.int cap), (.int cnt)]) (rest := [(.int (0 : Int32)), (.ref a_2), (.int (0 : Int32)), (.ref b)]) (lenOf pd_4 rfl) rfl (by show 2 * 0 + _ ≤ _; exact Nat.le_of_eq rfl) (hb hby d_jdk65133x_24) e_2 rfl (by decide) (by decide)
  obtain ⟨rfl, rfl, eh_5⟩ := Q_5
  refine own_G.via st_5 ?_
  have N_5 := Fr.app N_1 (Fr.nil n0)
  show own_G _ _ _ _ (T_5.setTop (mkF m 27 #[.val (.ref b), .val (.int (0 : Int32)), .val (.int cnt), .val (.int cnt), .val (.ref a_2)] [(.int cnt), (.int (0 : Int32)), (.ref a_2), (.int (0 : Int32)), (.ref b)]))
  have g0_a_2 : n0 ≤ a_2 := Nat.le_trans Z0 (Nat.le_of_eq g_2.symm)
  obtain ⟨T_6, h_6, L_6, X_6, e_6, N_6, K_6, V_6, st_6⟩ := cpA X_5 hx hZ hown (own_w hw 241 rfl) (own_w hw 195 rfl) (own_w hw 193 rfl) (own_w hw 194 rfl) eh_5 KB'_4 V_2 (sp := (0 : Int32)) (dp := (0 : Int32)) (nn := cnt) (Or.inl ⟨rfl, rfl⟩) (by decide) (by decide) hc0 (Nat.le_trans (Nat.le_of_eq (Nat.zero_add _)) hcap) (Nat.le_of_eq (Nat.zero_add _)) (us := ((List.range cnt.toNatClampNeg).map fun i => vd.getD (0 + i) (Value.int 0))) rfl (Nat.le_of_eq ((Nat.zero_add _).trans List.length_replicate.symm)) N_5 g0_a_2 (g := (mkF m 27 #[.val (.ref b), .val (.int (0 : Int32)), .val (.int cnt), .val (.int cnt), .val (.ref a_2)] [(.int cnt), (.int (0 : Int32)), (.ref a_2), (.int (0 : Int32)), (.ref b)])) rfl (by rw [hml]; rfl) rfl (hb hby d_jdk65133x_27) (by decide) (W := 0) (by show 2 * 0 + _ ≤ _; exact Nat.le_of_eq rfl) (by decide)
  refine own_G.go st_6 ?_
  have V_6q : Arv Z h_6 a_2 k_2 .byte cnt (own_put (List.replicate (cnt).toNatClampNeg (Value.int 0)) ((List.range cnt.toNatClampNeg).map fun i => vd.getD (0 + i) (Value.int 0)) ((0 : Int32)).toNatClampNeg (cnt).toNatClampNeg) (.int (0 : Int32)) := V_6
  show own_G _ _ _ _ (T_6.setTop (mkF m 30 #[.val (.ref b), .val (.int (0 : Int32)), .val (.int cnt), .val (.int cnt), .val (.ref a_2)] []))
  refine own_G.go (fun _ k => XS.aload X_6.here hx rfl (hb hby d_jdk65133x_30) rfl rfl k) ?_
  show own_G _ _ _ _ (T_6.setTop (mkF m 32 #[.val (.ref b), .val (.int (0 : Int32)), .val (.int cnt), .val (.int cnt), .val (.ref a_2)] [(.ref a_2)]))
  exact own_G.end_ X_6 hlk (v := (some (.ref a_2))) (fun h => by rw [hrt] at h; cases h) (fun fs hr => retOut X_6 hx hrt rfl (Or.inr (Or.inr (Or.inr (Or.inr ⟨rfl, rfl, rfl⟩)))) (hb hby d_jdk65133x_32) hr) e_6 ⟨a_2, k_2, rfl, N_6, (((Keep.refl h0 []).ext E_2).trans K_6 (allS (Or.inr (Nat.le_of_eq g_2.symm)) all0)), (Nat.le_of_eq g_2.symm), V_6q⟩ (by decide) (by decide)
theorem pd_13 : parseMethodDescriptor "([BII)[B" = some ⟨[(.array .byte), .int, .int], some (.array .byte)⟩ := by decide +kernel
theorem d_jdk65132x_0 : decode jdk_65_method_132_code 0 = .ok (.iload_n 1, 1) := by decide +kernel
theorem d_jdk65132x_1 : decode jdk_65_method_132_code 1 = .ok (.ifCond .ne 9, 3) := by decide +kernel
theorem d_jdk65132x_4 : decode jdk_65_method_132_code 4 = .ok (.iload_n 2, 1) := by decide +kernel
theorem d_jdk65132x_5 : decode jdk_65_method_132_code 5 = .ok (.aload_n 0, 1) := by decide +kernel
theorem d_jdk65132x_6 : decode jdk_65_method_132_code 6 = .ok (.arraylength, 1) := by decide +kernel
theorem d_jdk65132x_7 : decode jdk_65_method_132_code 7 = .ok (.if_icmp .eq 10, 3) := by decide +kernel
theorem d_jdk65132x_10 : decode jdk_65_method_132_code 10 = .ok (.aload_n 0, 1) := by decide +kernel
theorem d_jdk65132x_11 : decode jdk_65_method_132_code 11 = .ok (.iload_n 1, 1) := by decide +kernel
theorem d_jdk65132x_12 : decode jdk_65_method_132_code 12 = .ok (.iload_n 2, 1) := by decide +kernel
theorem d_jdk65132x_13 : decode jdk_65_method_132_code 13 = .ok (.invokestatic 339, 3) := by decide +kernel
theorem d_jdk65132x_16 : decode jdk_65_method_132_code 16 = .ok (.areturn, 1) := by decide +kernel
set_option maxRecDepth 65536 in
set_option maxHeartbeats 40000000 in
theorem rm_corC (l : Launch) (Z : State) (a0 : Array Value) (hw : ∀ d ∈ tables_1, d.before a0 Z = true) (ws : List Jvm.Cond) (b : Addr) (kb : ClassId) (cap cnt : Int32) (vd : List Value) (h0 : Heap) (n0 : Nat) (Z0 : n0 ≤ h0.size) (KB : Arv Z h0 b kb .byte cap vd (.int (0 : Int32))) (hc0 : ¬ cnt < (0 : Int32)) (h18 : cnt.toNatClampNeg ≤ 18) (hlt : cnt < cap) (hcap : cnt.toNatClampNeg ≤ cap.toNatClampNeg) (hne : ¬ cnt = cap)  :
    MetFree l (⟨"java/util/Arrays", "copyOfRange", "([BII)[B"⟩ : MethodName) (head1 (Jvm.Cond.code (⟨"java/util/Arrays", "copyOfRange", "([BII)[B"⟩ : MethodName) jdk_65_method_132_code 3 (some (.array .byte)) :: ws) ({ frames := 2, cells := 1, slots := 18, locals := 34 } : Room)) (fun a_ U => a_ = #[(.ref b), (.int (0 : Int32)), (.int cnt)] ∧ Z.Warmed39 U.vm ∧ U.heap = h0) (fun _ _ _ _ _ => True) (fun _ U o U' => ∃ v L, o = .returned v ∧ Qco Z cnt (own_cr vd cnt) h0 n0 v U'.heap L ∧ FrameEnd U o U' L ({ frames := 2, cells := 1, slots := 18, locals := 34 } : Room).cells ({ frames := 2, cells := 1, slots := 18, locals := 34 } : Room).slots) := by
  refine MetFree.of_bodySF (plainFor_of_name pn_4) hisR ?_
  intro p e s m args below meth c s₁ Bd hml0 hP hK
  obtain ⟨rfl, hZ, hh⟩ := hP
  have hx := Bd.exec
  have hby := Bd.bytes
  have hrt := Bd.returns
  have hlk : meth.locks = false := Bd.notSynchronized
  have hml : c.maxLocals = 3 := hml0
  have hown : s.vm.findClass "java/util/Arrays" = some m.cls := findClass_of_methodNamed Bd.named
  have hnm := (name_of_methodNamed Bd.named Bd.method).1
  have X0 : Stand p l e ({ frames := 2, cells := 1, slots := 18, locals := 34 } : Room) s m #[(.ref b), (.int (0 : Int32)), (.int cnt)] below meth c s₁ [] 0 0 := Stand.of_body Bd
  have e0 : s₁.heap = h0 := by rw [← hh, Bd.state]; rfl
  have N0 := Fr.nil n0
  show own_G p.tables e below (fun o t => ∃ v L, o = .returned v ∧ Qco Z cnt (own_cr vd cnt) h0 n0 v t.heap L ∧ FrameEnd s o t L ({ frames := 2, cells := 1, slots := 18, locals := 34 } : Room).cells ({ frames := 2, cells := 1, slots := 18, locals := 34 } : Room).slots) (s₁.setTop (entryFrame m #[(.ref b), (.int (0 : Int32)), (.int cnt)] 3))
  refine own_G.cast (show entryFrame m #[(.ref b), (.int (0 : Int32)), (.int cnt)] 3 = mkF m 0 #[.val (.ref b), .val (.int (0 : Int32)), .val (.int cnt)] [] from by first | (simp [entryFrame, mkF, argsToLocals, Value.category]; done) | rfl) ?_
  refine own_G.go (fun _ k => XS.iloadN X0.here hx rfl (hb hby d_jdk65132x_0) rfl k) ?_
  show own_G _ _ _ _ (s₁.setTop (mkF m 1 #[.val (.ref b), .val (.int (0 : Int32)), .val (.int cnt)] [(.int (0 : Int32))]))
  refine own_G.go (fun _ k => XS.ifNo X0.here hx rfl (hb hby d_jdk65132x_1) rfl ((if0 _ _).trans (teq (by decide : (0 : Int32) = (0 : Int32))).2) k) ?_
  show own_G _ _ _ _ (s₁.setTop (mkF m 4 #[.val (.ref b), .val (.int (0 : Int32)), .val (.int cnt)] []))
  refine own_G.go (fun _ k => XS.iloadN X0.here hx rfl (hb hby d_jdk65132x_4) rfl k) ?_
  show own_G _ _ _ _ (s₁.setTop (mkF m 5 #[.val (.ref b), .val (.int (0 : Int32)), .val (.int cnt)] [(.int cnt)]))
  refine own_G.go (fun _ k => XS.aloadN X0.here hx rfl (hb hby d_jdk65132x_5) rfl rfl k) ?_
  show own_G _ _ _ _ (s₁.setTop (mkF m 6 #[.val (.ref b), .val (.int (0 : Int32)), .val (.int cnt)] [(.ref b), (.int cnt)]))
  obtain ⟨cel_1, A_1, -, S_1, M_1, -, -⟩ := id KB
  refine own_G.go (X0.arraylength hx (by rw [e0]; exact A_1.1) (State.isArrayOf_alike hZ.alike A_1.2.1) (g := (mkF m 6 #[.val (.ref b), .val (.int (0 : Int32)), .val (.int cnt)] [(.ref b), (.int cnt)])) rfl rfl (hb hby d_jdk65132x_6)) ?_
  rw [len_of S_1 M_1]
  show own_G _ _ _ _ (s₁.setTop (mkF m 7 #[.val (.ref b), .val (.int (0 : Int32)), .val (.int cnt)] [(.int cap), (.int cnt)]))
  refine own_G.go (fun _ k => XS.icmpNo X0.here hx rfl (hb hby d_jdk65132x_7) rfl (feq (hne : ¬ cnt = cap)).1 k) ?_
  show own_G _ _ _ _ (s₁.setTop (mkF m 10 #[.val (.ref b), .val (.int (0 : Int32)), .val (.int cnt)] []))
  refine own_G.go (fun _ k => XS.aloadN X0.here hx rfl (hb hby d_jdk65132x_10) rfl rfl k) ?_
  show own_G _ _ _ _ (s₁.setTop (mkF m 11 #[.val (.ref b), .val (.int (0 : Int32)), .val (.int cnt)] [(.ref b)]))
  refine own_G.go (fun _ k => XS.iloadN X0.here hx rfl (hb hby d_jdk65132x_11) rfl k) ?_
  show own_G _ _ _ _ (s₁.setTop (mkF m 12 #[.val (.ref b), .val (.int (0 : Int32)), .val (.int cnt)] [(.int (0 : Int32)), (.ref b)]))
  refine own_G.go (fun _ k => XS.iloadN X0.here hx rfl (hb hby d_jdk65132x_12) rfl k) ?_
  show own_G _ _ _ _ (s₁.setTop (mkF m 13 #[.val (.ref b), .val (.int (0 : Int32)), .val (.int cnt)] [(.int cnt), (.int (0 : Int32)), (.ref b)]))
  obtain ⟨_, T_2, L_2, Q_2, X_2, st_2⟩ := own_callS X0 hx hown (mvT hZ (own_w hw 231 rfl)) (mvT hZ (own_w hw 232 rfl)) (mvT hZ (own_w hw 229 rfl)) (mvT hZ (own_w hw 233 rfl)) (by decide) (Q := (Qco Z cnt (own_cr vd cnt) h0 n0)) (backOf (W := 0) (rm_crb l Z a0 hw [] b kb cap cnt vd h0 n0 Z0 KB hc0 h18 hlt hcap hne) hZ (own_w hw 233 rfl) (own_w hw 229 rfl) (by decide) (by decide)) (g := (mkF m 13 #[.val (.ref b), .val (.int (0 : Int32)), .val (.int cnt)] [(.int cnt), (.int (0 : Int32)), (.ref b)])) rfl (by rw [hml]; rfl) (argsL := [(.ref b), (.int (0 : Int32)), (.int cnt)]) (rest := []) (lenOf pd_13 rfl) rfl (by show 2 * 0 + _ ≤ _; exact Nat.le_of_eq rfl) (hb hby d_jdk65132x_13) e0 rfl (by decide) (by decide)
  obtain ⟨q_2, kq_2, rfl, Nq_2, K_2, lo_2, V_2⟩ := Q_2
  refine own_G.via st_2 ?_
  have N_2 := Fr.app N0 Nq_2
  show own_G _ _ _ _ (T_2.setTop (mkF m 16 #[.val (.ref b), .val (.int (0 : Int32)), .val (.int cnt)] [(.ref q_2)]))
  exact own_G.end_ X_2 hlk (v := (some (.ref q_2))) (fun h => by rw [hrt] at h; cases h) (fun fs hr => retOut X_2 hx hrt rfl (Or.inr (Or.inr (Or.inr (Or.inr ⟨rfl, rfl, rfl⟩)))) (hb hby d_jdk65132x_16) hr) rfl ⟨q_2, kq_2, rfl, N_2, ((Keep.refl h0 []).trans K_2 all0), lo_2, V_2⟩ (by decide) (by decide)
theorem d_jdk65132x_17 : decode jdk_65_method_132_code 17 = .ok (.aload_n 0, 1) := by decide +kernel
theorem d_jdk65132x_18 : decode jdk_65_method_132_code 18 = .ok (.invokevirtual 310, 3) := by decide +kernel
theorem d_jdk65132x_21 : decode jdk_65_method_132_code 21 = .ok (.checkcast 311, 3) := by decide +kernel
theorem d_jdk65132x_24 : decode jdk_65_method_132_code 24 = .ok (.areturn, 1) := by decide +kernel
set_option maxRecDepth 65536 in
set_option maxHeartbeats 40000000 in
theorem rm_corK (l : Launch) (Z : State) (a0 : Array Value) (hw : ∀ d ∈ tables_1, d.before a0 Z = true) (ws : List Jvm.Cond) (b : Addr) (kb : ClassId) (vd : List Value) (h0 : Heap) (n0 : Nat) (Z0 : n0 ≤ h0.size) (KB : Arv Z h0 b kb .byte (16 : Int32) vd (.int (0 : Int32))) (EB : Exa Z h0 b "[B")  :
    MetFree l (⟨"java/util/Arrays", "copyOfRange", "([BII)[B"⟩ : MethodName) (head1 (Jvm.Cond.code (⟨"java/util/Arrays", "copyOfRange", "([BII)[B"⟩ : MethodName) jdk_65_method_132_code 3 (some (.array .byte)) :: ws) ({ frames := 1, cells := 1, slots := 16, locals := 14 } : Room)) (fun a_ U => a_ = #[(.ref b), (.int (0 : Int32)), (.int (16 : Int32))] ∧ Z.Warmed39 U.vm ∧ U.heap = h0) (fun _ _ _ _ _ => True) (fun _ U o U' => ∃ v L, o = .returned v ∧ Qco Z (16 : Int32) vd h0 n0 v U'.heap L ∧ FrameEnd U o U' L ({ frames := 1, cells := 1, slots := 16, locals := 14 } : Room).cells ({ frames := 1, cells := 1, slots := 16, locals := 14 } : Room).slots) := by
  refine MetFree.of_bodySF (plainFor_of_name pn_4) hisR ?_
  intro p e s m args below meth c s₁ Bd hml0 hP hK
  obtain ⟨rfl, hZ, hh⟩ := hP
  have hx := Bd.exec
  have hby := Bd.bytes
  have hrt := Bd.returns
  have hlk : meth.locks = false := Bd.notSynchronized
  have hml : c.maxLocals = 3 := hml0
  have hown : s.vm.findClass "java/util/Arrays" = some m.cls := findClass_of_methodNamed Bd.named
  have hnm := (name_of_methodNamed Bd.named Bd.method).1
  have X0 : Stand p l e ({ frames := 1, cells := 1, slots := 16, locals := 14 } : Room) s m #[(.ref b), (.int (0 : Int32)), (.int (16 : Int32))] below meth c s₁ [] 0 0 := Stand.of_body Bd
  have e0 : s₁.heap = h0 := by rw [← hh, Bd.state]; rfl
  have N0 := Fr.nil n0
  show own_G p.tables e below (fun o t => ∃ v L, o = .returned v ∧ Qco Z (16 : Int32) vd h0 n0 v t.heap L ∧ FrameEnd s o t L ({ frames := 1, cells := 1, slots := 16, locals := 14 } : Room).cells ({ frames := 1, cells := 1, slots := 16, locals := 14 } : Room).slots) (s₁.setTop (entryFrame m #[(.ref b), (.int (0 : Int32)), (.int (16 : Int32))] 3))
  refine own_G.cast (show entryFrame m #[(.ref b), (.int (0 : Int32)), (.int (16 : Int32))] 3 = mkF m 0 #[.val (.ref b), .val (.int (0 : Int32)), .val (.int (16 : Int32))] [] from by first | (simp [entryFrame, mkF, argsToLocals, Value.category]; done) | rfl) ?_
  refine own_G.go (fun _ k => XS.iloadN X0.here hx rfl (hb hby d_jdk65132x_0) rfl k) ?_
  show own_G _ _ _ _ (s₁.setTop (mkF m 1 #[.val (.ref b), .val (.int (0 : Int32)), .val (.int (16 : Int32))] [(.int (0 : Int32))]))
  refine own_G.go (fun _ k => XS.ifNo X0.here hx rfl (hb hby d_jdk65132x_1) rfl ((if0 _ _).trans (teq (by decide : (0 : Int32) = (0 : Int32))).2) k) ?_
  show own_G _ _ _ _ (s₁.setTop (mkF m 4 #[.val (.ref b), .val (.int (0 : Int32)), .val (.int (16 : Int32))] []))
  refine own_G.go (fun _ k => XS.iloadN X0.here hx rfl (hb hby d_jdk65132x_4) rfl k) ?_
  show own_G _ _ _ _ (s₁.setTop (mkF m 5 #[.val (.ref b), .val (.int (0 : Int32)), .val (.int (16 : Int32))] [(.int (16 : Int32))]))
  refine own_G.go (fun _ k => XS.aloadN X0.here hx rfl (hb hby d_jdk65132x_5) rfl rfl k) ?_
  show own_G _ _ _ _ (s₁.setTop (mkF m 6 #[.val (.ref b), .val (.int (0 : Int32)), .val (.int (16 : Int32))] [(.ref b), (.int (16 : Int32))]))
  obtain ⟨cel_1, A_1, -, S_1, M_1, -, -⟩ := id KB
  refine own_G.go (X0.arraylength hx (by rw [e0]; exact A_1.1) (State.isArrayOf_alike hZ.alike A_1.2.1) (g := (mkF m 6 #[.val (.ref b), .val (.int (0 : Int32)), .val (.int (16 : Int32))] [(.ref b), (.int (16 : Int32))])) rfl rfl (hb hby d_jdk65132x_6)) ?_
  rw [len_of S_1 M_1]
  show own_G _ _ _ _ (s₁.setTop (mkF m 7 #[.val (.ref b), .val (.int (0 : Int32)), .val (.int (16 : Int32))] [(.int (16 : Int32)), (.int (16 : Int32))]))
  refine own_G.go (fun _ k => XS.icmpYes X0.here hx rfl (pc0 := 7) (pc' := 17) rfl (hb hby d_jdk65132x_7) rfl (teq (by decide : (16 : Int32) = (16 : Int32))).1 (by decide) (by decide) k) ?_
  show own_G _ _ _ _ (s₁.setTop (mkF m 17 #[.val (.ref b), .val (.int (0 : Int32)), .val (.int (16 : Int32))] []))
  refine own_G.go (fun _ k => XS.aloadN X0.here hx rfl (hb hby d_jdk65132x_17) rfl rfl k) ?_
  show own_G _ _ _ _ (s₁.setTop (mkF m 18 #[.val (.ref b), .val (.int (0 : Int32)), .val (.int (16 : Int32))] [(.ref b)]))
  obtain ⟨T_2, h_2, X_2, e_2, E_2, V_2, B_2, st_2⟩ := cloneH X0 hx hZ hown (own_w hw 298 rfl) (own_w hw 299 rfl) (own_w hw 303 rfl) (own_w hw 301 rfl) (own_w hw 302 rfl) (own_w hw 304 rfl) e0 KB.arh EB (g := (mkF m 18 #[.val (.ref b), .val (.int (0 : Int32)), .val (.int (16 : Int32))] [(.ref b)])) rfl (by rw [hml]; rfl) rfl (hb hby d_jdk65132x_18) (by decide) (W := 0) (cap := 16) (by show 2 * 0 + _ ≤ _; exact Nat.le_of_eq rfl) (by decide) (by decide) (by decide) (by decide)
  obtain ⟨a_2, g_2⟩ : ∃ z, z = h0.size := ⟨_, rfl⟩
  rw [← g_2] at V_2 B_2 st_2
  refine own_G.go st_2 ?_
  have V_2q : Arv Z h_2 a_2 kb .byte (16 : Int32) vd (.int (0 : Int32)) := V_2
  show own_G _ _ _ _ (T_2.setTop (mkF m 21 #[.val (.ref b), .val (.int (0 : Int32)), .val (.int (16 : Int32))] [(.ref a_2)]))
  obtain ⟨T_3, X_3, e_3, st_3⟩ := castY X_2 hx hZ hown (own_w hw 305 rfl) e_2 (Ins.self B_2) (g := (mkF m 21 #[.val (.ref b), .val (.int (0 : Int32)), .val (.int (16 : Int32))] [(.ref a_2)])) rfl rfl (hb hby d_jdk65132x_21)
  refine own_G.go st_3 ?_
  show own_G _ _ _ _ (T_3.setTop (mkF m 24 #[.val (.ref b), .val (.int (0 : Int32)), .val (.int (16 : Int32))] [(.ref a_2)]))
  exact own_G.end_ X_3 hlk (v := (some (.ref a_2))) (fun h => by rw [hrt] at h; cases h) (fun fs hr => retOut X_3 hx hrt rfl (Or.inr (Or.inr (Or.inr (Or.inr ⟨rfl, rfl, rfl⟩)))) (hb hby d_jdk65132x_24) hr) e_3 ⟨a_2, kb, rfl, N0, ((Keep.refl h0 []).ext E_2), (Nat.le_of_eq g_2.symm), V_2q⟩ (by decide) (by decide)
def Qst (Z : State) (a : Addr) (n : Int32) (vs : List Value) (h0 : Heap) (n0 : Nat) (v : Option Value) (h : Heap) (L : List Loc) : Prop := ∃ (t : Addr) (kt : ClassId), v = none ∧ Fr n0 L ∧ Keep h0 h [a] ∧ h0.size ≤ t ∧ Exa Z h a "java/lang/String" ∧ Fld Z h a "java/lang/String" "coder" "B" (.int (0 : Int32)) ∧ Fld Z h a "java/lang/String" "value" "[B" (.ref t) ∧ Arv Z h t kt .byte n vs (.int (0 : Int32))
def Qts (Z : State) (n : Int32) (vs : List Value) (h0 : Heap) (n0 : Nat) (v : Option Value) (h : Heap) (L : List Loc) : Prop := ∃ (r t : Addr) (kt : ClassId), v = some (.ref r) ∧ Fr n0 L ∧ Keep h0 h [] ∧ h0.size ≤ r ∧ Exa Z h r "java/lang/String" ∧ Fld Z h r "java/lang/String" "coder" "B" (.int (0 : Int32)) ∧ Fld Z h r "java/lang/String" "value" "[B" (.ref t) ∧ Arv Z h t kt .byte n vs (.int (0 : Int32))
theorem pd_14 : parseMethodDescriptor "()[B" = some ⟨[], some (.array .byte)⟩ := by decide +kernel
theorem pd_15 : parseMethodDescriptor "()Z" = some ⟨[], some .boolean⟩ := by decide +kernel
theorem d_jdk42150x_0 : decode jdk_42_method_150_code 0 = .ok (.aload_n 0, 1) := by decide +kernel
theorem d_jdk42150x_1 : decode jdk_42_method_150_code 1 = .ok (.invokespecial 1, 3) := by decide +kernel
theorem d_jdk42150x_4 : decode jdk_42_method_150_code 4 = .ok (.aload_n 1, 1) := by decide +kernel
theorem d_jdk42150x_5 : decode jdk_42_method_150_code 5 = .ok (.invokevirtual 552, 3) := by decide +kernel
theorem d_jdk42150x_8 : decode jdk_42_method_150_code 8 = .ok (.astore_n 3, 1) := by decide +kernel
theorem d_jdk42150x_9 : decode jdk_42_method_150_code 9 = .ok (.aload_n 1, 1) := by decide +kernel
theorem d_jdk42150x_10 : decode jdk_42_method_150_code 10 = .ok (.invokevirtual 549, 3) := by decide +kernel
theorem d_jdk42150x_13 : decode jdk_42_method_150_code 13 = .ok (.istore 4, 2) := by decide +kernel
theorem d_jdk42150x_15 : decode jdk_42_method_150_code 15 = .ok (.aload_n 1, 1) := by decide +kernel
theorem d_jdk42150x_16 : decode jdk_42_method_150_code 16 = .ok (.invokevirtual 1047, 3) := by decide +kernel
theorem d_jdk42150x_19 : decode jdk_42_method_150_code 19 = .ok (.ifCond .eq 22, 3) := by decide +kernel
theorem d_jdk42150x_22 : decode jdk_42_method_150_code 22 = .ok (.aload_n 0, 1) := by decide +kernel
theorem d_jdk42150x_23 : decode jdk_42_method_150_code 23 = .ok (.iconst 0, 1) := by decide +kernel
theorem d_jdk42150x_24 : decode jdk_42_method_150_code 24 = .ok (.putfield 15, 3) := by decide +kernel
theorem d_jdk42150x_27 : decode jdk_42_method_150_code 27 = .ok (.aload_n 0, 1) := by decide +kernel
theorem d_jdk42150x_28 : decode jdk_42_method_150_code 28 = .ok (.aload_n 3, 1) := by decide +kernel
theorem d_jdk42150x_29 : decode jdk_42_method_150_code 29 = .ok (.iconst 0, 1) := by decide +kernel
theorem d_jdk42150x_30 : decode jdk_42_method_150_code 30 = .ok (.iload 4, 2) := by decide +kernel
theorem d_jdk42150x_32 : decode jdk_42_method_150_code 32 = .ok (.invokestatic 54, 3) := by decide +kernel
theorem d_jdk42150x_35 : decode jdk_42_method_150_code 35 = .ok (.putfield 9, 3) := by decide +kernel
theorem d_jdk42150x_38 : decode jdk_42_method_150_code 38 = .ok (.goto 59, 3) := by decide +kernel
theorem d_jdk42150x_97 : decode jdk_42_method_150_code 97 = .ok (.return_, 1) := by decide +kernel
set_option maxRecDepth 65536 in
set_option maxHeartbeats 40000000 in
theorem rm_si2C (l : Launch) (Z : State) (a0 : Array Value) (hw : ∀ d ∈ tables_1, d.before a0 Z = true) (ws : List Jvm.Cond) (a sb : Addr) (b : Addr) (kb : ClassId) (cap cnt : Int32) (vd : List Value) (zc : Int32) (h0 : Heap) (n0 : Nat) (Z0 : n0 ≤ h0.size) (ga : n0 ≤ a) (E0 : Exa Z h0 a "java/lang/String") (F1 : Fld Z h0 a "java/lang/String" "value" "[B" .null) (F2 : Fld Z h0 a "java/lang/String" "coder" "B" (.int (0 : Int32))) (hsa : sb ≠ a) (hba : b ≠ a) (ES : Exa Z h0 sb "java/lang/StringBuilder") (SV : Fld Z h0 sb "java/lang/AbstractStringBuilder" "value" "[B" (.ref b)) (SC : Fld Z h0 sb "java/lang/AbstractStringBuilder" "coder" "B" (.int (0 : Int32))) (SN : Fld Z h0 sb "java/lang/AbstractStringBuilder" "count" "I" (.int cnt)) (KB : Arv Z h0 b kb .byte cap vd (.int (0 : Int32))) (hc0 : ¬ cnt < (0 : Int32)) (h18 : cnt.toNatClampNeg ≤ 18) (hlt : cnt < cap) (hcap : cnt.toNatClampNeg ≤ cap.toNatClampNeg) (hne : ¬ cnt = cap) (O2 : Sta Z Z.heap "java/lang/String" "COMPACT_STRINGS" "Z" (.int zc)) (P5 : ¬ (zc = (0 : Int32))) (X00 : Old Z n0 h0) :
    MetFree l (⟨"java/lang/String", "<init>", "(Ljava/lang/AbstractStringBuilder;Ljava/lang/Void;)V"⟩ : MethodName) (head1 (Jvm.Cond.code (⟨"java/lang/String", "<init>", "(Ljava/lang/AbstractStringBuilder;Ljava/lang/Void;)V"⟩ : MethodName) jdk_42_method_150_code 5 none :: ws) ({ frames := 3, cells := 1, slots := 18, locals := 49 } : Room)) (fun a_ U => a_ = #[(.ref a), (.ref sb), .null] ∧ Z.Warmed39 U.vm ∧ U.heap = h0) (fun _ _ _ _ _ => True) (fun _ U o U' => ∃ v L, o = .returned v ∧ Qst Z a cnt (own_cr vd cnt) h0 n0 v U'.heap L ∧ FrameEnd U o U' L ({ frames := 3, cells := 1, slots := 18, locals := 49 } : Room).cells ({ frames := 3, cells := 1, slots := 18, locals := 49 } : Room).slots) := by
  refine MetFree.of_bodySF (plainFor_of_name pn_1) hisR ?_
  intro p e s m args below meth c s₁ Bd hml0 hP hK
  obtain ⟨rfl, hZ, hh⟩ := hP
  have hx := Bd.exec
  have hby := Bd.bytes
  have hrt := Bd.returns
  have hlk : meth.locks = false := Bd.notSynchronized
  have hml : c.maxLocals = 5 := hml0
  have hown : s.vm.findClass "java/lang/String" = some m.cls := findClass_of_methodNamed Bd.named
  have hnm := (name_of_methodNamed Bd.named Bd.method).1
  have X0 : Stand p l e ({ frames := 3, cells := 1, slots := 18, locals := 49 } : Room) s m #[(.ref a), (.ref sb), .null] below meth c s₁ [] 0 0 := Stand.of_body Bd
  have e0 : s₁.heap = h0 := by rw [← hh, Bd.state]; rfl
  have N0 := Fr.nil n0
  show own_G p.tables e below (fun o t => ∃ v L, o = .returned v ∧ Qst Z a cnt (own_cr vd cnt) h0 n0 v t.heap L ∧ FrameEnd s o t L ({ frames := 3, cells := 1, slots := 18, locals := 49 } : Room).cells ({ frames := 3, cells := 1, slots := 18, locals := 49 } : Room).slots) (s₁.setTop (entryFrame m #[(.ref a), (.ref sb), .null] 5))
  refine own_G.cast (show entryFrame m #[(.ref a), (.ref sb), .null] 5 = mkF m 0 #[.val (.ref a), .val (.ref sb), .val .null, .unset, .unset] [] from by first | (simp [entryFrame, mkF, argsToLocals, Value.category]; done) | rfl) ?_
  refine own_G.go (fun _ k => XS.aloadN X0.here hx rfl (hb hby d_jdk42150x_0) rfl rfl k) ?_
  show own_G _ _ _ _ (s₁.setTop (mkF m 1 #[.val (.ref a), .val (.ref sb), .val .null, .unset, .unset] [(.ref a)]))
  obtain ⟨T_1, X_1, e_1, st_1⟩ := initO X0 hx hZ hown (own_w hw 15 rfl) (own_w hw 16 rfl) (own_w hw 17 rfl) e0 (g := (mkF m 1 #[.val (.ref a), .val (.ref sb), .val .null, .unset, .unset] [(.ref a)])) rfl (by rw [hml]; rfl) rfl (hb hby d_jdk42150x_1) (by decide) (W := 0) (by show 2 * 0 + _ ≤ _; exact Nat.le_of_eq rfl) (by decide)
  refine own_G.go st_1 ?_
  show own_G _ _ _ _ (T_1.setTop (mkF m 4 #[.val (.ref a), .val (.ref sb), .val .null, .unset, .unset] []))
  refine own_G.go (fun _ k => XS.aloadN X_1.here hx rfl (hb hby d_jdk42150x_4) rfl rfl k) ?_
  show own_G _ _ _ _ (T_1.setTop (mkF m 5 #[.val (.ref a), .val (.ref sb), .val .null, .unset, .unset] [(.ref sb)]))
  obtain ⟨cq_2, kq_2, q_2a, q_2b, q_2c⟩ := isOf hZ e_1 ES
  obtain ⟨_, T_2, L_2, Q_2, X_2, st_2⟩ := own_callV X_1 hx (z := (⟨"java/lang/AbstractStringBuilder", "getValue", "()[B"⟩ : MethodName)) hown (mvT hZ (own_w hw 209 rfl)) (mvT hZ (own_w hw 210 rfl)) (notFace_of_selects (args := #[]) (mvT hZ (own_w hw 212 rfl))) (mvT hZ (own_w hw 212 rfl)) (mvT hZ (own_w hw 211 rfl)) (by decide) (Q := (Qp (.ref b) h0)) (backOf (W := 0) (rm_gv l Z a0 hw [] sb b h0 n0 Z0 SV) hZ (own_w hw 213 rfl) (own_w hw 139 rfl) (by decide) (by decide)) q_2a q_2c (g := (mkF m 5 #[.val (.ref a), .val (.ref sb), .val .null, .unset, .unset] [(.ref sb)])) rfl (by rw [hml]; rfl) (argsL := []) (rest := []) (lenOf pd_14 rfl) rfl (by show 2 * 0 + _ ≤ _; exact Nat.le_of_eq rfl) (hb hby d_jdk42150x_5) e_1 rfl (by decide) (by decide)
  obtain ⟨rfl, rfl, eh_2⟩ := Q_2
  refine own_G.via st_2 ?_
  have N_2 := Fr.app N0 (Fr.nil n0)
  show own_G _ _ _ _ (T_2.setTop (mkF m 8 #[.val (.ref a), .val (.ref sb), .val .null, .unset, .unset] [(.ref b)]))
  refine own_G.go (fun _ k => XS.astoreN X_2.here hx rfl (hb hby d_jdk42150x_8) rfl rfl (l' := #[.val (.ref a), .val (.ref sb), .val .null, .val (.ref b), .unset]) rfl k) ?_
  show own_G _ _ _ _ (T_2.setTop (mkF m 9 #[.val (.ref a), .val (.ref sb), .val .null, .val (.ref b), .unset] []))
  refine own_G.go (fun _ k => XS.aloadN X_2.here hx rfl (hb hby d_jdk42150x_9) rfl rfl k) ?_
  show own_G _ _ _ _ (T_2.setTop (mkF m 10 #[.val (.ref a), .val (.ref sb), .val .null, .val (.ref b), .unset] [(.ref sb)]))
  obtain ⟨cq_3, kq_3, q_3a, q_3b, q_3c⟩ := isOf hZ eh_2 ES
  obtain ⟨_, T_3, L_3, Q_3, X_3, st_3⟩ := own_callV X_2 hx (z := (⟨"java/lang/StringBuilder", "length", "()I"⟩ : MethodName)) hown (mvT hZ (own_w hw 214 rfl)) (mvT hZ (own_w hw 215 rfl)) (own_nfSame (y := (⟨"java/lang/AbstractStringBuilder", "getValue", "()[B"⟩ : MethodName)) (z := (⟨"java/lang/AbstractStringBuilder", "length", "()I"⟩ : MethodName)) (a0 := #[]) (mvT hZ (own_w hw 212 rfl)) (mvT hZ (own_w hw 211 rfl)) rfl) (mvT hZ (own_w hw 217 rfl)) (mvT hZ (own_w hw 218 rfl)) (by decide) (Q := (Qp (.int cnt) h0)) (backOf (W := 0) (rm_ls l Z a0 hw [] sb cnt h0 n0 Z0 ES SN) hZ (own_w hw 219 rfl) (own_w hw 131 rfl) (by decide) (by decide)) q_3a q_3c (g := (mkF m 10 #[.val (.ref a), .val (.ref sb), .val .null, .val (.ref b), .unset] [(.ref sb)])) rfl (by rw [hml]; rfl) (argsL := []) (rest := []) (lenOf pd_8 rfl) rfl (by show 2 * 0 + _ ≤ _; exact Nat.le_of_eq rfl) (hb hby d_jdk42150x_10) eh_2 rfl (by decide) (by decide)
  obtain ⟨rfl, rfl, eh_3⟩ := Q_3
  refine own_G.via st_3 ?_
  have N_3 := Fr.app N_2 (Fr.nil n0)
  show own_G _ _ _ _ (T_3.setTop (mkF m 13 #[.val (.ref a), .val (.ref sb), .val .null, .val (.ref b), .unset] [(.int cnt)]))
  refine own_G.go (fun _ k => XS.istore X_3.here hx rfl (hb hby d_jdk42150x_13) rfl (l' := #[.val (.ref a), .val (.ref sb), .val .null, .val (.ref b), .val (.int cnt)]) rfl k) ?_
  show own_G _ _ _ _ (T_3.setTop (mkF m 15 #[.val (.ref a), .val (.ref sb), .val .null, .val (.ref b), .val (.int cnt)] []))
  refine own_G.go (fun _ k => XS.aloadN X_3.here hx rfl (hb hby d_jdk42150x_15) rfl rfl k) ?_
  show own_G _ _ _ _ (T_3.setTop (mkF m 16 #[.val (.ref a), .val (.ref sb), .val .null, .val (.ref b), .val (.int cnt)] [(.ref sb)]))
  obtain ⟨cq_4, kq_4, q_4a, q_4b, q_4c⟩ := isOf hZ eh_3 ES
  obtain ⟨_, T_4, L_4, Q_4, X_4, st_4⟩ := own_callV X_3 hx (z := (⟨"java/lang/AbstractStringBuilder", "isLatin1", "()Z"⟩ : MethodName)) hown (mvT hZ (own_w hw 222 rfl)) (mvT hZ (own_w hw 223 rfl)) (notFace_of_selects (args := #[]) (mvT hZ (own_w hw 225 rfl))) (mvT hZ (own_w hw 225 rfl)) (mvT hZ (own_w hw 224 rfl)) (by decide) (Q := (Qp (.int (1 : Int32)) h0)) (backOf (W := 0) (rm_il l Z a0 hw [] sb zc h0 n0 Z0 SC O2 P5 X00) hZ (own_w hw 226 rfl) (own_w hw 139 rfl) (by decide) (by decide)) q_4a q_4c (g := (mkF m 16 #[.val (.ref a), .val (.ref sb), .val .null, .val (.ref b), .val (.int cnt)] [(.ref sb)])) rfl (by rw [hml]; rfl) (argsL := []) (rest := []) (lenOf pd_15 rfl) rfl (by show 2 * 0 + _ ≤ _; exact Nat.le_of_eq rfl) (hb hby d_jdk42150x_16) eh_3 rfl (by decide) (by decide)
  obtain ⟨rfl, rfl, eh_4⟩ := Q_4
  refine own_G.via st_4 ?_
  have N_4 := Fr.app N_3 (Fr.nil n0)
  show own_G _ _ _ _ (T_4.setTop (mkF m 19 #[.val (.ref a), .val (.ref sb), .val .null, .val (.ref b), .val (.int cnt)] [(.int (1 : Int32))]))
  refine own_G.go (fun _ k => XS.ifNo X_4.here hx rfl (hb hby d_jdk42150x_19) rfl ((if0 _ _).trans (feq (by decide : ¬ ((1 : Int32) = (0 : Int32)))).1) k) ?_
  show own_G _ _ _ _ (T_4.setTop (mkF m 22 #[.val (.ref a), .val (.ref sb), .val .null, .val (.ref b), .val (.int cnt)] []))
  refine own_G.go (fun _ k => XS.aloadN X_4.here hx rfl (hb hby d_jdk42150x_22) rfl rfl k) ?_
  show own_G _ _ _ _ (T_4.setTop (mkF m 23 #[.val (.ref a), .val (.ref sb), .val .null, .val (.ref b), .val (.int cnt)] [(.ref a)]))
  refine own_G.go (fun _ k => XS.iconst X_4.here hx rfl (hb hby d_jdk42150x_23) k) ?_
  show own_G _ _ _ _ (T_4.setTop (mkF m 24 #[.val (.ref a), .val (.ref sb), .val .null, .val (.ref b), .val (.int cnt)] [(.int (0 : Int32)), (.ref a)]))
  obtain ⟨T_5, h_5, X_5, e_5, W_5, st_5⟩ := putFN X_4 hx hZ hown (own_w hw 25 rfl) Via.refl eh_4 F2 E0 (Or.inr ⟨(own_w hw 21 rfl), rfl, hnm⟩) (own_w hw 5 rfl) (ty := .byte) (v' := (.int (0 : Int32))) (by decide) rfl rfl (g := (mkF m 24 #[.val (.ref a), .val (.ref sb), .val .null, .val (.ref b), .val (.int cnt)] [(.int (0 : Int32)), (.ref a)])) rfl rfl (hb hby d_jdk42150x_24)
  refine own_G.go st_5 ?_
  have F_5 : Fld Z h_5 a "java/lang/String" "coder" "B" (.int (0 : Int32)) := F2.same W_5
  have N_5 := Fr.snoc X_5 N_4 ga
  show own_G _ _ _ _ (T_5.setTop (mkF m 27 #[.val (.ref a), .val (.ref sb), .val .null, .val (.ref b), .val (.int cnt)] []))
  refine own_G.go (fun _ k => XS.aloadN X_5.here hx rfl (hb hby d_jdk42150x_27) rfl rfl k) ?_
  show own_G _ _ _ _ (T_5.setTop (mkF m 28 #[.val (.ref a), .val (.ref sb), .val .null, .val (.ref b), .val (.int cnt)] [(.ref a)]))
  refine own_G.go (fun _ k => XS.aloadN X_5.here hx rfl (hb hby d_jdk42150x_28) rfl rfl k) ?_
  show own_G _ _ _ _ (T_5.setTop (mkF m 29 #[.val (.ref a), .val (.ref sb), .val .null, .val (.ref b), .val (.int cnt)] [(.ref b), (.ref a)]))
  refine own_G.go (fun _ k => XS.iconst X_5.here hx rfl (hb hby d_jdk42150x_29) k) ?_
  show own_G _ _ _ _ (T_5.setTop (mkF m 30 #[.val (.ref a), .val (.ref sb), .val .null, .val (.ref b), .val (.int cnt)] [(.int (0 : Int32)), (.ref b), (.ref a)]))
  refine own_G.go (fun _ k => XS.iload X_5.here hx rfl (hb hby d_jdk42150x_30) rfl k) ?_
  show own_G _ _ _ _ (T_5.setTop (mkF m 32 #[.val (.ref a), .val (.ref sb), .val .null, .val (.ref b), .val (.int cnt)] [(.int cnt), (.int (0 : Int32)), (.ref b), (.ref a)]))
  have KB'_6 : Arv Z h_5 b kb .byte cap vd (.int (0 : Int32)) := (KB.other W_5 hba)
  obtain ⟨_, T_7, L_7, Q_7, X_7, st_7⟩ := own_callS X_5 hx hown (mvT hZ (own_w hw 227 rfl)) (mvT hZ (own_w hw 228 rfl)) (mvT hZ (own_w hw 229 rfl)) (mvT hZ (own_w hw 230 rfl)) (by decide) (Q := (Qco Z cnt (own_cr vd cnt) h_5 n0)) (backOf (W := 1) (rm_corC l Z a0 hw [] b kb cap cnt vd h_5 n0 (Nat.le_trans Z0 (Keep.of_wr W_5).1) KB'_6 hc0 h18 hlt hcap hne) hZ (own_w hw 230 rfl) (own_w hw 229 rfl) (by decide) (by decide)) (g := (mkF m 32 #[.val (.ref a), .val (.ref sb), .val .null, .val (.ref b), .val (.int cnt)] [(.int cnt), (.int (0 : Int32)), (.ref b), (.ref a)])) rfl (by rw [hml]; rfl) (argsL := [(.ref b), (.int (0 : Int32)), (.int cnt)]) (rest := [(.ref a)]) (lenOf pd_13 rfl) rfl (by show 2 * 0 + _ ≤ _; exact Nat.le_of_eq rfl) (hb hby d_jdk42150x_32) e_5 rfl (by decide) (by decide)
  obtain ⟨q_7, kq_7, rfl, Nq_7, K_7, lo_7, V_7⟩ := Q_7
  refine own_G.via st_7 ?_
  have N_7 := Fr.app N_5 Nq_7
  show own_G _ _ _ _ (T_7.setTop (mkF m 35 #[.val (.ref a), .val (.ref sb), .val .null, .val (.ref b), .val (.int cnt)] [(.ref q_7), (.ref a)]))
  have F1'_8 : Fld Z T_7.heap a "java/lang/String" "value" "[B" .null := ((F1.other W_5 (Or.inr (slot_ne (C := "java/lang/String") (Or.inr (own_w hw 20 rfl)) (Or.inr (own_w hw 21 rfl)) (by decide) (by decide : parseFieldDescriptor "[B" = some (.array .byte)) (by decide : parseFieldDescriptor "B" = some .byte)))).keep K_7 nin0)
  have E0'_9 : Exa Z T_7.heap a "java/lang/String" := ((E0.wr W_5).keep K_7)
  obtain ⟨T_10, h_10, X_10, e_10, W_10, st_10⟩ := putF X_7 hx hZ hown (host := "") (Or.inl (own_w hw 24 rfl)) Via.refl rfl F1'_8 E0'_9 (Or.inr ⟨(own_w hw 20 rfl), rfl, hnm⟩) (own_w hw 5 rfl) (ty := (.array .byte)) (by decide) rfl rfl (g := (mkF m 35 #[.val (.ref a), .val (.ref sb), .val .null, .val (.ref b), .val (.int cnt)] [(.ref q_7), (.ref a)])) rfl rfl (hb hby d_jdk42150x_35)
  refine own_G.go st_10 ?_
  have F_10 : Fld Z h_10 a "java/lang/String" "value" "[B" (.ref q_7) := F1'_8.same W_10
  have N_10 := Fr.snoc X_10 N_7 ga
  show own_G _ _ _ _ (T_10.setTop (mkF m 38 #[.val (.ref a), .val (.ref sb), .val .null, .val (.ref b), .val (.int cnt)] []))
  refine own_G.go (fun _ k => XS.goto X_10.here hx rfl (pc0 := 38) (pc' := 97) rfl (hb hby d_jdk42150x_38) (by decide) (by decide) k) ?_
  show own_G _ _ _ _ (T_10.setTop (mkF m 97 #[.val (.ref a), .val (.ref sb), .val .null, .val (.ref b), .val (.int cnt)] []))
  have E0'_11 : Exa Z h_10 a "java/lang/String" := (E0'_9.wr W_10)
  have F_5'_12 : Fld Z h_10 a "java/lang/String" "coder" "B" (.int (0 : Int32)) := ((F_5.keep K_7 nin0).other W_10 (Or.inr (slot_ne (C := "java/lang/String") (Or.inr (own_w hw 21 rfl)) (Or.inr (own_w hw 20 rfl)) (by decide) (by decide : parseFieldDescriptor "B" = some .byte) (by decide : parseFieldDescriptor "[B" = some (.array .byte)))))
  have V_7'_13 : Arv Z h_10 q_7 kq_7 .byte cnt (own_cr vd cnt) (.int (0 : Int32)) := (V_7.other W_10 (Ne.symm (Nat.ne_of_lt (Nat.lt_of_lt_of_le (Nat.lt_of_lt_of_le E0.lt (Keep.of_wr W_5).1) lo_7))))
  exact own_G.end_ X_10 hlk (v := none) (fun _ => rfl) (fun fs hr => X_10.returnOut hx hrt (hb hby d_jdk42150x_97) hr) e_10 ⟨q_7, kq_7, rfl, N_10, ((((Keep.refl h0 [a]).wr W_5 (Or.inl (List.mem_of_getElem? (i := 0) rfl))).trans K_7 all0).wr W_10 (Or.inl (List.mem_of_getElem? (i := 0) rfl))), (Nat.le_trans (Keep.of_wr W_5).1 lo_7), E0'_11, F_5'_12, F_10, V_7'_13⟩ (by decide) (by decide)
theorem pd_16 : parseMethodDescriptor "(Ljava/lang/AbstractStringBuilder;Ljava/lang/Void;)V" = some ⟨[(.object "java/lang/AbstractStringBuilder"), (.object "java/lang/Void")], none⟩ := by decide +kernel
theorem d_jdk4253x_0 : decode jdk_42_method_53_code 0 = .ok (.aload_n 0, 1) := by decide +kernel
theorem d_jdk4253x_1 : decode jdk_42_method_53_code 1 = .ok (.aload_n 1, 1) := by decide +kernel
theorem d_jdk4253x_2 : decode jdk_42_method_53_code 2 = .ok (.aconst_null, 1) := by decide +kernel
theorem d_jdk4253x_3 : decode jdk_42_method_53_code 3 = .ok (.invokespecial 489, 3) := by decide +kernel
theorem d_jdk4253x_6 : decode jdk_42_method_53_code 6 = .ok (.return_, 1) := by decide +kernel
set_option maxRecDepth 65536 in
set_option maxHeartbeats 40000000 in
theorem rm_si1C (l : Launch) (Z : State) (a0 : Array Value) (hw : ∀ d ∈ tables_1, d.before a0 Z = true) (ws : List Jvm.Cond) (a sb : Addr) (b : Addr) (kb : ClassId) (cap cnt : Int32) (vd : List Value) (zc : Int32) (h0 : Heap) (n0 : Nat) (Z0 : n0 ≤ h0.size) (ga : n0 ≤ a) (E0 : Exa Z h0 a "java/lang/String") (F1 : Fld Z h0 a "java/lang/String" "value" "[B" .null) (F2 : Fld Z h0 a "java/lang/String" "coder" "B" (.int (0 : Int32))) (hsa : sb ≠ a) (hba : b ≠ a) (ES : Exa Z h0 sb "java/lang/StringBuilder") (SV : Fld Z h0 sb "java/lang/AbstractStringBuilder" "value" "[B" (.ref b)) (SC : Fld Z h0 sb "java/lang/AbstractStringBuilder" "coder" "B" (.int (0 : Int32))) (SN : Fld Z h0 sb "java/lang/AbstractStringBuilder" "count" "I" (.int cnt)) (KB : Arv Z h0 b kb .byte cap vd (.int (0 : Int32))) (hc0 : ¬ cnt < (0 : Int32)) (h18 : cnt.toNatClampNeg ≤ 18) (hlt : cnt < cap) (hcap : cnt.toNatClampNeg ≤ cap.toNatClampNeg) (hne : ¬ cnt = cap) (O2 : Sta Z Z.heap "java/lang/String" "COMPACT_STRINGS" "Z" (.int zc)) (P5 : ¬ (zc = (0 : Int32))) (X00 : Old Z n0 h0) :
    MetFree l (⟨"java/lang/String", "<init>", "(Ljava/lang/StringBuilder;)V"⟩ : MethodName) (head1 (Jvm.Cond.code (⟨"java/lang/String", "<init>", "(Ljava/lang/StringBuilder;)V"⟩ : MethodName) jdk_42_method_53_code 2 none :: ws) ({ frames := 4, cells := 1, slots := 18, locals := 65 } : Room)) (fun a_ U => a_ = #[(.ref a), (.ref sb)] ∧ Z.Warmed39 U.vm ∧ U.heap = h0) (fun _ _ _ _ _ => True) (fun _ U o U' => ∃ v L, o = .returned v ∧ Qst Z a cnt (own_cr vd cnt) h0 n0 v U'.heap L ∧ FrameEnd U o U' L ({ frames := 4, cells := 1, slots := 18, locals := 65 } : Room).cells ({ frames := 4, cells := 1, slots := 18, locals := 65 } : Room).slots) := by
  refine MetFree.of_bodySF (plainFor_of_name pn_1) hisR ?_
  intro p e s m args below meth c s₁ Bd hml0 hP hK
  obtain ⟨rfl, hZ, hh⟩ := hP
  have hx := Bd.exec
  have hby := Bd.bytes
  have hrt := Bd.returns
  have hlk : meth.locks = false := Bd.notSynchronized
  have hml : c.maxLocals = 2 := hml0
  have hown : s.vm.findClass "java/lang/String" = some m.cls := findClass_of_methodNamed Bd.named
  have hnm := (name_of_methodNamed Bd.named Bd.method).1
  have X0 : Stand p l e ({ frames := 4, cells := 1, slots := 18, locals := 65 } : Room) s m #[(.ref a), (.ref sb)] below meth c s₁ [] 0 0 := Stand.of_body Bd
  have e0 : s₁.heap = h0 := by rw [← hh, Bd.state]; rfl
  have N0 := Fr.nil n0
  show own_G p.tables e below (fun o t => ∃ v L, o = .returned v ∧ Qst Z a cnt (own_cr vd cnt) h0 n0 v t.heap L ∧ FrameEnd s o t L ({ frames := 4, cells := 1, slots := 18, locals := 65 } : Room).cells ({ frames := 4, cells := 1, slots := 18, locals := 65 } : Room).slots) (s₁.setTop (entryFrame m #[(.ref a), (.ref sb)] 2))
  refine own_G.cast (show entryFrame m #[(.ref a), (.ref sb)] 2 = mkF m 0 #[.val (.ref a), .val (.ref sb)] [] from by first | (simp [entryFrame, mkF, argsToLocals, Value.category]; done) | rfl) ?_
  refine own_G.go (fun _ k => XS.aloadN X0.here hx rfl (hb hby d_jdk4253x_0) rfl rfl k) ?_
  show own_G _ _ _ _ (s₁.setTop (mkF m 1 #[.val (.ref a), .val (.ref sb)] [(.ref a)]))
  refine own_G.go (fun _ k => XS.aloadN X0.here hx rfl (hb hby d_jdk4253x_1) rfl rfl k) ?_
  show own_G _ _ _ _ (s₁.setTop (mkF m 2 #[.val (.ref a), .val (.ref sb)] [(.ref sb), (.ref a)]))
  refine own_G.go (fun _ k => XS.aconstNull X0.here hx rfl (hb hby d_jdk4253x_2) k) ?_
  show own_G _ _ _ _ (s₁.setTop (mkF m 3 #[.val (.ref a), .val (.ref sb)] [.null, (.ref sb), (.ref a)]))
  obtain ⟨_, T_1, L_1, Q_1, X_1, st_1⟩ := own_callI X0 hx rfl hown (mvT hZ (own_w hw 206 rfl)) (mvT hZ (own_w hw 207 rfl)) (mvT hZ (own_w hw 208 rfl)) (by decide) (Q := (Qst Z a cnt (own_cr vd cnt) h0 n0)) (backOf (W := 0) (rm_si2C l Z a0 hw [] a sb b kb cap cnt vd zc h0 n0 Z0 ga E0 F1 F2 hsa hba ES SV SC SN KB hc0 h18 hlt hcap hne O2 P5 X00) hZ (own_w hw 208 rfl) (own_w hw 6 rfl) (by decide) (by decide)) (a := a) (g := (mkF m 3 #[.val (.ref a), .val (.ref sb)] [.null, (.ref sb), (.ref a)])) rfl (by rw [hml]; rfl) (argsL := [(.ref sb), .null]) (rest := []) (lenOf pd_16 rfl) rfl (by show 2 * 0 + _ ≤ _; exact Nat.le_of_eq rfl) (hb hby d_jdk4253x_3) e0 rfl (by decide) (by decide)
  obtain ⟨t_1, kt_1, rfl, Nq_1, K_1, lo_1, Ex_1, Fc_1, Fv_1, V_1⟩ := Q_1
  refine own_G.via st_1 ?_
  have N_1 := Fr.app N0 Nq_1
  show own_G _ _ _ _ (T_1.setTop (mkF m 6 #[.val (.ref a), .val (.ref sb)] []))
  exact own_G.end_ X_1 hlk (v := none) (fun _ => rfl) (fun fs hr => X_1.returnOut hx hrt (hb hby d_jdk4253x_6) hr) rfl ⟨t_1, kt_1, rfl, N_1, ((Keep.refl h0 [a]).trans K_1 (allS (Or.inl (List.mem_of_getElem? (i := 0) rfl)) all0)), lo_1, Ex_1, Fc_1, Fv_1, V_1⟩ (by decide) (by decide)
theorem pd_17 : parseMethodDescriptor "(Ljava/lang/StringBuilder;)V" = some ⟨[(.object "java/lang/StringBuilder")], none⟩ := by decide +kernel
theorem d_jdk6742x_0 : decode jdk_67_method_42_code 0 = .ok (.new 18, 3) := by decide +kernel
theorem d_jdk6742x_3 : decode jdk_67_method_42_code 3 = .ok (.dup, 1) := by decide +kernel
theorem d_jdk6742x_4 : decode jdk_67_method_42_code 4 = .ok (.aload_n 0, 1) := by decide +kernel
theorem d_jdk6742x_5 : decode jdk_67_method_42_code 5 = .ok (.invokespecial 137, 3) := by decide +kernel
theorem d_jdk6742x_8 : decode jdk_67_method_42_code 8 = .ok (.areturn, 1) := by decide +kernel
set_option maxRecDepth 65536 in
set_option maxHeartbeats 40000000 in
theorem rm_stsC (l : Launch) (Z : State) (a0 : Array Value) (hw : ∀ d ∈ tables_1, d.before a0 Z = true) (ws : List Jvm.Cond) (sb : Addr) (b : Addr) (kb : ClassId) (cap cnt : Int32) (vd : List Value) (zc : Int32) (h0 : Heap) (n0 : Nat) (Z0 : n0 ≤ h0.size) (ES : Exa Z h0 sb "java/lang/StringBuilder") (SV : Fld Z h0 sb "java/lang/AbstractStringBuilder" "value" "[B" (.ref b)) (SC : Fld Z h0 sb "java/lang/AbstractStringBuilder" "coder" "B" (.int (0 : Int32))) (SN : Fld Z h0 sb "java/lang/AbstractStringBuilder" "count" "I" (.int cnt)) (KB : Arv Z h0 b kb .byte cap vd (.int (0 : Int32))) (hc0 : ¬ cnt < (0 : Int32)) (h18 : cnt.toNatClampNeg ≤ 18) (hlt : cnt < cap) (hcap : cnt.toNatClampNeg ≤ cap.toNatClampNeg) (hne : ¬ cnt = cap) (O2 : Sta Z Z.heap "java/lang/String" "COMPACT_STRINGS" "Z" (.int zc)) (P5 : ¬ (zc = (0 : Int32))) (X00 : Old Z n0 h0) :
    MetFree l (⟨"java/lang/StringBuilder", "toString", "()Ljava/lang/String;"⟩ : MethodName) (head1 (Jvm.Cond.code (⟨"java/lang/StringBuilder", "toString", "()Ljava/lang/String;"⟩ : MethodName) jdk_67_method_42_code 1 (some (.object "java/lang/String")) :: ws) ({ frames := 5, cells := 2, slots := 22, locals := 79 } : Room)) (fun a_ U => a_ = #[(.ref sb)] ∧ Z.Warmed39 U.vm ∧ U.heap = h0) (fun _ _ _ _ _ => True) (fun _ U o U' => ∃ v L, o = .returned v ∧ Qts Z cnt (own_cr vd cnt) h0 n0 v U'.heap L ∧ FrameEnd U o U' L ({ frames := 5, cells := 2, slots := 22, locals := 79 } : Room).cells ({ frames := 5, cells := 2, slots := 22, locals := 79 } : Room).slots) := by
  refine MetFree.of_bodySF (plainFor_of_name pn_5) hisR ?_
  intro p e s m args below meth c s₁ Bd hml0 hP hK
  obtain ⟨rfl, hZ, hh⟩ := hP
  have hx := Bd.exec
  have hby := Bd.bytes
  have hrt := Bd.returns
  have hlk : meth.locks = false := Bd.notSynchronized
  have hml : c.maxLocals = 1 := hml0
  have hown : s.vm.findClass "java/lang/StringBuilder" = some m.cls := findClass_of_methodNamed Bd.named
  have hnm := (name_of_methodNamed Bd.named Bd.method).1
  have X0 : Stand p l e ({ frames := 5, cells := 2, slots := 22, locals := 79 } : Room) s m #[(.ref sb)] below meth c s₁ [] 0 0 := Stand.of_body Bd
  have e0 : s₁.heap = h0 := by rw [← hh, Bd.state]; rfl
  have N0 := Fr.nil n0
  show own_G p.tables e below (fun o t => ∃ v L, o = .returned v ∧ Qts Z cnt (own_cr vd cnt) h0 n0 v t.heap L ∧ FrameEnd s o t L ({ frames := 5, cells := 2, slots := 22, locals := 79 } : Room).cells ({ frames := 5, cells := 2, slots := 22, locals := 79 } : Room).slots) (s₁.setTop (entryFrame m #[(.ref sb)] 1))
  refine own_G.cast (show entryFrame m #[(.ref sb)] 1 = mkF m 0 #[.val (.ref sb)] [] from by first | (simp [entryFrame, mkF, argsToLocals, Value.category]; done) | rfl) ?_
  obtain ⟨T_1, h_1, X_1, e_1, E_1, A_1, D_1, -, st_1⟩ := newO X0 hx hZ hown (own_w hw 202 rfl) (own_w hw 5 rfl) (own_w hw 6 rfl) e0 (g := (mkF m 0 #[.val (.ref sb)] [])) rfl (hb hby d_jdk6742x_0) (by decide) (by decide)
  obtain ⟨a_1, g_1⟩ : ∃ z, z = h0.size := ⟨_, rfl⟩
  rw [← g_1] at A_1 D_1 st_1
  refine own_G.go st_1 ?_
  have F_1_value : Fld Z h_1 a_1 "java/lang/String" "value" "[B" .null := D_1 (Or.inr (own_w hw 20 rfl)) (ty := (.array .byte)) (by decide)
  have F_1_coder : Fld Z h_1 a_1 "java/lang/String" "coder" "B" (.int (0 : Int32)) := D_1 (Or.inr (own_w hw 21 rfl)) (ty := .byte) (by decide)
  show own_G _ _ _ _ (T_1.setTop (mkF m 3 #[.val (.ref sb)] [(.ref a_1)]))
  refine own_G.go (fun _ k => XS.dup X_1.here hx rfl (hb hby d_jdk6742x_3) rfl rfl k) ?_
  show own_G _ _ _ _ (T_1.setTop (mkF m 4 #[.val (.ref sb)] [(.ref a_1), (.ref a_1)]))
  refine own_G.go (fun _ k => XS.aloadN X_1.here hx rfl (hb hby d_jdk6742x_4) rfl rfl k) ?_
  show own_G _ _ _ _ (T_1.setTop (mkF m 5 #[.val (.ref sb)] [(.ref sb), (.ref a_1), (.ref a_1)]))
  have g0_a_1 : n0 ≤ a_1 := Nat.le_trans Z0 (Nat.le_of_eq g_1.symm)
  have ES'_2 : Exa Z h_1 sb "java/lang/StringBuilder" := (ES.ext E_1)
  have SV'_3 : Fld Z h_1 sb "java/lang/AbstractStringBuilder" "value" "[B" (.ref b) := (SV.ext E_1)
  have SC'_4 : Fld Z h_1 sb "java/lang/AbstractStringBuilder" "coder" "B" (.int (0 : Int32)) := (SC.ext E_1)
  have SN'_5 : Fld Z h_1 sb "java/lang/AbstractStringBuilder" "count" "I" (.int cnt) := (SN.ext E_1)
  have KB'_6 : Arv Z h_1 b kb .byte cap vd (.int (0 : Int32)) := (KB.ext E_1)
  have O_7d : Old Z n0 h_1 := (X00.ext E_1)
  obtain ⟨_, T_8, L_8, Q_8, X_8, st_8⟩ := own_callI X_1 hx rfl hown (mvT hZ (own_w hw 203 rfl)) (mvT hZ (own_w hw 204 rfl)) (mvT hZ (own_w hw 205 rfl)) (by decide) (Q := (Qst Z a_1 cnt (own_cr vd cnt) h_1 n0)) (backOf (W := 1) (rm_si1C l Z a0 hw [] a_1 sb b kb cap cnt vd zc h_1 n0 (Nat.le_trans Z0 E_1.1) g0_a_1 A_1 F_1_value F_1_coder (Nat.ne_of_lt (Nat.lt_of_lt_of_le ES.lt (Nat.le_of_eq g_1.symm))) (Nat.ne_of_lt (Nat.lt_of_lt_of_le KB.lt (Nat.le_of_eq g_1.symm))) ES'_2 SV'_3 SC'_4 SN'_5 KB'_6 hc0 h18 hlt hcap hne O2 P5 O_7d) hZ (own_w hw 205 rfl) (own_w hw 6 rfl) (by decide) (by decide)) (a := a_1) (g := (mkF m 5 #[.val (.ref sb)] [(.ref sb), (.ref a_1), (.ref a_1)])) rfl (by rw [hml]; rfl) (argsL := [(.ref sb)]) (rest := [(.ref a_1)]) (lenOf pd_17 rfl) rfl (by show 2 * 0 + _ ≤ _; exact Nat.le_of_eq rfl) (hb hby d_jdk6742x_5) e_1 rfl (by decide) (by decide)
  obtain ⟨t_8, kt_8, rfl, Nq_8, K_8, lo_8, Ex_8, Fc_8, Fv_8, V_8⟩ := Q_8
  refine own_G.via st_8 ?_
  have N_8 := Fr.app N0 Nq_8
  show own_G _ _ _ _ (T_8.setTop (mkF m 8 #[.val (.ref sb)] [(.ref a_1)]))
  exact own_G.end_ X_8 hlk (v := (some (.ref a_1))) (fun h => by rw [hrt] at h; cases h) (fun fs hr => retOut X_8 hx hrt rfl (Or.inr (Or.inr (Or.inr (Or.inr ⟨rfl, rfl, rfl⟩)))) (hb hby d_jdk6742x_8) hr) rfl ⟨a_1, t_8, kt_8, rfl, N_8, (((Keep.refl h0 []).ext E_1).trans K_8 (allS (Or.inr (Nat.le_of_eq g_1.symm)) all0)), (Nat.le_of_eq g_1.symm), Ex_8, Fc_8, Fv_8, V_8⟩ (by decide) (by decide)
set_option maxRecDepth 65536 in
set_option maxHeartbeats 40000000 in
theorem rm_si2K (l : Launch) (Z : State) (a0 : Array Value) (hw : ∀ d ∈ tables_1, d.before a0 Z = true) (ws : List Jvm.Cond) (a sb : Addr) (b : Addr) (kb : ClassId) (vd : List Value) (zc : Int32) (h0 : Heap) (n0 : Nat) (Z0 : n0 ≤ h0.size) (ga : n0 ≤ a) (E0 : Exa Z h0 a "java/lang/String") (F1 : Fld Z h0 a "java/lang/String" "value" "[B" .null) (F2 : Fld Z h0 a "java/lang/String" "coder" "B" (.int (0 : Int32))) (hsa : sb ≠ a) (hba : b ≠ a) (ES : Exa Z h0 sb "java/lang/StringBuilder") (SV : Fld Z h0 sb "java/lang/AbstractStringBuilder" "value" "[B" (.ref b)) (SC : Fld Z h0 sb "java/lang/AbstractStringBuilder" "coder" "B" (.int (0 : Int32))) (SN : Fld Z h0 sb "java/lang/AbstractStringBuilder" "count" "I" (.int (16 : Int32))) (KB : Arv Z h0 b kb .byte (16 : Int32) vd (.int (0 : Int32))) (EB : Exa Z h0 b "[B") (O2 : Sta Z Z.heap "java/lang/String" "COMPACT_STRINGS" "Z" (.int zc)) (P5 : ¬ (zc = (0 : Int32))) (X00 : Old Z n0 h0) :
    MetFree l (⟨"java/lang/String", "<init>", "(Ljava/lang/AbstractStringBuilder;Ljava/lang/Void;)V"⟩ : MethodName) (head1 (Jvm.Cond.code (⟨"java/lang/String", "<init>", "(Ljava/lang/AbstractStringBuilder;Ljava/lang/Void;)V"⟩ : MethodName) jdk_42_method_150_code 5 none :: ws) ({ frames := 2, cells := 1, slots := 16, locals := 29 } : Room)) (fun a_ U => a_ = #[(.ref a), (.ref sb), .null] ∧ Z.Warmed39 U.vm ∧ U.heap = h0) (fun _ _ _ _ _ => True) (fun _ U o U' => ∃ v L, o = .returned v ∧ Qst Z a (16 : Int32) vd h0 n0 v U'.heap L ∧ FrameEnd U o U' L ({ frames := 2, cells := 1, slots := 16, locals := 29 } : Room).cells ({ frames := 2, cells := 1, slots := 16, locals := 29 } : Room).slots) := by
  refine MetFree.of_bodySF (plainFor_of_name pn_1) hisR ?_
  intro p e s m args below meth c s₁ Bd hml0 hP hK
  obtain ⟨rfl, hZ, hh⟩ := hP
  have hx := Bd.exec
  have hby := Bd.bytes
  have hrt := Bd.returns
  have hlk : meth.locks = false := Bd.notSynchronized
  have hml : c.maxLocals = 5 := hml0
  have hown : s.vm.findClass "java/lang/String" = some m.cls := findClass_of_methodNamed Bd.named
  have hnm := (name_of_methodNamed Bd.named Bd.method).1
  have X0 : Stand p l e ({ frames := 2, cells := 1, slots := 16, locals := 29 } : Room) s m #[(.ref a), (.ref sb), .null] below meth c s₁ [] 0 0 := Stand.of_body Bd
  have e0 : s₁.heap = h0 := by rw [← hh, Bd.state]; rfl
  have N0 := Fr.nil n0
  show own_G p.tables e below (fun o t => ∃ v L, o = .returned v ∧ Qst Z a (16 : Int32) vd h0 n0 v t.heap L ∧ FrameEnd s o t L ({ frames := 2, cells := 1, slots := 16, locals := 29 } : Room).cells ({ frames := 2, cells := 1, slots := 16, locals := 29 } : Room).slots) (s₁.setTop (entryFrame m #[(.ref a), (.ref sb), .null] 5))
  refine own_G.cast (show entryFrame m #[(.ref a), (.ref sb), .null] 5 = mkF m 0 #[.val (.ref a), .val (.ref sb), .val .null, .unset, .unset] [] from by first | (simp [entryFrame, mkF, argsToLocals, Value.category]; done) | rfl) ?_
  refine own_G.go (fun _ k => XS.aloadN X0.here hx rfl (hb hby d_jdk42150x_0) rfl rfl k) ?_
  show own_G _ _ _ _ (s₁.setTop (mkF m 1 #[.val (.ref a), .val (.ref sb), .val .null, .unset, .unset] [(.ref a)]))
  obtain ⟨T_1, X_1, e_1, st_1⟩ := initO X0 hx hZ hown (own_w hw 15 rfl) (own_w hw 16 rfl) (own_w hw 17 rfl) e0 (g := (mkF m 1 #[.val (.ref a), .val (.ref sb), .val .null, .unset, .unset] [(.ref a)])) rfl (by rw [hml]; rfl) rfl (hb hby d_jdk42150x_1) (by decide) (W := 0) (by show 2 * 0 + _ ≤ _; exact Nat.le_of_eq rfl) (by decide)
  refine own_G.go st_1 ?_
  show own_G _ _ _ _ (T_1.setTop (mkF m 4 #[.val (.ref a), .val (.ref sb), .val .null, .unset, .unset] []))
  refine own_G.go (fun _ k => XS.aloadN X_1.here hx rfl (hb hby d_jdk42150x_4) rfl rfl k) ?_
  show own_G _ _ _ _ (T_1.setTop (mkF m 5 #[.val (.ref a), .val (.ref sb), .val .null, .unset, .unset] [(.ref sb)]))
  obtain ⟨cq_2, kq_2, q_2a, q_2b, q_2c⟩ := isOf hZ e_1 ES
  obtain ⟨_, T_2, L_2, Q_2, X_2, st_2⟩ := own_callV X_1 hx (z := (⟨"java/lang/AbstractStringBuilder", "getValue", "()[B"⟩ : MethodName)) hown (mvT hZ (own_w hw 209 rfl)) (mvT hZ (own_w hw 210 rfl)) (notFace_of_selects (args := #[]) (mvT hZ (own_w hw 212 rfl))) (mvT hZ (own_w hw 212 rfl)) (mvT hZ (own_w hw 211 rfl)) (by decide) (Q := (Qp (.ref b) h0)) (backOf (W := 0) (rm_gv l Z a0 hw [] sb b h0 n0 Z0 SV) hZ (own_w hw 213 rfl) (own_w hw 139 rfl) (by decide) (by decide)) q_2a q_2c (g := (mkF m 5 #[.val (.ref a), .val (.ref sb), .val .null, .unset, .unset] [(.ref sb)])) rfl (by rw [hml]; rfl) (argsL := []) (rest := []) (lenOf pd_14 rfl) rfl (by show 2 * 0 + _ ≤ _; exact Nat.le_of_eq rfl) (hb hby d_jdk42150x_5) e_1 rfl (by decide) (by decide)
  obtain ⟨rfl, rfl, eh_2⟩ := Q_2
  refine own_G.via st_2 ?_
  have N_2 := Fr.app N0 (Fr.nil n0)
  show own_G _ _ _ _ (T_2.setTop (mkF m 8 #[.val (.ref a), .val (.ref sb), .val .null, .unset, .unset] [(.ref b)]))
  refine own_G.go (fun _ k => XS.astoreN X_2.here hx rfl (hb hby d_jdk42150x_8) rfl rfl (l' := #[.val (.ref a), .val (.ref sb), .val .null, .val (.ref b), .unset]) rfl k) ?_
  show own_G _ _ _ _ (T_2.setTop (mkF m 9 #[.val (.ref a), .val (.ref sb), .val .null, .val (.ref b), .unset] []))
  refine own_G.go (fun _ k => XS.aloadN X_2.here hx rfl (hb hby d_jdk42150x_9) rfl rfl k) ?_
  show own_G _ _ _ _ (T_2.setTop (mkF m 10 #[.val (.ref a), .val (.ref sb), .val .null, .val (.ref b), .unset] [(.ref sb)]))
  obtain ⟨cq_3, kq_3, q_3a, q_3b, q_3c⟩ := isOf hZ eh_2 ES
  obtain ⟨_, T_3, L_3, Q_3, X_3, st_3⟩ := own_callV X_2 hx (z := (⟨"java/lang/StringBuilder", "length", "()I"⟩ : MethodName)) hown (mvT hZ (own_w hw 214 rfl)) (mvT hZ (own_w hw 215 rfl)) (own_nfSame (y := (⟨"java/lang/AbstractStringBuilder", "getValue", "()[B"⟩ : MethodName)) (z := (⟨"java/lang/AbstractStringBuilder", "length", "()I"⟩ : MethodName)) (a0 := #[]) (mvT hZ (own_w hw 212 rfl)) (mvT hZ (own_w hw 211 rfl)) rfl) (mvT hZ (own_w hw 217 rfl)) (mvT hZ (own_w hw 218 rfl)) (by decide) (Q := (Qp (.int (16 : Int32)) h0)) (backOf (W := 0) (rm_ls l Z a0 hw [] sb (16 : Int32) h0 n0 Z0 ES SN) hZ (own_w hw 219 rfl) (own_w hw 131 rfl) (by decide) (by decide)) q_3a q_3c (g := (mkF m 10 #[.val (.ref a), .val (.ref sb), .val .null, .val (.ref b), .unset] [(.ref sb)])) rfl (by rw [hml]; rfl) (argsL := []) (rest := []) (lenOf pd_8 rfl) rfl (by show 2 * 0 + _ ≤ _; exact Nat.le_of_eq rfl) (hb hby d_jdk42150x_10) eh_2 rfl (by decide) (by decide)
  obtain ⟨rfl, rfl, eh_3⟩ := Q_3
  refine own_G.via st_3 ?_
  have N_3 := Fr.app N_2 (Fr.nil n0)
  show own_G _ _ _ _ (T_3.setTop (mkF m 13 #[.val (.ref a), .val (.ref sb), .val .null, .val (.ref b), .unset] [(.int (16 : Int32))]))
  refine own_G.go (fun _ k => XS.istore X_3.here hx rfl (hb hby d_jdk42150x_13) rfl (l' := #[.val (.ref a), .val (.ref sb), .val .null, .val (.ref b), .val (.int (16 : Int32))]) rfl k) ?_
  show own_G _ _ _ _ (T_3.setTop (mkF m 15 #[.val (.ref a), .val (.ref sb), .val .null, .val (.ref b), .val (.int (16 : Int32))] []))
  refine own_G.go (fun _ k => XS.aloadN X_3.here hx rfl (hb hby d_jdk42150x_15) rfl rfl k) ?_
  show own_G _ _ _ _ (T_3.setTop (mkF m 16 #[.val (.ref a), .val (.ref sb), .val .null, .val (.ref b), .val (.int (16 : Int32))] [(.ref sb)]))
  obtain ⟨cq_4, kq_4, q_4a, q_4b, q_4c⟩ := isOf hZ eh_3 ES
  obtain ⟨_, T_4, L_4, Q_4, X_4, st_4⟩ := own_callV X_3 hx (z := (⟨"java/lang/AbstractStringBuilder", "isLatin1", "()Z"⟩ : MethodName)) hown (mvT hZ (own_w hw 222 rfl)) (mvT hZ (own_w hw 223 rfl)) (notFace_of_selects (args := #[]) (mvT hZ (own_w hw 225 rfl))) (mvT hZ (own_w hw 225 rfl)) (mvT hZ (own_w hw 224 rfl)) (by decide) (Q := (Qp (.int (1 : Int32)) h0)) (backOf (W := 0) (rm_il l Z a0 hw [] sb zc h0 n0 Z0 SC O2 P5 X00) hZ (own_w hw 226 rfl) (own_w hw 139 rfl) (by decide) (by decide)) q_4a q_4c (g := (mkF m 16 #[.val (.ref a), .val (.ref sb), .val .null, .val (.ref b), .val (.int (16 : Int32))] [(.ref sb)])) rfl (by rw [hml]; rfl) (argsL := []) (rest := []) (lenOf pd_15 rfl) rfl (by show 2 * 0 + _ ≤ _; exact Nat.le_of_eq rfl) (hb hby d_jdk42150x_16) eh_3 rfl (by decide) (by decide)
  obtain ⟨rfl, rfl, eh_4⟩ := Q_4
  refine own_G.via st_4 ?_
  have N_4 := Fr.app N_3 (Fr.nil n0)
  show own_G _ _ _ _ (T_4.setTop (mkF m 19 #[.val (.ref a), .val (.ref sb), .val .null, .val (.ref b), .val (.int (16 : Int32))] [(.int (1 : Int32))]))
  refine own_G.go (fun _ k => XS.ifNo X_4.here hx rfl (hb hby d_jdk42150x_19) rfl ((if0 _ _).trans (feq (by decide : ¬ ((1 : Int32) = (0 : Int32)))).1) k) ?_
  show own_G _ _ _ _ (T_4.setTop (mkF m 22 #[.val (.ref a), .val (.ref sb), .val .null, .val (.ref b), .val (.int (16 : Int32))] []))
  refine own_G.go (fun _ k => XS.aloadN X_4.here hx rfl (hb hby d_jdk42150x_22) rfl rfl k) ?_
  show own_G _ _ _ _ (T_4.setTop (mkF m 23 #[.val (.ref a), .val (.ref sb), .val .null, .val (.ref b), .val (.int (16 : Int32))] [(.ref a)]))
  refine own_G.go (fun _ k => XS.iconst X_4.here hx rfl (hb hby d_jdk42150x_23) k) ?_
  show own_G _ _ _ _ (T_4.setTop (mkF m 24 #[.val (.ref a), .val (.ref sb), .val .null, .val (.ref b), .val (.int (16 : Int32))] [(.int (0 : Int32)), (.ref a)]))
  obtain ⟨T_5, h_5, X_5, e_5, W_5, st_5⟩ := putFN X_4 hx hZ hown (own_w hw 25 rfl) Via.refl eh_4 F2 E0 (Or.inr ⟨(own_w hw 21 rfl), rfl, hnm⟩) (own_w hw 5 rfl) (ty := .byte) (v' := (.int (0 : Int32))) (by decide) rfl rfl (g := (mkF m 24 #[.val (.ref a), .val (.ref sb), .val .null, .val (.ref b), .val (.int (16 : Int32))] [(.int (0 : Int32)), (.ref a)])) rfl rfl (hb hby d_jdk42150x_24)
  refine own_G.go st_5 ?_
  have F_5 : Fld Z h_5 a "java/lang/String" "coder" "B" (.int (0 : Int32)) := F2.same W_5
  have N_5 := Fr.snoc X_5 N_4 ga
  show own_G _ _ _ _ (T_5.setTop (mkF m 27 #[.val (.ref a), .val (.ref sb), .val .null, .val (.ref b), .val (.int (16 : Int32))] []))
  refine own_G.go (fun _ k => XS.aloadN X_5.here hx rfl (hb hby d_jdk42150x_27) rfl rfl k) ?_
  show own_G _ _ _ _ (T_5.setTop (mkF m 28 #[.val (.ref a), .val (.ref sb), .val .null, .val (.ref b), .val (.int (16 : Int32))] [(.ref a)]))
  refine own_G.go (fun _ k => XS.aloadN X_5.here hx rfl (hb hby d_jdk42150x_28) rfl rfl k) ?_
  show own_G _ _ _ _ (T_5.setTop (mkF m 29 #[.val (.ref a), .val (.ref sb), .val .null, .val (.ref b), .val (.int (16 : Int32))] [(.ref b), (.ref a)]))
  refine own_G.go (fun _ k => XS.iconst X_5.here hx rfl (hb hby d_jdk42150x_29) k) ?_
  show own_G _ _ _ _ (T_5.setTop (mkF m 30 #[.val (.ref a), .val (.ref sb), .val .null, .val (.ref b), .val (.int (16 : Int32))] [(.int (0 : Int32)), (.ref b), (.ref a)]))
  refine own_G.go (fun _ k => XS.iload X_5.here hx rfl (hb hby d_jdk42150x_30) rfl k) ?_
  show own_G _ _ _ _ (T_5.setTop (mkF m 32 #[.val (.ref a), .val (.ref sb), .val .null, .val (.ref b), .val (.int (16 : Int32))] [(.int (16 : Int32)), (.int (0 : Int32)), (.ref b), (.ref a)]))
  have KB'_6 : Arv Z h_5 b kb .byte (16 : Int32) vd (.int (0 : Int32)) := (KB.other W_5 hba)
  have EB'_7 : Exa Z h_5 b "[B" := (EB.wr W_5)
  obtain ⟨_, T_8, L_8, Q_8, X_8, st_8⟩ := own_callS X_5 hx hown (mvT hZ (own_w hw 227 rfl)) (mvT hZ (own_w hw 228 rfl)) (mvT hZ (own_w hw 229 rfl)) (mvT hZ (own_w hw 230 rfl)) (by decide) (Q := (Qco Z (16 : Int32) vd h_5 n0)) (backOf (W := 1) (rm_corK l Z a0 hw [] b kb vd h_5 n0 (Nat.le_trans Z0 (Keep.of_wr W_5).1) KB'_6 EB'_7) hZ (own_w hw 230 rfl) (own_w hw 229 rfl) (by decide) (by decide)) (g := (mkF m 32 #[.val (.ref a), .val (.ref sb), .val .null, .val (.ref b), .val (.int (16 : Int32))] [(.int (16 : Int32)), (.int (0 : Int32)), (.ref b), (.ref a)])) rfl (by rw [hml]; rfl) (argsL := [(.ref b), (.int (0 : Int32)), (.int (16 : Int32))]) (rest := [(.ref a)]) (lenOf pd_13 rfl) rfl (by show 2 * 0 + _ ≤ _; exact Nat.le_of_eq rfl) (hb hby d_jdk42150x_32) e_5 rfl (by decide) (by decide)
  obtain ⟨q_8, kq_8, rfl, Nq_8, K_8, lo_8, V_8⟩ := Q_8
  refine own_G.via st_8 ?_
  have N_8 := Fr.app N_5 Nq_8
  show own_G _ _ _ _ (T_8.setTop (mkF m 35 #[.val (.ref a), .val (.ref sb), .val .null, .val (.ref b), .val (.int (16 : Int32))] [(.ref q_8), (.ref a)]))
  have F1'_9 : Fld Z T_8.heap a "java/lang/String" "value" "[B" .null := ((F1.other W_5 (Or.inr (slot_ne (C := "java/lang/String") (Or.inr (own_w hw 20 rfl)) (Or.inr (own_w hw 21 rfl)) (by decide) (by decide : parseFieldDescriptor "[B" = some (.array .byte)) (by decide : parseFieldDescriptor "B" = some .byte)))).keep K_8 nin0)
  have E0'_10 : Exa Z T_8.heap a "java/lang/String" := ((E0.wr W_5).keep K_8)
  obtain ⟨T_11, h_11, X_11, e_11, W_11, st_11⟩ := putF X_8 hx hZ hown (host := "") (Or.inl (own_w hw 24 rfl)) Via.refl rfl F1'_9 E0'_10 (Or.inr ⟨(own_w hw 20 rfl), rfl, hnm⟩) (own_w hw 5 rfl) (ty := (.array .byte)) (by decide) rfl rfl (g := (mkF m 35 #[.val (.ref a), .val (.ref sb), .val .null, .val (.ref b), .val (.int (16 : Int32))] [(.ref q_8), (.ref a)])) rfl rfl (hb hby d_jdk42150x_35)
  refine own_G.go st_11 ?_
  have F_11 : Fld Z h_11 a "java/lang/String" "value" "[B" (.ref q_8) := F1'_9.same W_11
  have N_11 := Fr.snoc X_11 N_8 ga
  show own_G _ _ _ _ (T_11.setTop (mkF m 38 #[.val (.ref a), .val (.ref sb), .val .null, .val (.ref b), .val (.int (16 : Int32))] []))
  refine own_G.go (fun _ k => XS.goto X_11.here hx rfl (pc0 := 38) (pc' := 97) rfl (hb hby d_jdk42150x_38) (by decide) (by decide) k) ?_
  show own_G _ _ _ _ (T_11.setTop (mkF m 97 #[.val (.ref a), .val (.ref sb), .val .null, .val (.ref b), .val (.int (16 : Int32))] []))
  have E0'_12 : Exa Z h_11 a "java/lang/String" := (E0'_10.wr W_11)
  have F_5'_13 : Fld Z h_11 a "java/lang/String" "coder" "B" (.int (0 : Int32)) := ((F_5.keep K_8 nin0).other W_11 (Or.inr (slot_ne (C := "java/lang/String") (Or.inr (own_w hw 21 rfl)) (Or.inr (own_w hw 20 rfl)) (by decide) (by decide : parseFieldDescriptor "B" = some .byte) (by decide : parseFieldDescriptor "[B" = some (.array .byte)))))
  have V_8'_14 : Arv Z h_11 q_8 kq_8 .byte (16 : Int32) vd (.int (0 : Int32)) := (V_8.other W_11 (Ne.symm (Nat.ne_of_lt (Nat.lt_of_lt_of_le (Nat.lt_of_lt_of_le E0.lt (Keep.of_wr W_5).1) lo_8))))
  exact own_G.end_ X_11 hlk (v := none) (fun _ => rfl) (fun fs hr => X_11.returnOut hx hrt (hb hby d_jdk42150x_97) hr) e_11 ⟨q_8, kq_8, rfl, N_11, ((((Keep.refl h0 [a]).wr W_5 (Or.inl (List.mem_of_getElem? (i := 0) rfl))).trans K_8 all0).wr W_11 (Or.inl (List.mem_of_getElem? (i := 0) rfl))), (Nat.le_trans (Keep.of_wr W_5).1 lo_8), E0'_12, F_5'_13, F_11, V_8'_14⟩ (by decide) (by decide)
set_option maxRecDepth 65536 in
set_option maxHeartbeats 40000000 in
theorem rm_si1K (l : Launch) (Z : State) (a0 : Array Value) (hw : ∀ d ∈ tables_1, d.before a0 Z = true) (ws : List Jvm.Cond) (a sb : Addr) (b : Addr) (kb : ClassId) (vd : List Value) (zc : Int32) (h0 : Heap) (n0 : Nat) (Z0 : n0 ≤ h0.size) (ga : n0 ≤ a) (E0 : Exa Z h0 a "java/lang/String") (F1 : Fld Z h0 a "java/lang/String" "value" "[B" .null) (F2 : Fld Z h0 a "java/lang/String" "coder" "B" (.int (0 : Int32))) (hsa : sb ≠ a) (hba : b ≠ a) (ES : Exa Z h0 sb "java/lang/StringBuilder") (SV : Fld Z h0 sb "java/lang/AbstractStringBuilder" "value" "[B" (.ref b)) (SC : Fld Z h0 sb "java/lang/AbstractStringBuilder" "coder" "B" (.int (0 : Int32))) (SN : Fld Z h0 sb "java/lang/AbstractStringBuilder" "count" "I" (.int (16 : Int32))) (KB : Arv Z h0 b kb .byte (16 : Int32) vd (.int (0 : Int32))) (EB : Exa Z h0 b "[B") (O2 : Sta Z Z.heap "java/lang/String" "COMPACT_STRINGS" "Z" (.int zc)) (P5 : ¬ (zc = (0 : Int32))) (X00 : Old Z n0 h0) :
    MetFree l (⟨"java/lang/String", "<init>", "(Ljava/lang/StringBuilder;)V"⟩ : MethodName) (head1 (Jvm.Cond.code (⟨"java/lang/String", "<init>", "(Ljava/lang/StringBuilder;)V"⟩ : MethodName) jdk_42_method_53_code 2 none :: ws) ({ frames := 3, cells := 1, slots := 16, locals := 45 } : Room)) (fun a_ U => a_ = #[(.ref a), (.ref sb)] ∧ Z.Warmed39 U.vm ∧ U.heap = h0) (fun _ _ _ _ _ => True) (fun _ U o U' => ∃ v L, o = .returned v ∧ Qst Z a (16 : Int32) vd h0 n0 v U'.heap L ∧ FrameEnd U o U' L ({ frames := 3, cells := 1, slots := 16, locals := 45 } : Room).cells ({ frames := 3, cells := 1, slots := 16, locals := 45 } : Room).slots) := by
  refine MetFree.of_bodySF (plainFor_of_name pn_1) hisR ?_
  intro p e s m args below meth c s₁ Bd hml0 hP hK
  obtain ⟨rfl, hZ, hh⟩ := hP
  have hx := Bd.exec
  have hby := Bd.bytes
  have hrt := Bd.returns
  have hlk : meth.locks = false := Bd.notSynchronized
  have hml : c.maxLocals = 2 := hml0
  have hown : s.vm.findClass "java/lang/String" = some m.cls := findClass_of_methodNamed Bd.named
  have hnm := (name_of_methodNamed Bd.named Bd.method).1
  have X0 : Stand p l e ({ frames := 3, cells := 1, slots := 16, locals := 45 } : Room) s m #[(.ref a), (.ref sb)] below meth c s₁ [] 0 0 := Stand.of_body Bd
  have e0 : s₁.heap = h0 := by rw [← hh, Bd.state]; rfl
  have N0 := Fr.nil n0
  show own_G p.tables e below (fun o t => ∃ v L, o = .returned v ∧ Qst Z a (16 : Int32) vd h0 n0 v t.heap L ∧ FrameEnd s o t L ({ frames := 3, cells := 1, slots := 16, locals := 45 } : Room).cells ({ frames := 3, cells := 1, slots := 16, locals := 45 } : Room).slots) (s₁.setTop (entryFrame m #[(.ref a), (.ref sb)] 2))
  refine own_G.cast (show entryFrame m #[(.ref a), (.ref sb)] 2 = mkF m 0 #[.val (.ref a), .val (.ref sb)] [] from by first | (simp [entryFrame, mkF, argsToLocals, Value.category]; done) | rfl) ?_
  refine own_G.go (fun _ k => XS.aloadN X0.here hx rfl (hb hby d_jdk4253x_0) rfl rfl k) ?_
  show own_G _ _ _ _ (s₁.setTop (mkF m 1 #[.val (.ref a), .val (.ref sb)] [(.ref a)]))
  refine own_G.go (fun _ k => XS.aloadN X0.here hx rfl (hb hby d_jdk4253x_1) rfl rfl k) ?_
  show own_G _ _ _ _ (s₁.setTop (mkF m 2 #[.val (.ref a), .val (.ref sb)] [(.ref sb), (.ref a)]))
  refine own_G.go (fun _ k => XS.aconstNull X0.here hx rfl (hb hby d_jdk4253x_2) k) ?_
  show own_G _ _ _ _ (s₁.setTop (mkF m 3 #[.val (.ref a), .val (.ref sb)] [.null, (.ref sb), (.ref a)]))
  obtain ⟨_, T_1, L_1, Q_1, X_1, st_1⟩ := own_callI X0 hx rfl hown (mvT hZ (own_w hw 206 rfl)) (mvT hZ (own_w hw 207 rfl)) (mvT hZ (own_w hw 208 rfl)) (by decide) (Q := (Qst Z a (16 : Int32) vd h0 n0)) (backOf (W := 0) (rm_si2K l Z a0 hw [] a sb b kb vd zc h0 n0 Z0 ga E0 F1 F2 hsa hba ES SV SC SN KB EB O2 P5 X00) hZ (own_w hw 208 rfl) (own_w hw 6 rfl) (by decide) (by decide)) (a := a) (g := (mkF m 3 #[.val (.ref a), .val (.ref sb)] [.null, (.ref sb), (.ref a)])) rfl (by rw [hml]; rfl) (argsL := [(.ref sb), .null]) (rest := []) (lenOf pd_16 rfl) rfl (by show 2 * 0 + _ ≤ _; exact Nat.le_of_eq rfl) (hb hby d_jdk4253x_3) e0 rfl (by decide) (by decide)
  obtain ⟨t_1, kt_1, rfl, Nq_1, K_1, lo_1, Ex_1, Fc_1, Fv_1, V_1⟩ := Q_1
  refine own_G.via st_1 ?_
  have N_1 := Fr.app N0 Nq_1
  show own_G _ _ _ _ (T_1.setTop (mkF m 6 #[.val (.ref a), .val (.ref sb)] []))
  exact own_G.end_ X_1 hlk (v := none) (fun _ => rfl) (fun fs hr => X_1.returnOut hx hrt (hb hby d_jdk4253x_6) hr) rfl ⟨t_1, kt_1, rfl, N_1, ((Keep.refl h0 [a]).trans K_1 (allS (Or.inl (List.mem_of_getElem? (i := 0) rfl)) all0)), lo_1, Ex_1, Fc_1, Fv_1, V_1⟩ (by decide) (by decide)
set_option maxRecDepth 65536 in
set_option maxHeartbeats 40000000 in
theorem rm_stsK (l : Launch) (Z : State) (a0 : Array Value) (hw : ∀ d ∈ tables_1, d.before a0 Z = true) (ws : List Jvm.Cond) (sb : Addr) (b : Addr) (kb : ClassId) (vd : List Value) (zc : Int32) (h0 : Heap) (n0 : Nat) (Z0 : n0 ≤ h0.size) (ES : Exa Z h0 sb "java/lang/StringBuilder") (SV : Fld Z h0 sb "java/lang/AbstractStringBuilder" "value" "[B" (.ref b)) (SC : Fld Z h0 sb "java/lang/AbstractStringBuilder" "coder" "B" (.int (0 : Int32))) (SN : Fld Z h0 sb "java/lang/AbstractStringBuilder" "count" "I" (.int (16 : Int32))) (KB : Arv Z h0 b kb .byte (16 : Int32) vd (.int (0 : Int32))) (EB : Exa Z h0 b "[B") (O2 : Sta Z Z.heap "java/lang/String" "COMPACT_STRINGS" "Z" (.int zc)) (P5 : ¬ (zc = (0 : Int32))) (X00 : Old Z n0 h0) :
    MetFree l (⟨"java/lang/StringBuilder", "toString", "()Ljava/lang/String;"⟩ : MethodName) (head1 (Jvm.Cond.code (⟨"java/lang/StringBuilder", "toString", "()Ljava/lang/String;"⟩ : MethodName) jdk_67_method_42_code 1 (some (.object "java/lang/String")) :: ws) ({ frames := 4, cells := 2, slots := 20, locals := 59 } : Room)) (fun a_ U => a_ = #[(.ref sb)] ∧ Z.Warmed39 U.vm ∧ U.heap = h0) (fun _ _ _ _ _ => True) (fun _ U o U' => ∃ v L, o = .returned v ∧ Qts Z (16 : Int32) vd h0 n0 v U'.heap L ∧ FrameEnd U o U' L ({ frames := 4, cells := 2, slots := 20, locals := 59 } : Room).cells ({ frames := 4, cells := 2, slots := 20, locals := 59 } : Room).slots) := by
  refine MetFree.of_bodySF (plainFor_of_name pn_5) hisR ?_
  intro p e s m args below meth c s₁ Bd hml0 hP hK
  obtain ⟨rfl, hZ, hh⟩ := hP
  have hx := Bd.exec
  have hby := Bd.bytes
  have hrt := Bd.returns
  have hlk : meth.locks = false := Bd.notSynchronized
  have hml : c.maxLocals = 1 := hml0
  have hown : s.vm.findClass "java/lang/StringBuilder" = some m.cls := findClass_of_methodNamed Bd.named
  have hnm := (name_of_methodNamed Bd.named Bd.method).1
  have X0 : Stand p l e ({ frames := 4, cells := 2, slots := 20, locals := 59 } : Room) s m #[(.ref sb)] below meth c s₁ [] 0 0 := Stand.of_body Bd
  have e0 : s₁.heap = h0 := by rw [← hh, Bd.state]; rfl
  have N0 := Fr.nil n0
  show own_G p.tables e below (fun o t => ∃ v L, o = .returned v ∧ Qts Z (16 : Int32) vd h0 n0 v t.heap L ∧ FrameEnd s o t L ({ frames := 4, cells := 2, slots := 20, locals := 59 } : Room).cells ({ frames := 4, cells := 2, slots := 20, locals := 59 } : Room).slots) (s₁.setTop (entryFrame m #[(.ref sb)] 1))
  refine own_G.cast (show entryFrame m #[(.ref sb)] 1 = mkF m 0 #[.val (.ref sb)] [] from by first | (simp [entryFrame, mkF, argsToLocals, Value.category]; done) | rfl) ?_
  obtain ⟨T_1, h_1, X_1, e_1, E_1, A_1, D_1, -, st_1⟩ := newO X0 hx hZ hown (own_w hw 202 rfl) (own_w hw 5 rfl) (own_w hw 6 rfl) e0 (g := (mkF m 0 #[.val (.ref sb)] [])) rfl (hb hby d_jdk6742x_0) (by decide) (by decide)
  obtain ⟨a_1, g_1⟩ : ∃ z, z = h0.size := ⟨_, rfl⟩
  rw [← g_1] at A_1 D_1 st_1
  refine own_G.go st_1 ?_
  have F_1_value : Fld Z h_1 a_1 "java/lang/String" "value" "[B" .null := D_1 (Or.inr (own_w hw 20 rfl)) (ty := (.array .byte)) (by decide)
  have F_1_coder : Fld Z h_1 a_1 "java/lang/String" "coder" "B" (.int (0 : Int32)) := D_1 (Or.inr (own_w hw 21 rfl)) (ty := .byte) (by decide)
  show own_G _ _ _ _ (T_1.setTop (mkF m 3 #[.val (.ref sb)] [(.ref a_1)]))
  refine own_G.go (fun _ k => XS.dup X_1.here hx rfl (hb hby d_jdk6742x_3) rfl rfl k) ?_
  show own_G _ _ _ _ (T_1.setTop (mkF m 4 #[.val (.ref sb)] [(.ref a_1), (.ref a_1)]))
  refine own_G.go (fun _ k => XS.aloadN X_1.here hx rfl (hb hby d_jdk6742x_4) rfl rfl k) ?_
  show own_G _ _ _ _ (T_1.setTop (mkF m 5 #[.val (.ref sb)] [(.ref sb), (.ref a_1), (.ref a_1)]))
  have g0_a_1 : n0 ≤ a_1 := Nat.le_trans Z0 (Nat.le_of_eq g_1.symm)
  have ES'_2 : Exa Z h_1 sb "java/lang/StringBuilder" := (ES.ext E_1)
  have SV'_3 : Fld Z h_1 sb "java/lang/AbstractStringBuilder" "value" "[B" (.ref b) := (SV.ext E_1)
  have SC'_4 : Fld Z h_1 sb "java/lang/AbstractStringBuilder" "coder" "B" (.int (0 : Int32)) := (SC.ext E_1)
  have SN'_5 : Fld Z h_1 sb "java/lang/AbstractStringBuilder" "count" "I" (.int (16 : Int32)) := (SN.ext E_1)
  have KB'_6 : Arv Z h_1 b kb .byte (16 : Int32) vd (.int (0 : Int32)) := (KB.ext E_1)
  have EB'_7 : Exa Z h_1 b "[B" := (EB.ext E_1)
  have O_8d : Old Z n0 h_1 := (X00.ext E_1)
  obtain ⟨_, T_9, L_9, Q_9, X_9, st_9⟩ := own_callI X_1 hx rfl hown (mvT hZ (own_w hw 203 rfl)) (mvT hZ (own_w hw 204 rfl)) (mvT hZ (own_w hw 205 rfl)) (by decide) (Q := (Qst Z a_1 (16 : Int32) vd h_1 n0)) (backOf (W := 1) (rm_si1K l Z a0 hw [] a_1 sb b kb vd zc h_1 n0 (Nat.le_trans Z0 E_1.1) g0_a_1 A_1 F_1_value F_1_coder (Nat.ne_of_lt (Nat.lt_of_lt_of_le ES.lt (Nat.le_of_eq g_1.symm))) (Nat.ne_of_lt (Nat.lt_of_lt_of_le KB.lt (Nat.le_of_eq g_1.symm))) ES'_2 SV'_3 SC'_4 SN'_5 KB'_6 EB'_7 O2 P5 O_8d) hZ (own_w hw 205 rfl) (own_w hw 6 rfl) (by decide) (by decide)) (a := a_1) (g := (mkF m 5 #[.val (.ref sb)] [(.ref sb), (.ref a_1), (.ref a_1)])) rfl (by rw [hml]; rfl) (argsL := [(.ref sb)]) (rest := [(.ref a_1)]) (lenOf pd_17 rfl) rfl (by show 2 * 0 + _ ≤ _; exact Nat.le_of_eq rfl) (hb hby d_jdk6742x_5) e_1 rfl (by decide) (by decide)
  obtain ⟨t_9, kt_9, rfl, Nq_9, K_9, lo_9, Ex_9, Fc_9, Fv_9, V_9⟩ := Q_9
  refine own_G.via st_9 ?_
  have N_9 := Fr.app N0 Nq_9
  show own_G _ _ _ _ (T_9.setTop (mkF m 8 #[.val (.ref sb)] [(.ref a_1)]))
  exact own_G.end_ X_9 hlk (v := (some (.ref a_1))) (fun h => by rw [hrt] at h; cases h) (fun fs hr => retOut X_9 hx hrt rfl (Or.inr (Or.inr (Or.inr (Or.inr ⟨rfl, rfl, rfl⟩)))) (hb hby d_jdk6742x_8) hr) rfl ⟨a_1, t_9, kt_9, rfl, N_9, (((Keep.refl h0 []).ext E_1).trans K_9 (allS (Or.inr (Nat.le_of_eq g_1.symm)) all0)), (Nat.le_of_eq g_1.symm), Ex_9, Fc_9, Fv_9, V_9⟩ (by decide) (by decide)
theorem pn_6 : plainName "java/util/OptionalInt" = true := by first | (simp [plainName, overriddenIn]; done) | decide +kernel
theorem d_jdk26492x_0 : decode jdk_2649_method_2_code 0 = .ok (.getstatic 17, 3) := by decide +kernel
theorem d_jdk26492x_3 : decode jdk_2649_method_2_code 3 = .ok (.areturn, 1) := by decide +kernel
set_option maxRecDepth 65536 in
set_option maxHeartbeats 40000000 in
theorem rm_oe (l : Launch) (Z : State) (a0 : Array Value) (hw : ∀ d ∈ tables_1, d.before a0 Z = true) (ws : List Jvm.Cond) (em : Addr) (h0 : Heap) (n0 : Nat) (Z0 : n0 ≤ h0.size) (OE : Sta Z Z.heap "java/util/OptionalInt" "EMPTY" "Ljava/util/OptionalInt;" (.ref em)) (X00 : Old Z n0 h0) :
    MetFree l (⟨"java/util/OptionalInt", "empty", "()Ljava/util/OptionalInt;"⟩ : MethodName) (head1 (Jvm.Cond.code (⟨"java/util/OptionalInt", "empty", "()Ljava/util/OptionalInt;"⟩ : MethodName) jdk_2649_method_2_code 0 (some (.object "java/util/OptionalInt")) :: ws) ({ frames := 0, cells := 0, slots := 0, locals := 0 } : Room)) (fun a_ U => a_ = #[] ∧ Z.Warmed39 U.vm ∧ U.heap = h0) (fun _ _ _ _ _ => True) (fun _ U o U' => ∃ v L, o = .returned v ∧ Qp (.ref em) h0 v U'.heap L ∧ FrameEnd U o U' L ({ frames := 0, cells := 0, slots := 0, locals := 0 } : Room).cells ({ frames := 0, cells := 0, slots := 0, locals := 0 } : Room).slots) := by
  refine MetFree.of_bodySF (plainFor_of_name pn_6) hisR ?_
  intro p e s m args below meth c s₁ Bd hml0 hP hK
  obtain ⟨rfl, hZ, hh⟩ := hP
  have hx := Bd.exec
  have hby := Bd.bytes
  have hrt := Bd.returns
  have hlk : meth.locks = false := Bd.notSynchronized
  have hml : c.maxLocals = 0 := hml0
  have hown : s.vm.findClass "java/util/OptionalInt" = some m.cls := findClass_of_methodNamed Bd.named
  have hnm := (name_of_methodNamed Bd.named Bd.method).1
  have X0 : Stand p l e ({ frames := 0, cells := 0, slots := 0, locals := 0 } : Room) s m #[] below meth c s₁ [] 0 0 := Stand.of_body Bd
  have e0 : s₁.heap = h0 := by rw [← hh, Bd.state]; rfl
  have N0 := Fr.nil n0
  show own_G p.tables e below (fun o t => ∃ v L, o = .returned v ∧ Qp (.ref em) h0 v t.heap L ∧ FrameEnd s o t L ({ frames := 0, cells := 0, slots := 0, locals := 0 } : Room).cells ({ frames := 0, cells := 0, slots := 0, locals := 0 } : Room).slots) (s₁.setTop (entryFrame m #[] 0))
  refine own_G.cast (show entryFrame m #[] 0 = mkF m 0 #[] [] from by first | (simp [entryFrame, mkF, argsToLocals, Value.category]; done) | rfl) ?_
  obtain ⟨T_1, X_1, e_1, st_1⟩ := getS2 X0 hx hZ hown (host := "") (Or.inl (own_w hw 59 rfl)) Via.refl e0 (OE.ext X00.2) (g := (mkF m 0 #[] [])) rfl (hb hby d_jdk26492x_0)
  refine own_G.go st_1 ?_
  show own_G _ _ _ _ (T_1.setTop (mkF m 3 #[] [(.ref em)]))
  exact own_G.end_ X_1 hlk (v := (some (.ref em))) (fun h => by rw [hrt] at h; cases h) (fun fs hr => retOut X_1 hx hrt rfl (Or.inr (Or.inr (Or.inr (Or.inr ⟨rfl, rfl, rfl⟩)))) (hb hby d_jdk26492x_3) hr) e_1 ⟨rfl, rfl, rfl⟩ (by decide) (by decide)
theorem pn_7 : plainName "java/util/Map" = true := by first | (simp [plainName, overriddenIn]; done) | decide +kernel
theorem d_jdk7226x_0 : decode jdk_72_method_26_code 0 = .ok (.getstatic 81, 3) := by decide +kernel
theorem d_jdk7226x_3 : decode jdk_72_method_26_code 3 = .ok (.areturn, 1) := by decide +kernel
set_option maxRecDepth 65536 in
set_option maxHeartbeats 40000000 in
theorem rm_mo (l : Launch) (Z : State) (a0 : Array Value) (hw : ∀ d ∈ tables_1, d.before a0 Z = true) (ws : List Jvm.Cond) (mp : Addr) (h0 : Heap) (n0 : Nat) (Z0 : n0 ≤ h0.size) (OM : Sta Z Z.heap "java/util/ImmutableCollections" "EMPTY_MAP" "Ljava/util/ImmutableCollections$MapN;" (.ref mp)) (X00 : Old Z n0 h0) :
    MetFree l (⟨"java/util/Map", "of", "()Ljava/util/Map;"⟩ : MethodName) (head1 (Jvm.Cond.code (⟨"java/util/Map", "of", "()Ljava/util/Map;"⟩ : MethodName) jdk_72_method_26_code 0 (some (.object "java/util/Map")) :: ws) ({ frames := 0, cells := 0, slots := 0, locals := 0 } : Room)) (fun a_ U => a_ = #[] ∧ Z.Warmed39 U.vm ∧ U.heap = h0) (fun _ _ _ _ _ => True) (fun _ U o U' => ∃ v L, o = .returned v ∧ Qp (.ref mp) h0 v U'.heap L ∧ FrameEnd U o U' L ({ frames := 0, cells := 0, slots := 0, locals := 0 } : Room).cells ({ frames := 0, cells := 0, slots := 0, locals := 0 } : Room).slots) := by
  refine MetFree.of_bodySF (plainFor_of_name pn_7) hisR ?_
  intro p e s m args below meth c s₁ Bd hml0 hP hK
  obtain ⟨rfl, hZ, hh⟩ := hP
  have hx := Bd.exec
  have hby := Bd.bytes
  have hrt := Bd.returns
  have hlk : meth.locks = false := Bd.notSynchronized
  have hml : c.maxLocals = 0 := hml0
  have hown : s.vm.findClass "java/util/Map" = some m.cls := findClass_of_methodNamed Bd.named
  have hnm := (name_of_methodNamed Bd.named Bd.method).1
  have X0 : Stand p l e ({ frames := 0, cells := 0, slots := 0, locals := 0 } : Room) s m #[] below meth c s₁ [] 0 0 := Stand.of_body Bd
  have e0 : s₁.heap = h0 := by rw [← hh, Bd.state]; rfl
  have N0 := Fr.nil n0
  show own_G p.tables e below (fun o t => ∃ v L, o = .returned v ∧ Qp (.ref mp) h0 v t.heap L ∧ FrameEnd s o t L ({ frames := 0, cells := 0, slots := 0, locals := 0 } : Room).cells ({ frames := 0, cells := 0, slots := 0, locals := 0 } : Room).slots) (s₁.setTop (entryFrame m #[] 0))
  refine own_G.cast (show entryFrame m #[] 0 = mkF m 0 #[] [] from by first | (simp [entryFrame, mkF, argsToLocals, Value.category]; done) | rfl) ?_
  obtain ⟨T_1, X_1, e_1, st_1⟩ := getS2 X0 hx hZ hown (host := "") (Or.inl (own_w hw 66 rfl)) Via.refl e0 (OM.ext X00.2) (g := (mkF m 0 #[] [])) rfl (hb hby d_jdk7226x_0)
  refine own_G.go st_1 ?_
  show own_G _ _ _ _ (T_1.setTop (mkF m 3 #[] [(.ref mp)]))
  exact own_G.end_ X_1 hlk (v := (some (.ref mp))) (fun h => by rw [hrt] at h; cases h) (fun fs hr => retOut X_1 hx hrt rfl (Or.inr (Or.inr (Or.inr (Or.inr ⟨rfl, rfl, rfl⟩)))) (hb hby d_jdk7226x_3) hr) e_1 ⟨rfl, rfl, rfl⟩ (by decide) (by decide)
def Qsi (Z : State) (a rq io em mp : Addr) (h0 : Heap) (n0 : Nat) (v : Option Value) (h : Heap) (L : List Loc) : Prop := v = none ∧ Fr n0 L ∧ Keep h0 h [a] ∧ Exa Z h a "com/example/enlist/enlist/definition/TransactionDefinition$Settings" ∧ Fld Z h a "com/example/enlist/enlist/definition/TransactionDefinition$Settings" "name" "Ljava/lang/String;" .null ∧ Fld Z h a "com/example/enlist/enlist/definition/TransactionDefinition$Settings" "propagation" "Lcom/example/enlist/enlist/definition/Propagation;" (.ref rq) ∧ Fld Z h a "com/example/enlist/enlist/definition/TransactionDefinition$Settings" "isolation" "Lcom/example/enlist/enlist/definition/Isolation;" (.ref io) ∧ Fld Z h a "com/example/enlist/enlist/definition/TransactionDefinition$Settings" "readOnly" "Z" (.int (0 : Int32)) ∧ Fld Z h a "com/example/enlist/enlist/definition/TransactionDefinition$Settings" "timeout" "Ljava/util/OptionalInt;" (.ref em) ∧ Fld Z h a "com/example/enlist/enlist/definition/TransactionDefinition$Settings" "rollbackRules" "Ljava/util/Map;" (.ref mp)
theorem pn_8 : plainName "com/example/enlist/enlist/definition/TransactionDefinition$Settings" = true := by first | (simp [plainName, overriddenIn]; done) | decide +kernel
theorem pd_18 : parseMethodDescriptor "()Ljava/util/OptionalInt;" = some ⟨[], some (.object "java/util/OptionalInt")⟩ := by decide +kernel
theorem pd_19 : parseMethodDescriptor "()Ljava/util/Map;" = some ⟨[], some (.object "java/util/Map")⟩ := by decide +kernel
theorem d_prog81x_0 : decode prog_8_method_1_code 0 = .ok (.aload_n 0, 1) := by decide +kernel
theorem d_prog81x_1 : decode prog_8_method_1_code 1 = .ok (.invokespecial 1, 3) := by decide +kernel
theorem d_prog81x_4 : decode prog_8_method_1_code 4 = .ok (.aload_n 0, 1) := by decide +kernel
theorem d_prog81x_5 : decode prog_8_method_1_code 5 = .ok (.getstatic 7, 3) := by decide +kernel
theorem d_prog81x_8 : decode prog_8_method_1_code 8 = .ok (.putfield 13, 3) := by decide +kernel
theorem d_prog81x_11 : decode prog_8_method_1_code 11 = .ok (.aload_n 0, 1) := by decide +kernel
theorem d_prog81x_12 : decode prog_8_method_1_code 12 = .ok (.getstatic 18, 3) := by decide +kernel
theorem d_prog81x_15 : decode prog_8_method_1_code 15 = .ok (.putfield 24, 3) := by decide +kernel
theorem d_prog81x_18 : decode prog_8_method_1_code 18 = .ok (.aload_n 0, 1) := by decide +kernel
theorem d_prog81x_19 : decode prog_8_method_1_code 19 = .ok (.invokestatic 27, 3) := by decide +kernel
theorem d_prog81x_22 : decode prog_8_method_1_code 22 = .ok (.putfield 33, 3) := by decide +kernel
theorem d_prog81x_25 : decode prog_8_method_1_code 25 = .ok (.aload_n 0, 1) := by decide +kernel
theorem d_prog81x_26 : decode prog_8_method_1_code 26 = .ok (.invokestatic 37, 3) := by decide +kernel
theorem d_prog81x_29 : decode prog_8_method_1_code 29 = .ok (.putfield 43, 3) := by decide +kernel
theorem d_prog81x_32 : decode prog_8_method_1_code 32 = .ok (.return_, 1) := by decide +kernel
set_option maxRecDepth 65536 in
set_option maxHeartbeats 40000000 in
theorem rm_sin (l : Launch) (Z : State) (a0 : Array Value) (hw : ∀ d ∈ tables_1, d.before a0 Z = true) (ws : List Jvm.Cond) (a rq io em mp : Addr) (h0 : Heap) (n0 : Nat) (Z0 : n0 ≤ h0.size) (ga : n0 ≤ a) (E0 : Exa Z h0 a "com/example/enlist/enlist/definition/TransactionDefinition$Settings") (GF0 : Fld Z h0 a "com/example/enlist/enlist/definition/TransactionDefinition$Settings" "name" "Ljava/lang/String;" .null) (GF1 : Fld Z h0 a "com/example/enlist/enlist/definition/TransactionDefinition$Settings" "propagation" "Lcom/example/enlist/enlist/definition/Propagation;" .null) (GF2 : Fld Z h0 a "com/example/enlist/enlist/definition/TransactionDefinition$Settings" "isolation" "Lcom/example/enlist/enlist/definition/Isolation;" .null) (GF3 : Fld Z h0 a "com/example/enlist/enlist/definition/TransactionDefinition$Settings" "readOnly" "Z" (.int (0 : Int32))) (GF4 : Fld Z h0 a "com/example/enlist/enlist/definition/TransactionDefinition$Settings" "timeout" "Ljava/util/OptionalInt;" .null) (GF5 : Fld Z h0 a "com/example/enlist/enlist/definition/TransactionDefinition$Settings" "rollbackRules" "Ljava/util/Map;" .null) (OR : Sta Z Z.heap "com/example/enlist/enlist/definition/Propagation" "REQUIRED" "Lcom/example/enlist/enlist/definition/Propagation;" (.ref rq)) (OI : Sta Z Z.heap "com/example/enlist/enlist/definition/Isolation" "DEFAULT" "Lcom/example/enlist/enlist/definition/Isolation;" (.ref io)) (OE : Sta Z Z.heap "java/util/OptionalInt" "EMPTY" "Ljava/util/OptionalInt;" (.ref em)) (OM : Sta Z Z.heap "java/util/ImmutableCollections" "EMPTY_MAP" "Ljava/util/ImmutableCollections$MapN;" (.ref mp)) (X00 : Old Z n0 h0) :
    MetFree l (⟨"com/example/enlist/enlist/definition/TransactionDefinition$Settings", "<init>", "()V"⟩ : MethodName) (head1 (Jvm.Cond.code (⟨"com/example/enlist/enlist/definition/TransactionDefinition$Settings", "<init>", "()V"⟩ : MethodName) prog_8_method_1_code 1 none :: ws) ({ frames := 1, cells := 0, slots := 0, locals := 12 } : Room)) (fun a_ U => a_ = #[(.ref a)] ∧ Z.Warmed39 U.vm ∧ U.heap = h0) (fun _ _ _ _ _ => True) (fun _ U o U' => ∃ v L, o = .returned v ∧ Qsi Z a rq io em mp h0 n0 v U'.heap L ∧ FrameEnd U o U' L ({ frames := 1, cells := 0, slots := 0, locals := 12 } : Room).cells ({ frames := 1, cells := 0, slots := 0, locals := 12 } : Room).slots) := by
  refine MetFree.of_bodySF (plainFor_of_name pn_8) hisR ?_
  intro p e s m args below meth c s₁ Bd hml0 hP hK
  obtain ⟨rfl, hZ, hh⟩ := hP
  have hx := Bd.exec
  have hby := Bd.bytes
  have hrt := Bd.returns
  have hlk : meth.locks = false := Bd.notSynchronized
  have hml : c.maxLocals = 1 := hml0
  have hown : s.vm.findClass "com/example/enlist/enlist/definition/TransactionDefinition$Settings" = some m.cls := findClass_of_methodNamed Bd.named
  have hnm := (name_of_methodNamed Bd.named Bd.method).1
  have X0 : Stand p l e ({ frames := 1, cells := 0, slots := 0, locals := 12 } : Room) s m #[(.ref a)] below meth c s₁ [] 0 0 := Stand.of_body Bd
  have e0 : s₁.heap = h0 := by rw [← hh, Bd.state]; rfl
  have N0 := Fr.nil n0
  show own_G p.tables e below (fun o t => ∃ v L, o = .returned v ∧ Qsi Z a rq io em mp h0 n0 v t.heap L ∧ FrameEnd s o t L ({ frames := 1, cells := 0, slots := 0, locals := 12 } : Room).cells ({ frames := 1, cells := 0, slots := 0, locals := 12 } : Room).slots) (s₁.setTop (entryFrame m #[(.ref a)] 1))
  refine own_G.cast (show entryFrame m #[(.ref a)] 1 = mkF m 0 #[.val (.ref a)] [] from by first | (simp [entryFrame, mkF, argsToLocals, Value.category]; done) | rfl) ?_
  refine own_G.go (fun _ k => XS.aloadN X0.here hx rfl (hb hby d_prog81x_0) rfl rfl k) ?_
  show own_G _ _ _ _ (s₁.setTop (mkF m 1 #[.val (.ref a)] [(.ref a)]))
  obtain ⟨T_1, X_1, e_1, st_1⟩ := initO X0 hx hZ hown (own_w hw 44 rfl) (own_w hw 16 rfl) (own_w hw 17 rfl) e0 (g := (mkF m 1 #[.val (.ref a)] [(.ref a)])) rfl (by rw [hml]; rfl) rfl (hb hby d_prog81x_1) (by decide) (W := 0) (by show 2 * 0 + _ ≤ _; exact Nat.le_of_eq rfl) (by decide)
  refine own_G.go st_1 ?_
  show own_G _ _ _ _ (T_1.setTop (mkF m 4 #[.val (.ref a)] []))
  refine own_G.go (fun _ k => XS.aloadN X_1.here hx rfl (hb hby d_prog81x_4) rfl rfl k) ?_
  show own_G _ _ _ _ (T_1.setTop (mkF m 5 #[.val (.ref a)] [(.ref a)]))
  obtain ⟨T_2, X_2, e_2, st_2⟩ := getS2 X_1 hx hZ hown (host := "") (Or.inl (own_w hw 45 rfl)) Via.refl e_1 (OR.ext X00.2) (g := (mkF m 5 #[.val (.ref a)] [(.ref a)])) rfl (hb hby d_prog81x_5)
  refine own_G.go st_2 ?_
  show own_G _ _ _ _ (T_2.setTop (mkF m 8 #[.val (.ref a)] [(.ref rq), (.ref a)]))
  obtain ⟨T_3, h_3, X_3, e_3, W_3, st_3⟩ := putF X_2 hx hZ hown (host := "") (Or.inl (own_w hw 48 rfl)) Via.refl e_2 GF1 E0 (Or.inl (own_w hw 49 rfl)) (own_w hw 40 rfl) (ty := (.object "com/example/enlist/enlist/definition/Propagation")) (by decide) rfl rfl (g := (mkF m 8 #[.val (.ref a)] [(.ref rq), (.ref a)])) rfl rfl (hb hby d_prog81x_8)
  refine own_G.go st_3 ?_
  have F_3 : Fld Z h_3 a "com/example/enlist/enlist/definition/TransactionDefinition$Settings" "propagation" "Lcom/example/enlist/enlist/definition/Propagation;" (.ref rq) := GF1.same W_3
  have N_3 := Fr.snoc X_3 N0 ga
  show own_G _ _ _ _ (T_3.setTop (mkF m 11 #[.val (.ref a)] []))
  refine own_G.go (fun _ k => XS.aloadN X_3.here hx rfl (hb hby d_prog81x_11) rfl rfl k) ?_
  show own_G _ _ _ _ (T_3.setTop (mkF m 12 #[.val (.ref a)] [(.ref a)]))
  have O_4d : Old Z n0 h_3 := (X00.wr W_3 ga)
  obtain ⟨T_5, X_5, e_5, st_5⟩ := getS2 X_3 hx hZ hown (host := "") (Or.inl (own_w hw 50 rfl)) Via.refl e_3 (OI.ext O_4d.2) (g := (mkF m 12 #[.val (.ref a)] [(.ref a)])) rfl (hb hby d_prog81x_12)
  refine own_G.go st_5 ?_
  show own_G _ _ _ _ (T_5.setTop (mkF m 15 #[.val (.ref a)] [(.ref io), (.ref a)]))
  have GF2'_6 : Fld Z h_3 a "com/example/enlist/enlist/definition/TransactionDefinition$Settings" "isolation" "Lcom/example/enlist/enlist/definition/Isolation;" .null := (GF2.other W_3 (Or.inr (slot_ne (C := "com/example/enlist/enlist/definition/TransactionDefinition$Settings") (Or.inl (own_w hw 54 rfl)) (Or.inl (own_w hw 49 rfl)) (by decide) (by decide : parseFieldDescriptor "Lcom/example/enlist/enlist/definition/Isolation;" = some (.object "com/example/enlist/enlist/definition/Isolation")) (by decide : parseFieldDescriptor "Lcom/example/enlist/enlist/definition/Propagation;" = some (.object "com/example/enlist/enlist/definition/Propagation")))))
  have E0'_7 : Exa Z h_3 a "com/example/enlist/enlist/definition/TransactionDefinition$Settings" := (E0.wr W_3)
  obtain ⟨T_8, h_8, X_8, e_8, W_8, st_8⟩ := putF X_5 hx hZ hown (host := "") (Or.inl (own_w hw 53 rfl)) Via.refl e_5 GF2'_6 E0'_7 (Or.inl (own_w hw 54 rfl)) (own_w hw 40 rfl) (ty := (.object "com/example/enlist/enlist/definition/Isolation")) (by decide) rfl rfl (g := (mkF m 15 #[.val (.ref a)] [(.ref io), (.ref a)])) rfl rfl (hb hby d_prog81x_15)
  refine own_G.go st_8 ?_
  have F_8 : Fld Z h_8 a "com/example/enlist/enlist/definition/TransactionDefinition$Settings" "isolation" "Lcom/example/enlist/enlist/definition/Isolation;" (.ref io) := GF2'_6.same W_8
  have N_8 := Fr.snoc X_8 N_3 ga
  show own_G _ _ _ _ (T_8.setTop (mkF m 18 #[.val (.ref a)] []))
  refine own_G.go (fun _ k => XS.aloadN X_8.here hx rfl (hb hby d_prog81x_18) rfl rfl k) ?_
  show own_G _ _ _ _ (T_8.setTop (mkF m 19 #[.val (.ref a)] [(.ref a)]))
  have O_9d : Old Z n0 h_8 := (O_4d.wr W_8 ga)
  obtain ⟨_, T_10, L_10, Q_10, X_10, st_10⟩ := own_callS X_8 hx hown (mvT hZ (own_w hw 55 rfl)) (mvT hZ (own_w hw 56 rfl)) (mvT hZ (own_w hw 57 rfl)) (mvT hZ (own_w hw 58 rfl)) (by decide) (Q := (Qp (.ref em) h_8)) (backOf (W := 1) (rm_oe l Z a0 hw [] em h_8 n0 (Nat.le_trans Z0 (Nat.le_trans (Keep.of_wr W_3).1 (Keep.of_wr W_8).1)) OE O_9d) hZ (own_w hw 58 rfl) (own_w hw 57 rfl) (by decide) (by decide)) (g := (mkF m 19 #[.val (.ref a)] [(.ref a)])) rfl (by rw [hml]; rfl) (argsL := []) (rest := [(.ref a)]) (lenOf pd_18 rfl) rfl (by show 2 * 0 + _ ≤ _; exact Nat.le_of_eq rfl) (hb hby d_prog81x_19) e_8 rfl (by decide) (by decide)
  obtain ⟨rfl, rfl, eh_10⟩ := Q_10
  refine own_G.via st_10 ?_
  have N_10 := Fr.app N_8 (Fr.nil n0)
  show own_G _ _ _ _ (T_10.setTop (mkF m 22 #[.val (.ref a)] [(.ref em), (.ref a)]))
  have GF4'_11 : Fld Z h_8 a "com/example/enlist/enlist/definition/TransactionDefinition$Settings" "timeout" "Ljava/util/OptionalInt;" .null := ((GF4.other W_3 (Or.inr (slot_ne (C := "com/example/enlist/enlist/definition/TransactionDefinition$Settings") (Or.inl (own_w hw 61 rfl)) (Or.inl (own_w hw 49 rfl)) (by decide) (by decide : parseFieldDescriptor "Ljava/util/OptionalInt;" = some (.object "java/util/OptionalInt")) (by decide : parseFieldDescriptor "Lcom/example/enlist/enlist/definition/Propagation;" = some (.object "com/example/enlist/enlist/definition/Propagation"))))).other W_8 (Or.inr (slot_ne (C := "com/example/enlist/enlist/definition/TransactionDefinition$Settings") (Or.inl (own_w hw 61 rfl)) (Or.inl (own_w hw 54 rfl)) (by decide) (by decide : parseFieldDescriptor "Ljava/util/OptionalInt;" = some (.object "java/util/OptionalInt")) (by decide : parseFieldDescriptor "Lcom/example/enlist/enlist/definition/Isolation;" = some (.object "com/example/enlist/enlist/definition/Isolation")))))
  have E0'_12 : Exa Z h_8 a "com/example/enlist/enlist/definition/TransactionDefinition$Settings" := (E0'_7.wr W_8)
  obtain ⟨T_13, h_13, X_13, e_13, W_13, st_13⟩ := putF X_10 hx hZ hown (host := "") (Or.inl (own_w hw 60 rfl)) Via.refl eh_10 GF4'_11 E0'_12 (Or.inl (own_w hw 61 rfl)) (own_w hw 40 rfl) (ty := (.object "java/util/OptionalInt")) (by decide) rfl rfl (g := (mkF m 22 #[.val (.ref a)] [(.ref em), (.ref a)])) rfl rfl (hb hby d_prog81x_22)
  refine own_G.go st_13 ?_
  have F_13 : Fld Z h_13 a "com/example/enlist/enlist/definition/TransactionDefinition$Settings" "timeout" "Ljava/util/OptionalInt;" (.ref em) := GF4'_11.same W_13
  have N_13 := Fr.snoc X_13 N_10 ga
  show own_G _ _ _ _ (T_13.setTop (mkF m 25 #[.val (.ref a)] []))
  refine own_G.go (fun _ k => XS.aloadN X_13.here hx rfl (hb hby d_prog81x_25) rfl rfl k) ?_
  show own_G _ _ _ _ (T_13.setTop (mkF m 26 #[.val (.ref a)] [(.ref a)]))
  have O_14d : Old Z n0 h_13 := (O_9d.wr W_13 ga)
  obtain ⟨_, T_15, L_15, Q_15, X_15, st_15⟩ := own_callS X_13 hx hown (mvT hZ (own_w hw 62 rfl)) (mvT hZ (own_w hw 63 rfl)) (mvT hZ (own_w hw 64 rfl)) (mvT hZ (own_w hw 65 rfl)) (by decide) (Q := (Qp (.ref mp) h_13)) (backOf (W := 1) (rm_mo l Z a0 hw [] mp h_13 n0 (Nat.le_trans Z0 (Nat.le_trans (Nat.le_trans (Keep.of_wr W_3).1 (Keep.of_wr W_8).1) (Keep.of_wr W_13).1)) OM O_14d) hZ (own_w hw 65 rfl) (own_w hw 64 rfl) (by decide) (by decide)) (g := (mkF m 26 #[.val (.ref a)] [(.ref a)])) rfl (by rw [hml]; rfl) (argsL := []) (rest := [(.ref a)]) (lenOf pd_19 rfl) rfl (by show 2 * 0 + _ ≤ _; exact Nat.le_of_eq rfl) (hb hby d_prog81x_26) e_13 rfl (by decide) (by decide)
  obtain ⟨rfl, rfl, eh_15⟩ := Q_15
  refine own_G.via st_15 ?_
  have N_15 := Fr.app N_13 (Fr.nil n0)
  show own_G _ _ _ _ (T_15.setTop (mkF m 29 #[.val (.ref a)] [(.ref mp), (.ref a)]))
  have GF5'_16 : Fld Z h_13 a "com/example/enlist/enlist/definition/TransactionDefinition$Settings" "rollbackRules" "Ljava/util/Map;" .null := (((GF5.other W_3 (Or.inr (slot_ne (C := "com/example/enlist/enlist/definition/TransactionDefinition$Settings") (Or.inl (own_w hw 69 rfl)) (Or.inl (own_w hw 49 rfl)) (by decide) (by decide : parseFieldDescriptor "Ljava/util/Map;" = some (.object "java/util/Map")) (by decide : parseFieldDescriptor "Lcom/example/enlist/enlist/definition/Propagation;" = some (.object "com/example/enlist/enlist/definition/Propagation"))))).other W_8 (Or.inr (slot_ne (C := "com/example/enlist/enlist/definition/TransactionDefinition$Settings") (Or.inl (own_w hw 69 rfl)) (Or.inl (own_w hw 54 rfl)) (by decide) (by decide : parseFieldDescriptor "Ljava/util/Map;" = some (.object "java/util/Map")) (by decide : parseFieldDescriptor "Lcom/example/enlist/enlist/definition/Isolation;" = some (.object "com/example/enlist/enlist/definition/Isolation"))))).other W_13 (Or.inr (slot_ne (C := "com/example/enlist/enlist/definition/TransactionDefinition$Settings") (Or.inl (own_w hw 69 rfl)) (Or.inl (own_w hw 61 rfl)) (by decide) (by decide : parseFieldDescriptor "Ljava/util/Map;" = some (.object "java/util/Map")) (by decide : parseFieldDescriptor "Ljava/util/OptionalInt;" = some (.object "java/util/OptionalInt")))))
  have E0'_17 : Exa Z h_13 a "com/example/enlist/enlist/definition/TransactionDefinition$Settings" := (E0'_12.wr W_13)
  obtain ⟨T_18, h_18, X_18, e_18, W_18, st_18⟩ := putF X_15 hx hZ hown (host := "") (Or.inl (own_w hw 68 rfl)) Via.refl eh_15 GF5'_16 E0'_17 (Or.inl (own_w hw 69 rfl)) (own_w hw 40 rfl) (ty := (.object "java/util/Map")) (by decide) rfl rfl (g := (mkF m 29 #[.val (.ref a)] [(.ref mp), (.ref a)])) rfl rfl (hb hby d_prog81x_29)
  refine own_G.go st_18 ?_
  have F_18 : Fld Z h_18 a "com/example/enlist/enlist/definition/TransactionDefinition$Settings" "rollbackRules" "Ljava/util/Map;" (.ref mp) := GF5'_16.same W_18
  have N_18 := Fr.snoc X_18 N_15 ga
  show own_G _ _ _ _ (T_18.setTop (mkF m 32 #[.val (.ref a)] []))
  have E0'_19 : Exa Z h_18 a "com/example/enlist/enlist/definition/TransactionDefinition$Settings" := (E0'_17.wr W_18)
  have GF0'_20 : Fld Z h_18 a "com/example/enlist/enlist/definition/TransactionDefinition$Settings" "name" "Ljava/lang/String;" .null := ((((GF0.other W_3 (Or.inr (slot_ne (C := "com/example/enlist/enlist/definition/TransactionDefinition$Settings") (Or.inl (own_w hw 71 rfl)) (Or.inl (own_w hw 49 rfl)) (by decide) (by decide : parseFieldDescriptor "Ljava/lang/String;" = some (.object "java/lang/String")) (by decide : parseFieldDescriptor "Lcom/example/enlist/enlist/definition/Propagation;" = some (.object "com/example/enlist/enlist/definition/Propagation"))))).other W_8 (Or.inr (slot_ne (C := "com/example/enlist/enlist/definition/TransactionDefinition$Settings") (Or.inl (own_w hw 71 rfl)) (Or.inl (own_w hw 54 rfl)) (by decide) (by decide : parseFieldDescriptor "Ljava/lang/String;" = some (.object "java/lang/String")) (by decide : parseFieldDescriptor "Lcom/example/enlist/enlist/definition/Isolation;" = some (.object "com/example/enlist/enlist/definition/Isolation"))))).other W_13 (Or.inr (slot_ne (C := "com/example/enlist/enlist/definition/TransactionDefinition$Settings") (Or.inl (own_w hw 71 rfl)) (Or.inl (own_w hw 61 rfl)) (by decide) (by decide : parseFieldDescriptor "Ljava/lang/String;" = some (.object "java/lang/String")) (by decide : parseFieldDescriptor "Ljava/util/OptionalInt;" = some (.object "java/util/OptionalInt"))))).other W_18 (Or.inr (slot_ne (C := "com/example/enlist/enlist/definition/TransactionDefinition$Settings") (Or.inl (own_w hw 71 rfl)) (Or.inl (own_w hw 69 rfl)) (by decide) (by decide : parseFieldDescriptor "Ljava/lang/String;" = some (.object "java/lang/String")) (by decide : parseFieldDescriptor "Ljava/util/Map;" = some (.object "java/util/Map")))))
  have F_3'_21 : Fld Z h_18 a "com/example/enlist/enlist/definition/TransactionDefinition$Settings" "propagation" "Lcom/example/enlist/enlist/definition/Propagation;" (.ref rq) := (((F_3.other W_8 (Or.inr (slot_ne (C := "com/example/enlist/enlist/definition/TransactionDefinition$Settings") (Or.inl (own_w hw 49 rfl)) (Or.inl (own_w hw 54 rfl)) (by decide) (by decide : parseFieldDescriptor "Lcom/example/enlist/enlist/definition/Propagation;" = some (.object "com/example/enlist/enlist/definition/Propagation")) (by decide : parseFieldDescriptor "Lcom/example/enlist/enlist/definition/Isolation;" = some (.object "com/example/enlist/enlist/definition/Isolation"))))).other W_13 (Or.inr (slot_ne (C := "com/example/enlist/enlist/definition/TransactionDefinition$Settings") (Or.inl (own_w hw 49 rfl)) (Or.inl (own_w hw 61 rfl)) (by decide) (by decide : parseFieldDescriptor "Lcom/example/enlist/enlist/definition/Propagation;" = some (.object "com/example/enlist/enlist/definition/Propagation")) (by decide : parseFieldDescriptor "Ljava/util/OptionalInt;" = some (.object "java/util/OptionalInt"))))).other W_18 (Or.inr (slot_ne (C := "com/example/enlist/enlist/definition/TransactionDefinition$Settings") (Or.inl (own_w hw 49 rfl)) (Or.inl (own_w hw 69 rfl)) (by decide) (by decide : parseFieldDescriptor "Lcom/example/enlist/enlist/definition/Propagation;" = some (.object "com/example/enlist/enlist/definition/Propagation")) (by decide : parseFieldDescriptor "Ljava/util/Map;" = some (.object "java/util/Map")))))
  have F_8'_22 : Fld Z h_18 a "com/example/enlist/enlist/definition/TransactionDefinition$Settings" "isolation" "Lcom/example/enlist/enlist/definition/Isolation;" (.ref io) := ((F_8.other W_13 (Or.inr (slot_ne (C := "com/example/enlist/enlist/definition/TransactionDefinition$Settings") (Or.inl (own_w hw 54 rfl)) (Or.inl (own_w hw 61 rfl)) (by decide) (by decide : parseFieldDescriptor "Lcom/example/enlist/enlist/definition/Isolation;" = some (.object "com/example/enlist/enlist/definition/Isolation")) (by decide : parseFieldDescriptor "Ljava/util/OptionalInt;" = some (.object "java/util/OptionalInt"))))).other W_18 (Or.inr (slot_ne (C := "com/example/enlist/enlist/definition/TransactionDefinition$Settings") (Or.inl (own_w hw 54 rfl)) (Or.inl (own_w hw 69 rfl)) (by decide) (by decide : parseFieldDescriptor "Lcom/example/enlist/enlist/definition/Isolation;" = some (.object "com/example/enlist/enlist/definition/Isolation")) (by decide : parseFieldDescriptor "Ljava/util/Map;" = some (.object "java/util/Map")))))
  have GF3'_23 : Fld Z h_18 a "com/example/enlist/enlist/definition/TransactionDefinition$Settings" "readOnly" "Z" (.int (0 : Int32)) := ((((GF3.other W_3 (Or.inr (slot_ne (C := "com/example/enlist/enlist/definition/TransactionDefinition$Settings") (Or.inl (own_w hw 73 rfl)) (Or.inl (own_w hw 49 rfl)) (by decide) (by decide : parseFieldDescriptor "Z" = some .boolean) (by decide : parseFieldDescriptor "Lcom/example/enlist/enlist/definition/Propagation;" = some (.object "com/example/enlist/enlist/definition/Propagation"))))).other W_8 (Or.inr (slot_ne (C := "com/example/enlist/enlist/definition/TransactionDefinition$Settings") (Or.inl (own_w hw 73 rfl)) (Or.inl (own_w hw 54 rfl)) (by decide) (by decide : parseFieldDescriptor "Z" = some .boolean) (by decide : parseFieldDescriptor "Lcom/example/enlist/enlist/definition/Isolation;" = some (.object "com/example/enlist/enlist/definition/Isolation"))))).other W_13 (Or.inr (slot_ne (C := "com/example/enlist/enlist/definition/TransactionDefinition$Settings") (Or.inl (own_w hw 73 rfl)) (Or.inl (own_w hw 61 rfl)) (by decide) (by decide : parseFieldDescriptor "Z" = some .boolean) (by decide : parseFieldDescriptor "Ljava/util/OptionalInt;" = some (.object "java/util/OptionalInt"))))).other W_18 (Or.inr (slot_ne (C := "com/example/enlist/enlist/definition/TransactionDefinition$Settings") (Or.inl (own_w hw 73 rfl)) (Or.inl (own_w hw 69 rfl)) (by decide) (by decide : parseFieldDescriptor "Z" = some .boolean) (by decide : parseFieldDescriptor "Ljava/util/Map;" = some (.object "java/util/Map")))))
  have F_13'_24 : Fld Z h_18 a "com/example/enlist/enlist/definition/TransactionDefinition$Settings" "timeout" "Ljava/util/OptionalInt;" (.ref em) := (F_13.other W_18 (Or.inr (slot_ne (C := "com/example/enlist/enlist/definition/TransactionDefinition$Settings") (Or.inl (own_w hw 61 rfl)) (Or.inl (own_w hw 69 rfl)) (by decide) (by decide : parseFieldDescriptor "Ljava/util/OptionalInt;" = some (.object "java/util/OptionalInt")) (by decide : parseFieldDescriptor "Ljava/util/Map;" = some (.object "java/util/Map")))))
  exact own_G.end_ X_18 hlk (v := none) (fun _ => rfl) (fun fs hr => X_18.returnOut hx hrt (hb hby d_prog81x_32) hr) e_18 ⟨rfl, N_18, (((((Keep.refl h0 [a]).wr W_3 (Or.inl (List.mem_of_getElem? (i := 0) rfl))).wr W_8 (Or.inl (List.mem_of_getElem? (i := 0) rfl))).wr W_13 (Or.inl (List.mem_of_getElem? (i := 0) rfl))).wr W_18 (Or.inl (List.mem_of_getElem? (i := 0) rfl))), E0'_19, GF0'_20, F_3'_21, F_8'_22, GF3'_23, F_13'_24, F_18⟩ (by decide) (by decide)
def Qcy (Z : State) (rq io em mp : Addr) (h0 : Heap) (n0 : Nat) (v : Option Value) (h : Heap) (L : List Loc) : Prop := ∃ a : Addr, v = some (.ref a) ∧ Fr n0 L ∧ Keep h0 h [] ∧ h0.size ≤ a ∧ Exa Z h a "com/example/enlist/enlist/definition/TransactionDefinition$Settings" ∧ Fld Z h a "com/example/enlist/enlist/definition/TransactionDefinition$Settings" "name" "Ljava/lang/String;" .null ∧ Fld Z h a "com/example/enlist/enlist/definition/TransactionDefinition$Settings" "propagation" "Lcom/example/enlist/enlist/definition/Propagation;" (.ref rq) ∧ Fld Z h a "com/example/enlist/enlist/definition/TransactionDefinition$Settings" "isolation" "Lcom/example/enlist/enlist/definition/Isolation;" (.ref io) ∧ Fld Z h a "com/example/enlist/enlist/definition/TransactionDefinition$Settings" "readOnly" "Z" (.int (0 : Int32)) ∧ Fld Z h a "com/example/enlist/enlist/definition/TransactionDefinition$Settings" "timeout" "Ljava/util/OptionalInt;" (.ref em) ∧ Fld Z h a "com/example/enlist/enlist/definition/TransactionDefinition$Settings" "rollbackRules" "Ljava/util/Map;" (.ref mp)
theorem pd_20 : parseMethodDescriptor "()V" = some ⟨[], none⟩ := by decide +kernel
theorem d_prog82x_0 : decode prog_8_method_2_code 0 = .ok (.new 14, 3) := by decide +kernel
theorem d_prog82x_3 : decode prog_8_method_2_code 3 = .ok (.dup, 1) := by decide +kernel
theorem d_prog82x_4 : decode prog_8_method_2_code 4 = .ok (.invokespecial 47, 3) := by decide +kernel
theorem d_prog82x_7 : decode prog_8_method_2_code 7 = .ok (.astore_n 1, 1) := by decide +kernel
theorem d_prog82x_8 : decode prog_8_method_2_code 8 = .ok (.aload_n 1, 1) := by decide +kernel
theorem d_prog82x_9 : decode prog_8_method_2_code 9 = .ok (.aload_n 0, 1) := by decide +kernel
theorem d_prog82x_10 : decode prog_8_method_2_code 10 = .ok (.getfield 48, 3) := by decide +kernel
theorem d_prog82x_13 : decode prog_8_method_2_code 13 = .ok (.putfield 48, 3) := by decide +kernel
theorem d_prog82x_16 : decode prog_8_method_2_code 16 = .ok (.aload_n 1, 1) := by decide +kernel
theorem d_prog82x_17 : decode prog_8_method_2_code 17 = .ok (.aload_n 0, 1) := by decide +kernel
theorem d_prog82x_18 : decode prog_8_method_2_code 18 = .ok (.getfield 13, 3) := by decide +kernel
theorem d_prog82x_21 : decode prog_8_method_2_code 21 = .ok (.putfield 13, 3) := by decide +kernel
theorem d_prog82x_24 : decode prog_8_method_2_code 24 = .ok (.aload_n 1, 1) := by decide +kernel
theorem d_prog82x_25 : decode prog_8_method_2_code 25 = .ok (.aload_n 0, 1) := by decide +kernel
theorem d_prog82x_26 : decode prog_8_method_2_code 26 = .ok (.getfield 24, 3) := by decide +kernel
theorem d_prog82x_29 : decode prog_8_method_2_code 29 = .ok (.putfield 24, 3) := by decide +kernel
theorem d_prog82x_32 : decode prog_8_method_2_code 32 = .ok (.aload_n 1, 1) := by decide +kernel
theorem d_prog82x_33 : decode prog_8_method_2_code 33 = .ok (.aload_n 0, 1) := by decide +kernel
theorem d_prog82x_34 : decode prog_8_method_2_code 34 = .ok (.getfield 52, 3) := by decide +kernel
theorem d_prog82x_37 : decode prog_8_method_2_code 37 = .ok (.putfield 52, 3) := by decide +kernel
theorem d_prog82x_40 : decode prog_8_method_2_code 40 = .ok (.aload_n 1, 1) := by decide +kernel
theorem d_prog82x_41 : decode prog_8_method_2_code 41 = .ok (.aload_n 0, 1) := by decide +kernel
theorem d_prog82x_42 : decode prog_8_method_2_code 42 = .ok (.getfield 33, 3) := by decide +kernel
theorem d_prog82x_45 : decode prog_8_method_2_code 45 = .ok (.putfield 33, 3) := by decide +kernel
theorem d_prog82x_48 : decode prog_8_method_2_code 48 = .ok (.aload_n 1, 1) := by decide +kernel
theorem d_prog82x_49 : decode prog_8_method_2_code 49 = .ok (.aload_n 0, 1) := by decide +kernel
theorem d_prog82x_50 : decode prog_8_method_2_code 50 = .ok (.getfield 43, 3) := by decide +kernel
theorem d_prog82x_53 : decode prog_8_method_2_code 53 = .ok (.putfield 43, 3) := by decide +kernel
theorem d_prog82x_56 : decode prog_8_method_2_code 56 = .ok (.aload_n 1, 1) := by decide +kernel
theorem d_prog82x_57 : decode prog_8_method_2_code 57 = .ok (.areturn, 1) := by decide +kernel
set_option maxRecDepth 65536 in
set_option maxHeartbeats 40000000 in
theorem rm_cpy (l : Launch) (Z : State) (a0 : Array Value) (hw : ∀ d ∈ tables_1, d.before a0 Z = true) (ws : List Jvm.Cond) (ds rq io em mp : Addr) (h0 : Heap) (n0 : Nat) (Z0 : n0 ≤ h0.size) (ED : Exa Z h0 ds "com/example/enlist/enlist/definition/TransactionDefinition$Settings") (GD0 : Fld Z h0 ds "com/example/enlist/enlist/definition/TransactionDefinition$Settings" "name" "Ljava/lang/String;" .null) (GD1 : Fld Z h0 ds "com/example/enlist/enlist/definition/TransactionDefinition$Settings" "propagation" "Lcom/example/enlist/enlist/definition/Propagation;" (.ref rq)) (GD2 : Fld Z h0 ds "com/example/enlist/enlist/definition/TransactionDefinition$Settings" "isolation" "Lcom/example/enlist/enlist/definition/Isolation;" (.ref io)) (GD3 : Fld Z h0 ds "com/example/enlist/enlist/definition/TransactionDefinition$Settings" "readOnly" "Z" (.int (0 : Int32))) (GD4 : Fld Z h0 ds "com/example/enlist/enlist/definition/TransactionDefinition$Settings" "timeout" "Ljava/util/OptionalInt;" (.ref em)) (GD5 : Fld Z h0 ds "com/example/enlist/enlist/definition/TransactionDefinition$Settings" "rollbackRules" "Ljava/util/Map;" (.ref mp)) (OR : Sta Z Z.heap "com/example/enlist/enlist/definition/Propagation" "REQUIRED" "Lcom/example/enlist/enlist/definition/Propagation;" (.ref rq)) (OI : Sta Z Z.heap "com/example/enlist/enlist/definition/Isolation" "DEFAULT" "Lcom/example/enlist/enlist/definition/Isolation;" (.ref io)) (OE : Sta Z Z.heap "java/util/OptionalInt" "EMPTY" "Ljava/util/OptionalInt;" (.ref em)) (OM : Sta Z Z.heap "java/util/ImmutableCollections" "EMPTY_MAP" "Ljava/util/ImmutableCollections$MapN;" (.ref mp)) (X00 : Old Z n0 h0) :
    MetFree l (⟨"com/example/enlist/enlist/definition/TransactionDefinition$Settings", "copy", "()Lcom/example/enlist/enlist/definition/TransactionDefinition$Settings;"⟩ : MethodName) (head1 (Jvm.Cond.code (⟨"com/example/enlist/enlist/definition/TransactionDefinition$Settings", "copy", "()Lcom/example/enlist/enlist/definition/TransactionDefinition$Settings;"⟩ : MethodName) prog_8_method_2_code 2 (some (.object "com/example/enlist/enlist/definition/TransactionDefinition$Settings")) :: ws) ({ frames := 2, cells := 1, slots := 6, locals := 25 } : Room)) (fun a_ U => a_ = #[(.ref ds)] ∧ Z.Warmed39 U.vm ∧ U.heap = h0) (fun _ _ _ _ _ => True) (fun _ U o U' => ∃ v L, o = .returned v ∧ Qcy Z rq io em mp h0 n0 v U'.heap L ∧ FrameEnd U o U' L ({ frames := 2, cells := 1, slots := 6, locals := 25 } : Room).cells ({ frames := 2, cells := 1, slots := 6, locals := 25 } : Room).slots) := by
  refine MetFree.of_bodySF (plainFor_of_name pn_8) hisR ?_
  intro p e s m args below meth c s₁ Bd hml0 hP hK
  obtain ⟨rfl, hZ, hh⟩ := hP
  have hx := Bd.exec
  have hby := Bd.bytes
  have hrt := Bd.returns
  have hlk : meth.locks = false := Bd.notSynchronized
  have hml : c.maxLocals = 2 := hml0
  have hown : s.vm.findClass "com/example/enlist/enlist/definition/TransactionDefinition$Settings" = some m.cls := findClass_of_methodNamed Bd.named
  have hnm := (name_of_methodNamed Bd.named Bd.method).1
  have X0 : Stand p l e ({ frames := 2, cells := 1, slots := 6, locals := 25 } : Room) s m #[(.ref ds)] below meth c s₁ [] 0 0 := Stand.of_body Bd
  have e0 : s₁.heap = h0 := by rw [← hh, Bd.state]; rfl
  have N0 := Fr.nil n0
  show own_G p.tables e below (fun o t => ∃ v L, o = .returned v ∧ Qcy Z rq io em mp h0 n0 v t.heap L ∧ FrameEnd s o t L ({ frames := 2, cells := 1, slots := 6, locals := 25 } : Room).cells ({ frames := 2, cells := 1, slots := 6, locals := 25 } : Room).slots) (s₁.setTop (entryFrame m #[(.ref ds)] 2))
  refine own_G.cast (show entryFrame m #[(.ref ds)] 2 = mkF m 0 #[.val (.ref ds), .unset] [] from by first | (simp [entryFrame, mkF, argsToLocals, Value.category]; done) | rfl) ?_
  obtain ⟨T_1, h_1, X_1, e_1, E_1, A_1, D_1, -, st_1⟩ := newO X0 hx hZ hown (own_w hw 39 rfl) (own_w hw 40 rfl) (own_w hw 37 rfl) e0 (g := (mkF m 0 #[.val (.ref ds), .unset] [])) rfl (hb hby d_prog82x_0) (by decide) (by decide)
  obtain ⟨a_1, g_1⟩ : ∃ z, z = h0.size := ⟨_, rfl⟩
  rw [← g_1] at A_1 D_1 st_1
  refine own_G.go st_1 ?_
  have F_1_propagation : Fld Z h_1 a_1 "com/example/enlist/enlist/definition/TransactionDefinition$Settings" "propagation" "Lcom/example/enlist/enlist/definition/Propagation;" .null := D_1 (Or.inl (own_w hw 49 rfl)) (ty := (.object "com/example/enlist/enlist/definition/Propagation")) (by decide)
  have F_1_isolation : Fld Z h_1 a_1 "com/example/enlist/enlist/definition/TransactionDefinition$Settings" "isolation" "Lcom/example/enlist/enlist/definition/Isolation;" .null := D_1 (Or.inl (own_w hw 54 rfl)) (ty := (.object "com/example/enlist/enlist/definition/Isolation")) (by decide)
  have F_1_timeout : Fld Z h_1 a_1 "com/example/enlist/enlist/definition/TransactionDefinition$Settings" "timeout" "Ljava/util/OptionalInt;" .null := D_1 (Or.inl (own_w hw 61 rfl)) (ty := (.object "java/util/OptionalInt")) (by decide)
  have F_1_rollbackRules : Fld Z h_1 a_1 "com/example/enlist/enlist/definition/TransactionDefinition$Settings" "rollbackRules" "Ljava/util/Map;" .null := D_1 (Or.inl (own_w hw 69 rfl)) (ty := (.object "java/util/Map")) (by decide)
  have F_1_name : Fld Z h_1 a_1 "com/example/enlist/enlist/definition/TransactionDefinition$Settings" "name" "Ljava/lang/String;" .null := D_1 (Or.inl (own_w hw 71 rfl)) (ty := (.object "java/lang/String")) (by decide)
  have F_1_readOnly : Fld Z h_1 a_1 "com/example/enlist/enlist/definition/TransactionDefinition$Settings" "readOnly" "Z" (.int (0 : Int32)) := D_1 (Or.inl (own_w hw 73 rfl)) (ty := .boolean) (by decide)
  show own_G _ _ _ _ (T_1.setTop (mkF m 3 #[.val (.ref ds), .unset] [(.ref a_1)]))
  refine own_G.go (fun _ k => XS.dup X_1.here hx rfl (hb hby d_prog82x_3) rfl rfl k) ?_
  show own_G _ _ _ _ (T_1.setTop (mkF m 4 #[.val (.ref ds), .unset] [(.ref a_1), (.ref a_1)]))
  have g0_a_1 : n0 ≤ a_1 := Nat.le_trans Z0 (Nat.le_of_eq g_1.symm)
  have O_2d : Old Z n0 h_1 := (X00.ext E_1)
  obtain ⟨_, T_3, L_3, Q_3, X_3, st_3⟩ := own_callI X_1 hx rfl hown (mvT hZ (own_w hw 41 rfl)) (mvT hZ (own_w hw 42 rfl)) (mvT hZ (own_w hw 43 rfl)) (by decide) (Q := (Qsi Z a_1 rq io em mp h_1 n0)) (backOf (W := 1) (rm_sin l Z a0 hw [] a_1 rq io em mp h_1 n0 (Nat.le_trans Z0 E_1.1) g0_a_1 A_1 F_1_name F_1_propagation F_1_isolation F_1_readOnly F_1_timeout F_1_rollbackRules OR OI OE OM O_2d) hZ (own_w hw 43 rfl) (own_w hw 37 rfl) (by decide) (by decide)) (a := a_1) (g := (mkF m 4 #[.val (.ref ds), .unset] [(.ref a_1), (.ref a_1)])) rfl (by rw [hml]; rfl) (argsL := []) (rest := [(.ref a_1)]) (lenOf pd_20 rfl) rfl (by show 2 * 0 + _ ≤ _; exact Nat.le_of_eq rfl) (hb hby d_prog82x_4) e_1 rfl (by decide) (by decide)
  obtain ⟨rfl, Nq_3, K_3, Ex_3, F0_3, F1_3, F2_3, F3_3, F4_3, F5_3⟩ := Q_3
  refine own_G.via st_3 ?_
  have N_3 := Fr.app N0 Nq_3
  show own_G _ _ _ _ (T_3.setTop (mkF m 7 #[.val (.ref ds), .unset] [(.ref a_1)]))
  refine own_G.go (fun _ k => XS.astoreN X_3.here hx rfl (hb hby d_prog82x_7) rfl rfl (l' := #[.val (.ref ds), .val (.ref a_1)]) rfl k) ?_
  show own_G _ _ _ _ (T_3.setTop (mkF m 8 #[.val (.ref ds), .val (.ref a_1)] []))
  refine own_G.go (fun _ k => XS.aloadN X_3.here hx rfl (hb hby d_prog82x_8) rfl rfl k) ?_
  show own_G _ _ _ _ (T_3.setTop (mkF m 9 #[.val (.ref ds), .val (.ref a_1)] [(.ref a_1)]))
  refine own_G.go (fun _ k => XS.aloadN X_3.here hx rfl (hb hby d_prog82x_9) rfl rfl k) ?_
  show own_G _ _ _ _ (T_3.setTop (mkF m 10 #[.val (.ref ds), .val (.ref a_1)] [(.ref ds), (.ref a_1)]))
  have GD0'_4 : Fld Z T_3.heap ds "com/example/enlist/enlist/definition/TransactionDefinition$Settings" "name" "Ljava/lang/String;" .null := ((GD0.ext E_1).keep K_3 (ninS (Nat.ne_of_lt (Nat.lt_of_lt_of_le ED.lt (Nat.le_of_eq g_1.symm))) nin0))
  obtain ⟨T_5, X_5, e_5, st_5⟩ := getF X_3 hx hZ hown (host := "") (Or.inl (own_w hw 70 rfl)) Via.refl rfl GD0'_4 (g := (mkF m 10 #[.val (.ref ds), .val (.ref a_1)] [(.ref ds), (.ref a_1)])) rfl rfl (hb hby d_prog82x_10)
  refine own_G.go st_5 ?_
  show own_G _ _ _ _ (T_5.setTop (mkF m 13 #[.val (.ref ds), .val (.ref a_1)] [.null, (.ref a_1)]))
  obtain ⟨T_6, h_6, X_6, e_6, W_6, st_6⟩ := putF X_5 hx hZ hown (host := "") (Or.inl (own_w hw 70 rfl)) Via.refl e_5 F0_3 Ex_3 (Or.inl (own_w hw 71 rfl)) (own_w hw 40 rfl) (ty := (.object "java/lang/String")) (by decide) rfl rfl (g := (mkF m 13 #[.val (.ref ds), .val (.ref a_1)] [.null, (.ref a_1)])) rfl rfl (hb hby d_prog82x_13)
  refine own_G.go st_6 ?_
  have F_6 : Fld Z h_6 a_1 "com/example/enlist/enlist/definition/TransactionDefinition$Settings" "name" "Ljava/lang/String;" .null := F0_3.same W_6
  have N_6 := Fr.snoc X_6 N_3 g0_a_1
  show own_G _ _ _ _ (T_6.setTop (mkF m 16 #[.val (.ref ds), .val (.ref a_1)] []))
  refine own_G.go (fun _ k => XS.aloadN X_6.here hx rfl (hb hby d_prog82x_16) rfl rfl k) ?_
  show own_G _ _ _ _ (T_6.setTop (mkF m 17 #[.val (.ref ds), .val (.ref a_1)] [(.ref a_1)]))
  refine own_G.go (fun _ k => XS.aloadN X_6.here hx rfl (hb hby d_prog82x_17) rfl rfl k) ?_
  show own_G _ _ _ _ (T_6.setTop (mkF m 18 #[.val (.ref ds), .val (.ref a_1)] [(.ref ds), (.ref a_1)]))
  have GD1'_7 : Fld Z h_6 ds "com/example/enlist/enlist/definition/TransactionDefinition$Settings" "propagation" "Lcom/example/enlist/enlist/definition/Propagation;" (.ref rq) := (((GD1.ext E_1).keep K_3 (ninS (Nat.ne_of_lt (Nat.lt_of_lt_of_le ED.lt (Nat.le_of_eq g_1.symm))) nin0)).other W_6 (Or.inl (Nat.ne_of_lt (Nat.lt_of_lt_of_le ED.lt (Nat.le_of_eq g_1.symm)))))
  obtain ⟨T_8, X_8, e_8, st_8⟩ := getF X_6 hx hZ hown (host := "") (Or.inl (own_w hw 48 rfl)) Via.refl e_6 GD1'_7 (g := (mkF m 18 #[.val (.ref ds), .val (.ref a_1)] [(.ref ds), (.ref a_1)])) rfl rfl (hb hby d_prog82x_18)
  refine own_G.go st_8 ?_
  show own_G _ _ _ _ (T_8.setTop (mkF m 21 #[.val (.ref ds), .val (.ref a_1)] [(.ref rq), (.ref a_1)]))
  have F1_3'_9 : Fld Z h_6 a_1 "com/example/enlist/enlist/definition/TransactionDefinition$Settings" "propagation" "Lcom/example/enlist/enlist/definition/Propagation;" (.ref rq) := (F1_3.other W_6 (Or.inr (slot_ne (C := "com/example/enlist/enlist/definition/TransactionDefinition$Settings") (Or.inl (own_w hw 49 rfl)) (Or.inl (own_w hw 71 rfl)) (by decide) (by decide : parseFieldDescriptor "Lcom/example/enlist/enlist/definition/Propagation;" = some (.object "com/example/enlist/enlist/definition/Propagation")) (by decide : parseFieldDescriptor "Ljava/lang/String;" = some (.object "java/lang/String")))))
  have Ex_3'_10 : Exa Z h_6 a_1 "com/example/enlist/enlist/definition/TransactionDefinition$Settings" := (Ex_3.wr W_6)
  obtain ⟨T_11, h_11, X_11, e_11, W_11, st_11⟩ := putF X_8 hx hZ hown (host := "") (Or.inl (own_w hw 48 rfl)) Via.refl e_8 F1_3'_9 Ex_3'_10 (Or.inl (own_w hw 49 rfl)) (own_w hw 40 rfl) (ty := (.object "com/example/enlist/enlist/definition/Propagation")) (by decide) rfl rfl (g := (mkF m 21 #[.val (.ref ds), .val (.ref a_1)] [(.ref rq), (.ref a_1)])) rfl rfl (hb hby d_prog82x_21)
  refine own_G.go st_11 ?_
  have F_11 : Fld Z h_11 a_1 "com/example/enlist/enlist/definition/TransactionDefinition$Settings" "propagation" "Lcom/example/enlist/enlist/definition/Propagation;" (.ref rq) := F1_3'_9.same W_11
  have N_11 := Fr.snoc X_11 N_6 g0_a_1
  show own_G _ _ _ _ (T_11.setTop (mkF m 24 #[.val (.ref ds), .val (.ref a_1)] []))
  refine own_G.go (fun _ k => XS.aloadN X_11.here hx rfl (hb hby d_prog82x_24) rfl rfl k) ?_
  show own_G _ _ _ _ (T_11.setTop (mkF m 25 #[.val (.ref ds), .val (.ref a_1)] [(.ref a_1)]))
  refine own_G.go (fun _ k => XS.aloadN X_11.here hx rfl (hb hby d_prog82x_25) rfl rfl k) ?_
  show own_G _ _ _ _ (T_11.setTop (mkF m 26 #[.val (.ref ds), .val (.ref a_1)] [(.ref ds), (.ref a_1)]))
  have GD2'_12 : Fld Z h_11 ds "com/example/enlist/enlist/definition/TransactionDefinition$Settings" "isolation" "Lcom/example/enlist/enlist/definition/Isolation;" (.ref io) := ((((GD2.ext E_1).keep K_3 (ninS (Nat.ne_of_lt (Nat.lt_of_lt_of_le ED.lt (Nat.le_of_eq g_1.symm))) nin0)).other W_6 (Or.inl (Nat.ne_of_lt (Nat.lt_of_lt_of_le ED.lt (Nat.le_of_eq g_1.symm))))).other W_11 (Or.inl (Nat.ne_of_lt (Nat.lt_of_lt_of_le ED.lt (Nat.le_of_eq g_1.symm)))))
  obtain ⟨T_13, X_13, e_13, st_13⟩ := getF X_11 hx hZ hown (host := "") (Or.inl (own_w hw 53 rfl)) Via.refl e_11 GD2'_12 (g := (mkF m 26 #[.val (.ref ds), .val (.ref a_1)] [(.ref ds), (.ref a_1)])) rfl rfl (hb hby d_prog82x_26)
  refine own_G.go st_13 ?_
  show own_G _ _ _ _ (T_13.setTop (mkF m 29 #[.val (.ref ds), .val (.ref a_1)] [(.ref io), (.ref a_1)]))
  have F2_3'_14 : Fld Z h_11 a_1 "com/example/enlist/enlist/definition/TransactionDefinition$Settings" "isolation" "Lcom/example/enlist/enlist/definition/Isolation;" (.ref io) := ((F2_3.other W_6 (Or.inr (slot_ne (C := "com/example/enlist/enlist/definition/TransactionDefinition$Settings") (Or.inl (own_w hw 54 rfl)) (Or.inl (own_w hw 71 rfl)) (by decide) (by decide : parseFieldDescriptor "Lcom/example/enlist/enlist/definition/Isolation;" = some (.object "com/example/enlist/enlist/definition/Isolation")) (by decide : parseFieldDescriptor "Ljava/lang/String;" = some (.object "java/lang/String"))))).other W_11 (Or.inr (slot_ne (C := "com/example/enlist/enlist/definition/TransactionDefinition$Settings") (Or.inl (own_w hw 54 rfl)) (Or.inl (own_w hw 49 rfl)) (by decide) (by decide : parseFieldDescriptor "Lcom/example/enlist/enlist/definition/Isolation;" = some (.object "com/example/enlist/enlist/definition/Isolation")) (by decide : parseFieldDescriptor "Lcom/example/enlist/enlist/definition/Propagation;" = some (.object "com/example/enlist/enlist/definition/Propagation")))))
  have Ex_3'_15 : Exa Z h_11 a_1 "com/example/enlist/enlist/definition/TransactionDefinition$Settings" := (Ex_3'_10.wr W_11)
  obtain ⟨T_16, h_16, X_16, e_16, W_16, st_16⟩ := putF X_13 hx hZ hown (host := "") (Or.inl (own_w hw 53 rfl)) Via.refl e_13 F2_3'_14 Ex_3'_15 (Or.inl (own_w hw 54 rfl)) (own_w hw 40 rfl) (ty := (.object "com/example/enlist/enlist/definition/Isolation")) (by decide) rfl rfl (g := (mkF m 29 #[.val (.ref ds), .val (.ref a_1)] [(.ref io), (.ref a_1)])) rfl rfl (hb hby d_prog82x_29)
  refine own_G.go st_16 ?_
  have F_16 : Fld Z h_16 a_1 "com/example/enlist/enlist/definition/TransactionDefinition$Settings" "isolation" "Lcom/example/enlist/enlist/definition/Isolation;" (.ref io) := F2_3'_14.same W_16
  have N_16 := Fr.snoc X_16 N_11 g0_a_1
  show own_G _ _ _ _ (T_16.setTop (mkF m 32 #[.val (.ref ds), .val (.ref a_1)] []))
  refine own_G.go (fun _ k => XS.aloadN X_16.here hx rfl (hb hby d_prog82x_32) rfl rfl k) ?_
  show own_G _ _ _ _ (T_16.setTop (mkF m 33 #[.val (.ref ds), .val (.ref a_1)] [(.ref a_1)]))
  refine own_G.go (fun _ k => XS.aloadN X_16.here hx rfl (hb hby d_prog82x_33) rfl rfl k) ?_
  show own_G _ _ _ _ (T_16.setTop (mkF m 34 #[.val (.ref ds), .val (.ref a_1)] [(.ref ds), (.ref a_1)]))
  have GD3'_17 : Fld Z h_16 ds "com/example/enlist/enlist/definition/TransactionDefinition$Settings" "readOnly" "Z" (.int (0 : Int32)) := (((((GD3.ext E_1).keep K_3 (ninS (Nat.ne_of_lt (Nat.lt_of_lt_of_le ED.lt (Nat.le_of_eq g_1.symm))) nin0)).other W_6 (Or.inl (Nat.ne_of_lt (Nat.lt_of_lt_of_le ED.lt (Nat.le_of_eq g_1.symm))))).other W_11 (Or.inl (Nat.ne_of_lt (Nat.lt_of_lt_of_le ED.lt (Nat.le_of_eq g_1.symm))))).other W_16 (Or.inl (Nat.ne_of_lt (Nat.lt_of_lt_of_le ED.lt (Nat.le_of_eq g_1.symm)))))
  obtain ⟨T_18, X_18, e_18, st_18⟩ := getF X_16 hx hZ hown (host := "") (Or.inl (own_w hw 72 rfl)) Via.refl e_16 GD3'_17 (g := (mkF m 34 #[.val (.ref ds), .val (.ref a_1)] [(.ref ds), (.ref a_1)])) rfl rfl (hb hby d_prog82x_34)
  refine own_G.go st_18 ?_
  show own_G _ _ _ _ (T_18.setTop (mkF m 37 #[.val (.ref ds), .val (.ref a_1)] [(.int (0 : Int32)), (.ref a_1)]))
  have F3_3'_19 : Fld Z h_16 a_1 "com/example/enlist/enlist/definition/TransactionDefinition$Settings" "readOnly" "Z" (.int (0 : Int32)) := (((F3_3.other W_6 (Or.inr (slot_ne (C := "com/example/enlist/enlist/definition/TransactionDefinition$Settings") (Or.inl (own_w hw 73 rfl)) (Or.inl (own_w hw 71 rfl)) (by decide) (by decide : parseFieldDescriptor "Z" = some .boolean) (by decide : parseFieldDescriptor "Ljava/lang/String;" = some (.object "java/lang/String"))))).other W_11 (Or.inr (slot_ne (C := "com/example/enlist/enlist/definition/TransactionDefinition$Settings") (Or.inl (own_w hw 73 rfl)) (Or.inl (own_w hw 49 rfl)) (by decide) (by decide : parseFieldDescriptor "Z" = some .boolean) (by decide : parseFieldDescriptor "Lcom/example/enlist/enlist/definition/Propagation;" = some (.object "com/example/enlist/enlist/definition/Propagation"))))).other W_16 (Or.inr (slot_ne (C := "com/example/enlist/enlist/definition/TransactionDefinition$Settings") (Or.inl (own_w hw 73 rfl)) (Or.inl (own_w hw 54 rfl)) (by decide) (by decide : parseFieldDescriptor "Z" = some .boolean) (by decide : parseFieldDescriptor "Lcom/example/enlist/enlist/definition/Isolation;" = some (.object "com/example/enlist/enlist/definition/Isolation")))))
  have Ex_3'_20 : Exa Z h_16 a_1 "com/example/enlist/enlist/definition/TransactionDefinition$Settings" := (Ex_3'_15.wr W_16)
  obtain ⟨T_21, h_21, X_21, e_21, W_21, st_21⟩ := putFN X_18 hx hZ hown (own_w hw 72 rfl) Via.refl e_18 F3_3'_19 Ex_3'_20 (Or.inl (own_w hw 73 rfl)) (own_w hw 40 rfl) (ty := .boolean) (v' := (.int (0 : Int32))) (by decide) rfl rfl (g := (mkF m 37 #[.val (.ref ds), .val (.ref a_1)] [(.int (0 : Int32)), (.ref a_1)])) rfl rfl (hb hby d_prog82x_37)
  refine own_G.go st_21 ?_
  have F_21 : Fld Z h_21 a_1 "com/example/enlist/enlist/definition/TransactionDefinition$Settings" "readOnly" "Z" (.int (0 : Int32)) := F3_3'_19.same W_21
  have N_21 := Fr.snoc X_21 N_16 g0_a_1
  show own_G _ _ _ _ (T_21.setTop (mkF m 40 #[.val (.ref ds), .val (.ref a_1)] []))
  refine own_G.go (fun _ k => XS.aloadN X_21.here hx rfl (hb hby d_prog82x_40) rfl rfl k) ?_
  show own_G _ _ _ _ (T_21.setTop (mkF m 41 #[.val (.ref ds), .val (.ref a_1)] [(.ref a_1)]))
  refine own_G.go (fun _ k => XS.aloadN X_21.here hx rfl (hb hby d_prog82x_41) rfl rfl k) ?_
  show own_G _ _ _ _ (T_21.setTop (mkF m 42 #[.val (.ref ds), .val (.ref a_1)] [(.ref ds), (.ref a_1)]))
  have GD4'_22 : Fld Z h_21 ds "com/example/enlist/enlist/definition/TransactionDefinition$Settings" "timeout" "Ljava/util/OptionalInt;" (.ref em) := ((((((GD4.ext E_1).keep K_3 (ninS (Nat.ne_of_lt (Nat.lt_of_lt_of_le ED.lt (Nat.le_of_eq g_1.symm))) nin0)).other W_6 (Or.inl (Nat.ne_of_lt (Nat.lt_of_lt_of_le ED.lt (Nat.le_of_eq g_1.symm))))).other W_11 (Or.inl (Nat.ne_of_lt (Nat.lt_of_lt_of_le ED.lt (Nat.le_of_eq g_1.symm))))).other W_16 (Or.inl (Nat.ne_of_lt (Nat.lt_of_lt_of_le ED.lt (Nat.le_of_eq g_1.symm))))).other W_21 (Or.inl (Nat.ne_of_lt (Nat.lt_of_lt_of_le ED.lt (Nat.le_of_eq g_1.symm)))))
  obtain ⟨T_23, X_23, e_23, st_23⟩ := getF X_21 hx hZ hown (host := "") (Or.inl (own_w hw 60 rfl)) Via.refl e_21 GD4'_22 (g := (mkF m 42 #[.val (.ref ds), .val (.ref a_1)] [(.ref ds), (.ref a_1)])) rfl rfl (hb hby d_prog82x_42)
  refine own_G.go st_23 ?_
  show own_G _ _ _ _ (T_23.setTop (mkF m 45 #[.val (.ref ds), .val (.ref a_1)] [(.ref em), (.ref a_1)]))
  have F4_3'_24 : Fld Z h_21 a_1 "com/example/enlist/enlist/definition/TransactionDefinition$Settings" "timeout" "Ljava/util/OptionalInt;" (.ref em) := ((((F4_3.other W_6 (Or.inr (slot_ne (C := "com/example/enlist/enlist/definition/TransactionDefinition$Settings") (Or.inl (own_w hw 61 rfl)) (Or.inl (own_w hw 71 rfl)) (by decide) (by decide : parseFieldDescriptor "Ljava/util/OptionalInt;" = some (.object "java/util/OptionalInt")) (by decide : parseFieldDescriptor "Ljava/lang/String;" = some (.object "java/lang/String"))))).other W_11 (Or.inr (slot_ne (C := "com/example/enlist/enlist/definition/TransactionDefinition$Settings") (Or.inl (own_w hw 61 rfl)) (Or.inl (own_w hw 49 rfl)) (by decide) (by decide : parseFieldDescriptor "Ljava/util/OptionalInt;" = some (.object "java/util/OptionalInt")) (by decide : parseFieldDescriptor "Lcom/example/enlist/enlist/definition/Propagation;" = some (.object "com/example/enlist/enlist/definition/Propagation"))))).other W_16 (Or.inr (slot_ne (C := "com/example/enlist/enlist/definition/TransactionDefinition$Settings") (Or.inl (own_w hw 61 rfl)) (Or.inl (own_w hw 54 rfl)) (by decide) (by decide : parseFieldDescriptor "Ljava/util/OptionalInt;" = some (.object "java/util/OptionalInt")) (by decide : parseFieldDescriptor "Lcom/example/enlist/enlist/definition/Isolation;" = some (.object "com/example/enlist/enlist/definition/Isolation"))))).other W_21 (Or.inr (slot_ne (C := "com/example/enlist/enlist/definition/TransactionDefinition$Settings") (Or.inl (own_w hw 61 rfl)) (Or.inl (own_w hw 73 rfl)) (by decide) (by decide : parseFieldDescriptor "Ljava/util/OptionalInt;" = some (.object "java/util/OptionalInt")) (by decide : parseFieldDescriptor "Z" = some .boolean))))
  have Ex_3'_25 : Exa Z h_21 a_1 "com/example/enlist/enlist/definition/TransactionDefinition$Settings" := (Ex_3'_20.wr W_21)
  obtain ⟨T_26, h_26, X_26, e_26, W_26, st_26⟩ := putF X_23 hx hZ hown (host := "") (Or.inl (own_w hw 60 rfl)) Via.refl e_23 F4_3'_24 Ex_3'_25 (Or.inl (own_w hw 61 rfl)) (own_w hw 40 rfl) (ty := (.object "java/util/OptionalInt")) (by decide) rfl rfl (g := (mkF m 45 #[.val (.ref ds), .val (.ref a_1)] [(.ref em), (.ref a_1)])) rfl rfl (hb hby d_prog82x_45)
  refine own_G.go st_26 ?_
  have F_26 : Fld Z h_26 a_1 "com/example/enlist/enlist/definition/TransactionDefinition$Settings" "timeout" "Ljava/util/OptionalInt;" (.ref em) := F4_3'_24.same W_26
  have N_26 := Fr.snoc X_26 N_21 g0_a_1
  show own_G _ _ _ _ (T_26.setTop (mkF m 48 #[.val (.ref ds), .val (.ref a_1)] []))
  refine own_G.go (fun _ k => XS.aloadN X_26.here hx rfl (hb hby d_prog82x_48) rfl rfl k) ?_
  show own_G _ _ _ _ (T_26.setTop (mkF m 49 #[.val (.ref ds), .val (.ref a_1)] [(.ref a_1)]))
  refine own_G.go (fun _ k => XS.aloadN X_26.here hx rfl (hb hby d_prog82x_49) rfl rfl k) ?_
  show own_G _ _ _ _ (T_26.setTop (mkF m 50 #[.val (.ref ds), .val (.ref a_1)] [(.ref ds), (.ref a_1)]))
  have GD5'_27 : Fld Z h_26 ds "com/example/enlist/enlist/definition/TransactionDefinition$Settings" "rollbackRules" "Ljava/util/Map;" (.ref mp) := (((((((GD5.ext E_1).keep K_3 (ninS (Nat.ne_of_lt (Nat.lt_of_lt_of_le ED.lt (Nat.le_of_eq g_1.symm))) nin0)).other W_6 (Or.inl (Nat.ne_of_lt (Nat.lt_of_lt_of_le ED.lt (Nat.le_of_eq g_1.symm))))).other W_11 (Or.inl (Nat.ne_of_lt (Nat.lt_of_lt_of_le ED.lt (Nat.le_of_eq g_1.symm))))).other W_16 (Or.inl (Nat.ne_of_lt (Nat.lt_of_lt_of_le ED.lt (Nat.le_of_eq g_1.symm))))).other W_21 (Or.inl (Nat.ne_of_lt (Nat.lt_of_lt_of_le ED.lt (Nat.le_of_eq g_1.symm))))).other W_26 (Or.inl (Nat.ne_of_lt (Nat.lt_of_lt_of_le ED.lt (Nat.le_of_eq g_1.symm)))))
  obtain ⟨T_28, X_28, e_28, st_28⟩ := getF X_26 hx hZ hown (host := "") (Or.inl (own_w hw 68 rfl)) Via.refl e_26 GD5'_27 (g := (mkF m 50 #[.val (.ref ds), .val (.ref a_1)] [(.ref ds), (.ref a_1)])) rfl rfl (hb hby d_prog82x_50)
  refine own_G.go st_28 ?_
  show own_G _ _ _ _ (T_28.setTop (mkF m 53 #[.val (.ref ds), .val (.ref a_1)] [(.ref mp), (.ref a_1)]))
  have F5_3'_29 : Fld Z h_26 a_1 "com/example/enlist/enlist/definition/TransactionDefinition$Settings" "rollbackRules" "Ljava/util/Map;" (.ref mp) := (((((F5_3.other W_6 (Or.inr (slot_ne (C := "com/example/enlist/enlist/definition/TransactionDefinition$Settings") (Or.inl (own_w hw 69 rfl)) (Or.inl (own_w hw 71 rfl)) (by decide) (by decide : parseFieldDescriptor "Ljava/util/Map;" = some (.object "java/util/Map")) (by decide : parseFieldDescriptor "Ljava/lang/String;" = some (.object "java/lang/String"))))).other W_11 (Or.inr (slot_ne (C := "com/example/enlist/enlist/definition/TransactionDefinition$Settings") (Or.inl (own_w hw 69 rfl)) (Or.inl (own_w hw 49 rfl)) (by decide) (by decide : parseFieldDescriptor "Ljava/util/Map;" = some (.object "java/util/Map")) (by decide : parseFieldDescriptor "Lcom/example/enlist/enlist/definition/Propagation;" = some (.object "com/example/enlist/enlist/definition/Propagation"))))).other W_16 (Or.inr (slot_ne (C := "com/example/enlist/enlist/definition/TransactionDefinition$Settings") (Or.inl (own_w hw 69 rfl)) (Or.inl (own_w hw 54 rfl)) (by decide) (by decide : parseFieldDescriptor "Ljava/util/Map;" = some (.object "java/util/Map")) (by decide : parseFieldDescriptor "Lcom/example/enlist/enlist/definition/Isolation;" = some (.object "com/example/enlist/enlist/definition/Isolation"))))).other W_21 (Or.inr (slot_ne (C := "com/example/enlist/enlist/definition/TransactionDefinition$Settings") (Or.inl (own_w hw 69 rfl)) (Or.inl (own_w hw 73 rfl)) (by decide) (by decide : parseFieldDescriptor "Ljava/util/Map;" = some (.object "java/util/Map")) (by decide : parseFieldDescriptor "Z" = some .boolean)))).other W_26 (Or.inr (slot_ne (C := "com/example/enlist/enlist/definition/TransactionDefinition$Settings") (Or.inl (own_w hw 69 rfl)) (Or.inl (own_w hw 61 rfl)) (by decide) (by decide : parseFieldDescriptor "Ljava/util/Map;" = some (.object "java/util/Map")) (by decide : parseFieldDescriptor "Ljava/util/OptionalInt;" = some (.object "java/util/OptionalInt")))))
  have Ex_3'_30 : Exa Z h_26 a_1 "com/example/enlist/enlist/definition/TransactionDefinition$Settings" := (Ex_3'_25.wr W_26)
  obtain ⟨T_31, h_31, X_31, e_31, W_31, st_31⟩ := putF X_28 hx hZ hown (host := "") (Or.inl (own_w hw 68 rfl)) Via.refl e_28 F5_3'_29 Ex_3'_30 (Or.inl (own_w hw 69 rfl)) (own_w hw 40 rfl) (ty := (.object "java/util/Map")) (by decide) rfl rfl (g := (mkF m 53 #[.val (.ref ds), .val (.ref a_1)] [(.ref mp), (.ref a_1)])) rfl rfl (hb hby d_prog82x_53)
  refine own_G.go st_31 ?_
  have F_31 : Fld Z h_31 a_1 "com/example/enlist/enlist/definition/TransactionDefinition$Settings" "rollbackRules" "Ljava/util/Map;" (.ref mp) := F5_3'_29.same W_31
  have N_31 := Fr.snoc X_31 N_26 g0_a_1
  show own_G _ _ _ _ (T_31.setTop (mkF m 56 #[.val (.ref ds), .val (.ref a_1)] []))
  refine own_G.go (fun _ k => XS.aloadN X_31.here hx rfl (hb hby d_prog82x_56) rfl rfl k) ?_
  show own_G _ _ _ _ (T_31.setTop (mkF m 57 #[.val (.ref ds), .val (.ref a_1)] [(.ref a_1)]))
  have Ex_3'_32 : Exa Z h_31 a_1 "com/example/enlist/enlist/definition/TransactionDefinition$Settings" := (Ex_3'_30.wr W_31)
  have F_6'_33 : Fld Z h_31 a_1 "com/example/enlist/enlist/definition/TransactionDefinition$Settings" "name" "Ljava/lang/String;" .null := (((((F_6.other W_11 (Or.inr (slot_ne (C := "com/example/enlist/enlist/definition/TransactionDefinition$Settings") (Or.inl (own_w hw 71 rfl)) (Or.inl (own_w hw 49 rfl)) (by decide) (by decide : parseFieldDescriptor "Ljava/lang/String;" = some (.object "java/lang/String")) (by decide : parseFieldDescriptor "Lcom/example/enlist/enlist/definition/Propagation;" = some (.object "com/example/enlist/enlist/definition/Propagation"))))).other W_16 (Or.inr (slot_ne (C := "com/example/enlist/enlist/definition/TransactionDefinition$Settings") (Or.inl (own_w hw 71 rfl)) (Or.inl (own_w hw 54 rfl)) (by decide) (by decide : parseFieldDescriptor "Ljava/lang/String;" = some (.object "java/lang/String")) (by decide : parseFieldDescriptor "Lcom/example/enlist/enlist/definition/Isolation;" = some (.object "com/example/enlist/enlist/definition/Isolation"))))).other W_21 (Or.inr (slot_ne (C := "com/example/enlist/enlist/definition/TransactionDefinition$Settings") (Or.inl (own_w hw 71 rfl)) (Or.inl (own_w hw 73 rfl)) (by decide) (by decide : parseFieldDescriptor "Ljava/lang/String;" = some (.object "java/lang/String")) (by decide : parseFieldDescriptor "Z" = some .boolean)))).other W_26 (Or.inr (slot_ne (C := "com/example/enlist/enlist/definition/TransactionDefinition$Settings") (Or.inl (own_w hw 71 rfl)) (Or.inl (own_w hw 61 rfl)) (by decide) (by decide : parseFieldDescriptor "Ljava/lang/String;" = some (.object "java/lang/String")) (by decide : parseFieldDescriptor "Ljava/util/OptionalInt;" = some (.object "java/util/OptionalInt"))))).other W_31 (Or.inr (slot_ne (C := "com/example/enlist/enlist/definition/TransactionDefinition$Settings") (Or.inl (own_w hw 71 rfl)) (Or.inl (own_w hw 69 rfl)) (by decide) (by decide : parseFieldDescriptor "Ljava/lang/String;" = some (.object "java/lang/String")) (by decide : parseFieldDescriptor "Ljava/util/Map;" = some (.object "java/util/Map")))))
  have F_11'_34 : Fld Z h_31 a_1 "com/example/enlist/enlist/definition/TransactionDefinition$Settings" "propagation" "Lcom/example/enlist/enlist/definition/Propagation;" (.ref rq) := ((((F_11.other W_16 (Or.inr (slot_ne (C := "com/example/enlist/enlist/definition/TransactionDefinition$Settings") (Or.inl (own_w hw 49 rfl)) (Or.inl (own_w hw 54 rfl)) (by decide) (by decide : parseFieldDescriptor "Lcom/example/enlist/enlist/definition/Propagation;" = some (.object "com/example/enlist/enlist/definition/Propagation")) (by decide : parseFieldDescriptor "Lcom/example/enlist/enlist/definition/Isolation;" = some (.object "com/example/enlist/enlist/definition/Isolation"))))).other W_21 (Or.inr (slot_ne (C := "com/example/enlist/enlist/definition/TransactionDefinition$Settings") (Or.inl (own_w hw 49 rfl)) (Or.inl (own_w hw 73 rfl)) (by decide) (by decide : parseFieldDescriptor "Lcom/example/enlist/enlist/definition/Propagation;" = some (.object "com/example/enlist/enlist/definition/Propagation")) (by decide : parseFieldDescriptor "Z" = some .boolean)))).other W_26 (Or.inr (slot_ne (C := "com/example/enlist/enlist/definition/TransactionDefinition$Settings") (Or.inl (own_w hw 49 rfl)) (Or.inl (own_w hw 61 rfl)) (by decide) (by decide : parseFieldDescriptor "Lcom/example/enlist/enlist/definition/Propagation;" = some (.object "com/example/enlist/enlist/definition/Propagation")) (by decide : parseFieldDescriptor "Ljava/util/OptionalInt;" = some (.object "java/util/OptionalInt"))))).other W_31 (Or.inr (slot_ne (C := "com/example/enlist/enlist/definition/TransactionDefinition$Settings") (Or.inl (own_w hw 49 rfl)) (Or.inl (own_w hw 69 rfl)) (by decide) (by decide : parseFieldDescriptor "Lcom/example/enlist/enlist/definition/Propagation;" = some (.object "com/example/enlist/enlist/definition/Propagation")) (by decide : parseFieldDescriptor "Ljava/util/Map;" = some (.object "java/util/Map")))))
  have F_16'_35 : Fld Z h_31 a_1 "com/example/enlist/enlist/definition/TransactionDefinition$Settings" "isolation" "Lcom/example/enlist/enlist/definition/Isolation;" (.ref io) := (((F_16.other W_21 (Or.inr (slot_ne (C := "com/example/enlist/enlist/definition/TransactionDefinition$Settings") (Or.inl (own_w hw 54 rfl)) (Or.inl (own_w hw 73 rfl)) (by decide) (by decide : parseFieldDescriptor "Lcom/example/enlist/enlist/definition/Isolation;" = some (.object "com/example/enlist/enlist/definition/Isolation")) (by decide : parseFieldDescriptor "Z" = some .boolean)))).other W_26 (Or.inr (slot_ne (C := "com/example/enlist/enlist/definition/TransactionDefinition$Settings") (Or.inl (own_w hw 54 rfl)) (Or.inl (own_w hw 61 rfl)) (by decide) (by decide : parseFieldDescriptor "Lcom/example/enlist/enlist/definition/Isolation;" = some (.object "com/example/enlist/enlist/definition/Isolation")) (by decide : parseFieldDescriptor "Ljava/util/OptionalInt;" = some (.object "java/util/OptionalInt"))))).other W_31 (Or.inr (slot_ne (C := "com/example/enlist/enlist/definition/TransactionDefinition$Settings") (Or.inl (own_w hw 54 rfl)) (Or.inl (own_w hw 69 rfl)) (by decide) (by decide : parseFieldDescriptor "Lcom/example/enlist/enlist/definition/Isolation;" = some (.object "com/example/enlist/enlist/definition/Isolation")) (by decide : parseFieldDescriptor "Ljava/util/Map;" = some (.object "java/util/Map")))))
  have F_21'_36 : Fld Z h_31 a_1 "com/example/enlist/enlist/definition/TransactionDefinition$Settings" "readOnly" "Z" (.int (0 : Int32)) := ((F_21.other W_26 (Or.inr (slot_ne (C := "com/example/enlist/enlist/definition/TransactionDefinition$Settings") (Or.inl (own_w hw 73 rfl)) (Or.inl (own_w hw 61 rfl)) (by decide) (by decide : parseFieldDescriptor "Z" = some .boolean) (by decide : parseFieldDescriptor "Ljava/util/OptionalInt;" = some (.object "java/util/OptionalInt"))))).other W_31 (Or.inr (slot_ne (C := "com/example/enlist/enlist/definition/TransactionDefinition$Settings") (Or.inl (own_w hw 73 rfl)) (Or.inl (own_w hw 69 rfl)) (by decide) (by decide : parseFieldDescriptor "Z" = some .boolean) (by decide : parseFieldDescriptor "Ljava/util/Map;" = some (.object "java/util/Map")))))
  have F_26'_37 : Fld Z h_31 a_1 "com/example/enlist/enlist/definition/TransactionDefinition$Settings" "timeout" "Ljava/util/OptionalInt;" (.ref em) := (F_26.other W_31 (Or.inr (slot_ne (C := "com/example/enlist/enlist/definition/TransactionDefinition$Settings") (Or.inl (own_w hw 61 rfl)) (Or.inl (own_w hw 69 rfl)) (by decide) (by decide : parseFieldDescriptor "Ljava/util/OptionalInt;" = some (.object "java/util/OptionalInt")) (by decide : parseFieldDescriptor "Ljava/util/Map;" = some (.object "java/util/Map")))))
  exact own_G.end_ X_31 hlk (v := (some (.ref a_1))) (fun h => by rw [hrt] at h; cases h) (fun fs hr => retOut X_31 hx hrt rfl (Or.inr (Or.inr (Or.inr (Or.inr ⟨rfl, rfl, rfl⟩)))) (hb hby d_prog82x_57) hr) e_31 ⟨a_1, rfl, N_31, (((((((((Keep.refl h0 []).ext E_1).trans K_3 (allS (Or.inr (Nat.le_of_eq g_1.symm)) all0)).wr W_6 (Or.inr (Nat.le_of_eq g_1.symm))).wr W_11 (Or.inr (Nat.le_of_eq g_1.symm))).wr W_16 (Or.inr (Nat.le_of_eq g_1.symm))).wr W_21 (Or.inr (Nat.le_of_eq g_1.symm))).wr W_26 (Or.inr (Nat.le_of_eq g_1.symm))).wr W_31 (Or.inr (Nat.le_of_eq g_1.symm))), (Nat.le_of_eq g_1.symm), Ex_3'_32, F_6'_33, F_11'_34, F_16'_35, F_21'_36, F_26'_37, F_31⟩ (by decide) (by decide)
theorem pn_9 : plainName "java/util/Objects" = true := by first | (simp [plainName, overriddenIn]; done) | decide +kernel
theorem d_jdk3111x_0 : decode jdk_31_method_11_code 0 = .ok (.aload_n 0, 1) := by decide +kernel
theorem d_jdk3111x_1 : decode jdk_31_method_11_code 1 = .ok (.ifnonnull 12, 3) := by decide +kernel
theorem d_jdk3111x_13 : decode jdk_31_method_11_code 13 = .ok (.aload_n 0, 1) := by decide +kernel
theorem d_jdk3111x_14 : decode jdk_31_method_11_code 14 = .ok (.areturn, 1) := by decide +kernel
set_option maxRecDepth 65536 in
set_option maxHeartbeats 40000000 in
theorem rm_rnn (l : Launch) (Z : State) (a0 : Array Value) (hw : ∀ d ∈ tables_1, d.before a0 Z = true) (ws : List Jvm.Cond) (a b : Addr) (h0 : Heap) (n0 : Nat) (Z0 : n0 ≤ h0.size)  :
    MetFree l (⟨"java/util/Objects", "requireNonNull", "(Ljava/lang/Object;Ljava/lang/String;)Ljava/lang/Object;"⟩ : MethodName) (head1 (Jvm.Cond.code (⟨"java/util/Objects", "requireNonNull", "(Ljava/lang/Object;Ljava/lang/String;)Ljava/lang/Object;"⟩ : MethodName) jdk_31_method_11_code 2 (some (.object "java/lang/Object")) :: ws) ({ frames := 0, cells := 0, slots := 0, locals := 0 } : Room)) (fun a_ U => a_ = #[(.ref a), (.ref b)] ∧ Z.Warmed39 U.vm ∧ U.heap = h0) (fun _ _ _ _ _ => True) (fun _ U o U' => ∃ v L, o = .returned v ∧ Qp (.ref a) h0 v U'.heap L ∧ FrameEnd U o U' L ({ frames := 0, cells := 0, slots := 0, locals := 0 } : Room).cells ({ frames := 0, cells := 0, slots := 0, locals := 0 } : Room).slots) := by
  refine MetFree.of_bodySF (plainFor_of_name pn_9) hisR ?_
  intro p e s m args below meth c s₁ Bd hml0 hP hK
  obtain ⟨rfl, hZ, hh⟩ := hP
  have hx := Bd.exec
  have hby := Bd.bytes
  have hrt := Bd.returns
  have hlk : meth.locks = false := Bd.notSynchronized
  have hml : c.maxLocals = 2 := hml0
  have hown : s.vm.findClass "java/util/Objects" = some m.cls := findClass_of_methodNamed Bd.named
  have hnm := (name_of_methodNamed Bd.named Bd.method).1
  have X0 : Stand p l e ({ frames := 0, cells := 0, slots := 0, locals := 0 } : Room) s m #[(.ref a), (.ref b)] below meth c s₁ [] 0 0 := Stand.of_body Bd
  have e0 : s₁.heap = h0 := by rw [← hh, Bd.state]; rfl
  have N0 := Fr.nil n0
  show own_G p.tables e below (fun o t => ∃ v L, o = .returned v ∧ Qp (.ref a) h0 v t.heap L ∧ FrameEnd s o t L ({ frames := 0, cells := 0, slots := 0, locals := 0 } : Room).cells ({ frames := 0, cells := 0, slots := 0, locals := 0 } : Room).slots) (s₁.setTop (entryFrame m #[(.ref a), (.ref b)] 2))
  refine own_G.cast (show entryFrame m #[(.ref a), (.ref b)] 2 = mkF m 0 #[.val (.ref a), .val (.ref b)] [] from by first | (simp [entryFrame, mkF, argsToLocals, Value.category]; done) | rfl) ?_
  refine own_G.go (fun _ k => XS.aloadN X0.here hx rfl (hb hby d_jdk3111x_0) rfl rfl k) ?_
  show own_G _ _ _ _ (s₁.setTop (mkF m 1 #[.val (.ref a), .val (.ref b)] [(.ref a)]))
  refine own_G.go (fun _ k => XS.ifnonnullYes X0.here hx rfl (pc0 := 1) (pc' := 13) rfl (hb hby d_jdk3111x_1) rfl (by decide) (by decide) k) ?_
  show own_G _ _ _ _ (s₁.setTop (mkF m 13 #[.val (.ref a), .val (.ref b)] []))
  refine own_G.go (fun _ k => XS.aloadN X0.here hx rfl (hb hby d_jdk3111x_13) rfl rfl k) ?_
  show own_G _ _ _ _ (s₁.setTop (mkF m 14 #[.val (.ref a), .val (.ref b)] [(.ref a)]))
  exact own_G.end_ X0 hlk (v := (some (.ref a))) (fun h => by rw [hrt] at h; cases h) (fun fs hr => retOut X0 hx hrt rfl (Or.inr (Or.inr (Or.inr (Or.inr ⟨rfl, rfl, rfl⟩)))) (hb hby d_jdk3111x_14) hr) e0 ⟨rfl, rfl, rfl⟩ (by decide) (by decide)
def Qti (Z : State) (a c : Addr) (h0 : Heap) (n0 : Nat) (v : Option Value) (h : Heap) (L : List Loc) : Prop := v = none ∧ Fr n0 L ∧ Keep h0 h [a] ∧ Exa Z h a "com/example/enlist/enlist/definition/TransactionDefinition" ∧ Fld Z h a "com/example/enlist/enlist/definition/TransactionDefinition" "settings" "Lcom/example/enlist/enlist/definition/TransactionDefinition$Settings;" (.ref c)
theorem pn_10 : plainName "com/example/enlist/enlist/definition/TransactionDefinition" = true := by first | (simp [plainName, overriddenIn]; done) | decide +kernel
theorem d_prog71x_0 : decode prog_7_method_1_code 0 = .ok (.aload_n 0, 1) := by decide +kernel
theorem d_prog71x_1 : decode prog_7_method_1_code 1 = .ok (.invokespecial 1, 3) := by decide +kernel
theorem d_prog71x_4 : decode prog_7_method_1_code 4 = .ok (.aload_n 0, 1) := by decide +kernel
theorem d_prog71x_5 : decode prog_7_method_1_code 5 = .ok (.aload_n 1, 1) := by decide +kernel
theorem d_prog71x_6 : decode prog_7_method_1_code 6 = .ok (.putfield 7, 3) := by decide +kernel
theorem d_prog71x_9 : decode prog_7_method_1_code 9 = .ok (.return_, 1) := by decide +kernel
set_option maxRecDepth 65536 in
set_option maxHeartbeats 40000000 in
theorem rm_tdi (l : Launch) (Z : State) (a0 : Array Value) (hw : ∀ d ∈ tables_1, d.before a0 Z = true) (ws : List Jvm.Cond) (a cc : Addr) (h0 : Heap) (n0 : Nat) (Z0 : n0 ≤ h0.size) (ga : n0 ≤ a) (E0 : Exa Z h0 a "com/example/enlist/enlist/definition/TransactionDefinition") (F0 : Fld Z h0 a "com/example/enlist/enlist/definition/TransactionDefinition" "settings" "Lcom/example/enlist/enlist/definition/TransactionDefinition$Settings;" .null) :
    MetFree l (⟨"com/example/enlist/enlist/definition/TransactionDefinition", "<init>", "(Lcom/example/enlist/enlist/definition/TransactionDefinition$Settings;)V"⟩ : MethodName) (head1 (Jvm.Cond.code (⟨"com/example/enlist/enlist/definition/TransactionDefinition", "<init>", "(Lcom/example/enlist/enlist/definition/TransactionDefinition$Settings;)V"⟩ : MethodName) prog_7_method_1_code 2 none :: ws) ({ frames := 1, cells := 0, slots := 0, locals := 12 } : Room)) (fun a_ U => a_ = #[(.ref a), (.ref cc)] ∧ Z.Warmed39 U.vm ∧ U.heap = h0) (fun _ _ _ _ _ => True) (fun _ U o U' => ∃ v L, o = .returned v ∧ Qti Z a cc h0 n0 v U'.heap L ∧ FrameEnd U o U' L ({ frames := 1, cells := 0, slots := 0, locals := 12 } : Room).cells ({ frames := 1, cells := 0, slots := 0, locals := 12 } : Room).slots) := by
  refine MetFree.of_bodySF (plainFor_of_name pn_10) hisR ?_
  intro p e s m args below meth c s₁ Bd hml0 hP hK
  obtain ⟨rfl, hZ, hh⟩ := hP
  have hx := Bd.exec
  have hby := Bd.bytes
  have hrt := Bd.returns
  have hlk : meth.locks = false := Bd.notSynchronized
  have hml : c.maxLocals = 2 := hml0
  have hown : s.vm.findClass "com/example/enlist/enlist/definition/TransactionDefinition" = some m.cls := findClass_of_methodNamed Bd.named
  have hnm := (name_of_methodNamed Bd.named Bd.method).1
  have X0 : Stand p l e ({ frames := 1, cells := 0, slots := 0, locals := 12 } : Room) s m #[(.ref a), (.ref cc)] below meth c s₁ [] 0 0 := Stand.of_body Bd
  have e0 : s₁.heap = h0 := by rw [← hh, Bd.state]; rfl
  have N0 := Fr.nil n0
  show own_G p.tables e below (fun o t => ∃ v L, o = .returned v ∧ Qti Z a cc h0 n0 v t.heap L ∧ FrameEnd s o t L ({ frames := 1, cells := 0, slots := 0, locals := 12 } : Room).cells ({ frames := 1, cells := 0, slots := 0, locals := 12 } : Room).slots) (s₁.setTop (entryFrame m #[(.ref a), (.ref cc)] 2))
  refine own_G.cast (show entryFrame m #[(.ref a), (.ref cc)] 2 = mkF m 0 #[.val (.ref a), .val (.ref cc)] [] from by first | (simp [entryFrame, mkF, argsToLocals, Value.category]; done) | rfl) ?_
  refine own_G.go (fun _ k => XS.aloadN X0.here hx rfl (hb hby d_prog71x_0) rfl rfl k) ?_
  show own_G _ _ _ _ (s₁.setTop (mkF m 1 #[.val (.ref a), .val (.ref cc)] [(.ref a)]))
  obtain ⟨T_1, X_1, e_1, st_1⟩ := initO X0 hx hZ hown (own_w hw 86 rfl) (own_w hw 16 rfl) (own_w hw 17 rfl) e0 (g := (mkF m 1 #[.val (.ref a), .val (.ref cc)] [(.ref a)])) rfl (by rw [hml]; rfl) rfl (hb hby d_prog71x_1) (by decide) (W := 0) (by show 2 * 0 + _ ≤ _; exact Nat.le_of_eq rfl) (by decide)
  refine own_G.go st_1 ?_
  show own_G _ _ _ _ (T_1.setTop (mkF m 4 #[.val (.ref a), .val (.ref cc)] []))
  refine own_G.go (fun _ k => XS.aloadN X_1.here hx rfl (hb hby d_prog71x_4) rfl rfl k) ?_
  show own_G _ _ _ _ (T_1.setTop (mkF m 5 #[.val (.ref a), .val (.ref cc)] [(.ref a)]))
  refine own_G.go (fun _ k => XS.aloadN X_1.here hx rfl (hb hby d_prog71x_5) rfl rfl k) ?_
  show own_G _ _ _ _ (T_1.setTop (mkF m 6 #[.val (.ref a), .val (.ref cc)] [(.ref cc), (.ref a)]))
  obtain ⟨T_2, h_2, X_2, e_2, W_2, st_2⟩ := putF X_1 hx hZ hown (host := "") (Or.inl (own_w hw 32 rfl)) Via.refl e_1 F0 E0 (Or.inr ⟨(own_w hw 33 rfl), rfl, hnm⟩) (own_w hw 82 rfl) (ty := (.object "com/example/enlist/enlist/definition/TransactionDefinition$Settings")) (by decide) rfl rfl (g := (mkF m 6 #[.val (.ref a), .val (.ref cc)] [(.ref cc), (.ref a)])) rfl rfl (hb hby d_prog71x_6)
  refine own_G.go st_2 ?_
  have F_2 : Fld Z h_2 a "com/example/enlist/enlist/definition/TransactionDefinition" "settings" "Lcom/example/enlist/enlist/definition/TransactionDefinition$Settings;" (.ref cc) := F0.same W_2
  have N_2 := Fr.snoc X_2 N0 ga
  show own_G _ _ _ _ (T_2.setTop (mkF m 9 #[.val (.ref a), .val (.ref cc)] []))
  have E0'_3 : Exa Z h_2 a "com/example/enlist/enlist/definition/TransactionDefinition" := (E0.wr W_2)
  exact own_G.end_ X_2 hlk (v := none) (fun _ => rfl) (fun fs hr => X_2.returnOut hx hrt (hb hby d_prog71x_9) hr) e_2 ⟨rfl, N_2, ((Keep.refl h0 [a]).wr W_2 (Or.inl (List.mem_of_getElem? (i := 0) rfl))), E0'_3, F_2⟩ (by decide) (by decide)
theorem d_prog711x_0 : decode prog_7_method_11_code 0 = .ok (.aload_n 0, 1) := by decide +kernel
theorem d_prog711x_1 : decode prog_7_method_11_code 1 = .ok (.getfield 7, 3) := by decide +kernel
theorem d_prog711x_4 : decode prog_7_method_11_code 4 = .ok (.getfield 33, 3) := by decide +kernel
theorem d_prog711x_7 : decode prog_7_method_11_code 7 = .ok (.ifnonnull 8, 3) := by decide +kernel
theorem d_prog711x_15 : decode prog_7_method_11_code 15 = .ok (.aload_n 0, 1) := by decide +kernel
theorem d_prog711x_16 : decode prog_7_method_11_code 16 = .ok (.getfield 7, 3) := by decide +kernel
theorem d_prog711x_19 : decode prog_7_method_11_code 19 = .ok (.getfield 33, 3) := by decide +kernel
theorem d_prog711x_22 : decode prog_7_method_11_code 22 = .ok (.areturn, 1) := by decide +kernel
set_option maxRecDepth 65536 in
set_option maxHeartbeats 40000000 in
theorem rm_nm1 (l : Launch) (Z : State) (a0 : Array Value) (hw : ∀ d ∈ tables_1, d.before a0 Z = true) (ws : List Jvm.Cond) (d st r : Addr) (h0 : Heap) (n0 : Nat) (Z0 : n0 ≤ h0.size) (F0 : Fld Z h0 d "com/example/enlist/enlist/definition/TransactionDefinition" "settings" "Lcom/example/enlist/enlist/definition/TransactionDefinition$Settings;" (.ref st)) (F1 : Fld Z h0 st "com/example/enlist/enlist/definition/TransactionDefinition$Settings" "name" "Ljava/lang/String;" (.ref r)) :
    MetFree l (⟨"com/example/enlist/enlist/definition/TransactionDefinition", "name", "()Ljava/lang/String;"⟩ : MethodName) (head1 (Jvm.Cond.code (⟨"com/example/enlist/enlist/definition/TransactionDefinition", "name", "()Ljava/lang/String;"⟩ : MethodName) prog_7_method_11_code 1 (some (.object "java/lang/String")) :: ws) ({ frames := 0, cells := 0, slots := 0, locals := 0 } : Room)) (fun a_ U => a_ = #[(.ref d)] ∧ Z.Warmed39 U.vm ∧ U.heap = h0) (fun _ _ _ _ _ => True) (fun _ U o U' => ∃ v L, o = .returned v ∧ Qp (.ref r) h0 v U'.heap L ∧ FrameEnd U o U' L ({ frames := 0, cells := 0, slots := 0, locals := 0 } : Room).cells ({ frames := 0, cells := 0, slots := 0, locals := 0 } : Room).slots) := by
  refine MetFree.of_bodySF (plainFor_of_name pn_10) hisR ?_
  intro p e s m args below meth c s₁ Bd hml0 hP hK
  obtain ⟨rfl, hZ, hh⟩ := hP
  have hx := Bd.exec
  have hby := Bd.bytes
  have hrt := Bd.returns
  have hlk : meth.locks = false := Bd.notSynchronized
  have hml : c.maxLocals = 1 := hml0
  have hown : s.vm.findClass "com/example/enlist/enlist/definition/TransactionDefinition" = some m.cls := findClass_of_methodNamed Bd.named
  have hnm := (name_of_methodNamed Bd.named Bd.method).1
  have X0 : Stand p l e ({ frames := 0, cells := 0, slots := 0, locals := 0 } : Room) s m #[(.ref d)] below meth c s₁ [] 0 0 := Stand.of_body Bd
  have e0 : s₁.heap = h0 := by rw [← hh, Bd.state]; rfl
  have N0 := Fr.nil n0
  show own_G p.tables e below (fun o t => ∃ v L, o = .returned v ∧ Qp (.ref r) h0 v t.heap L ∧ FrameEnd s o t L ({ frames := 0, cells := 0, slots := 0, locals := 0 } : Room).cells ({ frames := 0, cells := 0, slots := 0, locals := 0 } : Room).slots) (s₁.setTop (entryFrame m #[(.ref d)] 1))
  refine own_G.cast (show entryFrame m #[(.ref d)] 1 = mkF m 0 #[.val (.ref d)] [] from by first | (simp [entryFrame, mkF, argsToLocals, Value.category]; done) | rfl) ?_
  refine own_G.go (fun _ k => XS.aloadN X0.here hx rfl (hb hby d_prog711x_0) rfl rfl k) ?_
  show own_G _ _ _ _ (s₁.setTop (mkF m 1 #[.val (.ref d)] [(.ref d)]))
  obtain ⟨T_1, X_1, e_1, st_1⟩ := getF X0 hx hZ hown (host := "") (Or.inl (own_w hw 32 rfl)) Via.refl e0 F0 (g := (mkF m 1 #[.val (.ref d)] [(.ref d)])) rfl rfl (hb hby d_prog711x_1)
  refine own_G.go st_1 ?_
  show own_G _ _ _ _ (T_1.setTop (mkF m 4 #[.val (.ref d)] [(.ref st)]))
  obtain ⟨T_2, X_2, e_2, st_2⟩ := own_getFR X_1 hx hZ hown (own_w hw 80 rfl) e_1 F1 (g := (mkF m 4 #[.val (.ref d)] [(.ref st)])) rfl rfl (hb hby d_prog711x_4)
  refine own_G.go st_2 ?_
  show own_G _ _ _ _ (T_2.setTop (mkF m 7 #[.val (.ref d)] [(.ref r)]))
  refine own_G.go (fun _ k => XS.ifnonnullYes X_2.here hx rfl (pc0 := 7) (pc' := 15) rfl (hb hby d_prog711x_7) rfl (by decide) (by decide) k) ?_
  show own_G _ _ _ _ (T_2.setTop (mkF m 15 #[.val (.ref d)] []))
  refine own_G.go (fun _ k => XS.aloadN X_2.here hx rfl (hb hby d_prog711x_15) rfl rfl k) ?_
  show own_G _ _ _ _ (T_2.setTop (mkF m 16 #[.val (.ref d)] [(.ref d)]))
  obtain ⟨T_3, X_3, e_3, st_3⟩ := getF X_2 hx hZ hown (host := "") (Or.inl (own_w hw 32 rfl)) Via.refl e_2 F0 (g := (mkF m 16 #[.val (.ref d)] [(.ref d)])) rfl rfl (hb hby d_prog711x_16)
  refine own_G.go st_3 ?_
  show own_G _ _ _ _ (T_3.setTop (mkF m 19 #[.val (.ref d)] [(.ref st)]))
  obtain ⟨T_4, X_4, e_4, st_4⟩ := own_getFR X_3 hx hZ hown (own_w hw 80 rfl) e_3 F1 (g := (mkF m 19 #[.val (.ref d)] [(.ref st)])) rfl rfl (hb hby d_prog711x_19)
  refine own_G.go st_4 ?_
  show own_G _ _ _ _ (T_4.setTop (mkF m 22 #[.val (.ref d)] [(.ref r)]))
  exact own_G.end_ X_4 hlk (v := (some (.ref r))) (fun h => by rw [hrt] at h; cases h) (fun fs hr => retOut X_4 hx hrt rfl (Or.inr (Or.inr (Or.inr (Or.inr ⟨rfl, rfl, rfl⟩)))) (hb hby d_prog711x_22) hr) e_4 ⟨rfl, rfl, rfl⟩ (by decide) (by decide)
theorem d_prog712x_0 : decode prog_7_method_12_code 0 = .ok (.aload_n 0, 1) := by decide +kernel
theorem d_prog712x_1 : decode prog_7_method_12_code 1 = .ok (.getfield 7, 3) := by decide +kernel
theorem d_prog712x_4 : decode prog_7_method_12_code 4 = .ok (.getfield 43, 3) := by decide +kernel
theorem d_prog712x_7 : decode prog_7_method_12_code 7 = .ok (.areturn, 1) := by decide +kernel
set_option maxRecDepth 65536 in
set_option maxHeartbeats 40000000 in
theorem rm_pro (l : Launch) (Z : State) (a0 : Array Value) (hw : ∀ d ∈ tables_1, d.before a0 Z = true) (ws : List Jvm.Cond) (d st rq : Addr) (h0 : Heap) (n0 : Nat) (Z0 : n0 ≤ h0.size) (F0 : Fld Z h0 d "com/example/enlist/enlist/definition/TransactionDefinition" "settings" "Lcom/example/enlist/enlist/definition/TransactionDefinition$Settings;" (.ref st)) (F1 : Fld Z h0 st "com/example/enlist/enlist/definition/TransactionDefinition$Settings" "propagation" "Lcom/example/enlist/enlist/definition/Propagation;" (.ref rq)) :
    MetFree l (⟨"com/example/enlist/enlist/definition/TransactionDefinition", "propagation", "()Lcom/example/enlist/enlist/definition/Propagation;"⟩ : MethodName) (head1 (Jvm.Cond.code (⟨"com/example/enlist/enlist/definition/TransactionDefinition", "propagation", "()Lcom/example/enlist/enlist/definition/Propagation;"⟩ : MethodName) prog_7_method_12_code 1 (some (.object "com/example/enlist/enlist/definition/Propagation")) :: ws) ({ frames := 0, cells := 0, slots := 0, locals := 0 } : Room)) (fun a_ U => a_ = #[(.ref d)] ∧ Z.Warmed39 U.vm ∧ U.heap = h0) (fun _ _ _ _ _ => True) (fun _ U o U' => ∃ v L, o = .returned v ∧ Qp (.ref rq) h0 v U'.heap L ∧ FrameEnd U o U' L ({ frames := 0, cells := 0, slots := 0, locals := 0 } : Room).cells ({ frames := 0, cells := 0, slots := 0, locals := 0 } : Room).slots) := by
  refine MetFree.of_bodySF (plainFor_of_name pn_10) hisR ?_
  intro p e s m args below meth c s₁ Bd hml0 hP hK
  obtain ⟨rfl, hZ, hh⟩ := hP
  have hx := Bd.exec
  have hby := Bd.bytes
  have hrt := Bd.returns
  have hlk : meth.locks = false := Bd.notSynchronized
  have hml : c.maxLocals = 1 := hml0
  have hown : s.vm.findClass "com/example/enlist/enlist/definition/TransactionDefinition" = some m.cls := findClass_of_methodNamed Bd.named
  have hnm := (name_of_methodNamed Bd.named Bd.method).1
  have X0 : Stand p l e ({ frames := 0, cells := 0, slots := 0, locals := 0 } : Room) s m #[(.ref d)] below meth c s₁ [] 0 0 := Stand.of_body Bd
  have e0 : s₁.heap = h0 := by rw [← hh, Bd.state]; rfl
  have N0 := Fr.nil n0
  show own_G p.tables e below (fun o t => ∃ v L, o = .returned v ∧ Qp (.ref rq) h0 v t.heap L ∧ FrameEnd s o t L ({ frames := 0, cells := 0, slots := 0, locals := 0 } : Room).cells ({ frames := 0, cells := 0, slots := 0, locals := 0 } : Room).slots) (s₁.setTop (entryFrame m #[(.ref d)] 1))
  refine own_G.cast (show entryFrame m #[(.ref d)] 1 = mkF m 0 #[.val (.ref d)] [] from by first | (simp [entryFrame, mkF, argsToLocals, Value.category]; done) | rfl) ?_
  refine own_G.go (fun _ k => XS.aloadN X0.here hx rfl (hb hby d_prog712x_0) rfl rfl k) ?_
  show own_G _ _ _ _ (s₁.setTop (mkF m 1 #[.val (.ref d)] [(.ref d)]))
  obtain ⟨T_1, X_1, e_1, st_1⟩ := getF X0 hx hZ hown (host := "") (Or.inl (own_w hw 32 rfl)) Via.refl e0 F0 (g := (mkF m 1 #[.val (.ref d)] [(.ref d)])) rfl rfl (hb hby d_prog712x_1)
  refine own_G.go st_1 ?_
  show own_G _ _ _ _ (T_1.setTop (mkF m 4 #[.val (.ref d)] [(.ref st)]))
  obtain ⟨T_2, X_2, e_2, st_2⟩ := own_getFR X_1 hx hZ hown (own_w hw 102 rfl) e_1 F1 (g := (mkF m 4 #[.val (.ref d)] [(.ref st)])) rfl rfl (hb hby d_prog712x_4)
  refine own_G.go st_2 ?_
  show own_G _ _ _ _ (T_2.setTop (mkF m 7 #[.val (.ref d)] [(.ref rq)]))
  exact own_G.end_ X_2 hlk (v := (some (.ref rq))) (fun h => by rw [hrt] at h; cases h) (fun fs hr => retOut X_2 hx hrt rfl (Or.inr (Or.inr (Or.inr (Or.inr ⟨rfl, rfl, rfl⟩)))) (hb hby d_prog712x_7) hr) e_2 ⟨rfl, rfl, rfl⟩ (by decide) (by decide)
theorem d_prog713x_0 : decode prog_7_method_13_code 0 = .ok (.aload_n 0, 1) := by decide +kernel
theorem d_prog713x_1 : decode prog_7_method_13_code 1 = .ok (.getfield 7, 3) := by decide +kernel
theorem d_prog713x_4 : decode prog_7_method_13_code 4 = .ok (.getfield 50, 3) := by decide +kernel
theorem d_prog713x_7 : decode prog_7_method_13_code 7 = .ok (.areturn, 1) := by decide +kernel
set_option maxRecDepth 65536 in
set_option maxHeartbeats 40000000 in
theorem rm_iso (l : Launch) (Z : State) (a0 : Array Value) (hw : ∀ d ∈ tables_1, d.before a0 Z = true) (ws : List Jvm.Cond) (d st io : Addr) (h0 : Heap) (n0 : Nat) (Z0 : n0 ≤ h0.size) (F0 : Fld Z h0 d "com/example/enlist/enlist/definition/TransactionDefinition" "settings" "Lcom/example/enlist/enlist/definition/TransactionDefinition$Settings;" (.ref st)) (F1 : Fld Z h0 st "com/example/enlist/enlist/definition/TransactionDefinition$Settings" "isolation" "Lcom/example/enlist/enlist/definition/Isolation;" (.ref io)) :
    MetFree l (⟨"com/example/enlist/enlist/definition/TransactionDefinition", "isolation", "()Lcom/example/enlist/enlist/definition/Isolation;"⟩ : MethodName) (head1 (Jvm.Cond.code (⟨"com/example/enlist/enlist/definition/TransactionDefinition", "isolation", "()Lcom/example/enlist/enlist/definition/Isolation;"⟩ : MethodName) prog_7_method_13_code 1 (some (.object "com/example/enlist/enlist/definition/Isolation")) :: ws) ({ frames := 0, cells := 0, slots := 0, locals := 0 } : Room)) (fun a_ U => a_ = #[(.ref d)] ∧ Z.Warmed39 U.vm ∧ U.heap = h0) (fun _ _ _ _ _ => True) (fun _ U o U' => ∃ v L, o = .returned v ∧ Qp (.ref io) h0 v U'.heap L ∧ FrameEnd U o U' L ({ frames := 0, cells := 0, slots := 0, locals := 0 } : Room).cells ({ frames := 0, cells := 0, slots := 0, locals := 0 } : Room).slots) := by
  refine MetFree.of_bodySF (plainFor_of_name pn_10) hisR ?_
  intro p e s m args below meth c s₁ Bd hml0 hP hK
  obtain ⟨rfl, hZ, hh⟩ := hP
  have hx := Bd.exec
  have hby := Bd.bytes
  have hrt := Bd.returns
  have hlk : meth.locks = false := Bd.notSynchronized
  have hml : c.maxLocals = 1 := hml0
  have hown : s.vm.findClass "com/example/enlist/enlist/definition/TransactionDefinition" = some m.cls := findClass_of_methodNamed Bd.named
  have hnm := (name_of_methodNamed Bd.named Bd.method).1
  have X0 : Stand p l e ({ frames := 0, cells := 0, slots := 0, locals := 0 } : Room) s m #[(.ref d)] below meth c s₁ [] 0 0 := Stand.of_body Bd
  have e0 : s₁.heap = h0 := by rw [← hh, Bd.state]; rfl
  have N0 := Fr.nil n0
  show own_G p.tables e below (fun o t => ∃ v L, o = .returned v ∧ Qp (.ref io) h0 v t.heap L ∧ FrameEnd s o t L ({ frames := 0, cells := 0, slots := 0, locals := 0 } : Room).cells ({ frames := 0, cells := 0, slots := 0, locals := 0 } : Room).slots) (s₁.setTop (entryFrame m #[(.ref d)] 1))
  refine own_G.cast (show entryFrame m #[(.ref d)] 1 = mkF m 0 #[.val (.ref d)] [] from by first | (simp [entryFrame, mkF, argsToLocals, Value.category]; done) | rfl) ?_
  refine own_G.go (fun _ k => XS.aloadN X0.here hx rfl (hb hby d_prog713x_0) rfl rfl k) ?_
  show own_G _ _ _ _ (s₁.setTop (mkF m 1 #[.val (.ref d)] [(.ref d)]))
  obtain ⟨T_1, X_1, e_1, st_1⟩ := getF X0 hx hZ hown (host := "") (Or.inl (own_w hw 32 rfl)) Via.refl e0 F0 (g := (mkF m 1 #[.val (.ref d)] [(.ref d)])) rfl rfl (hb hby d_prog713x_1)
  refine own_G.go st_1 ?_
  show own_G _ _ _ _ (T_1.setTop (mkF m 4 #[.val (.ref d)] [(.ref st)]))
  obtain ⟨T_2, X_2, e_2, st_2⟩ := own_getFR X_1 hx hZ hown (own_w hw 109 rfl) e_1 F1 (g := (mkF m 4 #[.val (.ref d)] [(.ref st)])) rfl rfl (hb hby d_prog713x_4)
  refine own_G.go st_2 ?_
  show own_G _ _ _ _ (T_2.setTop (mkF m 7 #[.val (.ref d)] [(.ref io)]))
  exact own_G.end_ X_2 hlk (v := (some (.ref io))) (fun h => by rw [hrt] at h; cases h) (fun fs hr => retOut X_2 hx hrt rfl (Or.inr (Or.inr (Or.inr (Or.inr ⟨rfl, rfl, rfl⟩)))) (hb hby d_prog713x_7) hr) e_2 ⟨rfl, rfl, rfl⟩ (by decide) (by decide)
theorem d_prog714x_0 : decode prog_7_method_14_code 0 = .ok (.aload_n 0, 1) := by decide +kernel
theorem d_prog714x_1 : decode prog_7_method_14_code 1 = .ok (.getfield 7, 3) := by decide +kernel
theorem d_prog714x_4 : decode prog_7_method_14_code 4 = .ok (.getfield 53, 3) := by decide +kernel
theorem d_prog714x_7 : decode prog_7_method_14_code 7 = .ok (.ireturn, 1) := by decide +kernel
set_option maxRecDepth 65536 in
set_option maxHeartbeats 40000000 in
theorem rm_ro (l : Launch) (Z : State) (a0 : Array Value) (hw : ∀ d ∈ tables_1, d.before a0 Z = true) (ws : List Jvm.Cond) (d st : Addr) (h0 : Heap) (n0 : Nat) (Z0 : n0 ≤ h0.size) (F0 : Fld Z h0 d "com/example/enlist/enlist/definition/TransactionDefinition" "settings" "Lcom/example/enlist/enlist/definition/TransactionDefinition$Settings;" (.ref st)) (F1 : Fld Z h0 st "com/example/enlist/enlist/definition/TransactionDefinition$Settings" "readOnly" "Z" (.int (0 : Int32))) :
    MetFree l (⟨"com/example/enlist/enlist/definition/TransactionDefinition", "readOnly", "()Z"⟩ : MethodName) (head1 (Jvm.Cond.code (⟨"com/example/enlist/enlist/definition/TransactionDefinition", "readOnly", "()Z"⟩ : MethodName) prog_7_method_14_code 1 (some .boolean) :: ws) ({ frames := 0, cells := 0, slots := 0, locals := 0 } : Room)) (fun a_ U => a_ = #[(.ref d)] ∧ Z.Warmed39 U.vm ∧ U.heap = h0) (fun _ _ _ _ _ => True) (fun _ U o U' => ∃ v L, o = .returned v ∧ Qp (.int (0 : Int32)) h0 v U'.heap L ∧ FrameEnd U o U' L ({ frames := 0, cells := 0, slots := 0, locals := 0 } : Room).cells ({ frames := 0, cells := 0, slots := 0, locals := 0 } : Room).slots) := by
  refine MetFree.of_bodySF (plainFor_of_name pn_10) hisR ?_
  intro p e s m args below meth c s₁ Bd hml0 hP hK
  obtain ⟨rfl, hZ, hh⟩ := hP
  have hx := Bd.exec
  have hby := Bd.bytes
  have hrt := Bd.returns
  have hlk : meth.locks = false := Bd.notSynchronized
  have hml : c.maxLocals = 1 := hml0
  have hown : s.vm.findClass "com/example/enlist/enlist/definition/TransactionDefinition" = some m.cls := findClass_of_methodNamed Bd.named
  have hnm := (name_of_methodNamed Bd.named Bd.method).1
  have X0 : Stand p l e ({ frames := 0, cells := 0, slots := 0, locals := 0 } : Room) s m #[(.ref d)] below meth c s₁ [] 0 0 := Stand.of_body Bd
  have e0 : s₁.heap = h0 := by rw [← hh, Bd.state]; rfl
  have N0 := Fr.nil n0
  show own_G p.tables e below (fun o t => ∃ v L, o = .returned v ∧ Qp (.int (0 : Int32)) h0 v t.heap L ∧ FrameEnd s o t L ({ frames := 0, cells := 0, slots := 0, locals := 0 } : Room).cells ({ frames := 0, cells := 0, slots := 0, locals := 0 } : Room).slots) (s₁.setTop (entryFrame m #[(.ref d)] 1))
  refine own_G.cast (show entryFrame m #[(.ref d)] 1 = mkF m 0 #[.val (.ref d)] [] from by first | (simp [entryFrame, mkF, argsToLocals, Value.category]; done) | rfl) ?_
  refine own_G.go (fun _ k => XS.aloadN X0.here hx rfl (hb hby d_prog714x_0) rfl rfl k) ?_
  show own_G _ _ _ _ (s₁.setTop (mkF m 1 #[.val (.ref d)] [(.ref d)]))
  obtain ⟨T_1, X_1, e_1, st_1⟩ := getF X0 hx hZ hown (host := "") (Or.inl (own_w hw 32 rfl)) Via.refl e0 F0 (g := (mkF m 1 #[.val (.ref d)] [(.ref d)])) rfl rfl (hb hby d_prog714x_1)
  refine own_G.go st_1 ?_
  show own_G _ _ _ _ (T_1.setTop (mkF m 4 #[.val (.ref d)] [(.ref st)]))
  obtain ⟨T_2, X_2, e_2, st_2⟩ := own_getFR X_1 hx hZ hown (own_w hw 116 rfl) e_1 F1 (g := (mkF m 4 #[.val (.ref d)] [(.ref st)])) rfl rfl (hb hby d_prog714x_4)
  refine own_G.go st_2 ?_
  show own_G _ _ _ _ (T_2.setTop (mkF m 7 #[.val (.ref d)] [(.int (0 : Int32))]))
  exact own_G.end_ X_2 hlk (v := (some (.int (0 : Int32)))) (fun h => by rw [hrt] at h; cases h) (fun fs hr => retN X_2 hx (z := (0 : Int32)) (t := .boolean) hrt (by simp) (hb hby d_prog714x_7) hr) e_2 ⟨rfl, rfl, rfl⟩ (by decide) (by decide)
theorem d_prog715x_0 : decode prog_7_method_15_code 0 = .ok (.aload_n 0, 1) := by decide +kernel
theorem d_prog715x_1 : decode prog_7_method_15_code 1 = .ok (.getfield 7, 3) := by decide +kernel
theorem d_prog715x_4 : decode prog_7_method_15_code 4 = .ok (.getfield 91, 3) := by decide +kernel
theorem d_prog715x_7 : decode prog_7_method_15_code 7 = .ok (.areturn, 1) := by decide +kernel
set_option maxRecDepth 65536 in
set_option maxHeartbeats 40000000 in
theorem rm_to (l : Launch) (Z : State) (a0 : Array Value) (hw : ∀ d ∈ tables_1, d.before a0 Z = true) (ws : List Jvm.Cond) (d st em : Addr) (h0 : Heap) (n0 : Nat) (Z0 : n0 ≤ h0.size) (F0 : Fld Z h0 d "com/example/enlist/enlist/definition/TransactionDefinition" "settings" "Lcom/example/enlist/enlist/definition/TransactionDefinition$Settings;" (.ref st)) (F1 : Fld Z h0 st "com/example/enlist/enlist/definition/TransactionDefinition$Settings" "timeout" "Ljava/util/OptionalInt;" (.ref em)) :
    MetFree l (⟨"com/example/enlist/enlist/definition/TransactionDefinition", "timeout", "()Ljava/util/OptionalInt;"⟩ : MethodName) (head1 (Jvm.Cond.code (⟨"com/example/enlist/enlist/definition/TransactionDefinition", "timeout", "()Ljava/util/OptionalInt;"⟩ : MethodName) prog_7_method_15_code 1 (some (.object "java/util/OptionalInt")) :: ws) ({ frames := 0, cells := 0, slots := 0, locals := 0 } : Room)) (fun a_ U => a_ = #[(.ref d)] ∧ Z.Warmed39 U.vm ∧ U.heap = h0) (fun _ _ _ _ _ => True) (fun _ U o U' => ∃ v L, o = .returned v ∧ Qp (.ref em) h0 v U'.heap L ∧ FrameEnd U o U' L ({ frames := 0, cells := 0, slots := 0, locals := 0 } : Room).cells ({ frames := 0, cells := 0, slots := 0, locals := 0 } : Room).slots) := by
  refine MetFree.of_bodySF (plainFor_of_name pn_10) hisR ?_
  intro p e s m args below meth c s₁ Bd hml0 hP hK
  obtain ⟨rfl, hZ, hh⟩ := hP
  have hx := Bd.exec
  have hby := Bd.bytes
  have hrt := Bd.returns
  have hlk : meth.locks = false := Bd.notSynchronized
  have hml : c.maxLocals = 1 := hml0
  have hown : s.vm.findClass "com/example/enlist/enlist/definition/TransactionDefinition" = some m.cls := findClass_of_methodNamed Bd.named
  have hnm := (name_of_methodNamed Bd.named Bd.method).1
  have X0 : Stand p l e ({ frames := 0, cells := 0, slots := 0, locals := 0 } : Room) s m #[(.ref d)] below meth c s₁ [] 0 0 := Stand.of_body Bd
  have e0 : s₁.heap = h0 := by rw [← hh, Bd.state]; rfl
  have N0 := Fr.nil n0
  show own_G p.tables e below (fun o t => ∃ v L, o = .returned v ∧ Qp (.ref em) h0 v t.heap L ∧ FrameEnd s o t L ({ frames := 0, cells := 0, slots := 0, locals := 0 } : Room).cells ({ frames := 0, cells := 0, slots := 0, locals := 0 } : Room).slots) (s₁.setTop (entryFrame m #[(.ref d)] 1))
  refine own_G.cast (show entryFrame m #[(.ref d)] 1 = mkF m 0 #[.val (.ref d)] [] from by first | (simp [entryFrame, mkF, argsToLocals, Value.category]; done) | rfl) ?_
  refine own_G.go (fun _ k => XS.aloadN X0.here hx rfl (hb hby d_prog715x_0) rfl rfl k) ?_
  show own_G _ _ _ _ (s₁.setTop (mkF m 1 #[.val (.ref d)] [(.ref d)]))
  obtain ⟨T_1, X_1, e_1, st_1⟩ := getF X0 hx hZ hown (host := "") (Or.inl (own_w hw 32 rfl)) Via.refl e0 F0 (g := (mkF m 1 #[.val (.ref d)] [(.ref d)])) rfl rfl (hb hby d_prog715x_1)
  refine own_G.go st_1 ?_
  show own_G _ _ _ _ (T_1.setTop (mkF m 4 #[.val (.ref d)] [(.ref st)]))
  obtain ⟨T_2, X_2, e_2, st_2⟩ := own_getFR X_1 hx hZ hown (own_w hw 122 rfl) e_1 F1 (g := (mkF m 4 #[.val (.ref d)] [(.ref st)])) rfl rfl (hb hby d_prog715x_4)
  refine own_G.go st_2 ?_
  show own_G _ _ _ _ (T_2.setTop (mkF m 7 #[.val (.ref d)] [(.ref em)]))
  exact own_G.end_ X_2 hlk (v := (some (.ref em))) (fun h => by rw [hrt] at h; cases h) (fun fs hr => retOut X_2 hx hrt rfl (Or.inr (Or.inr (Or.inr (Or.inr ⟨rfl, rfl, rfl⟩)))) (hb hby d_prog715x_7) hr) e_2 ⟨rfl, rfl, rfl⟩ (by decide) (by decide)
theorem d_jdk4266x_0 : decode jdk_42_method_66_code 0 = .ok (.aload_n 0, 1) := by decide +kernel
theorem d_jdk4266x_1 : decode jdk_42_method_66_code 1 = .ok (.aload_n 1, 1) := by decide +kernel
theorem d_jdk4266x_2 : decode jdk_42_method_66_code 2 = .ok (.if_acmp .ne 5, 3) := by decide +kernel
theorem d_jdk4266x_5 : decode jdk_42_method_66_code 5 = .ok (.iconst 1, 1) := by decide +kernel
theorem d_jdk4266x_6 : decode jdk_42_method_66_code 6 = .ok (.ireturn, 1) := by decide +kernel
set_option maxRecDepth 65536 in
set_option maxHeartbeats 40000000 in
theorem rm_eqI (l : Launch) (Z : State) (a0 : Array Value) (hw : ∀ d ∈ tables_1, d.before a0 Z = true) (ws : List Jvm.Cond) (r : Addr) (h0 : Heap) (n0 : Nat) (Z0 : n0 ≤ h0.size)  :
    MetFree l (⟨"java/lang/String", "equals", "(Ljava/lang/Object;)Z"⟩ : MethodName) (head1 (Jvm.Cond.code (⟨"java/lang/String", "equals", "(Ljava/lang/Object;)Z"⟩ : MethodName) jdk_42_method_66_code 3 (some .boolean) :: ws) ({ frames := 0, cells := 0, slots := 0, locals := 0 } : Room)) (fun a_ U => a_ = #[(.ref r), (.ref r)] ∧ Z.Warmed39 U.vm ∧ U.heap = h0) (fun _ _ _ _ _ => True) (fun _ U o U' => ∃ v L, o = .returned v ∧ Qp (.int (1 : Int32)) h0 v U'.heap L ∧ FrameEnd U o U' L ({ frames := 0, cells := 0, slots := 0, locals := 0 } : Room).cells ({ frames := 0, cells := 0, slots := 0, locals := 0 } : Room).slots) := by
  refine MetFree.of_bodySF (plainFor_of_name pn_1) hisR ?_
  intro p e s m args below meth c s₁ Bd hml0 hP hK
  obtain ⟨rfl, hZ, hh⟩ := hP
  have hx := Bd.exec
  have hby := Bd.bytes
  have hrt := Bd.returns
  have hlk : meth.locks = false := Bd.notSynchronized
  have hml : c.maxLocals = 3 := hml0
  have hown : s.vm.findClass "java/lang/String" = some m.cls := findClass_of_methodNamed Bd.named
  have hnm := (name_of_methodNamed Bd.named Bd.method).1
  have X0 : Stand p l e ({ frames := 0, cells := 0, slots := 0, locals := 0 } : Room) s m #[(.ref r), (.ref r)] below meth c s₁ [] 0 0 := Stand.of_body Bd
  have e0 : s₁.heap = h0 := by rw [← hh, Bd.state]; rfl
  have N0 := Fr.nil n0
  show own_G p.tables e below (fun o t => ∃ v L, o = .returned v ∧ Qp (.int (1 : Int32)) h0 v t.heap L ∧ FrameEnd s o t L ({ frames := 0, cells := 0, slots := 0, locals := 0 } : Room).cells ({ frames := 0, cells := 0, slots := 0, locals := 0 } : Room).slots) (s₁.setTop (entryFrame m #[(.ref r), (.ref r)] 3))
  refine own_G.cast (show entryFrame m #[(.ref r), (.ref r)] 3 = mkF m 0 #[.val (.ref r), .val (.ref r), .unset] [] from by first | (simp [entryFrame, mkF, argsToLocals, Value.category]; done) | rfl) ?_
  refine own_G.go (fun _ k => XS.aloadN X0.here hx rfl (hb hby d_jdk4266x_0) rfl rfl k) ?_
  show own_G _ _ _ _ (s₁.setTop (mkF m 1 #[.val (.ref r), .val (.ref r), .unset] [(.ref r)]))
  refine own_G.go (fun _ k => XS.aloadN X0.here hx rfl (hb hby d_jdk4266x_1) rfl rfl k) ?_
  show own_G _ _ _ _ (s₁.setTop (mkF m 2 #[.val (.ref r), .val (.ref r), .unset] [(.ref r), (.ref r)]))
  refine own_G.go (fun _ k => Jvm.RoadKit.acmp (g := (mkF m 2 #[.val (.ref r), .val (.ref r), .unset] [(.ref r), (.ref r)])) X0 hx rfl rfl rfl (pc0 := 2) (pc' := 5) (same := true) rfl (hb hby d_jdk4266x_2) rfl (decide_eq_true (rfl : ((.ref r) : Value) = (.ref r))) (by decide) (by decide) k) ?_
  show own_G _ _ _ _ (s₁.setTop (mkF m 5 #[.val (.ref r), .val (.ref r), .unset] []))
  refine own_G.go (fun _ k => XS.iconst X0.here hx rfl (hb hby d_jdk4266x_5) k) ?_
  show own_G _ _ _ _ (s₁.setTop (mkF m 6 #[.val (.ref r), .val (.ref r), .unset] [(.int (1 : Int32))]))
  exact own_G.end_ X0 hlk (v := (some (.int (1 : Int32)))) (fun h => by rw [hrt] at h; cases h) (fun fs hr => retN X0 hx (z := (1 : Int32)) (t := .boolean) hrt (by simp) (hb hby d_jdk4266x_6) hr) e0 ⟨rfl, rfl, rfl⟩ (by decide) (by decide)
def Qe (Z : State) (a : Addr) (h0 : Heap) (n0 : Nat) (v : Option Value) (h : Heap) (L : List Loc) : Prop := ∃ (t : Addr) (kb : ClassId), v = none ∧ Fr n0 L ∧ Keep h0 h [a] ∧ Exa Z h a "java/lang/String" ∧ Fld Z h a "java/lang/String" "coder" "B" (.int (0 : Int32)) ∧ Fld Z h a "java/lang/String" "value" "[B" (.ref t) ∧ Arv Z h t kb .byte (0 : Int32) ([] : List Value) (.int 0)
theorem d_jdk42149x_0 : decode jdk_42_method_149_code 0 = .ok (.aload_n 0, 1) := by decide +kernel
theorem d_jdk42149x_1 : decode jdk_42_method_149_code 1 = .ok (.invokespecial 1, 3) := by decide +kernel
theorem d_jdk42149x_4 : decode jdk_42_method_149_code 4 = .ok (.iload_n 3, 1) := by decide +kernel
theorem d_jdk42149x_5 : decode jdk_42_method_149_code 5 = .ok (.ifCond .ne 22, 3) := by decide +kernel
theorem d_jdk42149x_8 : decode jdk_42_method_149_code 8 = .ok (.aload_n 0, 1) := by decide +kernel
theorem d_jdk42149x_9 : decode jdk_42_method_149_code 9 = .ok (.ldc 7, 2) := by decide +kernel
theorem d_jdk42149x_11 : decode jdk_42_method_149_code 11 = .ok (.getfield 9, 3) := by decide +kernel
theorem d_jdk42149x_14 : decode jdk_42_method_149_code 14 = .ok (.putfield 9, 3) := by decide +kernel
theorem d_jdk42149x_17 : decode jdk_42_method_149_code 17 = .ok (.aload_n 0, 1) := by decide +kernel
theorem d_jdk42149x_18 : decode jdk_42_method_149_code 18 = .ok (.ldc 7, 2) := by decide +kernel
theorem d_jdk42149x_20 : decode jdk_42_method_149_code 20 = .ok (.getfield 15, 3) := by decide +kernel
theorem d_jdk42149x_23 : decode jdk_42_method_149_code 23 = .ok (.putfield 15, 3) := by decide +kernel
theorem d_jdk42149x_26 : decode jdk_42_method_149_code 26 = .ok (.return_, 1) := by decide +kernel
set_option maxRecDepth 65536 in
set_option maxHeartbeats 40000000 in
theorem rm_e4 (l : Launch) (Z : State) (a0 : Array Value) (hw : ∀ d ∈ tables_1, d.before a0 Z = true) (ws : List Jvm.Cond) (a b : Addr) (h0 : Heap) (n0 : Nat) (Z0 : n0 ≤ h0.size) (g0 : n0 ≤ a) (E0 : Exa Z h0 a "java/lang/String") (F1 : Fld Z h0 a "java/lang/String" "value" "[B" .null) (F2 : Fld Z h0 a "java/lang/String" "coder" "B" (.int (0 : Int32))) :
    MetFree l (⟨"java/lang/String", "<init>", "([CIILjava/lang/Void;)V"⟩ : MethodName) (head1 (Jvm.Cond.code (⟨"java/lang/String", "<init>", "([CIILjava/lang/Void;)V"⟩ : MethodName) jdk_42_method_149_code 6 none :: ws) ({ frames := 1, cells := 4, slots := 8, locals := 14 } : Room)) (fun a_ U => a_ = #[(.ref a), (.ref b), (.int (0 : Int32)), (.int (0 : Int32)), .null] ∧ Z.Warmed39 U.vm ∧ U.heap = h0 ∧ CHv Z own_EL U.vm h0) (fun _ _ _ _ _ => True) (fun _ U o U' => ∃ v L, o = .returned v ∧ Qe Z a h0 n0 v U'.heap L ∧ CHr Z own_EL U.vm U.heap U'.vm U'.heap ∧ ReturnedEndW U o U' L ({ frames := 1, cells := 4, slots := 8, locals := 14 } : Room).cells ({ frames := 1, cells := 4, slots := 8, locals := 14 } : Room).slots) := by
  refine MetFree.of_bodySF (plainFor_of_name pn_1) hisR ?_
  intro p e s m args below meth c s₁ Bd hml0 hP hK
  obtain ⟨rfl, hZ, hh, hCH⟩ := hP
  have hx := Bd.exec
  have hby := Bd.bytes
  have hrt := Bd.returns
  have hlk : meth.locks = false := Bd.notSynchronized
  have hml : c.maxLocals = 6 := hml0
  have hown : s.vm.findClass "java/lang/String" = some m.cls := findClass_of_methodNamed Bd.named
  have hnm := (name_of_methodNamed Bd.named Bd.method).1
  have X0 : Stand p l e ({ frames := 1, cells := 4, slots := 8, locals := 14 } : Room) (s.setVm s.vm) m #[(.ref a), (.ref b), (.int (0 : Int32)), (.int (0 : Int32)), .null] below meth c s₁ [] 0 0 := Stand.of_body Bd
  have e0 : s₁.heap = h0 := by rw [← hh, Bd.state]; rfl
  have N0 := Fr.nil n0
  have hS0 : s.Since s.vm 0 := own_since s 0
  have hstr : ∀ d ∈ Bundle.stringAtoms, d.before a0 Z = true := fun d hd => hw d ((by decide +kernel : ∀ d ∈ Bundle.stringAtoms, d ∈ tables_1) d hd)
  have hEW : EW Z a0 own_EL := own_EW hw
  have CH0 : CHr Z own_EL s.vm h0 s.vm h0 := CHr.refl hCH
  show own_G p.tables e below (fun o t => ∃ v L, o = .returned v ∧ Qe Z a h0 n0 v t.heap L ∧ CHr Z own_EL s.vm s.heap t.vm t.heap ∧ ReturnedEndW s o t L ({ frames := 1, cells := 4, slots := 8, locals := 14 } : Room).cells ({ frames := 1, cells := 4, slots := 8, locals := 14 } : Room).slots) (s₁.setTop (entryFrame m #[(.ref a), (.ref b), (.int (0 : Int32)), (.int (0 : Int32)), .null] 6))
  refine own_G.cast (show entryFrame m #[(.ref a), (.ref b), (.int (0 : Int32)), (.int (0 : Int32)), .null] 6 = mkF m 0 #[.val (.ref a), .val (.ref b), .val (.int (0 : Int32)), .val (.int (0 : Int32)), .val .null, .unset] [] from by first | (simp [entryFrame, mkF, argsToLocals, Value.category]; done) | rfl) ?_
  have Sa : Safe Z own_EL s.vm h0 a := own_safeNull hZ.alike E0 F1
  refine own_G.go (fun _ k => XS.aloadN X0.here hx rfl (hb hby d_jdk42149x_0) rfl rfl k) ?_
  show own_G _ _ _ _ (s₁.setTop (mkF m 1 #[.val (.ref a), .val (.ref b), .val (.int (0 : Int32)), .val (.int (0 : Int32)), .val .null, .unset] [(.ref a)]))
  obtain ⟨T_1, X_1, e_1, st_1⟩ := initO X0 hx hZ hown (own_w hw 15 rfl) (own_w hw 16 rfl) (own_w hw 17 rfl) e0 (g := (mkF m 1 #[.val (.ref a), .val (.ref b), .val (.int (0 : Int32)), .val (.int (0 : Int32)), .val .null, .unset] [(.ref a)])) rfl (by rw [hml]; rfl) rfl (hb hby d_jdk42149x_1) (by decide) (W := 0) (by show 2 * 0 + _ ≤ _; exact Nat.le_of_eq rfl) (by decide)
  refine own_G.go st_1 ?_
  show own_G _ _ _ _ (T_1.setTop (mkF m 4 #[.val (.ref a), .val (.ref b), .val (.int (0 : Int32)), .val (.int (0 : Int32)), .val .null, .unset] []))
  refine own_G.go (fun _ k => XS.iloadN X_1.here hx rfl (hb hby d_jdk42149x_4) rfl k) ?_
  show own_G _ _ _ _ (T_1.setTop (mkF m 5 #[.val (.ref a), .val (.ref b), .val (.int (0 : Int32)), .val (.int (0 : Int32)), .val .null, .unset] [(.int (0 : Int32))]))
  refine own_G.go (fun _ k => XS.ifNo X_1.here hx rfl (hb hby d_jdk42149x_5) rfl ((if0 _ _).trans (teq (by decide : (0 : Int32) = (0 : Int32))).2) k) ?_
  show own_G _ _ _ _ (T_1.setTop (mkF m 8 #[.val (.ref a), .val (.ref b), .val (.int (0 : Int32)), .val (.int (0 : Int32)), .val .null, .unset] []))
  refine own_G.go (fun _ k => XS.aloadN X_1.here hx rfl (hb hby d_jdk42149x_8) rfl rfl k) ?_
  show own_G _ _ _ _ (T_1.setTop (mkF m 9 #[.val (.ref a), .val (.ref b), .val (.int (0 : Int32)), .val (.int (0 : Int32)), .val .null, .unset] [(.ref a)]))
  obtain ⟨al_2, T_2, h_2, k_2, bl_2, kl_2, X_2, e_2, E_2, hS_2, hk_2, hZ_2, hown_2, Ex_2, Fc_2, Fv_2, Va_2, lta_2, ltb_2, Cr_2, -, hne_2, st_2⟩ := ldcCH X_1 hx hZ hown (own_w hw 18 rfl) hstr e_1 hS0 (Nat.zero_le _) hEW (by simp [own_EL]) CH0.1 (vs := ([] : List Value)) (z := (0 : Int32)) (own_lit0) (by decide) (by decide) (g := (mkF m 9 #[.val (.ref a), .val (.ref b), .val (.int (0 : Int32)), .val (.int (0 : Int32)), .val .null, .unset] [(.ref a)])) rfl (hb hby d_jdk42149x_9) (n := 0) (by decide +kernel) (by decide) (by decide) (by decide)
  refine own_G.go st_2 ?_
  have Sf_3_a : Safe Z own_EL T_2.vm h_2 a := Cr_2.safe E0.lt Sa
  have CH_3 : CHr Z own_EL s.vm h0 T_2.vm h_2 := CH0.trans Cr_2
  show own_G _ _ _ _ (T_2.setTop (mkF m 11 #[.val (.ref a), .val (.ref b), .val (.int (0 : Int32)), .val (.int (0 : Int32)), .val .null, .unset] [(.ref al_2), (.ref a)]))
  obtain ⟨T_4, X_4, e_4, st_4⟩ := getF X_2 hx hZ_2 hown_2 (host := "") (Or.inl (own_w hw 24 rfl)) Via.refl e_2 Fv_2 (g := (mkF m 11 #[.val (.ref a), .val (.ref b), .val (.int (0 : Int32)), .val (.int (0 : Int32)), .val .null, .unset] [(.ref al_2), (.ref a)])) rfl rfl (hb hby d_jdk42149x_11)
  refine own_G.go st_4 ?_
  show own_G _ _ _ _ (T_4.setTop (mkF m 14 #[.val (.ref a), .val (.ref b), .val (.int (0 : Int32)), .val (.int (0 : Int32)), .val .null, .unset] [(.ref bl_2), (.ref a)]))
  have F1'_5 : Fld Z h_2 a "java/lang/String" "value" "[B" .null := (F1.ext E_2)
  have E0'_6 : Exa Z h_2 a "java/lang/String" := (E0.ext E_2)
  obtain ⟨T_7, h_7, X_7, e_7, W_7, st_7⟩ := putF X_4 hx hZ_2 hown_2 (host := "") (Or.inl (own_w hw 24 rfl)) Via.refl e_4 F1'_5 E0'_6 (Or.inr ⟨(own_w hw 20 rfl), rfl, hnm⟩) (own_w hw 5 rfl) (ty := (.array .byte)) (by decide) rfl rfl (g := (mkF m 14 #[.val (.ref a), .val (.ref b), .val (.int (0 : Int32)), .val (.int (0 : Int32)), .val .null, .unset] [(.ref bl_2), (.ref a)])) rfl rfl (hb hby d_jdk42149x_14)
  refine own_G.go st_7 ?_
  have Sf_8_a : Safe Z own_EL T_2.vm h_7 a := (Safe.wr W_7 Sf_3_a CH_3.1 Sf_3_a)
  have CH_8 : CHr Z own_EL s.vm h0 T_2.vm h_7 := CH_3.trans (CHr.wr W_7 Sf_3_a CH_3.1)
  have F_7 : Fld Z h_7 a "java/lang/String" "value" "[B" (.ref bl_2) := F1'_5.same W_7
  have N_7 := Fr.snoc X_7 N0 g0
  show own_G _ _ _ _ (T_7.setTop (mkF m 17 #[.val (.ref a), .val (.ref b), .val (.int (0 : Int32)), .val (.int (0 : Int32)), .val .null, .unset] []))
  refine own_G.go (fun _ k => XS.aloadN X_7.here hx rfl (hb hby d_jdk42149x_17) rfl rfl k) ?_
  show own_G _ _ _ _ (T_7.setTop (mkF m 18 #[.val (.ref a), .val (.ref b), .val (.int (0 : Int32)), .val (.int (0 : Int32)), .val .null, .unset] [(.ref a)]))
  obtain ⟨al_9, T_9, h_9, k_9, bl_9, kl_9, X_9, e_9, E_9, hS_9, hk_9, hZ_9, hown_9, Ex_9, Fc_9, Fv_9, Va_9, lta_9, ltb_9, Cr_9, -, hne_9, st_9⟩ := ldcCH X_7 hx hZ_2 hown_2 (own_w hw 18 rfl) hstr e_7 hS_2 (Nat.le_trans hk_2 (Keep.of_wr W_7).1) hEW (by simp [own_EL]) CH_8.1 (vs := ([] : List Value)) (z := (0 : Int32)) (own_lit0) (by decide) (by decide) (g := (mkF m 18 #[.val (.ref a), .val (.ref b), .val (.int (0 : Int32)), .val (.int (0 : Int32)), .val .null, .unset] [(.ref a)])) rfl (hb hby d_jdk42149x_18) (n := 0) (by decide +kernel) (by decide) (by decide) (by decide)
  refine own_G.go st_9 ?_
  have Sf_10_a : Safe Z own_EL T_9.vm h_9 a := Cr_9.safe (Nat.lt_of_lt_of_le E0.lt (Nat.le_trans E_2.1 (Keep.of_wr W_7).1)) Sf_8_a
  have CH_10 : CHr Z own_EL s.vm h0 T_9.vm h_9 := CH_8.trans Cr_9
  show own_G _ _ _ _ (T_9.setTop (mkF m 20 #[.val (.ref a), .val (.ref b), .val (.int (0 : Int32)), .val (.int (0 : Int32)), .val .null, .unset] [(.ref al_9), (.ref a)]))
  obtain ⟨T_11, X_11, e_11, st_11⟩ := getF X_9 hx hZ_9 hown_9 (host := "") (Or.inl (own_w hw 25 rfl)) Via.refl e_9 Fc_9 (g := (mkF m 20 #[.val (.ref a), .val (.ref b), .val (.int (0 : Int32)), .val (.int (0 : Int32)), .val .null, .unset] [(.ref al_9), (.ref a)])) rfl rfl (hb hby d_jdk42149x_20)
  refine own_G.go st_11 ?_
  show own_G _ _ _ _ (T_11.setTop (mkF m 23 #[.val (.ref a), .val (.ref b), .val (.int (0 : Int32)), .val (.int (0 : Int32)), .val .null, .unset] [(.int (0 : Int32)), (.ref a)]))
  have F2'_12 : Fld Z h_9 a "java/lang/String" "coder" "B" (.int (0 : Int32)) := (((F2.ext E_2).other W_7 (Or.inr (slot_ne (C := "java/lang/String") (Or.inr (own_w hw 21 rfl)) (Or.inr (own_w hw 20 rfl)) (by decide) (by decide : parseFieldDescriptor "B" = some .byte) (by decide : parseFieldDescriptor "[B" = some (.array .byte))))).ext E_9)
  have E0'_13 : Exa Z h_9 a "java/lang/String" := ((E0'_6.wr W_7).ext E_9)
  obtain ⟨T_14, h_14, X_14, e_14, W_14, st_14⟩ := putFN X_11 hx hZ_9 hown_9 (own_w hw 25 rfl) Via.refl e_11 F2'_12 E0'_13 (Or.inr ⟨(own_w hw 21 rfl), rfl, hnm⟩) (own_w hw 5 rfl) (ty := .byte) (v' := (.int (0 : Int32))) (by decide) rfl rfl (g := (mkF m 23 #[.val (.ref a), .val (.ref b), .val (.int (0 : Int32)), .val (.int (0 : Int32)), .val .null, .unset] [(.int (0 : Int32)), (.ref a)])) rfl rfl (hb hby d_jdk42149x_23)
  refine own_G.go st_14 ?_
  have Sf_15_a : Safe Z own_EL T_9.vm h_14 a := (Safe.wr W_14 Sf_10_a CH_10.1 Sf_10_a)
  have CH_15 : CHr Z own_EL s.vm h0 T_9.vm h_14 := CH_10.trans (CHr.wr W_14 Sf_10_a CH_10.1)
  have F_14 : Fld Z h_14 a "java/lang/String" "coder" "B" (.int (0 : Int32)) := F2'_12.same W_14
  have N_14 := Fr.snoc X_14 N_7 g0
  show own_G _ _ _ _ (T_14.setTop (mkF m 26 #[.val (.ref a), .val (.ref b), .val (.int (0 : Int32)), .val (.int (0 : Int32)), .val .null, .unset] []))
  have E0'_16 : Exa Z h_14 a "java/lang/String" := (E0'_13.wr W_14)
  have F_7'_17 : Fld Z h_14 a "java/lang/String" "value" "[B" (.ref bl_2) := ((F_7.ext E_9).other W_14 (Or.inr (slot_ne (C := "java/lang/String") (Or.inr (own_w hw 20 rfl)) (Or.inr (own_w hw 21 rfl)) (by decide) (by decide : parseFieldDescriptor "[B" = some (.array .byte)) (by decide : parseFieldDescriptor "B" = some .byte))))
  have Va_2'_18 : Arv Z h_14 bl_2 kl_2 .byte (0 : Int32) ([] : List Value) (.int 0) := (((Va_2.other W_7 (Ne.symm (hne_2 a Sf_3_a).2)).ext E_9).other W_14 (Ne.symm (hne_2 a Sf_3_a).2))
  exact own_G.endH X_14 hS_9 (Nat.le_trans hk_9 (Keep.of_wr W_14).1) hZ_9 hEW (hh ▸ CH_15) hlk (v := none) (fun _ => rfl) (fun fs hr => X_14.returnOut hx hrt (hb hby d_jdk42149x_26) hr) e_14 ⟨bl_2, kl_2, rfl, N_14, (((((Keep.refl h0 [a]).ext E_2).wr W_7 (Or.inl (List.mem_of_getElem? (i := 0) rfl))).ext E_9).wr W_14 (Or.inl (List.mem_of_getElem? (i := 0) rfl))), E0'_16, F_14, F_7'_17, Va_2'_18⟩ (by decide) (by decide)
theorem pd_21 : parseMethodDescriptor "([CIILjava/lang/Void;)V" = some ⟨[(.array .char), .int, .int, (.object "java/lang/Void")], none⟩ := by decide +kernel
theorem d_jdk423x_0 : decode jdk_42_method_3_code 0 = .ok (.aload_n 0, 1) := by decide +kernel
theorem d_jdk423x_1 : decode jdk_42_method_3_code 1 = .ok (.aload_n 1, 1) := by decide +kernel
theorem d_jdk423x_2 : decode jdk_42_method_3_code 2 = .ok (.iconst 0, 1) := by decide +kernel
theorem d_jdk423x_3 : decode jdk_42_method_3_code 3 = .ok (.aload_n 1, 1) := by decide +kernel
theorem d_jdk423x_4 : decode jdk_42_method_3_code 4 = .ok (.arraylength, 1) := by decide +kernel
theorem d_jdk423x_5 : decode jdk_42_method_3_code 5 = .ok (.aconst_null, 1) := by decide +kernel
theorem d_jdk423x_6 : decode jdk_42_method_3_code 6 = .ok (.invokespecial 27, 3) := by decide +kernel
theorem d_jdk423x_9 : decode jdk_42_method_3_code 9 = .ok (.return_, 1) := by decide +kernel
set_option maxRecDepth 65536 in
set_option maxHeartbeats 40000000 in
theorem rm_e2 (l : Launch) (Z : State) (a0 : Array Value) (hw : ∀ d ∈ tables_1, d.before a0 Z = true) (ws : List Jvm.Cond) (a b : Addr) (kb : ClassId) (h0 : Heap) (n0 : Nat) (Z0 : n0 ≤ h0.size) (g0 : n0 ≤ a) (E0 : Exa Z h0 a "java/lang/String") (F1 : Fld Z h0 a "java/lang/String" "value" "[B" .null) (F2 : Fld Z h0 a "java/lang/String" "coder" "B" (.int (0 : Int32))) (VB : Arv Z h0 b kb .char (0 : Int32) ([] : List Value) (.int (0 : Int32))) :
    MetFree l (⟨"java/lang/String", "<init>", "([C)V"⟩ : MethodName) (head1 (Jvm.Cond.code (⟨"java/lang/String", "<init>", "([C)V"⟩ : MethodName) jdk_42_method_3_code 2 none :: ws) ({ frames := 2, cells := 4, slots := 8, locals := 34 } : Room)) (fun a_ U => a_ = #[(.ref a), (.ref b)] ∧ Z.Warmed39 U.vm ∧ U.heap = h0 ∧ CHv Z own_EL U.vm h0) (fun _ _ _ _ _ => True) (fun _ U o U' => ∃ v L, o = .returned v ∧ Qe Z a h0 n0 v U'.heap L ∧ CHr Z own_EL U.vm U.heap U'.vm U'.heap ∧ ReturnedEndW U o U' L ({ frames := 2, cells := 4, slots := 8, locals := 34 } : Room).cells ({ frames := 2, cells := 4, slots := 8, locals := 34 } : Room).slots) := by
  refine MetFree.of_bodySF (plainFor_of_name pn_1) hisR ?_
  intro p e s m args below meth c s₁ Bd hml0 hP hK
  obtain ⟨rfl, hZ, hh, hCH⟩ := hP
  have hx := Bd.exec
  have hby := Bd.bytes
  have hrt := Bd.returns
  have hlk : meth.locks = false := Bd.notSynchronized
  have hml : c.maxLocals = 2 := hml0
  have hown : s.vm.findClass "java/lang/String" = some m.cls := findClass_of_methodNamed Bd.named
  have hnm := (name_of_methodNamed Bd.named Bd.method).1
  have X0 : Stand p l e ({ frames := 2, cells := 4, slots := 8, locals := 34 } : Room) (s.setVm s.vm) m #[(.ref a), (.ref b)] below meth c s₁ [] 0 0 := Stand.of_body Bd
  have e0 : s₁.heap = h0 := by rw [← hh, Bd.state]; rfl
  have N0 := Fr.nil n0
  have hS0 : s.Since s.vm 0 := own_since s 0
  have hstr : ∀ d ∈ Bundle.stringAtoms, d.before a0 Z = true := fun d hd => hw d ((by decide +kernel : ∀ d ∈ Bundle.stringAtoms, d ∈ tables_1) d hd)
  have hEW : EW Z a0 own_EL := own_EW hw
  have CH0 : CHr Z own_EL s.vm h0 s.vm h0 := CHr.refl hCH
  show own_G p.tables e below (fun o t => ∃ v L, o = .returned v ∧ Qe Z a h0 n0 v t.heap L ∧ CHr Z own_EL s.vm s.heap t.vm t.heap ∧ ReturnedEndW s o t L ({ frames := 2, cells := 4, slots := 8, locals := 34 } : Room).cells ({ frames := 2, cells := 4, slots := 8, locals := 34 } : Room).slots) (s₁.setTop (entryFrame m #[(.ref a), (.ref b)] 2))
  refine own_G.cast (show entryFrame m #[(.ref a), (.ref b)] 2 = mkF m 0 #[.val (.ref a), .val (.ref b)] [] from by first | (simp [entryFrame, mkF, argsToLocals, Value.category]; done) | rfl) ?_
  have Sa : Safe Z own_EL s.vm h0 a := own_safeNull hZ.alike E0 F1
  refine own_G.go (fun _ k => XS.aloadN X0.here hx rfl (hb hby d_jdk423x_0) rfl rfl k) ?_
  show own_G _ _ _ _ (s₁.setTop (mkF m 1 #[.val (.ref a), .val (.ref b)] [(.ref a)]))
  refine own_G.go (fun _ k => XS.aloadN X0.here hx rfl (hb hby d_jdk423x_1) rfl rfl k) ?_
  show own_G _ _ _ _ (s₁.setTop (mkF m 2 #[.val (.ref a), .val (.ref b)] [(.ref b), (.ref a)]))
  refine own_G.go (fun _ k => XS.iconst X0.here hx rfl (hb hby d_jdk423x_2) k) ?_
  show own_G _ _ _ _ (s₁.setTop (mkF m 3 #[.val (.ref a), .val (.ref b)] [(.int (0 : Int32)), (.ref b), (.ref a)]))
  refine own_G.go (fun _ k => XS.aloadN X0.here hx rfl (hb hby d_jdk423x_3) rfl rfl k) ?_
  show own_G _ _ _ _ (s₁.setTop (mkF m 4 #[.val (.ref a), .val (.ref b)] [(.ref b), (.int (0 : Int32)), (.ref b), (.ref a)]))
  obtain ⟨cel_1, A_1, -, S_1, M_1, -, -⟩ := id VB
  refine own_G.go (X0.arraylength hx (by rw [e0]; exact A_1.1) (State.isArrayOf_alike hZ.alike A_1.2.1) (g := (mkF m 4 #[.val (.ref a), .val (.ref b)] [(.ref b), (.int (0 : Int32)), (.ref b), (.ref a)])) rfl rfl (hb hby d_jdk423x_4)) ?_
  rw [len_of S_1 M_1]
  show own_G _ _ _ _ (s₁.setTop (mkF m 5 #[.val (.ref a), .val (.ref b)] [(.int (0 : Int32)), (.int (0 : Int32)), (.ref b), (.ref a)]))
  refine own_G.go (fun _ k => XS.aconstNull X0.here hx rfl (hb hby d_jdk423x_5) k) ?_
  show own_G _ _ _ _ (s₁.setTop (mkF m 6 #[.val (.ref a), .val (.ref b)] [.null, (.int (0 : Int32)), (.int (0 : Int32)), (.ref b), (.ref a)]))
  obtain ⟨_, T_2, L_2, Q_2, X_2, hS_2, hZ_2, hown_2, st_2⟩ := own_callIW X0 hx hS0 (Nat.zero_le _) hZ rfl hown (mvT hZ (own_w hw 11 rfl)) (mvT hZ (own_w hw 12 rfl)) (mvT hZ (own_w hw 14 rfl)) (by decide) (Q := (fun v (U : State) L => Qe Z a h0 n0 v U.heap L ∧ CHr Z own_EL s.vm h0 U.vm U.heap)) (own_backSH (backOfSH (W := 0) (rm_e4 l Z a0 hw [] a b h0 n0 Z0 g0 E0 F1 F2) hZ (own_w hw 14 rfl) (own_w hw 6 rfl) (by decide) (by decide) hEW CH0.1)) (a := a) (g := (mkF m 6 #[.val (.ref a), .val (.ref b)] [.null, (.int (0 : Int32)), (.int (0 : Int32)), (.ref b), (.ref a)])) rfl (by rw [hml]; rfl) (argsL := [(.ref b), (.int (0 : Int32)), (.int (0 : Int32)), .null]) (rest := []) (lenOf pd_21 rfl) rfl (by show 2 * 0 + _ ≤ _; exact Nat.le_of_eq rfl) (hb hby d_jdk423x_6) e0 rfl (by decide) (by decide)
  obtain ⟨⟨t_2, kb_2, rfl, Nq_2, K_2, Ex_2, Fc_2, Fv_2, Kb_2⟩, Ch_2⟩ := Q_2
  refine own_G.via st_2 ?_
  have Sf_3_a : Safe Z own_EL T_2.vm T_2.heap a := Ch_2.safe E0.lt Sa
  have CH_3 : CHr Z own_EL s.vm h0 T_2.vm T_2.heap := CH0.trans Ch_2
  have N_2 := Fr.app N0 Nq_2
  show own_G _ _ _ _ (T_2.setTop (mkF m 9 #[.val (.ref a), .val (.ref b)] []))
  exact own_G.endH X_2 hS_2 (Nat.le_refl _) hZ_2 hEW (hh ▸ CH_3) hlk (v := none) (fun _ => rfl) (fun fs hr => X_2.returnOut hx hrt (hb hby d_jdk423x_9) hr) rfl ⟨t_2, kb_2, rfl, N_2, ((Keep.refl h0 [a]).trans K_2 (allS (Or.inl (List.mem_of_getElem? (i := 0) rfl)) all0)), Ex_2, Fc_2, Fv_2, Kb_2⟩ (by decide) (by decide)
def Qs (Z : State) (n c0 c1 c2 c3 : Int32) (h0 : Heap) (n0 : Nat) (v : Option Value) (h : Heap) (L : List Loc) : Prop := ∃ (r t : Addr) (kb : ClassId), v = some (.ref r) ∧ Fr n0 L ∧ Keep h0 h [] ∧ h0.size ≤ r ∧ Exa Z h r "java/lang/String" ∧ Fld Z h r "java/lang/String" "coder" "B" (.int 0) ∧ Fld Z h r "java/lang/String" "value" "[B" (.ref t) ∧ Arv Z h t kb .byte (Int32.ofNat (own_cs n c0 c1 c2 c3).length) (((own_cs n c0 c1 c2 c3).map (fun c => c.toInt8.toInt32)).map Value.int) (.int 0)
theorem pn_11 : plainName "com/example/enlist/enlist/definition/TransactionDefinitionNamedPinLaw" = true := by first | (simp [plainName, overriddenIn]; done) | decide +kernel
theorem pd_22 : parseMethodDescriptor "([C)V" = some ⟨[(.array .char)], none⟩ := by decide +kernel
theorem d_method2x_0 : decode method_2_code 0 = .ok (.iload_n 0, 1) := by decide +kernel
theorem d_method2x_1 : decode method_2_code 1 = .ok (.ifCond .ne 14, 3) := by decide +kernel
theorem d_method2x_4 : decode method_2_code 4 = .ok (.new 7, 3) := by decide +kernel
theorem d_method2x_7 : decode method_2_code 7 = .ok (.dup, 1) := by decide +kernel
theorem d_method2x_8 : decode method_2_code 8 = .ok (.iconst 0, 1) := by decide +kernel
theorem d_method2x_9 : decode method_2_code 9 = .ok (.newarray .char, 2) := by decide +kernel
theorem d_method2x_11 : decode method_2_code 11 = .ok (.invokespecial 9, 3) := by decide +kernel
theorem d_method2x_14 : decode method_2_code 14 = .ok (.areturn, 1) := by decide +kernel
set_option maxRecDepth 65536 in
set_option maxHeartbeats 40000000 in
theorem rm_mk0 (l : Launch) (Z : State) (a0 : Array Value) (hw : ∀ d ∈ tables_1, d.before a0 Z = true) (ws : List Jvm.Cond) (c0 c1 c2 c3 : Int32) (zc : Int32) (h0 : Heap) (n0 : Nat) (Z0 : n0 ≤ h0.size) (b0 : own_b c0) (b1 : own_b c1) (b2 : own_b c2) (b3 : own_b c3) (O2 : Sta Z Z.heap "java/lang/String" "COMPACT_STRINGS" "Z" (.int zc)) (P5 : ¬ (zc = (0 : Int32))) (X00 : Old Z n0 h0) :
    MetFree l (⟨"com/example/enlist/enlist/definition/TransactionDefinitionNamedPinLaw", "make", "(ICCCC)Ljava/lang/String;"⟩ : MethodName) (head1 (Jvm.Cond.code (⟨"com/example/enlist/enlist/definition/TransactionDefinitionNamedPinLaw", "make", "(ICCCC)Ljava/lang/String;"⟩ : MethodName) method_2_code 5 (some (.object "java/lang/String")) :: ws) ({ frames := 6, cells := 6, slots := 12, locals := 70 } : Room)) (fun a_ U => a_ = #[(.int (0 : Int32)), (.int c0), (.int c1), (.int c2), (.int c3)] ∧ Z.Warmed39 U.vm ∧ U.heap = h0 ∧ CHv Z own_EL U.vm h0) (fun _ _ _ _ _ => True) (fun _ U o U' => ∃ v L, o = .returned v ∧ Qs Z (0 : Int32) c0 c1 c2 c3 h0 n0 v U'.heap L ∧ CHr Z own_EL U.vm U.heap U'.vm U'.heap ∧ ReturnedEndW U o U' L ({ frames := 6, cells := 6, slots := 12, locals := 70 } : Room).cells ({ frames := 6, cells := 6, slots := 12, locals := 70 } : Room).slots) := by
  refine MetFree.of_bodySF (plainFor_of_name pn_11) hisR ?_
  intro p e s m args below meth c s₁ Bd hml0 hP hK
  obtain ⟨rfl, hZ, hh, hCH⟩ := hP
  have hx := Bd.exec
  have hby := Bd.bytes
  have hrt := Bd.returns
  have hlk : meth.locks = false := Bd.notSynchronized
  have hml : c.maxLocals = 5 := hml0
  have hown : s.vm.findClass "com/example/enlist/enlist/definition/TransactionDefinitionNamedPinLaw" = some m.cls := findClass_of_methodNamed Bd.named
  have hnm := (name_of_methodNamed Bd.named Bd.method).1
  have X0 : Stand p l e ({ frames := 6, cells := 6, slots := 12, locals := 70 } : Room) (s.setVm s.vm) m #[(.int (0 : Int32)), (.int c0), (.int c1), (.int c2), (.int c3)] below meth c s₁ [] 0 0 := Stand.of_body Bd
  have e0 : s₁.heap = h0 := by rw [← hh, Bd.state]; rfl
  have N0 := Fr.nil n0
  have hS0 : s.Since s.vm 0 := own_since s 0
  have hstr : ∀ d ∈ Bundle.stringAtoms, d.before a0 Z = true := fun d hd => hw d ((by decide +kernel : ∀ d ∈ Bundle.stringAtoms, d ∈ tables_1) d hd)
  have hEW : EW Z a0 own_EL := own_EW hw
  have CH0 : CHr Z own_EL s.vm h0 s.vm h0 := CHr.refl hCH
  show own_G p.tables e below (fun o t => ∃ v L, o = .returned v ∧ Qs Z (0 : Int32) c0 c1 c2 c3 h0 n0 v t.heap L ∧ CHr Z own_EL s.vm s.heap t.vm t.heap ∧ ReturnedEndW s o t L ({ frames := 6, cells := 6, slots := 12, locals := 70 } : Room).cells ({ frames := 6, cells := 6, slots := 12, locals := 70 } : Room).slots) (s₁.setTop (entryFrame m #[(.int (0 : Int32)), (.int c0), (.int c1), (.int c2), (.int c3)] 5))
  refine own_G.cast (show entryFrame m #[(.int (0 : Int32)), (.int c0), (.int c1), (.int c2), (.int c3)] 5 = mkF m 0 #[.val (.int (0 : Int32)), .val (.int c0), .val (.int c1), .val (.int c2), .val (.int c3)] [] from by first | (simp [entryFrame, mkF, argsToLocals, Value.category]; done) | rfl) ?_
  have hws : ∀ d ∈ StrChars.Road.words, d.before a0 Z = true := fun d hd => hw d ((by decide +kernel : ∀ d ∈ StrChars.Road.words, d ∈ tables_1) d hd)
  refine own_G.go (fun _ k => XS.iloadN X0.here hx rfl (hb hby d_method2x_0) rfl k) ?_
  show own_G _ _ _ _ (s₁.setTop (mkF m 1 #[.val (.int (0 : Int32)), .val (.int c0), .val (.int c1), .val (.int c2), .val (.int c3)] [(.int (0 : Int32))]))
  refine own_G.go (fun _ k => XS.ifNo X0.here hx rfl (hb hby d_method2x_1) rfl ((if0 _ _).trans (teq (by decide : (0 : Int32) = (0 : Int32))).2) k) ?_
  show own_G _ _ _ _ (s₁.setTop (mkF m 4 #[.val (.int (0 : Int32)), .val (.int c0), .val (.int c1), .val (.int c2), .val (.int c3)] []))
  obtain ⟨T_1, h_1, X_1, e_1, E_1, A_1, D_1, -, st_1⟩ := newO X0 hx hZ hown (own_w hw 4 rfl) (own_w hw 5 rfl) (own_w hw 6 rfl) e0 (g := (mkF m 4 #[.val (.int (0 : Int32)), .val (.int c0), .val (.int c1), .val (.int c2), .val (.int c3)] [])) rfl (hb hby d_method2x_4) (by decide) (by decide)
  obtain ⟨a_1, g_1⟩ : ∃ z, z = h0.size := ⟨_, rfl⟩
  rw [← g_1] at A_1 D_1 st_1
  refine own_G.go st_1 ?_
  have CH_2 : CHr Z own_EL s.vm h0 s.vm h_1 := CH0.trans (CHr.ext E_1 CH0.1)
  have Sn_1 : Safe Z own_EL s.vm h_1 a_1 := Safe.ext E_1 CH0.1 (Safe.new (Nat.le_of_eq g_1.symm))
  have F_1_value : Fld Z h_1 a_1 "java/lang/String" "value" "[B" .null := D_1 (Or.inr (own_w hw 20 rfl)) (ty := (.array .byte)) (by decide)
  have F_1_coder : Fld Z h_1 a_1 "java/lang/String" "coder" "B" (.int (0 : Int32)) := D_1 (Or.inr (own_w hw 21 rfl)) (ty := .byte) (by decide)
  show own_G _ _ _ _ (T_1.setTop (mkF m 7 #[.val (.int (0 : Int32)), .val (.int c0), .val (.int c1), .val (.int c2), .val (.int c3)] [(.ref a_1)]))
  refine own_G.go (fun _ k => XS.dup X_1.here hx rfl (hb hby d_method2x_7) rfl rfl k) ?_
  show own_G _ _ _ _ (T_1.setTop (mkF m 8 #[.val (.int (0 : Int32)), .val (.int c0), .val (.int c1), .val (.int c2), .val (.int c3)] [(.ref a_1), (.ref a_1)]))
  refine own_G.go (fun _ k => XS.iconst X_1.here hx rfl (hb hby d_method2x_8) k) ?_
  show own_G _ _ _ _ (T_1.setTop (mkF m 9 #[.val (.int (0 : Int32)), .val (.int c0), .val (.int c1), .val (.int c2), .val (.int c3)] [(.int (0 : Int32)), (.ref a_1), (.ref a_1)]))
  obtain ⟨T_3, h_3, k_3, X_3, e_3, E_3, A_3, st_3⟩ := newP X_1 hx hZ (own_w hw 7 rfl) e_1 (g := (mkF m 9 #[.val (.int (0 : Int32)), .val (.int c0), .val (.int c1), .val (.int c2), .val (.int c3)] [(.int (0 : Int32)), (.ref a_1), (.ref a_1)])) rfl (hb hby d_method2x_9) rfl (by decide : ¬ ((0 : Int32) < (0 : Int32))) (cap := 0) (by decide : ((0 : Int32)).toNatClampNeg ≤ 0) (by decide) (by decide) (by decide)
  obtain ⟨a_3, g_3⟩ : ∃ z, z = h_1.size := ⟨_, rfl⟩
  rw [← g_3] at A_3 st_3
  refine own_G.go st_3 ?_
  have Sf_4_a_1 : Safe Z own_EL s.vm h_3 a_1 := (Safe.ext E_3 CH_2.1 Sn_1)
  have CH_4 : CHr Z own_EL s.vm h0 s.vm h_3 := CH_2.trans (CHr.ext E_3 CH_2.1)
  have V_3 : Arv Z h_3 a_3 k_3 .char (0 : Int32) ([] : List Value) (.int (0 : Int32)) := (Arv.new A_3 (by decide : ¬ ((0 : Int32) < (0 : Int32)))).pad (pad_rep [] (.int (0 : Int32)) 0)
  show own_G _ _ _ _ (T_3.setTop (mkF m 11 #[.val (.int (0 : Int32)), .val (.int c0), .val (.int c1), .val (.int c2), .val (.int c3)] [(.ref a_3), (.ref a_1), (.ref a_1)]))
  have A_1'_5 : Exa Z h_3 a_1 "java/lang/String" := (A_1.ext E_3)
  have F_1_value'_6 : Fld Z h_3 a_1 "java/lang/String" "value" "[B" .null := (F_1_value.ext E_3)
  have F_1_coder'_7 : Fld Z h_3 a_1 "java/lang/String" "coder" "B" (.int (0 : Int32)) := (F_1_coder.ext E_3)
  have g0_a_1 : n0 ≤ a_1 := Nat.le_trans Z0 (Nat.le_of_eq g_1.symm)
  obtain ⟨_, T_8, L_8, Q_8, X_8, hS_8, hZ_8, hown_8, st_8⟩ := own_callIW X_3 hx hS0 (Nat.le_trans (Nat.zero_le _) (Nat.le_trans E_1.1 E_3.1)) hZ rfl hown (mvT hZ (own_w hw 8 rfl)) (mvT hZ (own_w hw 9 rfl)) (mvT hZ (own_w hw 10 rfl)) (by decide) (Q := (fun v (U : State) L => Qe Z a_1 h_3 n0 v U.heap L ∧ CHr Z own_EL s.vm h_3 U.vm U.heap)) (own_backSH (backOfSH (W := 1) (rm_e2 l Z a0 hw [] a_1 a_3 k_3 h_3 n0 (Nat.le_trans Z0 (Nat.le_trans E_1.1 E_3.1)) g0_a_1 A_1'_5 F_1_value'_6 F_1_coder'_7 V_3) hZ (own_w hw 10 rfl) (own_w hw 6 rfl) (by decide) (by decide) hEW CH_4.1)) (a := a_1) (g := (mkF m 11 #[.val (.int (0 : Int32)), .val (.int c0), .val (.int c1), .val (.int c2), .val (.int c3)] [(.ref a_3), (.ref a_1), (.ref a_1)])) rfl (by rw [hml]; rfl) (argsL := [(.ref a_3)]) (rest := [(.ref a_1)]) (lenOf pd_22 rfl) rfl (by show 2 * 0 + _ ≤ _; exact Nat.le_of_eq rfl) (hb hby d_method2x_11) e_3 rfl (by decide) (by decide)
  obtain ⟨⟨t_8, kb_8, rfl, Nq_8, K_8, Ex_8, Fc_8, Fv_8, Kb_8⟩, Ch_8⟩ := Q_8
  refine own_G.via st_8 ?_
  have Sf_9_a_1 : Safe Z own_EL T_8.vm T_8.heap a_1 := Ch_8.safe (Nat.lt_of_lt_of_le A_1.lt E_3.1) Sf_4_a_1
  have CH_9 : CHr Z own_EL s.vm h0 T_8.vm T_8.heap := CH_4.trans Ch_8
  have N_8 := Fr.app N0 Nq_8
  show own_G _ _ _ _ (T_8.setTop (mkF m 14 #[.val (.int (0 : Int32)), .val (.int c0), .val (.int c1), .val (.int c2), .val (.int c3)] [(.ref a_1)]))
  exact own_G.endH X_8 hS_8 (Nat.le_refl _) hZ_8 hEW (hh ▸ CH_9) hlk (v := (some (.ref a_1))) (fun h => by rw [hrt] at h; cases h) (fun fs hr => retOut X_8 hx hrt rfl (Or.inr (Or.inr (Or.inr (Or.inr ⟨rfl, rfl, rfl⟩)))) (hb hby d_method2x_14) hr) rfl ⟨a_1, t_8, kb_8, rfl, N_8, ((((Keep.refl h0 []).ext E_1).ext E_3).trans K_8 (allS (Or.inr (Nat.le_of_eq g_1.symm)) all0)), (Nat.le_of_eq g_1.symm), Ex_8, Fc_8, Fv_8, Kb_8⟩ (by decide) (by decide)
theorem d_method2x_15 : decode method_2_code 15 = .ok (.iload_n 0, 1) := by decide +kernel
theorem d_method2x_16 : decode method_2_code 16 = .ok (.iconst 1, 1) := by decide +kernel
theorem d_method2x_17 : decode method_2_code 17 = .ok (.if_icmp .ne 18, 3) := by decide +kernel
theorem d_method2x_20 : decode method_2_code 20 = .ok (.new 7, 3) := by decide +kernel
theorem d_method2x_23 : decode method_2_code 23 = .ok (.dup, 1) := by decide +kernel
theorem d_method2x_24 : decode method_2_code 24 = .ok (.iconst 1, 1) := by decide +kernel
theorem d_method2x_25 : decode method_2_code 25 = .ok (.newarray .char, 2) := by decide +kernel
theorem d_method2x_27 : decode method_2_code 27 = .ok (.dup, 1) := by decide +kernel
theorem d_method2x_28 : decode method_2_code 28 = .ok (.iconst 0, 1) := by decide +kernel
theorem d_method2x_29 : decode method_2_code 29 = .ok (.iload_n 1, 1) := by decide +kernel
theorem d_method2x_30 : decode method_2_code 30 = .ok (.castore, 1) := by decide +kernel
theorem d_method2x_31 : decode method_2_code 31 = .ok (.invokespecial 9, 3) := by decide +kernel
theorem d_method2x_34 : decode method_2_code 34 = .ok (.areturn, 1) := by decide +kernel
set_option maxRecDepth 65536 in
set_option maxHeartbeats 40000000 in
theorem rm_mk1 (l : Launch) (Z : State) (a0 : Array Value) (hw : ∀ d ∈ tables_1, d.before a0 Z = true) (ws : List Jvm.Cond) (c0 c1 c2 c3 : Int32) (zc : Int32) (h0 : Heap) (n0 : Nat) (Z0 : n0 ≤ h0.size) (b0 : own_b c0) (b1 : own_b c1) (b2 : own_b c2) (b3 : own_b c3) (O2 : Sta Z Z.heap "java/lang/String" "COMPACT_STRINGS" "Z" (.int zc)) (P5 : ¬ (zc = (0 : Int32))) (X00 : Old Z n0 h0) :
    MetFree l (⟨"com/example/enlist/enlist/definition/TransactionDefinitionNamedPinLaw", "make", "(ICCCC)Ljava/lang/String;"⟩ : MethodName) (head1 (Jvm.Cond.code (⟨"com/example/enlist/enlist/definition/TransactionDefinitionNamedPinLaw", "make", "(ICCCC)Ljava/lang/String;"⟩ : MethodName) method_2_code 5 (some (.object "java/lang/String")) :: ws) ({ frames := 6, cells := 6, slots := 12, locals := 70 } : Room)) (fun a_ U => a_ = #[(.int (1 : Int32)), (.int c0), (.int c1), (.int c2), (.int c3)] ∧ Z.Warmed39 U.vm ∧ U.heap = h0 ∧ CHv Z own_EL U.vm h0) (fun _ _ _ _ _ => True) (fun _ U o U' => ∃ v L, o = .returned v ∧ Qs Z (1 : Int32) c0 c1 c2 c3 h0 n0 v U'.heap L ∧ CHr Z own_EL U.vm U.heap U'.vm U'.heap ∧ ReturnedEndW U o U' L ({ frames := 6, cells := 6, slots := 12, locals := 70 } : Room).cells ({ frames := 6, cells := 6, slots := 12, locals := 70 } : Room).slots) := by
  refine MetFree.of_bodySF (plainFor_of_name pn_11) hisR ?_
  intro p e s m args below meth c s₁ Bd hml0 hP hK
  obtain ⟨rfl, hZ, hh, hCH⟩ := hP
  have hx := Bd.exec
  have hby := Bd.bytes
  have hrt := Bd.returns
  have hlk : meth.locks = false := Bd.notSynchronized
  have hml : c.maxLocals = 5 := hml0
  have hown : s.vm.findClass "com/example/enlist/enlist/definition/TransactionDefinitionNamedPinLaw" = some m.cls := findClass_of_methodNamed Bd.named
  have hnm := (name_of_methodNamed Bd.named Bd.method).1
  have X0 : Stand p l e ({ frames := 6, cells := 6, slots := 12, locals := 70 } : Room) (s.setVm s.vm) m #[(.int (1 : Int32)), (.int c0), (.int c1), (.int c2), (.int c3)] below meth c s₁ [] 0 0 := Stand.of_body Bd
  have e0 : s₁.heap = h0 := by rw [← hh, Bd.state]; rfl
  have N0 := Fr.nil n0
  have hS0 : s.Since s.vm 0 := own_since s 0
  have hstr : ∀ d ∈ Bundle.stringAtoms, d.before a0 Z = true := fun d hd => hw d ((by decide +kernel : ∀ d ∈ Bundle.stringAtoms, d ∈ tables_1) d hd)
  have hEW : EW Z a0 own_EL := own_EW hw
  have CH0 : CHr Z own_EL s.vm h0 s.vm h0 := CHr.refl hCH
  show own_G p.tables e below (fun o t => ∃ v L, o = .returned v ∧ Qs Z (1 : Int32) c0 c1 c2 c3 h0 n0 v t.heap L ∧ CHr Z own_EL s.vm s.heap t.vm t.heap ∧ ReturnedEndW s o t L ({ frames := 6, cells := 6, slots := 12, locals := 70 } : Room).cells ({ frames := 6, cells := 6, slots := 12, locals := 70 } : Room).slots) (s₁.setTop (entryFrame m #[(.int (1 : Int32)), (.int c0), (.int c1), (.int c2), (.int c3)] 5))
  refine own_G.cast (show entryFrame m #[(.int (1 : Int32)), (.int c0), (.int c1), (.int c2), (.int c3)] 5 = mkF m 0 #[.val (.int (1 : Int32)), .val (.int c0), .val (.int c1), .val (.int c2), .val (.int c3)] [] from by first | (simp [entryFrame, mkF, argsToLocals, Value.category]; done) | rfl) ?_
  have hws : ∀ d ∈ StrChars.Road.words, d.before a0 Z = true := fun d hd => hw d ((by decide +kernel : ∀ d ∈ StrChars.Road.words, d ∈ tables_1) d hd)
  refine own_G.go (fun _ k => XS.iloadN X0.here hx rfl (hb hby d_method2x_0) rfl k) ?_
  show own_G _ _ _ _ (s₁.setTop (mkF m 1 #[.val (.int (1 : Int32)), .val (.int c0), .val (.int c1), .val (.int c2), .val (.int c3)] [(.int (1 : Int32))]))
  refine own_G.go (fun _ k => XS.ifYes X0.here hx rfl (pc0 := 1) (pc' := 15) rfl (hb hby d_method2x_1) rfl ((if0 _ _).trans (feq (by decide : ¬ ((1 : Int32) = (0 : Int32)))).2) (by decide) (by decide) k) ?_
  show own_G _ _ _ _ (s₁.setTop (mkF m 15 #[.val (.int (1 : Int32)), .val (.int c0), .val (.int c1), .val (.int c2), .val (.int c3)] []))
  refine own_G.go (fun _ k => XS.iloadN X0.here hx rfl (hb hby d_method2x_15) rfl k) ?_
  show own_G _ _ _ _ (s₁.setTop (mkF m 16 #[.val (.int (1 : Int32)), .val (.int c0), .val (.int c1), .val (.int c2), .val (.int c3)] [(.int (1 : Int32))]))
  refine own_G.go (fun _ k => XS.iconst X0.here hx rfl (hb hby d_method2x_16) k) ?_
  show own_G _ _ _ _ (s₁.setTop (mkF m 17 #[.val (.int (1 : Int32)), .val (.int c0), .val (.int c1), .val (.int c2), .val (.int c3)] [(.int (1 : Int32)), (.int (1 : Int32))]))
  refine own_G.go (fun _ k => XS.icmpNo X0.here hx rfl (hb hby d_method2x_17) rfl (teq (by decide : (1 : Int32) = (1 : Int32))).2 k) ?_
  show own_G _ _ _ _ (s₁.setTop (mkF m 20 #[.val (.int (1 : Int32)), .val (.int c0), .val (.int c1), .val (.int c2), .val (.int c3)] []))
  obtain ⟨T_1, h_1, X_1, e_1, E_1, A_1, D_1, -, st_1⟩ := newO X0 hx hZ hown (own_w hw 4 rfl) (own_w hw 5 rfl) (own_w hw 6 rfl) e0 (g := (mkF m 20 #[.val (.int (1 : Int32)), .val (.int c0), .val (.int c1), .val (.int c2), .val (.int c3)] [])) rfl (hb hby d_method2x_20) (by decide) (by decide)
  obtain ⟨a_1, g_1⟩ : ∃ z, z = h0.size := ⟨_, rfl⟩
  rw [← g_1] at A_1 D_1 st_1
  refine own_G.go st_1 ?_
  have CH_2 : CHr Z own_EL s.vm h0 s.vm h_1 := CH0.trans (CHr.ext E_1 CH0.1)
  have Sn_1 : Safe Z own_EL s.vm h_1 a_1 := Safe.ext E_1 CH0.1 (Safe.new (Nat.le_of_eq g_1.symm))
  have F_1_value : Fld Z h_1 a_1 "java/lang/String" "value" "[B" .null := D_1 (Or.inr (own_w hw 20 rfl)) (ty := (.array .byte)) (by decide)
  have F_1_coder : Fld Z h_1 a_1 "java/lang/String" "coder" "B" (.int (0 : Int32)) := D_1 (Or.inr (own_w hw 21 rfl)) (ty := .byte) (by decide)
  show own_G _ _ _ _ (T_1.setTop (mkF m 23 #[.val (.int (1 : Int32)), .val (.int c0), .val (.int c1), .val (.int c2), .val (.int c3)] [(.ref a_1)]))
  refine own_G.go (fun _ k => XS.dup X_1.here hx rfl (hb hby d_method2x_23) rfl rfl k) ?_
  show own_G _ _ _ _ (T_1.setTop (mkF m 24 #[.val (.int (1 : Int32)), .val (.int c0), .val (.int c1), .val (.int c2), .val (.int c3)] [(.ref a_1), (.ref a_1)]))
  refine own_G.go (fun _ k => XS.iconst X_1.here hx rfl (hb hby d_method2x_24) k) ?_
  show own_G _ _ _ _ (T_1.setTop (mkF m 25 #[.val (.int (1 : Int32)), .val (.int c0), .val (.int c1), .val (.int c2), .val (.int c3)] [(.int (1 : Int32)), (.ref a_1), (.ref a_1)]))
  obtain ⟨T_3, h_3, k_3, X_3, e_3, E_3, A_3, st_3⟩ := newP X_1 hx hZ (own_w hw 7 rfl) e_1 (g := (mkF m 25 #[.val (.int (1 : Int32)), .val (.int c0), .val (.int c1), .val (.int c2), .val (.int c3)] [(.int (1 : Int32)), (.ref a_1), (.ref a_1)])) rfl (hb hby d_method2x_25) rfl (by decide : ¬ ((1 : Int32) < (0 : Int32))) (cap := 1) (by decide : ((1 : Int32)).toNatClampNeg ≤ 1) (by decide) (by decide) (by decide)
  obtain ⟨a_3, g_3⟩ : ∃ z, z = h_1.size := ⟨_, rfl⟩
  rw [← g_3] at A_3 st_3
  refine own_G.go st_3 ?_
  have Sf_4_a_1 : Safe Z own_EL s.vm h_3 a_1 := (Safe.ext E_3 CH_2.1 Sn_1)
  have CH_4 : CHr Z own_EL s.vm h0 s.vm h_3 := CH_2.trans (CHr.ext E_3 CH_2.1)
  have V_3 : Arv Z h_3 a_3 k_3 .char (1 : Int32) ([(.int (0 : Int32))] : List Value) (.int (0 : Int32)) := (Arv.new A_3 (by decide : ¬ ((1 : Int32) < (0 : Int32)))).pad (pad_rep [] (.int (0 : Int32)) 1)
  show own_G _ _ _ _ (T_3.setTop (mkF m 27 #[.val (.int (1 : Int32)), .val (.int c0), .val (.int c1), .val (.int c2), .val (.int c3)] [(.ref a_3), (.ref a_1), (.ref a_1)]))
  refine own_G.go (fun _ k => XS.dup X_3.here hx rfl (hb hby d_method2x_27) rfl rfl k) ?_
  show own_G _ _ _ _ (T_3.setTop (mkF m 28 #[.val (.int (1 : Int32)), .val (.int c0), .val (.int c1), .val (.int c2), .val (.int c3)] [(.ref a_3), (.ref a_3), (.ref a_1), (.ref a_1)]))
  refine own_G.go (fun _ k => XS.iconst X_3.here hx rfl (hb hby d_method2x_28) k) ?_
  show own_G _ _ _ _ (T_3.setTop (mkF m 29 #[.val (.int (1 : Int32)), .val (.int c0), .val (.int c1), .val (.int c2), .val (.int c3)] [(.int (0 : Int32)), (.ref a_3), (.ref a_3), (.ref a_1), (.ref a_1)]))
  refine own_G.go (fun _ k => XS.iloadN X_3.here hx rfl (hb hby d_method2x_29) rfl k) ?_
  show own_G _ _ _ _ (T_3.setTop (mkF m 30 #[.val (.int (1 : Int32)), .val (.int c0), .val (.int c1), .val (.int c2), .val (.int c3)] [(.int c0), (.int (0 : Int32)), (.ref a_3), (.ref a_3), (.ref a_1), (.ref a_1)]))
  obtain ⟨T_5, h_5, X_5, e_5, W_5, V_5, st_5⟩ := own_stC X_3 hx hZ e_3 V_3 (j := (0 : Int32)) 0 (Nat.le_of_ble_eq_true rfl) (by decide) (by decide : ¬ ((0 : Int32) < (0 : Int32)) ∧ (0 : Int32) < (1 : Int32)) (g := (mkF m 30 #[.val (.int (1 : Int32)), .val (.int c0), .val (.int c1), .val (.int c2), .val (.int c3)] [(.int c0), (.int (0 : Int32)), (.ref a_3), (.ref a_3), (.ref a_1), (.ref a_1)])) rfl rfl (hb hby d_method2x_30)
  refine own_G.go st_5 ?_
  have Sf_6_a_1 : Safe Z own_EL s.vm h_5 a_1 := (Safe.wr W_5 (Safe.arv hZ.alike V_3 (by decide)) CH_4.1 Sf_4_a_1)
  have CH_6 : CHr Z own_EL s.vm h0 s.vm h_5 := CH_4.trans (CHr.wr W_5 (Safe.arv hZ.alike V_3 (by decide)) CH_4.1)
  have V_5q : Arv Z h_5 a_3 k_3 .char (1 : Int32) ([(.int (nar .char c0))] : List Value) (.int (0 : Int32)) := V_5
  have g0_a_3 : n0 ≤ a_3 := Nat.le_trans (Nat.le_trans Z0 E_1.1) (Nat.le_of_eq g_3.symm)
  have N_5 := Fr.snoc X_5 N0 g0_a_3
  show own_G _ _ _ _ (T_5.setTop (mkF m 31 #[.val (.int (1 : Int32)), .val (.int c0), .val (.int c1), .val (.int c2), .val (.int c3)] [(.ref a_3), (.ref a_1), (.ref a_1)]))
  have A_1'_7 : Exa Z h_5 a_1 "java/lang/String" := ((A_1.ext E_3).wr W_5)
  have F_1_value'_8 : Fld Z h_5 a_1 "java/lang/String" "value" "[B" .null := ((F_1_value.ext E_3).other W_5 (Or.inl (Nat.ne_of_lt (Nat.lt_of_lt_of_le A_1.lt (Nat.le_of_eq g_3.symm)))))
  have F_1_coder'_9 : Fld Z h_5 a_1 "java/lang/String" "coder" "B" (.int (0 : Int32)) := ((F_1_coder.ext E_3).other W_5 (Or.inl (Nat.ne_of_lt (Nat.lt_of_lt_of_le A_1.lt (Nat.le_of_eq g_3.symm)))))
  have VC : Arv Z h_5 a_3 k_3 .char (1 : Int32) ([(.int c0)] : List Value) (.int (0 : Int32)) := by have q := V_5q; rw [own_narc b0] at q; exact q
  have hp : ∀ c ∈ ([c0] : List Int32), own_b c := own_cs_b (n := 1) b0 b1 b2 b3
  have g0_a_1 : n0 ≤ a_1 := Nat.le_trans Z0 (Nat.le_of_eq g_1.symm)
  have Z_10s : n0 ≤ h_5.size := (Nat.le_trans Z0 (Nat.le_trans (Nat.le_trans E_1.1 E_3.1) (Keep.of_wr W_5).1))
  have O_11d : Old Z n0 h_5 := (((X00.ext E_1).ext E_3).wr W_5 g0_a_3)
  obtain ⟨_, T_12, L_12, Q_12, X_12, st_12⟩ := own_callI X_5 hx rfl hown (mvT hZ (own_w hw 8 rfl)) (mvT hZ (own_w hw 9 rfl)) (mvT hZ (own_w hw 10 rfl)) (by decide) (Q := (StrChars.Road.QV Z a_1 (1 : Int32) (([c0] : List Int32).map (fun c => c.toInt8.toInt32)) h_5 n0)) (StrChars.Road.backV (W := 1) hZ hws (kI := 4) (own_w hw 5 rfl) (cs := ([c0] : List Int32)) (bs := ([c0] : List Int32).map (fun c => c.toInt8.toInt32)) (n := 1) g0_a_1 Z_10s A_1'_7 F_1_value'_8 F_1_coder'_9 VC (O2.ext O_11d.2) P5 rfl rfl (by decide) (by decide) hp rfl (by decide) (by decide)) (a := a_1) (g := (mkF m 31 #[.val (.int (1 : Int32)), .val (.int c0), .val (.int c1), .val (.int c2), .val (.int c3)] [(.ref a_3), (.ref a_1), (.ref a_1)])) rfl (by rw [hml]; rfl) (argsL := [(.ref a_3)]) (rest := [(.ref a_1)]) (lenOf pd_22 rfl) rfl (by show 2 * 0 + _ ≤ _; exact Nat.le_of_eq rfl) (hb hby d_method2x_31) e_5 rfl (by decide) (by decide)
  obtain ⟨rfl, Nq_12, K_12, Ex_12, Fc_12, t_12, kb_12, tn_12, th_12, tx_12, Fv_12, Kb_12⟩ := Q_12
  refine own_G.via st_12 ?_
  have Sf_13_a_1 : Safe Z own_EL s.vm T_12.heap a_1 := (Safe.keep K_12 (sfS Sf_6_a_1 sf0) CH_6.1 Sf_6_a_1)
  have CH_13 : CHr Z own_EL s.vm h0 s.vm T_12.heap := CH_6.trans (CHr.keep K_12 (sfS Sf_6_a_1 sf0) CH_6.1)
  have N_12 := Fr.app N_5 Nq_12
  show own_G _ _ _ _ (T_12.setTop (mkF m 34 #[.val (.int (1 : Int32)), .val (.int c0), .val (.int c1), .val (.int c2), .val (.int c3)] [(.ref a_1)]))
  exact own_G.endH X_12 hS0 (Nat.le_trans (Nat.zero_le _) (Nat.le_trans (Nat.le_trans (Nat.le_trans E_1.1 E_3.1) (Keep.of_wr W_5).1) K_12.1)) hZ hEW (hh ▸ CH_13) hlk (v := (some (.ref a_1))) (fun h => by rw [hrt] at h; cases h) (fun fs hr => retOut X_12 hx hrt rfl (Or.inr (Or.inr (Or.inr (Or.inr ⟨rfl, rfl, rfl⟩)))) (hb hby d_method2x_34) hr) rfl ⟨a_1, t_12, kb_12, rfl, N_12, (((((Keep.refl h0 []).ext E_1).ext E_3).wr W_5 (Or.inr (Nat.le_trans E_1.1 (Nat.le_of_eq g_3.symm)))).trans K_12 (allS (Or.inr (Nat.le_of_eq g_1.symm)) all0)), (Nat.le_of_eq g_1.symm), Ex_12, Fc_12, Fv_12, Kb_12⟩ (by decide) (by decide)
theorem d_method2x_35 : decode method_2_code 35 = .ok (.iload_n 0, 1) := by decide +kernel
theorem d_method2x_36 : decode method_2_code 36 = .ok (.iconst 2, 1) := by decide +kernel
theorem d_method2x_37 : decode method_2_code 37 = .ok (.if_icmp .ne 22, 3) := by decide +kernel
theorem d_method2x_40 : decode method_2_code 40 = .ok (.new 7, 3) := by decide +kernel
theorem d_method2x_43 : decode method_2_code 43 = .ok (.dup, 1) := by decide +kernel
theorem d_method2x_44 : decode method_2_code 44 = .ok (.iconst 2, 1) := by decide +kernel
theorem d_method2x_45 : decode method_2_code 45 = .ok (.newarray .char, 2) := by decide +kernel
theorem d_method2x_47 : decode method_2_code 47 = .ok (.dup, 1) := by decide +kernel
theorem d_method2x_48 : decode method_2_code 48 = .ok (.iconst 0, 1) := by decide +kernel
theorem d_method2x_49 : decode method_2_code 49 = .ok (.iload_n 1, 1) := by decide +kernel
theorem d_method2x_50 : decode method_2_code 50 = .ok (.castore, 1) := by decide +kernel
theorem d_method2x_51 : decode method_2_code 51 = .ok (.dup, 1) := by decide +kernel
theorem d_method2x_52 : decode method_2_code 52 = .ok (.iconst 1, 1) := by decide +kernel
theorem d_method2x_53 : decode method_2_code 53 = .ok (.iload_n 2, 1) := by decide +kernel
theorem d_method2x_54 : decode method_2_code 54 = .ok (.castore, 1) := by decide +kernel
theorem d_method2x_55 : decode method_2_code 55 = .ok (.invokespecial 9, 3) := by decide +kernel
theorem d_method2x_58 : decode method_2_code 58 = .ok (.areturn, 1) := by decide +kernel
set_option maxRecDepth 65536 in
set_option maxHeartbeats 40000000 in
theorem rm_mk2 (l : Launch) (Z : State) (a0 : Array Value) (hw : ∀ d ∈ tables_1, d.before a0 Z = true) (ws : List Jvm.Cond) (c0 c1 c2 c3 : Int32) (zc : Int32) (h0 : Heap) (n0 : Nat) (Z0 : n0 ≤ h0.size) (b0 : own_b c0) (b1 : own_b c1) (b2 : own_b c2) (b3 : own_b c3) (O2 : Sta Z Z.heap "java/lang/String" "COMPACT_STRINGS" "Z" (.int zc)) (P5 : ¬ (zc = (0 : Int32))) (X00 : Old Z n0 h0) :
    MetFree l (⟨"com/example/enlist/enlist/definition/TransactionDefinitionNamedPinLaw", "make", "(ICCCC)Ljava/lang/String;"⟩ : MethodName) (head1 (Jvm.Cond.code (⟨"com/example/enlist/enlist/definition/TransactionDefinitionNamedPinLaw", "make", "(ICCCC)Ljava/lang/String;"⟩ : MethodName) method_2_code 5 (some (.object "java/lang/String")) :: ws) ({ frames := 6, cells := 6, slots := 12, locals := 70 } : Room)) (fun a_ U => a_ = #[(.int (2 : Int32)), (.int c0), (.int c1), (.int c2), (.int c3)] ∧ Z.Warmed39 U.vm ∧ U.heap = h0 ∧ CHv Z own_EL U.vm h0) (fun _ _ _ _ _ => True) (fun _ U o U' => ∃ v L, o = .returned v ∧ Qs Z (2 : Int32) c0 c1 c2 c3 h0 n0 v U'.heap L ∧ CHr Z own_EL U.vm U.heap U'.vm U'.heap ∧ ReturnedEndW U o U' L ({ frames := 6, cells := 6, slots := 12, locals := 70 } : Room).cells ({ frames := 6, cells := 6, slots := 12, locals := 70 } : Room).slots) := by
  refine MetFree.of_bodySF (plainFor_of_name pn_11) hisR ?_
  intro p e s m args below meth c s₁ Bd hml0 hP hK
  obtain ⟨rfl, hZ, hh, hCH⟩ := hP
  have hx := Bd.exec
  have hby := Bd.bytes
  have hrt := Bd.returns
  have hlk : meth.locks = false := Bd.notSynchronized
  have hml : c.maxLocals = 5 := hml0
  have hown : s.vm.findClass "com/example/enlist/enlist/definition/TransactionDefinitionNamedPinLaw" = some m.cls := findClass_of_methodNamed Bd.named
  have hnm := (name_of_methodNamed Bd.named Bd.method).1
  have X0 : Stand p l e ({ frames := 6, cells := 6, slots := 12, locals := 70 } : Room) (s.setVm s.vm) m #[(.int (2 : Int32)), (.int c0), (.int c1), (.int c2), (.int c3)] below meth c s₁ [] 0 0 := Stand.of_body Bd
  have e0 : s₁.heap = h0 := by rw [← hh, Bd.state]; rfl
  have N0 := Fr.nil n0
  have hS0 : s.Since s.vm 0 := own_since s 0
  have hstr : ∀ d ∈ Bundle.stringAtoms, d.before a0 Z = true := fun d hd => hw d ((by decide +kernel : ∀ d ∈ Bundle.stringAtoms, d ∈ tables_1) d hd)
  have hEW : EW Z a0 own_EL := own_EW hw
  have CH0 : CHr Z own_EL s.vm h0 s.vm h0 := CHr.refl hCH
  show own_G p.tables e below (fun o t => ∃ v L, o = .returned v ∧ Qs Z (2 : Int32) c0 c1 c2 c3 h0 n0 v t.heap L ∧ CHr Z own_EL s.vm s.heap t.vm t.heap ∧ ReturnedEndW s o t L ({ frames := 6, cells := 6, slots := 12, locals := 70 } : Room).cells ({ frames := 6, cells := 6, slots := 12, locals := 70 } : Room).slots) (s₁.setTop (entryFrame m #[(.int (2 : Int32)), (.int c0), (.int c1), (.int c2), (.int c3)] 5))
  refine own_G.cast (show entryFrame m #[(.int (2 : Int32)), (.int c0), (.int c1), (.int c2), (.int c3)] 5 = mkF m 0 #[.val (.int (2 : Int32)), .val (.int c0), .val (.int c1), .val (.int c2), .val (.int c3)] [] from by first | (simp [entryFrame, mkF, argsToLocals, Value.category]; done) | rfl) ?_
  have hws : ∀ d ∈ StrChars.Road.words, d.before a0 Z = true := fun d hd => hw d ((by decide +kernel : ∀ d ∈ StrChars.Road.words, d ∈ tables_1) d hd)
  refine own_G.go (fun _ k => XS.iloadN X0.here hx rfl (hb hby d_method2x_0) rfl k) ?_
  show own_G _ _ _ _ (s₁.setTop (mkF m 1 #[.val (.int (2 : Int32)), .val (.int c0), .val (.int c1), .val (.int c2), .val (.int c3)] [(.int (2 : Int32))]))
  refine own_G.go (fun _ k => XS.ifYes X0.here hx rfl (pc0 := 1) (pc' := 15) rfl (hb hby d_method2x_1) rfl ((if0 _ _).trans (feq (by decide : ¬ ((2 : Int32) = (0 : Int32)))).2) (by decide) (by decide) k) ?_
  show own_G _ _ _ _ (s₁.setTop (mkF m 15 #[.val (.int (2 : Int32)), .val (.int c0), .val (.int c1), .val (.int c2), .val (.int c3)] []))
  refine own_G.go (fun _ k => XS.iloadN X0.here hx rfl (hb hby d_method2x_15) rfl k) ?_
  show own_G _ _ _ _ (s₁.setTop (mkF m 16 #[.val (.int (2 : Int32)), .val (.int c0), .val (.int c1), .val (.int c2), .val (.int c3)] [(.int (2 : Int32))]))
  refine own_G.go (fun _ k => XS.iconst X0.here hx rfl (hb hby d_method2x_16) k) ?_
  show own_G _ _ _ _ (s₁.setTop (mkF m 17 #[.val (.int (2 : Int32)), .val (.int c0), .val (.int c1), .val (.int c2), .val (.int c3)] [(.int (1 : Int32)), (.int (2 : Int32))]))
  refine own_G.go (fun _ k => XS.icmpYes X0.here hx rfl (pc0 := 17) (pc' := 35) rfl (hb hby d_method2x_17) rfl (feq (by decide : ¬ ((2 : Int32) = (1 : Int32)))).2 (by decide) (by decide) k) ?_
  show own_G _ _ _ _ (s₁.setTop (mkF m 35 #[.val (.int (2 : Int32)), .val (.int c0), .val (.int c1), .val (.int c2), .val (.int c3)] []))
  refine own_G.go (fun _ k => XS.iloadN X0.here hx rfl (hb hby d_method2x_35) rfl k) ?_
  show own_G _ _ _ _ (s₁.setTop (mkF m 36 #[.val (.int (2 : Int32)), .val (.int c0), .val (.int c1), .val (.int c2), .val (.int c3)] [(.int (2 : Int32))]))
  refine own_G.go (fun _ k => XS.iconst X0.here hx rfl (hb hby d_method2x_36) k) ?_
  show own_G _ _ _ _ (s₁.setTop (mkF m 37 #[.val (.int (2 : Int32)), .val (.int c0), .val (.int c1), .val (.int c2), .val (.int c3)] [(.int (2 : Int32)), (.int (2 : Int32))]))
  refine own_G.go (fun _ k => XS.icmpNo X0.here hx rfl (hb hby d_method2x_37) rfl (teq (by decide : (2 : Int32) = (2 : Int32))).2 k) ?_
  show own_G _ _ _ _ (s₁.setTop (mkF m 40 #[.val (.int (2 : Int32)), .val (.int c0), .val (.int c1), .val (.int c2), .val (.int c3)] []))
  obtain ⟨T_1, h_1, X_1, e_1, E_1, A_1, D_1, -, st_1⟩ := newO X0 hx hZ hown (own_w hw 4 rfl) (own_w hw 5 rfl) (own_w hw 6 rfl) e0 (g := (mkF m 40 #[.val (.int (2 : Int32)), .val (.int c0), .val (.int c1), .val (.int c2), .val (.int c3)] [])) rfl (hb hby d_method2x_40) (by decide) (by decide)
  obtain ⟨a_1, g_1⟩ : ∃ z, z = h0.size := ⟨_, rfl⟩
  rw [← g_1] at A_1 D_1 st_1
  refine own_G.go st_1 ?_
  have CH_2 : CHr Z own_EL s.vm h0 s.vm h_1 := CH0.trans (CHr.ext E_1 CH0.1)
  have Sn_1 : Safe Z own_EL s.vm h_1 a_1 := Safe.ext E_1 CH0.1 (Safe.new (Nat.le_of_eq g_1.symm))
  have F_1_value : Fld Z h_1 a_1 "java/lang/String" "value" "[B" .null := D_1 (Or.inr (own_w hw 20 rfl)) (ty := (.array .byte)) (by decide)
  have F_1_coder : Fld Z h_1 a_1 "java/lang/String" "coder" "B" (.int (0 : Int32)) := D_1 (Or.inr (own_w hw 21 rfl)) (ty := .byte) (by decide)
  show own_G _ _ _ _ (T_1.setTop (mkF m 43 #[.val (.int (2 : Int32)), .val (.int c0), .val (.int c1), .val (.int c2), .val (.int c3)] [(.ref a_1)]))
  refine own_G.go (fun _ k => XS.dup X_1.here hx rfl (hb hby d_method2x_43) rfl rfl k) ?_
  show own_G _ _ _ _ (T_1.setTop (mkF m 44 #[.val (.int (2 : Int32)), .val (.int c0), .val (.int c1), .val (.int c2), .val (.int c3)] [(.ref a_1), (.ref a_1)]))
  refine own_G.go (fun _ k => XS.iconst X_1.here hx rfl (hb hby d_method2x_44) k) ?_
  show own_G _ _ _ _ (T_1.setTop (mkF m 45 #[.val (.int (2 : Int32)), .val (.int c0), .val (.int c1), .val (.int c2), .val (.int c3)] [(.int (2 : Int32)), (.ref a_1), (.ref a_1)]))
  obtain ⟨T_3, h_3, k_3, X_3, e_3, E_3, A_3, st_3⟩ := newP X_1 hx hZ (own_w hw 7 rfl) e_1 (g := (mkF m 45 #[.val (.int (2 : Int32)), .val (.int c0), .val (.int c1), .val (.int c2), .val (.int c3)] [(.int (2 : Int32)), (.ref a_1), (.ref a_1)])) rfl (hb hby d_method2x_45) rfl (by decide : ¬ ((2 : Int32) < (0 : Int32))) (cap := 2) (by decide : ((2 : Int32)).toNatClampNeg ≤ 2) (by decide) (by decide) (by decide)
  obtain ⟨a_3, g_3⟩ : ∃ z, z = h_1.size := ⟨_, rfl⟩
  rw [← g_3] at A_3 st_3
  refine own_G.go st_3 ?_
  have Sf_4_a_1 : Safe Z own_EL s.vm h_3 a_1 := (Safe.ext E_3 CH_2.1 Sn_1)
  have CH_4 : CHr Z own_EL s.vm h0 s.vm h_3 := CH_2.trans (CHr.ext E_3 CH_2.1)
  have V_3 : Arv Z h_3 a_3 k_3 .char (2 : Int32) ([(.int (0 : Int32)), (.int (0 : Int32))] : List Value) (.int (0 : Int32)) := (Arv.new A_3 (by decide : ¬ ((2 : Int32) < (0 : Int32)))).pad (pad_rep [] (.int (0 : Int32)) 2)
  show own_G _ _ _ _ (T_3.setTop (mkF m 47 #[.val (.int (2 : Int32)), .val (.int c0), .val (.int c1), .val (.int c2), .val (.int c3)] [(.ref a_3), (.ref a_1), (.ref a_1)]))
  refine own_G.go (fun _ k => XS.dup X_3.here hx rfl (hb hby d_method2x_47) rfl rfl k) ?_
  show own_G _ _ _ _ (T_3.setTop (mkF m 48 #[.val (.int (2 : Int32)), .val (.int c0), .val (.int c1), .val (.int c2), .val (.int c3)] [(.ref a_3), (.ref a_3), (.ref a_1), (.ref a_1)]))
  refine own_G.go (fun _ k => XS.iconst X_3.here hx rfl (hb hby d_method2x_48) k) ?_
  show own_G _ _ _ _ (T_3.setTop (mkF m 49 #[.val (.int (2 : Int32)), .val (.int c0), .val (.int c1), .val (.int c2), .val (.int c3)] [(.int (0 : Int32)), (.ref a_3), (.ref a_3), (.ref a_1), (.ref a_1)]))
  refine own_G.go (fun _ k => XS.iloadN X_3.here hx rfl (hb hby d_method2x_49) rfl k) ?_
  show own_G _ _ _ _ (T_3.setTop (mkF m 50 #[.val (.int (2 : Int32)), .val (.int c0), .val (.int c1), .val (.int c2), .val (.int c3)] [(.int c0), (.int (0 : Int32)), (.ref a_3), (.ref a_3), (.ref a_1), (.ref a_1)]))
  obtain ⟨T_5, h_5, X_5, e_5, W_5, V_5, st_5⟩ := own_stC X_3 hx hZ e_3 V_3 (j := (0 : Int32)) 0 (Nat.le_of_ble_eq_true rfl) (by decide) (by decide : ¬ ((0 : Int32) < (0 : Int32)) ∧ (0 : Int32) < (2 : Int32)) (g := (mkF m 50 #[.val (.int (2 : Int32)), .val (.int c0), .val (.int c1), .val (.int c2), .val (.int c3)] [(.int c0), (.int (0 : Int32)), (.ref a_3), (.ref a_3), (.ref a_1), (.ref a_1)])) rfl rfl (hb hby d_method2x_50)
  refine own_G.go st_5 ?_
  have Sf_6_a_1 : Safe Z own_EL s.vm h_5 a_1 := (Safe.wr W_5 (Safe.arv hZ.alike V_3 (by decide)) CH_4.1 Sf_4_a_1)
  have CH_6 : CHr Z own_EL s.vm h0 s.vm h_5 := CH_4.trans (CHr.wr W_5 (Safe.arv hZ.alike V_3 (by decide)) CH_4.1)
  have V_5q : Arv Z h_5 a_3 k_3 .char (2 : Int32) ([(.int (nar .char c0)), (.int (0 : Int32))] : List Value) (.int (0 : Int32)) := V_5
  have g0_a_3 : n0 ≤ a_3 := Nat.le_trans (Nat.le_trans Z0 E_1.1) (Nat.le_of_eq g_3.symm)
  have N_5 := Fr.snoc X_5 N0 g0_a_3
  show own_G _ _ _ _ (T_5.setTop (mkF m 51 #[.val (.int (2 : Int32)), .val (.int c0), .val (.int c1), .val (.int c2), .val (.int c3)] [(.ref a_3), (.ref a_1), (.ref a_1)]))
  refine own_G.go (fun _ k => XS.dup X_5.here hx rfl (hb hby d_method2x_51) rfl rfl k) ?_
  show own_G _ _ _ _ (T_5.setTop (mkF m 52 #[.val (.int (2 : Int32)), .val (.int c0), .val (.int c1), .val (.int c2), .val (.int c3)] [(.ref a_3), (.ref a_3), (.ref a_1), (.ref a_1)]))
  refine own_G.go (fun _ k => XS.iconst X_5.here hx rfl (hb hby d_method2x_52) k) ?_
  show own_G _ _ _ _ (T_5.setTop (mkF m 53 #[.val (.int (2 : Int32)), .val (.int c0), .val (.int c1), .val (.int c2), .val (.int c3)] [(.int (1 : Int32)), (.ref a_3), (.ref a_3), (.ref a_1), (.ref a_1)]))
  refine own_G.go (fun _ k => XS.iloadN X_5.here hx rfl (hb hby d_method2x_53) rfl k) ?_
  show own_G _ _ _ _ (T_5.setTop (mkF m 54 #[.val (.int (2 : Int32)), .val (.int c0), .val (.int c1), .val (.int c2), .val (.int c3)] [(.int c1), (.int (1 : Int32)), (.ref a_3), (.ref a_3), (.ref a_1), (.ref a_1)]))
  obtain ⟨T_7, h_7, X_7, e_7, W_7, V_7, st_7⟩ := own_stC X_5 hx hZ e_5 V_5q (j := (1 : Int32)) 1 (Nat.le_of_ble_eq_true rfl) (by decide) (by decide : ¬ ((1 : Int32) < (0 : Int32)) ∧ (1 : Int32) < (2 : Int32)) (g := (mkF m 54 #[.val (.int (2 : Int32)), .val (.int c0), .val (.int c1), .val (.int c2), .val (.int c3)] [(.int c1), (.int (1 : Int32)), (.ref a_3), (.ref a_3), (.ref a_1), (.ref a_1)])) rfl rfl (hb hby d_method2x_54)
  refine own_G.go st_7 ?_
  have Sf_8_a_1 : Safe Z own_EL s.vm h_7 a_1 := (Safe.wr W_7 (Safe.arv hZ.alike V_5q (by decide)) CH_6.1 Sf_6_a_1)
  have CH_8 : CHr Z own_EL s.vm h0 s.vm h_7 := CH_6.trans (CHr.wr W_7 (Safe.arv hZ.alike V_5q (by decide)) CH_6.1)
  have V_7q : Arv Z h_7 a_3 k_3 .char (2 : Int32) ([(.int (nar .char c0)), (.int (nar .char c1))] : List Value) (.int (0 : Int32)) := V_7
  have N_7 := Fr.snoc X_7 N_5 g0_a_3
  show own_G _ _ _ _ (T_7.setTop (mkF m 55 #[.val (.int (2 : Int32)), .val (.int c0), .val (.int c1), .val (.int c2), .val (.int c3)] [(.ref a_3), (.ref a_1), (.ref a_1)]))
  have A_1'_9 : Exa Z h_7 a_1 "java/lang/String" := (((A_1.ext E_3).wr W_5).wr W_7)
  have F_1_value'_10 : Fld Z h_7 a_1 "java/lang/String" "value" "[B" .null := (((F_1_value.ext E_3).other W_5 (Or.inl (Nat.ne_of_lt (Nat.lt_of_lt_of_le A_1.lt (Nat.le_of_eq g_3.symm))))).other W_7 (Or.inl (Nat.ne_of_lt (Nat.lt_of_lt_of_le A_1.lt (Nat.le_of_eq g_3.symm)))))
  have F_1_coder'_11 : Fld Z h_7 a_1 "java/lang/String" "coder" "B" (.int (0 : Int32)) := (((F_1_coder.ext E_3).other W_5 (Or.inl (Nat.ne_of_lt (Nat.lt_of_lt_of_le A_1.lt (Nat.le_of_eq g_3.symm))))).other W_7 (Or.inl (Nat.ne_of_lt (Nat.lt_of_lt_of_le A_1.lt (Nat.le_of_eq g_3.symm)))))
  have VC : Arv Z h_7 a_3 k_3 .char (2 : Int32) ([(.int c0), (.int c1)] : List Value) (.int (0 : Int32)) := by have q := V_7q; rw [own_narc b0, own_narc b1] at q; exact q
  have hp : ∀ c ∈ ([c0, c1] : List Int32), own_b c := own_cs_b (n := 2) b0 b1 b2 b3
  have g0_a_1 : n0 ≤ a_1 := Nat.le_trans Z0 (Nat.le_of_eq g_1.symm)
  have Z_12s : n0 ≤ h_7.size := (Nat.le_trans Z0 (Nat.le_trans (Nat.le_trans (Nat.le_trans E_1.1 E_3.1) (Keep.of_wr W_5).1) (Keep.of_wr W_7).1))
  have O_13d : Old Z n0 h_7 := ((((X00.ext E_1).ext E_3).wr W_5 g0_a_3).wr W_7 g0_a_3)
  obtain ⟨_, T_14, L_14, Q_14, X_14, st_14⟩ := own_callI X_7 hx rfl hown (mvT hZ (own_w hw 8 rfl)) (mvT hZ (own_w hw 9 rfl)) (mvT hZ (own_w hw 10 rfl)) (by decide) (Q := (StrChars.Road.QV Z a_1 (2 : Int32) (([c0, c1] : List Int32).map (fun c => c.toInt8.toInt32)) h_7 n0)) (StrChars.Road.backV (W := 1) hZ hws (kI := 4) (own_w hw 5 rfl) (cs := ([c0, c1] : List Int32)) (bs := ([c0, c1] : List Int32).map (fun c => c.toInt8.toInt32)) (n := 2) g0_a_1 Z_12s A_1'_9 F_1_value'_10 F_1_coder'_11 VC (O2.ext O_13d.2) P5 rfl rfl (by decide) (by decide) hp rfl (by decide) (by decide)) (a := a_1) (g := (mkF m 55 #[.val (.int (2 : Int32)), .val (.int c0), .val (.int c1), .val (.int c2), .val (.int c3)] [(.ref a_3), (.ref a_1), (.ref a_1)])) rfl (by rw [hml]; rfl) (argsL := [(.ref a_3)]) (rest := [(.ref a_1)]) (lenOf pd_22 rfl) rfl (by show 2 * 0 + _ ≤ _; exact Nat.le_of_eq rfl) (hb hby d_method2x_55) e_7 rfl (by decide) (by decide)
  obtain ⟨rfl, Nq_14, K_14, Ex_14, Fc_14, t_14, kb_14, tn_14, th_14, tx_14, Fv_14, Kb_14⟩ := Q_14
  refine own_G.via st_14 ?_
  have Sf_15_a_1 : Safe Z own_EL s.vm T_14.heap a_1 := (Safe.keep K_14 (sfS Sf_8_a_1 sf0) CH_8.1 Sf_8_a_1)
  have CH_15 : CHr Z own_EL s.vm h0 s.vm T_14.heap := CH_8.trans (CHr.keep K_14 (sfS Sf_8_a_1 sf0) CH_8.1)
  have N_14 := Fr.app N_7 Nq_14
  show own_G _ _ _ _ (T_14.setTop (mkF m 58 #[.val (.int (2 : Int32)), .val (.int c0), .val (.int c1), .val (.int c2), .val (.int c3)] [(.ref a_1)]))
  exact own_G.endH X_14 hS0 (Nat.le_trans (Nat.zero_le _) (Nat.le_trans (Nat.le_trans (Nat.le_trans (Nat.le_trans E_1.1 E_3.1) (Keep.of_wr W_5).1) (Keep.of_wr W_7).1) K_14.1)) hZ hEW (hh ▸ CH_15) hlk (v := (some (.ref a_1))) (fun h => by rw [hrt] at h; cases h) (fun fs hr => retOut X_14 hx hrt rfl (Or.inr (Or.inr (Or.inr (Or.inr ⟨rfl, rfl, rfl⟩)))) (hb hby d_method2x_58) hr) rfl ⟨a_1, t_14, kb_14, rfl, N_14, ((((((Keep.refl h0 []).ext E_1).ext E_3).wr W_5 (Or.inr (Nat.le_trans E_1.1 (Nat.le_of_eq g_3.symm)))).wr W_7 (Or.inr (Nat.le_trans E_1.1 (Nat.le_of_eq g_3.symm)))).trans K_14 (allS (Or.inr (Nat.le_of_eq g_1.symm)) all0)), (Nat.le_of_eq g_1.symm), Ex_14, Fc_14, Fv_14, Kb_14⟩ (by decide) (by decide)
theorem d_method2x_59 : decode method_2_code 59 = .ok (.iload_n 0, 1) := by decide +kernel
theorem d_method2x_60 : decode method_2_code 60 = .ok (.iconst 3, 1) := by decide +kernel
theorem d_method2x_61 : decode method_2_code 61 = .ok (.if_icmp .ne 26, 3) := by decide +kernel
theorem d_method2x_64 : decode method_2_code 64 = .ok (.new 7, 3) := by decide +kernel
theorem d_method2x_67 : decode method_2_code 67 = .ok (.dup, 1) := by decide +kernel
theorem d_method2x_68 : decode method_2_code 68 = .ok (.iconst 3, 1) := by decide +kernel
theorem d_method2x_69 : decode method_2_code 69 = .ok (.newarray .char, 2) := by decide +kernel
theorem d_method2x_71 : decode method_2_code 71 = .ok (.dup, 1) := by decide +kernel
theorem d_method2x_72 : decode method_2_code 72 = .ok (.iconst 0, 1) := by decide +kernel
theorem d_method2x_73 : decode method_2_code 73 = .ok (.iload_n 1, 1) := by decide +kernel
theorem d_method2x_74 : decode method_2_code 74 = .ok (.castore, 1) := by decide +kernel
theorem d_method2x_75 : decode method_2_code 75 = .ok (.dup, 1) := by decide +kernel
theorem d_method2x_76 : decode method_2_code 76 = .ok (.iconst 1, 1) := by decide +kernel
theorem d_method2x_77 : decode method_2_code 77 = .ok (.iload_n 2, 1) := by decide +kernel
theorem d_method2x_78 : decode method_2_code 78 = .ok (.castore, 1) := by decide +kernel
theorem d_method2x_79 : decode method_2_code 79 = .ok (.dup, 1) := by decide +kernel
theorem d_method2x_80 : decode method_2_code 80 = .ok (.iconst 2, 1) := by decide +kernel
theorem d_method2x_81 : decode method_2_code 81 = .ok (.iload_n 3, 1) := by decide +kernel
theorem d_method2x_82 : decode method_2_code 82 = .ok (.castore, 1) := by decide +kernel
theorem d_method2x_83 : decode method_2_code 83 = .ok (.invokespecial 9, 3) := by decide +kernel
theorem d_method2x_86 : decode method_2_code 86 = .ok (.areturn, 1) := by decide +kernel
set_option maxRecDepth 65536 in
set_option maxHeartbeats 40000000 in
theorem rm_mk3 (l : Launch) (Z : State) (a0 : Array Value) (hw : ∀ d ∈ tables_1, d.before a0 Z = true) (ws : List Jvm.Cond) (c0 c1 c2 c3 : Int32) (zc : Int32) (h0 : Heap) (n0 : Nat) (Z0 : n0 ≤ h0.size) (b0 : own_b c0) (b1 : own_b c1) (b2 : own_b c2) (b3 : own_b c3) (O2 : Sta Z Z.heap "java/lang/String" "COMPACT_STRINGS" "Z" (.int zc)) (P5 : ¬ (zc = (0 : Int32))) (X00 : Old Z n0 h0) :
    MetFree l (⟨"com/example/enlist/enlist/definition/TransactionDefinitionNamedPinLaw", "make", "(ICCCC)Ljava/lang/String;"⟩ : MethodName) (head1 (Jvm.Cond.code (⟨"com/example/enlist/enlist/definition/TransactionDefinitionNamedPinLaw", "make", "(ICCCC)Ljava/lang/String;"⟩ : MethodName) method_2_code 5 (some (.object "java/lang/String")) :: ws) ({ frames := 6, cells := 6, slots := 12, locals := 70 } : Room)) (fun a_ U => a_ = #[(.int (3 : Int32)), (.int c0), (.int c1), (.int c2), (.int c3)] ∧ Z.Warmed39 U.vm ∧ U.heap = h0 ∧ CHv Z own_EL U.vm h0) (fun _ _ _ _ _ => True) (fun _ U o U' => ∃ v L, o = .returned v ∧ Qs Z (3 : Int32) c0 c1 c2 c3 h0 n0 v U'.heap L ∧ CHr Z own_EL U.vm U.heap U'.vm U'.heap ∧ ReturnedEndW U o U' L ({ frames := 6, cells := 6, slots := 12, locals := 70 } : Room).cells ({ frames := 6, cells := 6, slots := 12, locals := 70 } : Room).slots) := by
  refine MetFree.of_bodySF (plainFor_of_name pn_11) hisR ?_
  intro p e s m args below meth c s₁ Bd hml0 hP hK
  obtain ⟨rfl, hZ, hh, hCH⟩ := hP
  have hx := Bd.exec
  have hby := Bd.bytes
  have hrt := Bd.returns
  have hlk : meth.locks = false := Bd.notSynchronized
  have hml : c.maxLocals = 5 := hml0
  have hown : s.vm.findClass "com/example/enlist/enlist/definition/TransactionDefinitionNamedPinLaw" = some m.cls := findClass_of_methodNamed Bd.named
  have hnm := (name_of_methodNamed Bd.named Bd.method).1
  have X0 : Stand p l e ({ frames := 6, cells := 6, slots := 12, locals := 70 } : Room) (s.setVm s.vm) m #[(.int (3 : Int32)), (.int c0), (.int c1), (.int c2), (.int c3)] below meth c s₁ [] 0 0 := Stand.of_body Bd
  have e0 : s₁.heap = h0 := by rw [← hh, Bd.state]; rfl
  have N0 := Fr.nil n0
  have hS0 : s.Since s.vm 0 := own_since s 0
  have hstr : ∀ d ∈ Bundle.stringAtoms, d.before a0 Z = true := fun d hd => hw d ((by decide +kernel : ∀ d ∈ Bundle.stringAtoms, d ∈ tables_1) d hd)
  have hEW : EW Z a0 own_EL := own_EW hw
  have CH0 : CHr Z own_EL s.vm h0 s.vm h0 := CHr.refl hCH
  show own_G p.tables e below (fun o t => ∃ v L, o = .returned v ∧ Qs Z (3 : Int32) c0 c1 c2 c3 h0 n0 v t.heap L ∧ CHr Z own_EL s.vm s.heap t.vm t.heap ∧ ReturnedEndW s o t L ({ frames := 6, cells := 6, slots := 12, locals := 70 } : Room).cells ({ frames := 6, cells := 6, slots := 12, locals := 70 } : Room).slots) (s₁.setTop (entryFrame m #[(.int (3 : Int32)), (.int c0), (.int c1), (.int c2), (.int c3)] 5))
  refine own_G.cast (show entryFrame m #[(.int (3 : Int32)), (.int c0), (.int c1), (.int c2), (.int c3)] 5 = mkF m 0 #[.val (.int (3 : Int32)), .val (.int c0), .val (.int c1), .val (.int c2), .val (.int c3)] [] from by first | (simp [entryFrame, mkF, argsToLocals, Value.category]; done) | rfl) ?_
  have hws : ∀ d ∈ StrChars.Road.words, d.before a0 Z = true := fun d hd => hw d ((by decide +kernel : ∀ d ∈ StrChars.Road.words, d ∈ tables_1) d hd)
  refine own_G.go (fun _ k => XS.iloadN X0.here hx rfl (hb hby d_method2x_0) rfl k) ?_
  show own_G _ _ _ _ (s₁.setTop (mkF m 1 #[.val (.int (3 : Int32)), .val (.int c0), .val (.int c1), .val (.int c2), .val (.int c3)] [(.int (3 : Int32))]))
  refine own_G.go (fun _ k => XS.ifYes X0.here hx rfl (pc0 := 1) (pc' := 15) rfl (hb hby d_method2x_1) rfl ((if0 _ _).trans (feq (by decide : ¬ ((3 : Int32) = (0 : Int32)))).2) (by decide) (by decide) k) ?_
  show own_G _ _ _ _ (s₁.setTop (mkF m 15 #[.val (.int (3 : Int32)), .val (.int c0), .val (.int c1), .val (.int c2), .val (.int c3)] []))
  refine own_G.go (fun _ k => XS.iloadN X0.here hx rfl (hb hby d_method2x_15) rfl k) ?_
  show own_G _ _ _ _ (s₁.setTop (mkF m 16 #[.val (.int (3 : Int32)), .val (.int c0), .val (.int c1), .val (.int c2), .val (.int c3)] [(.int (3 : Int32))]))
  refine own_G.go (fun _ k => XS.iconst X0.here hx rfl (hb hby d_method2x_16) k) ?_
  show own_G _ _ _ _ (s₁.setTop (mkF m 17 #[.val (.int (3 : Int32)), .val (.int c0), .val (.int c1), .val (.int c2), .val (.int c3)] [(.int (1 : Int32)), (.int (3 : Int32))]))
  refine own_G.go (fun _ k => XS.icmpYes X0.here hx rfl (pc0 := 17) (pc' := 35) rfl (hb hby d_method2x_17) rfl (feq (by decide : ¬ ((3 : Int32) = (1 : Int32)))).2 (by decide) (by decide) k) ?_
  show own_G _ _ _ _ (s₁.setTop (mkF m 35 #[.val (.int (3 : Int32)), .val (.int c0), .val (.int c1), .val (.int c2), .val (.int c3)] []))
  refine own_G.go (fun _ k => XS.iloadN X0.here hx rfl (hb hby d_method2x_35) rfl k) ?_
  show own_G _ _ _ _ (s₁.setTop (mkF m 36 #[.val (.int (3 : Int32)), .val (.int c0), .val (.int c1), .val (.int c2), .val (.int c3)] [(.int (3 : Int32))]))
  refine own_G.go (fun _ k => XS.iconst X0.here hx rfl (hb hby d_method2x_36) k) ?_
  show own_G _ _ _ _ (s₁.setTop (mkF m 37 #[.val (.int (3 : Int32)), .val (.int c0), .val (.int c1), .val (.int c2), .val (.int c3)] [(.int (2 : Int32)), (.int (3 : Int32))]))
  refine own_G.go (fun _ k => XS.icmpYes X0.here hx rfl (pc0 := 37) (pc' := 59) rfl (hb hby d_method2x_37) rfl (feq (by decide : ¬ ((3 : Int32) = (2 : Int32)))).2 (by decide) (by decide) k) ?_
  show own_G _ _ _ _ (s₁.setTop (mkF m 59 #[.val (.int (3 : Int32)), .val (.int c0), .val (.int c1), .val (.int c2), .val (.int c3)] []))
  refine own_G.go (fun _ k => XS.iloadN X0.here hx rfl (hb hby d_method2x_59) rfl k) ?_
  show own_G _ _ _ _ (s₁.setTop (mkF m 60 #[.val (.int (3 : Int32)), .val (.int c0), .val (.int c1), .val (.int c2), .val (.int c3)] [(.int (3 : Int32))]))
  refine own_G.go (fun _ k => XS.iconst X0.here hx rfl (hb hby d_method2x_60) k) ?_
  show own_G _ _ _ _ (s₁.setTop (mkF m 61 #[.val (.int (3 : Int32)), .val (.int c0), .val (.int c1), .val (.int c2), .val (.int c3)] [(.int (3 : Int32)), (.int (3 : Int32))]))
  refine own_G.go (fun _ k => XS.icmpNo X0.here hx rfl (hb hby d_method2x_61) rfl (teq (by decide : (3 : Int32) = (3 : Int32))).2 k) ?_
  show own_G _ _ _ _ (s₁.setTop (mkF m 64 #[.val (.int (3 : Int32)), .val (.int c0), .val (.int c1), .val (.int c2), .val (.int c3)] []))
  obtain ⟨T_1, h_1, X_1, e_1, E_1, A_1, D_1, -, st_1⟩ := newO X0 hx hZ hown (own_w hw 4 rfl) (own_w hw 5 rfl) (own_w hw 6 rfl) e0 (g := (mkF m 64 #[.val (.int (3 : Int32)), .val (.int c0), .val (.int c1), .val (.int c2), .val (.int c3)] [])) rfl (hb hby d_method2x_64) (by decide) (by decide)
  obtain ⟨a_1, g_1⟩ : ∃ z, z = h0.size := ⟨_, rfl⟩
  rw [← g_1] at A_1 D_1 st_1
  refine own_G.go st_1 ?_
  have CH_2 : CHr Z own_EL s.vm h0 s.vm h_1 := CH0.trans (CHr.ext E_1 CH0.1)
  have Sn_1 : Safe Z own_EL s.vm h_1 a_1 := Safe.ext E_1 CH0.1 (Safe.new (Nat.le_of_eq g_1.symm))
  have F_1_value : Fld Z h_1 a_1 "java/lang/String" "value" "[B" .null := D_1 (Or.inr (own_w hw 20 rfl)) (ty := (.array .byte)) (by decide)
  have F_1_coder : Fld Z h_1 a_1 "java/lang/String" "coder" "B" (.int (0 : Int32)) := D_1 (Or.inr (own_w hw 21 rfl)) (ty := .byte) (by decide)
  show own_G _ _ _ _ (T_1.setTop (mkF m 67 #[.val (.int (3 : Int32)), .val (.int c0), .val (.int c1), .val (.int c2), .val (.int c3)] [(.ref a_1)]))
  refine own_G.go (fun _ k => XS.dup X_1.here hx rfl (hb hby d_method2x_67) rfl rfl k) ?_
  show own_G _ _ _ _ (T_1.setTop (mkF m 68 #[.val (.int (3 : Int32)), .val (.int c0), .val (.int c1), .val (.int c2), .val (.int c3)] [(.ref a_1), (.ref a_1)]))
  refine own_G.go (fun _ k => XS.iconst X_1.here hx rfl (hb hby d_method2x_68) k) ?_
  show own_G _ _ _ _ (T_1.setTop (mkF m 69 #[.val (.int (3 : Int32)), .val (.int c0), .val (.int c1), .val (.int c2), .val (.int c3)] [(.int (3 : Int32)), (.ref a_1), (.ref a_1)]))
  obtain ⟨T_3, h_3, k_3, X_3, e_3, E_3, A_3, st_3⟩ := newP X_1 hx hZ (own_w hw 7 rfl) e_1 (g := (mkF m 69 #[.val (.int (3 : Int32)), .val (.int c0), .val (.int c1), .val (.int c2), .val (.int c3)] [(.int (3 : Int32)), (.ref a_1), (.ref a_1)])) rfl (hb hby d_method2x_69) rfl (by decide : ¬ ((3 : Int32) < (0 : Int32))) (cap := 3) (by decide : ((3 : Int32)).toNatClampNeg ≤ 3) (by decide) (by decide) (by decide)
  obtain ⟨a_3, g_3⟩ : ∃ z, z = h_1.size := ⟨_, rfl⟩
  rw [← g_3] at A_3 st_3
  refine own_G.go st_3 ?_
  have Sf_4_a_1 : Safe Z own_EL s.vm h_3 a_1 := (Safe.ext E_3 CH_2.1 Sn_1)
  have CH_4 : CHr Z own_EL s.vm h0 s.vm h_3 := CH_2.trans (CHr.ext E_3 CH_2.1)
  have V_3 : Arv Z h_3 a_3 k_3 .char (3 : Int32) ([(.int (0 : Int32)), (.int (0 : Int32)), (.int (0 : Int32))] : List Value) (.int (0 : Int32)) := (Arv.new A_3 (by decide : ¬ ((3 : Int32) < (0 : Int32)))).pad (pad_rep [] (.int (0 : Int32)) 3)
  show own_G _ _ _ _ (T_3.setTop (mkF m 71 #[.val (.int (3 : Int32)), .val (.int c0), .val (.int c1), .val (.int c2), .val (.int c3)] [(.ref a_3), (.ref a_1), (.ref a_1)]))
  refine own_G.go (fun _ k => XS.dup X_3.here hx rfl (hb hby d_method2x_71) rfl rfl k) ?_
  show own_G _ _ _ _ (T_3.setTop (mkF m 72 #[.val (.int (3 : Int32)), .val (.int c0), .val (.int c1), .val (.int c2), .val (.int c3)] [(.ref a_3), (.ref a_3), (.ref a_1), (.ref a_1)]))
  refine own_G.go (fun _ k => XS.iconst X_3.here hx rfl (hb hby d_method2x_72) k) ?_
  show own_G _ _ _ _ (T_3.setTop (mkF m 73 #[.val (.int (3 : Int32)), .val (.int c0), .val (.int c1), .val (.int c2), .val (.int c3)] [(.int (0 : Int32)), (.ref a_3), (.ref a_3), (.ref a_1), (.ref a_1)]))
  refine own_G.go (fun _ k => XS.iloadN X_3.here hx rfl (hb hby d_method2x_73) rfl k) ?_
  show own_G _ _ _ _ (T_3.setTop (mkF m 74 #[.val (.int (3 : Int32)), .val (.int c0), .val (.int c1), .val (.int c2), .val (.int c3)] [(.int c0), (.int (0 : Int32)), (.ref a_3), (.ref a_3), (.ref a_1), (.ref a_1)]))
  obtain ⟨T_5, h_5, X_5, e_5, W_5, V_5, st_5⟩ := own_stC X_3 hx hZ e_3 V_3 (j := (0 : Int32)) 0 (Nat.le_of_ble_eq_true rfl) (by decide) (by decide : ¬ ((0 : Int32) < (0 : Int32)) ∧ (0 : Int32) < (3 : Int32)) (g := (mkF m 74 #[.val (.int (3 : Int32)), .val (.int c0), .val (.int c1), .val (.int c2), .val (.int c3)] [(.int c0), (.int (0 : Int32)), (.ref a_3), (.ref a_3), (.ref a_1), (.ref a_1)])) rfl rfl (hb hby d_method2x_74)
  refine own_G.go st_5 ?_
  have Sf_6_a_1 : Safe Z own_EL s.vm h_5 a_1 := (Safe.wr W_5 (Safe.arv hZ.alike V_3 (by decide)) CH_4.1 Sf_4_a_1)
  have CH_6 : CHr Z own_EL s.vm h0 s.vm h_5 := CH_4.trans (CHr.wr W_5 (Safe.arv hZ.alike V_3 (by decide)) CH_4.1)
  have V_5q : Arv Z h_5 a_3 k_3 .char (3 : Int32) ([(.int (nar .char c0)), (.int (0 : Int32)), (.int (0 : Int32))] : List Value) (.int (0 : Int32)) := V_5
  have g0_a_3 : n0 ≤ a_3 := Nat.le_trans (Nat.le_trans Z0 E_1.1) (Nat.le_of_eq g_3.symm)
  have N_5 := Fr.snoc X_5 N0 g0_a_3
  show own_G _ _ _ _ (T_5.setTop (mkF m 75 #[.val (.int (3 : Int32)), .val (.int c0), .val (.int c1), .val (.int c2), .val (.int c3)] [(.ref a_3), (.ref a_1), (.ref a_1)]))
  refine own_G.go (fun _ k => XS.dup X_5.here hx rfl (hb hby d_method2x_75) rfl rfl k) ?_
  show own_G _ _ _ _ (T_5.setTop (mkF m 76 #[.val (.int (3 : Int32)), .val (.int c0), .val (.int c1), .val (.int c2), .val (.int c3)] [(.ref a_3), (.ref a_3), (.ref a_1), (.ref a_1)]))
  refine own_G.go (fun _ k => XS.iconst X_5.here hx rfl (hb hby d_method2x_76) k) ?_
  show own_G _ _ _ _ (T_5.setTop (mkF m 77 #[.val (.int (3 : Int32)), .val (.int c0), .val (.int c1), .val (.int c2), .val (.int c3)] [(.int (1 : Int32)), (.ref a_3), (.ref a_3), (.ref a_1), (.ref a_1)]))
  refine own_G.go (fun _ k => XS.iloadN X_5.here hx rfl (hb hby d_method2x_77) rfl k) ?_
  show own_G _ _ _ _ (T_5.setTop (mkF m 78 #[.val (.int (3 : Int32)), .val (.int c0), .val (.int c1), .val (.int c2), .val (.int c3)] [(.int c1), (.int (1 : Int32)), (.ref a_3), (.ref a_3), (.ref a_1), (.ref a_1)]))
  obtain ⟨T_7, h_7, X_7, e_7, W_7, V_7, st_7⟩ := own_stC X_5 hx hZ e_5 V_5q (j := (1 : Int32)) 1 (Nat.le_of_ble_eq_true rfl) (by decide) (by decide : ¬ ((1 : Int32) < (0 : Int32)) ∧ (1 : Int32) < (3 : Int32)) (g := (mkF m 78 #[.val (.int (3 : Int32)), .val (.int c0), .val (.int c1), .val (.int c2), .val (.int c3)] [(.int c1), (.int (1 : Int32)), (.ref a_3), (.ref a_3), (.ref a_1), (.ref a_1)])) rfl rfl (hb hby d_method2x_78)
  refine own_G.go st_7 ?_
  have Sf_8_a_1 : Safe Z own_EL s.vm h_7 a_1 := (Safe.wr W_7 (Safe.arv hZ.alike V_5q (by decide)) CH_6.1 Sf_6_a_1)
  have CH_8 : CHr Z own_EL s.vm h0 s.vm h_7 := CH_6.trans (CHr.wr W_7 (Safe.arv hZ.alike V_5q (by decide)) CH_6.1)
  have V_7q : Arv Z h_7 a_3 k_3 .char (3 : Int32) ([(.int (nar .char c0)), (.int (nar .char c1)), (.int (0 : Int32))] : List Value) (.int (0 : Int32)) := V_7
  have N_7 := Fr.snoc X_7 N_5 g0_a_3
  show own_G _ _ _ _ (T_7.setTop (mkF m 79 #[.val (.int (3 : Int32)), .val (.int c0), .val (.int c1), .val (.int c2), .val (.int c3)] [(.ref a_3), (.ref a_1), (.ref a_1)]))
  refine own_G.go (fun _ k => XS.dup X_7.here hx rfl (hb hby d_method2x_79) rfl rfl k) ?_
  show own_G _ _ _ _ (T_7.setTop (mkF m 80 #[.val (.int (3 : Int32)), .val (.int c0), .val (.int c1), .val (.int c2), .val (.int c3)] [(.ref a_3), (.ref a_3), (.ref a_1), (.ref a_1)]))
  refine own_G.go (fun _ k => XS.iconst X_7.here hx rfl (hb hby d_method2x_80) k) ?_
  show own_G _ _ _ _ (T_7.setTop (mkF m 81 #[.val (.int (3 : Int32)), .val (.int c0), .val (.int c1), .val (.int c2), .val (.int c3)] [(.int (2 : Int32)), (.ref a_3), (.ref a_3), (.ref a_1), (.ref a_1)]))
  refine own_G.go (fun _ k => XS.iloadN X_7.here hx rfl (hb hby d_method2x_81) rfl k) ?_
  show own_G _ _ _ _ (T_7.setTop (mkF m 82 #[.val (.int (3 : Int32)), .val (.int c0), .val (.int c1), .val (.int c2), .val (.int c3)] [(.int c2), (.int (2 : Int32)), (.ref a_3), (.ref a_3), (.ref a_1), (.ref a_1)]))
  obtain ⟨T_9, h_9, X_9, e_9, W_9, V_9, st_9⟩ := own_stC X_7 hx hZ e_7 V_7q (j := (2 : Int32)) 2 (Nat.le_of_ble_eq_true rfl) (by decide) (by decide : ¬ ((2 : Int32) < (0 : Int32)) ∧ (2 : Int32) < (3 : Int32)) (g := (mkF m 82 #[.val (.int (3 : Int32)), .val (.int c0), .val (.int c1), .val (.int c2), .val (.int c3)] [(.int c2), (.int (2 : Int32)), (.ref a_3), (.ref a_3), (.ref a_1), (.ref a_1)])) rfl rfl (hb hby d_method2x_82)
  refine own_G.go st_9 ?_
  have Sf_10_a_1 : Safe Z own_EL s.vm h_9 a_1 := (Safe.wr W_9 (Safe.arv hZ.alike V_7q (by decide)) CH_8.1 Sf_8_a_1)
  have CH_10 : CHr Z own_EL s.vm h0 s.vm h_9 := CH_8.trans (CHr.wr W_9 (Safe.arv hZ.alike V_7q (by decide)) CH_8.1)
  have V_9q : Arv Z h_9 a_3 k_3 .char (3 : Int32) ([(.int (nar .char c0)), (.int (nar .char c1)), (.int (nar .char c2))] : List Value) (.int (0 : Int32)) := V_9
  have N_9 := Fr.snoc X_9 N_7 g0_a_3
  show own_G _ _ _ _ (T_9.setTop (mkF m 83 #[.val (.int (3 : Int32)), .val (.int c0), .val (.int c1), .val (.int c2), .val (.int c3)] [(.ref a_3), (.ref a_1), (.ref a_1)]))
  have A_1'_11 : Exa Z h_9 a_1 "java/lang/String" := ((((A_1.ext E_3).wr W_5).wr W_7).wr W_9)
  have F_1_value'_12 : Fld Z h_9 a_1 "java/lang/String" "value" "[B" .null := ((((F_1_value.ext E_3).other W_5 (Or.inl (Nat.ne_of_lt (Nat.lt_of_lt_of_le A_1.lt (Nat.le_of_eq g_3.symm))))).other W_7 (Or.inl (Nat.ne_of_lt (Nat.lt_of_lt_of_le A_1.lt (Nat.le_of_eq g_3.symm))))).other W_9 (Or.inl (Nat.ne_of_lt (Nat.lt_of_lt_of_le A_1.lt (Nat.le_of_eq g_3.symm)))))
  have F_1_coder'_13 : Fld Z h_9 a_1 "java/lang/String" "coder" "B" (.int (0 : Int32)) := ((((F_1_coder.ext E_3).other W_5 (Or.inl (Nat.ne_of_lt (Nat.lt_of_lt_of_le A_1.lt (Nat.le_of_eq g_3.symm))))).other W_7 (Or.inl (Nat.ne_of_lt (Nat.lt_of_lt_of_le A_1.lt (Nat.le_of_eq g_3.symm))))).other W_9 (Or.inl (Nat.ne_of_lt (Nat.lt_of_lt_of_le A_1.lt (Nat.le_of_eq g_3.symm)))))
  have VC : Arv Z h_9 a_3 k_3 .char (3 : Int32) ([(.int c0), (.int c1), (.int c2)] : List Value) (.int (0 : Int32)) := by have q := V_9q; rw [own_narc b0, own_narc b1, own_narc b2] at q; exact q
  have hp : ∀ c ∈ ([c0, c1, c2] : List Int32), own_b c := own_cs_b (n := 3) b0 b1 b2 b3
  have g0_a_1 : n0 ≤ a_1 := Nat.le_trans Z0 (Nat.le_of_eq g_1.symm)
  have Z_14s : n0 ≤ h_9.size := (Nat.le_trans Z0 (Nat.le_trans (Nat.le_trans (Nat.le_trans (Nat.le_trans E_1.1 E_3.1) (Keep.of_wr W_5).1) (Keep.of_wr W_7).1) (Keep.of_wr W_9).1))
  have O_15d : Old Z n0 h_9 := (((((X00.ext E_1).ext E_3).wr W_5 g0_a_3).wr W_7 g0_a_3).wr W_9 g0_a_3)
  obtain ⟨_, T_16, L_16, Q_16, X_16, st_16⟩ := own_callI X_9 hx rfl hown (mvT hZ (own_w hw 8 rfl)) (mvT hZ (own_w hw 9 rfl)) (mvT hZ (own_w hw 10 rfl)) (by decide) (Q := (StrChars.Road.QV Z a_1 (3 : Int32) (([c0, c1, c2] : List Int32).map (fun c => c.toInt8.toInt32)) h_9 n0)) (StrChars.Road.backV (W := 1) hZ hws (kI := 4) (own_w hw 5 rfl) (cs := ([c0, c1, c2] : List Int32)) (bs := ([c0, c1, c2] : List Int32).map (fun c => c.toInt8.toInt32)) (n := 3) g0_a_1 Z_14s A_1'_11 F_1_value'_12 F_1_coder'_13 VC (O2.ext O_15d.2) P5 rfl rfl (by decide) (by decide) hp rfl (by decide) (by decide)) (a := a_1) (g := (mkF m 83 #[.val (.int (3 : Int32)), .val (.int c0), .val (.int c1), .val (.int c2), .val (.int c3)] [(.ref a_3), (.ref a_1), (.ref a_1)])) rfl (by rw [hml]; rfl) (argsL := [(.ref a_3)]) (rest := [(.ref a_1)]) (lenOf pd_22 rfl) rfl (by show 2 * 0 + _ ≤ _; exact Nat.le_of_eq rfl) (hb hby d_method2x_83) e_9 rfl (by decide) (by decide)
  obtain ⟨rfl, Nq_16, K_16, Ex_16, Fc_16, t_16, kb_16, tn_16, th_16, tx_16, Fv_16, Kb_16⟩ := Q_16
  refine own_G.via st_16 ?_
  have Sf_17_a_1 : Safe Z own_EL s.vm T_16.heap a_1 := (Safe.keep K_16 (sfS Sf_10_a_1 sf0) CH_10.1 Sf_10_a_1)
  have CH_17 : CHr Z own_EL s.vm h0 s.vm T_16.heap := CH_10.trans (CHr.keep K_16 (sfS Sf_10_a_1 sf0) CH_10.1)
  have N_16 := Fr.app N_9 Nq_16
  show own_G _ _ _ _ (T_16.setTop (mkF m 86 #[.val (.int (3 : Int32)), .val (.int c0), .val (.int c1), .val (.int c2), .val (.int c3)] [(.ref a_1)]))
  exact own_G.endH X_16 hS0 (Nat.le_trans (Nat.zero_le _) (Nat.le_trans (Nat.le_trans (Nat.le_trans (Nat.le_trans (Nat.le_trans E_1.1 E_3.1) (Keep.of_wr W_5).1) (Keep.of_wr W_7).1) (Keep.of_wr W_9).1) K_16.1)) hZ hEW (hh ▸ CH_17) hlk (v := (some (.ref a_1))) (fun h => by rw [hrt] at h; cases h) (fun fs hr => retOut X_16 hx hrt rfl (Or.inr (Or.inr (Or.inr (Or.inr ⟨rfl, rfl, rfl⟩)))) (hb hby d_method2x_86) hr) rfl ⟨a_1, t_16, kb_16, rfl, N_16, (((((((Keep.refl h0 []).ext E_1).ext E_3).wr W_5 (Or.inr (Nat.le_trans E_1.1 (Nat.le_of_eq g_3.symm)))).wr W_7 (Or.inr (Nat.le_trans E_1.1 (Nat.le_of_eq g_3.symm)))).wr W_9 (Or.inr (Nat.le_trans E_1.1 (Nat.le_of_eq g_3.symm)))).trans K_16 (allS (Or.inr (Nat.le_of_eq g_1.symm)) all0)), (Nat.le_of_eq g_1.symm), Ex_16, Fc_16, Fv_16, Kb_16⟩ (by decide) (by decide)
theorem d_method2x_87 : decode method_2_code 87 = .ok (.new 7, 3) := by decide +kernel
theorem d_method2x_90 : decode method_2_code 90 = .ok (.dup, 1) := by decide +kernel
theorem d_method2x_91 : decode method_2_code 91 = .ok (.iconst 4, 1) := by decide +kernel
theorem d_method2x_92 : decode method_2_code 92 = .ok (.newarray .char, 2) := by decide +kernel
theorem d_method2x_94 : decode method_2_code 94 = .ok (.dup, 1) := by decide +kernel
theorem d_method2x_95 : decode method_2_code 95 = .ok (.iconst 0, 1) := by decide +kernel
theorem d_method2x_96 : decode method_2_code 96 = .ok (.iload_n 1, 1) := by decide +kernel
theorem d_method2x_97 : decode method_2_code 97 = .ok (.castore, 1) := by decide +kernel
theorem d_method2x_98 : decode method_2_code 98 = .ok (.dup, 1) := by decide +kernel
theorem d_method2x_99 : decode method_2_code 99 = .ok (.iconst 1, 1) := by decide +kernel
theorem d_method2x_100 : decode method_2_code 100 = .ok (.iload_n 2, 1) := by decide +kernel
theorem d_method2x_101 : decode method_2_code 101 = .ok (.castore, 1) := by decide +kernel
theorem d_method2x_102 : decode method_2_code 102 = .ok (.dup, 1) := by decide +kernel
theorem d_method2x_103 : decode method_2_code 103 = .ok (.iconst 2, 1) := by decide +kernel
theorem d_method2x_104 : decode method_2_code 104 = .ok (.iload_n 3, 1) := by decide +kernel
theorem d_method2x_105 : decode method_2_code 105 = .ok (.castore, 1) := by decide +kernel
theorem d_method2x_106 : decode method_2_code 106 = .ok (.dup, 1) := by decide +kernel
theorem d_method2x_107 : decode method_2_code 107 = .ok (.iconst 3, 1) := by decide +kernel
theorem d_method2x_108 : decode method_2_code 108 = .ok (.iload 4, 2) := by decide +kernel
theorem d_method2x_110 : decode method_2_code 110 = .ok (.castore, 1) := by decide +kernel
theorem d_method2x_111 : decode method_2_code 111 = .ok (.invokespecial 9, 3) := by decide +kernel
theorem d_method2x_114 : decode method_2_code 114 = .ok (.areturn, 1) := by decide +kernel
set_option maxRecDepth 65536 in
set_option maxHeartbeats 40000000 in
theorem rm_mk4 (l : Launch) (Z : State) (a0 : Array Value) (hw : ∀ d ∈ tables_1, d.before a0 Z = true) (ws : List Jvm.Cond) (c0 c1 c2 c3 : Int32) (zc : Int32) (h0 : Heap) (n0 : Nat) (Z0 : n0 ≤ h0.size) (b0 : own_b c0) (b1 : own_b c1) (b2 : own_b c2) (b3 : own_b c3) (O2 : Sta Z Z.heap "java/lang/String" "COMPACT_STRINGS" "Z" (.int zc)) (P5 : ¬ (zc = (0 : Int32))) (X00 : Old Z n0 h0) :
    MetFree l (⟨"com/example/enlist/enlist/definition/TransactionDefinitionNamedPinLaw", "make", "(ICCCC)Ljava/lang/String;"⟩ : MethodName) (head1 (Jvm.Cond.code (⟨"com/example/enlist/enlist/definition/TransactionDefinitionNamedPinLaw", "make", "(ICCCC)Ljava/lang/String;"⟩ : MethodName) method_2_code 5 (some (.object "java/lang/String")) :: ws) ({ frames := 6, cells := 6, slots := 12, locals := 70 } : Room)) (fun a_ U => a_ = #[(.int (4 : Int32)), (.int c0), (.int c1), (.int c2), (.int c3)] ∧ Z.Warmed39 U.vm ∧ U.heap = h0 ∧ CHv Z own_EL U.vm h0) (fun _ _ _ _ _ => True) (fun _ U o U' => ∃ v L, o = .returned v ∧ Qs Z (4 : Int32) c0 c1 c2 c3 h0 n0 v U'.heap L ∧ CHr Z own_EL U.vm U.heap U'.vm U'.heap ∧ ReturnedEndW U o U' L ({ frames := 6, cells := 6, slots := 12, locals := 70 } : Room).cells ({ frames := 6, cells := 6, slots := 12, locals := 70 } : Room).slots) := by
  refine MetFree.of_bodySF (plainFor_of_name pn_11) hisR ?_
  intro p e s m args below meth c s₁ Bd hml0 hP hK
  obtain ⟨rfl, hZ, hh, hCH⟩ := hP
  have hx := Bd.exec
  have hby := Bd.bytes
  have hrt := Bd.returns
  have hlk : meth.locks = false := Bd.notSynchronized
  have hml : c.maxLocals = 5 := hml0
  have hown : s.vm.findClass "com/example/enlist/enlist/definition/TransactionDefinitionNamedPinLaw" = some m.cls := findClass_of_methodNamed Bd.named
  have hnm := (name_of_methodNamed Bd.named Bd.method).1
  have X0 : Stand p l e ({ frames := 6, cells := 6, slots := 12, locals := 70 } : Room) (s.setVm s.vm) m #[(.int (4 : Int32)), (.int c0), (.int c1), (.int c2), (.int c3)] below meth c s₁ [] 0 0 := Stand.of_body Bd
  have e0 : s₁.heap = h0 := by rw [← hh, Bd.state]; rfl
  have N0 := Fr.nil n0
  have hS0 : s.Since s.vm 0 := own_since s 0
  have hstr : ∀ d ∈ Bundle.stringAtoms, d.before a0 Z = true := fun d hd => hw d ((by decide +kernel : ∀ d ∈ Bundle.stringAtoms, d ∈ tables_1) d hd)
  have hEW : EW Z a0 own_EL := own_EW hw
  have CH0 : CHr Z own_EL s.vm h0 s.vm h0 := CHr.refl hCH
  show own_G p.tables e below (fun o t => ∃ v L, o = .returned v ∧ Qs Z (4 : Int32) c0 c1 c2 c3 h0 n0 v t.heap L ∧ CHr Z own_EL s.vm s.heap t.vm t.heap ∧ ReturnedEndW s o t L ({ frames := 6, cells := 6, slots := 12, locals := 70 } : Room).cells ({ frames := 6, cells := 6, slots := 12, locals := 70 } : Room).slots) (s₁.setTop (entryFrame m #[(.int (4 : Int32)), (.int c0), (.int c1), (.int c2), (.int c3)] 5))
  refine own_G.cast (show entryFrame m #[(.int (4 : Int32)), (.int c0), (.int c1), (.int c2), (.int c3)] 5 = mkF m 0 #[.val (.int (4 : Int32)), .val (.int c0), .val (.int c1), .val (.int c2), .val (.int c3)] [] from by first | (simp [entryFrame, mkF, argsToLocals, Value.category]; done) | rfl) ?_
  have hws : ∀ d ∈ StrChars.Road.words, d.before a0 Z = true := fun d hd => hw d ((by decide +kernel : ∀ d ∈ StrChars.Road.words, d ∈ tables_1) d hd)
  refine own_G.go (fun _ k => XS.iloadN X0.here hx rfl (hb hby d_method2x_0) rfl k) ?_
  show own_G _ _ _ _ (s₁.setTop (mkF m 1 #[.val (.int (4 : Int32)), .val (.int c0), .val (.int c1), .val (.int c2), .val (.int c3)] [(.int (4 : Int32))]))
  refine own_G.go (fun _ k => XS.ifYes X0.here hx rfl (pc0 := 1) (pc' := 15) rfl (hb hby d_method2x_1) rfl ((if0 _ _).trans (feq (by decide : ¬ ((4 : Int32) = (0 : Int32)))).2) (by decide) (by decide) k) ?_
  show own_G _ _ _ _ (s₁.setTop (mkF m 15 #[.val (.int (4 : Int32)), .val (.int c0), .val (.int c1), .val (.int c2), .val (.int c3)] []))
  refine own_G.go (fun _ k => XS.iloadN X0.here hx rfl (hb hby d_method2x_15) rfl k) ?_
  show own_G _ _ _ _ (s₁.setTop (mkF m 16 #[.val (.int (4 : Int32)), .val (.int c0), .val (.int c1), .val (.int c2), .val (.int c3)] [(.int (4 : Int32))]))
  refine own_G.go (fun _ k => XS.iconst X0.here hx rfl (hb hby d_method2x_16) k) ?_
  show own_G _ _ _ _ (s₁.setTop (mkF m 17 #[.val (.int (4 : Int32)), .val (.int c0), .val (.int c1), .val (.int c2), .val (.int c3)] [(.int (1 : Int32)), (.int (4 : Int32))]))
  refine own_G.go (fun _ k => XS.icmpYes X0.here hx rfl (pc0 := 17) (pc' := 35) rfl (hb hby d_method2x_17) rfl (feq (by decide : ¬ ((4 : Int32) = (1 : Int32)))).2 (by decide) (by decide) k) ?_
  show own_G _ _ _ _ (s₁.setTop (mkF m 35 #[.val (.int (4 : Int32)), .val (.int c0), .val (.int c1), .val (.int c2), .val (.int c3)] []))
  refine own_G.go (fun _ k => XS.iloadN X0.here hx rfl (hb hby d_method2x_35) rfl k) ?_
  show own_G _ _ _ _ (s₁.setTop (mkF m 36 #[.val (.int (4 : Int32)), .val (.int c0), .val (.int c1), .val (.int c2), .val (.int c3)] [(.int (4 : Int32))]))
  refine own_G.go (fun _ k => XS.iconst X0.here hx rfl (hb hby d_method2x_36) k) ?_
  show own_G _ _ _ _ (s₁.setTop (mkF m 37 #[.val (.int (4 : Int32)), .val (.int c0), .val (.int c1), .val (.int c2), .val (.int c3)] [(.int (2 : Int32)), (.int (4 : Int32))]))
  refine own_G.go (fun _ k => XS.icmpYes X0.here hx rfl (pc0 := 37) (pc' := 59) rfl (hb hby d_method2x_37) rfl (feq (by decide : ¬ ((4 : Int32) = (2 : Int32)))).2 (by decide) (by decide) k) ?_
  show own_G _ _ _ _ (s₁.setTop (mkF m 59 #[.val (.int (4 : Int32)), .val (.int c0), .val (.int c1), .val (.int c2), .val (.int c3)] []))
  refine own_G.go (fun _ k => XS.iloadN X0.here hx rfl (hb hby d_method2x_59) rfl k) ?_
  show own_G _ _ _ _ (s₁.setTop (mkF m 60 #[.val (.int (4 : Int32)), .val (.int c0), .val (.int c1), .val (.int c2), .val (.int c3)] [(.int (4 : Int32))]))
  refine own_G.go (fun _ k => XS.iconst X0.here hx rfl (hb hby d_method2x_60) k) ?_
  show own_G _ _ _ _ (s₁.setTop (mkF m 61 #[.val (.int (4 : Int32)), .val (.int c0), .val (.int c1), .val (.int c2), .val (.int c3)] [(.int (3 : Int32)), (.int (4 : Int32))]))
  refine own_G.go (fun _ k => XS.icmpYes X0.here hx rfl (pc0 := 61) (pc' := 87) rfl (hb hby d_method2x_61) rfl (feq (by decide : ¬ ((4 : Int32) = (3 : Int32)))).2 (by decide) (by decide) k) ?_
  show own_G _ _ _ _ (s₁.setTop (mkF m 87 #[.val (.int (4 : Int32)), .val (.int c0), .val (.int c1), .val (.int c2), .val (.int c3)] []))
  obtain ⟨T_1, h_1, X_1, e_1, E_1, A_1, D_1, -, st_1⟩ := newO X0 hx hZ hown (own_w hw 4 rfl) (own_w hw 5 rfl) (own_w hw 6 rfl) e0 (g := (mkF m 87 #[.val (.int (4 : Int32)), .val (.int c0), .val (.int c1), .val (.int c2), .val (.int c3)] [])) rfl (hb hby d_method2x_87) (by decide) (by decide)
  obtain ⟨a_1, g_1⟩ : ∃ z, z = h0.size := ⟨_, rfl⟩
  rw [← g_1] at A_1 D_1 st_1
  refine own_G.go st_1 ?_
  have CH_2 : CHr Z own_EL s.vm h0 s.vm h_1 := CH0.trans (CHr.ext E_1 CH0.1)
  have Sn_1 : Safe Z own_EL s.vm h_1 a_1 := Safe.ext E_1 CH0.1 (Safe.new (Nat.le_of_eq g_1.symm))
  have F_1_value : Fld Z h_1 a_1 "java/lang/String" "value" "[B" .null := D_1 (Or.inr (own_w hw 20 rfl)) (ty := (.array .byte)) (by decide)
  have F_1_coder : Fld Z h_1 a_1 "java/lang/String" "coder" "B" (.int (0 : Int32)) := D_1 (Or.inr (own_w hw 21 rfl)) (ty := .byte) (by decide)
  show own_G _ _ _ _ (T_1.setTop (mkF m 90 #[.val (.int (4 : Int32)), .val (.int c0), .val (.int c1), .val (.int c2), .val (.int c3)] [(.ref a_1)]))
  refine own_G.go (fun _ k => XS.dup X_1.here hx rfl (hb hby d_method2x_90) rfl rfl k) ?_
  show own_G _ _ _ _ (T_1.setTop (mkF m 91 #[.val (.int (4 : Int32)), .val (.int c0), .val (.int c1), .val (.int c2), .val (.int c3)] [(.ref a_1), (.ref a_1)]))
  refine own_G.go (fun _ k => XS.iconst X_1.here hx rfl (hb hby d_method2x_91) k) ?_
  show own_G _ _ _ _ (T_1.setTop (mkF m 92 #[.val (.int (4 : Int32)), .val (.int c0), .val (.int c1), .val (.int c2), .val (.int c3)] [(.int (4 : Int32)), (.ref a_1), (.ref a_1)]))
  obtain ⟨T_3, h_3, k_3, X_3, e_3, E_3, A_3, st_3⟩ := newP X_1 hx hZ (own_w hw 7 rfl) e_1 (g := (mkF m 92 #[.val (.int (4 : Int32)), .val (.int c0), .val (.int c1), .val (.int c2), .val (.int c3)] [(.int (4 : Int32)), (.ref a_1), (.ref a_1)])) rfl (hb hby d_method2x_92) rfl (by decide : ¬ ((4 : Int32) < (0 : Int32))) (cap := 4) (by decide : ((4 : Int32)).toNatClampNeg ≤ 4) (by decide) (by decide) (by decide)
  obtain ⟨a_3, g_3⟩ : ∃ z, z = h_1.size := ⟨_, rfl⟩
  rw [← g_3] at A_3 st_3
  refine own_G.go st_3 ?_
  have Sf_4_a_1 : Safe Z own_EL s.vm h_3 a_1 := (Safe.ext E_3 CH_2.1 Sn_1)
  have CH_4 : CHr Z own_EL s.vm h0 s.vm h_3 := CH_2.trans (CHr.ext E_3 CH_2.1)
  have V_3 : Arv Z h_3 a_3 k_3 .char (4 : Int32) ([(.int (0 : Int32)), (.int (0 : Int32)), (.int (0 : Int32)), (.int (0 : Int32))] : List Value) (.int (0 : Int32)) := (Arv.new A_3 (by decide : ¬ ((4 : Int32) < (0 : Int32)))).pad (pad_rep [] (.int (0 : Int32)) 4)
  show own_G _ _ _ _ (T_3.setTop (mkF m 94 #[.val (.int (4 : Int32)), .val (.int c0), .val (.int c1), .val (.int c2), .val (.int c3)] [(.ref a_3), (.ref a_1), (.ref a_1)]))
  refine own_G.go (fun _ k => XS.dup X_3.here hx rfl (hb hby d_method2x_94) rfl rfl k) ?_
  show own_G _ _ _ _ (T_3.setTop (mkF m 95 #[.val (.int (4 : Int32)), .val (.int c0), .val (.int c1), .val (.int c2), .val (.int c3)] [(.ref a_3), (.ref a_3), (.ref a_1), (.ref a_1)]))
  refine own_G.go (fun _ k => XS.iconst X_3.here hx rfl (hb hby d_method2x_95) k) ?_
  show own_G _ _ _ _ (T_3.setTop (mkF m 96 #[.val (.int (4 : Int32)), .val (.int c0), .val (.int c1), .val (.int c2), .val (.int c3)] [(.int (0 : Int32)), (.ref a_3), (.ref a_3), (.ref a_1), (.ref a_1)]))
  refine own_G.go (fun _ k => XS.iloadN X_3.here hx rfl (hb hby d_method2x_96) rfl k) ?_
  show own_G _ _ _ _ (T_3.setTop (mkF m 97 #[.val (.int (4 : Int32)), .val (.int c0), .val (.int c1), .val (.int c2), .val (.int c3)] [(.int c0), (.int (0 : Int32)), (.ref a_3), (.ref a_3), (.ref a_1), (.ref a_1)]))
  obtain ⟨T_5, h_5, X_5, e_5, W_5, V_5, st_5⟩ := own_stC X_3 hx hZ e_3 V_3 (j := (0 : Int32)) 0 (Nat.le_of_ble_eq_true rfl) (by decide) (by decide : ¬ ((0 : Int32) < (0 : Int32)) ∧ (0 : Int32) < (4 : Int32)) (g := (mkF m 97 #[.val (.int (4 : Int32)), .val (.int c0), .val (.int c1), .val (.int c2), .val (.int c3)] [(.int c0), (.int (0 : Int32)), (.ref a_3), (.ref a_3), (.ref a_1), (.ref a_1)])) rfl rfl (hb hby d_method2x_97)
  refine own_G.go st_5 ?_
  have Sf_6_a_1 : Safe Z own_EL s.vm h_5 a_1 := (Safe.wr W_5 (Safe.arv hZ.alike V_3 (by decide)) CH_4.1 Sf_4_a_1)
  have CH_6 : CHr Z own_EL s.vm h0 s.vm h_5 := CH_4.trans (CHr.wr W_5 (Safe.arv hZ.alike V_3 (by decide)) CH_4.1)
  have V_5q : Arv Z h_5 a_3 k_3 .char (4 : Int32) ([(.int (nar .char c0)), (.int (0 : Int32)), (.int (0 : Int32)), (.int (0 : Int32))] : List Value) (.int (0 : Int32)) := V_5
  have g0_a_3 : n0 ≤ a_3 := Nat.le_trans (Nat.le_trans Z0 E_1.1) (Nat.le_of_eq g_3.symm)
  have N_5 := Fr.snoc X_5 N0 g0_a_3
  show own_G _ _ _ _ (T_5.setTop (mkF m 98 #[.val (.int (4 : Int32)), .val (.int c0), .val (.int c1), .val (.int c2), .val (.int c3)] [(.ref a_3), (.ref a_1), (.ref a_1)]))
  refine own_G.go (fun _ k => XS.dup X_5.here hx rfl (hb hby d_method2x_98) rfl rfl k) ?_
  show own_G _ _ _ _ (T_5.setTop (mkF m 99 #[.val (.int (4 : Int32)), .val (.int c0), .val (.int c1), .val (.int c2), .val (.int c3)] [(.ref a_3), (.ref a_3), (.ref a_1), (.ref a_1)]))
  refine own_G.go (fun _ k => XS.iconst X_5.here hx rfl (hb hby d_method2x_99) k) ?_
  show own_G _ _ _ _ (T_5.setTop (mkF m 100 #[.val (.int (4 : Int32)), .val (.int c0), .val (.int c1), .val (.int c2), .val (.int c3)] [(.int (1 : Int32)), (.ref a_3), (.ref a_3), (.ref a_1), (.ref a_1)]))
  refine own_G.go (fun _ k => XS.iloadN X_5.here hx rfl (hb hby d_method2x_100) rfl k) ?_
  show own_G _ _ _ _ (T_5.setTop (mkF m 101 #[.val (.int (4 : Int32)), .val (.int c0), .val (.int c1), .val (.int c2), .val (.int c3)] [(.int c1), (.int (1 : Int32)), (.ref a_3), (.ref a_3), (.ref a_1), (.ref a_1)]))
  obtain ⟨T_7, h_7, X_7, e_7, W_7, V_7, st_7⟩ := own_stC X_5 hx hZ e_5 V_5q (j := (1 : Int32)) 1 (Nat.le_of_ble_eq_true rfl) (by decide) (by decide : ¬ ((1 : Int32) < (0 : Int32)) ∧ (1 : Int32) < (4 : Int32)) (g := (mkF m 101 #[.val (.int (4 : Int32)), .val (.int c0), .val (.int c1), .val (.int c2), .val (.int c3)] [(.int c1), (.int (1 : Int32)), (.ref a_3), (.ref a_3), (.ref a_1), (.ref a_1)])) rfl rfl (hb hby d_method2x_101)
  refine own_G.go st_7 ?_
  have Sf_8_a_1 : Safe Z own_EL s.vm h_7 a_1 := (Safe.wr W_7 (Safe.arv hZ.alike V_5q (by decide)) CH_6.1 Sf_6_a_1)
  have CH_8 : CHr Z own_EL s.vm h0 s.vm h_7 := CH_6.trans (CHr.wr W_7 (Safe.arv hZ.alike V_5q (by decide)) CH_6.1)
  have V_7q : Arv Z h_7 a_3 k_3 .char (4 : Int32) ([(.int (nar .char c0)), (.int (nar .char c1)), (.int (0 : Int32)), (.int (0 : Int32))] : List Value) (.int (0 : Int32)) := V_7
  have N_7 := Fr.snoc X_7 N_5 g0_a_3
  show own_G _ _ _ _ (T_7.setTop (mkF m 102 #[.val (.int (4 : Int32)), .val (.int c0), .val (.int c1), .val (.int c2), .val (.int c3)] [(.ref a_3), (.ref a_1), (.ref a_1)]))
  refine own_G.go (fun _ k => XS.dup X_7.here hx rfl (hb hby d_method2x_102) rfl rfl k) ?_
  show own_G _ _ _ _ (T_7.setTop (mkF m 103 #[.val (.int (4 : Int32)), .val (.int c0), .val (.int c1), .val (.int c2), .val (.int c3)] [(.ref a_3), (.ref a_3), (.ref a_1), (.ref a_1)]))
  refine own_G.go (fun _ k => XS.iconst X_7.here hx rfl (hb hby d_method2x_103) k) ?_
  show own_G _ _ _ _ (T_7.setTop (mkF m 104 #[.val (.int (4 : Int32)), .val (.int c0), .val (.int c1), .val (.int c2), .val (.int c3)] [(.int (2 : Int32)), (.ref a_3), (.ref a_3), (.ref a_1), (.ref a_1)]))
  refine own_G.go (fun _ k => XS.iloadN X_7.here hx rfl (hb hby d_method2x_104) rfl k) ?_
  show own_G _ _ _ _ (T_7.setTop (mkF m 105 #[.val (.int (4 : Int32)), .val (.int c0), .val (.int c1), .val (.int c2), .val (.int c3)] [(.int c2), (.int (2 : Int32)), (.ref a_3), (.ref a_3), (.ref a_1), (.ref a_1)]))
  obtain ⟨T_9, h_9, X_9, e_9, W_9, V_9, st_9⟩ := own_stC X_7 hx hZ e_7 V_7q (j := (2 : Int32)) 2 (Nat.le_of_ble_eq_true rfl) (by decide) (by decide : ¬ ((2 : Int32) < (0 : Int32)) ∧ (2 : Int32) < (4 : Int32)) (g := (mkF m 105 #[.val (.int (4 : Int32)), .val (.int c0), .val (.int c1), .val (.int c2), .val (.int c3)] [(.int c2), (.int (2 : Int32)), (.ref a_3), (.ref a_3), (.ref a_1), (.ref a_1)])) rfl rfl (hb hby d_method2x_105)
  refine own_G.go st_9 ?_
  have Sf_10_a_1 : Safe Z own_EL s.vm h_9 a_1 := (Safe.wr W_9 (Safe.arv hZ.alike V_7q (by decide)) CH_8.1 Sf_8_a_1)
  have CH_10 : CHr Z own_EL s.vm h0 s.vm h_9 := CH_8.trans (CHr.wr W_9 (Safe.arv hZ.alike V_7q (by decide)) CH_8.1)
  have V_9q : Arv Z h_9 a_3 k_3 .char (4 : Int32) ([(.int (nar .char c0)), (.int (nar .char c1)), (.int (nar .char c2)), (.int (0 : Int32))] : List Value) (.int (0 : Int32)) := V_9
  have N_9 := Fr.snoc X_9 N_7 g0_a_3
  show own_G _ _ _ _ (T_9.setTop (mkF m 106 #[.val (.int (4 : Int32)), .val (.int c0), .val (.int c1), .val (.int c2), .val (.int c3)] [(.ref a_3), (.ref a_1), (.ref a_1)]))
  refine own_G.go (fun _ k => XS.dup X_9.here hx rfl (hb hby d_method2x_106) rfl rfl k) ?_
  show own_G _ _ _ _ (T_9.setTop (mkF m 107 #[.val (.int (4 : Int32)), .val (.int c0), .val (.int c1), .val (.int c2), .val (.int c3)] [(.ref a_3), (.ref a_3), (.ref a_1), (.ref a_1)]))
  refine own_G.go (fun _ k => XS.iconst X_9.here hx rfl (hb hby d_method2x_107) k) ?_
  show own_G _ _ _ _ (T_9.setTop (mkF m 108 #[.val (.int (4 : Int32)), .val (.int c0), .val (.int c1), .val (.int c2), .val (.int c3)] [(.int (3 : Int32)), (.ref a_3), (.ref a_3), (.ref a_1), (.ref a_1)]))
  refine own_G.go (fun _ k => XS.iload X_9.here hx rfl (hb hby d_method2x_108) rfl k) ?_
  show own_G _ _ _ _ (T_9.setTop (mkF m 110 #[.val (.int (4 : Int32)), .val (.int c0), .val (.int c1), .val (.int c2), .val (.int c3)] [(.int c3), (.int (3 : Int32)), (.ref a_3), (.ref a_3), (.ref a_1), (.ref a_1)]))
  obtain ⟨T_11, h_11, X_11, e_11, W_11, V_11, st_11⟩ := own_stC X_9 hx hZ e_9 V_9q (j := (3 : Int32)) 3 (Nat.le_of_ble_eq_true rfl) (by decide) (by decide : ¬ ((3 : Int32) < (0 : Int32)) ∧ (3 : Int32) < (4 : Int32)) (g := (mkF m 110 #[.val (.int (4 : Int32)), .val (.int c0), .val (.int c1), .val (.int c2), .val (.int c3)] [(.int c3), (.int (3 : Int32)), (.ref a_3), (.ref a_3), (.ref a_1), (.ref a_1)])) rfl rfl (hb hby d_method2x_110)
  refine own_G.go st_11 ?_
  have Sf_12_a_1 : Safe Z own_EL s.vm h_11 a_1 := (Safe.wr W_11 (Safe.arv hZ.alike V_9q (by decide)) CH_10.1 Sf_10_a_1)
  have CH_12 : CHr Z own_EL s.vm h0 s.vm h_11 := CH_10.trans (CHr.wr W_11 (Safe.arv hZ.alike V_9q (by decide)) CH_10.1)
  have V_11q : Arv Z h_11 a_3 k_3 .char (4 : Int32) ([(.int (nar .char c0)), (.int (nar .char c1)), (.int (nar .char c2)), (.int (nar .char c3))] : List Value) (.int (0 : Int32)) := V_11
  have N_11 := Fr.snoc X_11 N_9 g0_a_3
  show own_G _ _ _ _ (T_11.setTop (mkF m 111 #[.val (.int (4 : Int32)), .val (.int c0), .val (.int c1), .val (.int c2), .val (.int c3)] [(.ref a_3), (.ref a_1), (.ref a_1)]))
  have A_1'_13 : Exa Z h_11 a_1 "java/lang/String" := (((((A_1.ext E_3).wr W_5).wr W_7).wr W_9).wr W_11)
  have F_1_value'_14 : Fld Z h_11 a_1 "java/lang/String" "value" "[B" .null := (((((F_1_value.ext E_3).other W_5 (Or.inl (Nat.ne_of_lt (Nat.lt_of_lt_of_le A_1.lt (Nat.le_of_eq g_3.symm))))).other W_7 (Or.inl (Nat.ne_of_lt (Nat.lt_of_lt_of_le A_1.lt (Nat.le_of_eq g_3.symm))))).other W_9 (Or.inl (Nat.ne_of_lt (Nat.lt_of_lt_of_le A_1.lt (Nat.le_of_eq g_3.symm))))).other W_11 (Or.inl (Nat.ne_of_lt (Nat.lt_of_lt_of_le A_1.lt (Nat.le_of_eq g_3.symm)))))
  have F_1_coder'_15 : Fld Z h_11 a_1 "java/lang/String" "coder" "B" (.int (0 : Int32)) := (((((F_1_coder.ext E_3).other W_5 (Or.inl (Nat.ne_of_lt (Nat.lt_of_lt_of_le A_1.lt (Nat.le_of_eq g_3.symm))))).other W_7 (Or.inl (Nat.ne_of_lt (Nat.lt_of_lt_of_le A_1.lt (Nat.le_of_eq g_3.symm))))).other W_9 (Or.inl (Nat.ne_of_lt (Nat.lt_of_lt_of_le A_1.lt (Nat.le_of_eq g_3.symm))))).other W_11 (Or.inl (Nat.ne_of_lt (Nat.lt_of_lt_of_le A_1.lt (Nat.le_of_eq g_3.symm)))))
  have VC : Arv Z h_11 a_3 k_3 .char (4 : Int32) ([(.int c0), (.int c1), (.int c2), (.int c3)] : List Value) (.int (0 : Int32)) := by have q := V_11q; rw [own_narc b0, own_narc b1, own_narc b2, own_narc b3] at q; exact q
  have hp : ∀ c ∈ ([c0, c1, c2, c3] : List Int32), own_b c := own_cs_b (n := 4) b0 b1 b2 b3
  have g0_a_1 : n0 ≤ a_1 := Nat.le_trans Z0 (Nat.le_of_eq g_1.symm)
  have Z_16s : n0 ≤ h_11.size := (Nat.le_trans Z0 (Nat.le_trans (Nat.le_trans (Nat.le_trans (Nat.le_trans (Nat.le_trans E_1.1 E_3.1) (Keep.of_wr W_5).1) (Keep.of_wr W_7).1) (Keep.of_wr W_9).1) (Keep.of_wr W_11).1))
  have O_17d : Old Z n0 h_11 := ((((((X00.ext E_1).ext E_3).wr W_5 g0_a_3).wr W_7 g0_a_3).wr W_9 g0_a_3).wr W_11 g0_a_3)
  obtain ⟨_, T_18, L_18, Q_18, X_18, st_18⟩ := own_callI X_11 hx rfl hown (mvT hZ (own_w hw 8 rfl)) (mvT hZ (own_w hw 9 rfl)) (mvT hZ (own_w hw 10 rfl)) (by decide) (Q := (StrChars.Road.QV Z a_1 (4 : Int32) (([c0, c1, c2, c3] : List Int32).map (fun c => c.toInt8.toInt32)) h_11 n0)) (StrChars.Road.backV (W := 1) hZ hws (kI := 4) (own_w hw 5 rfl) (cs := ([c0, c1, c2, c3] : List Int32)) (bs := ([c0, c1, c2, c3] : List Int32).map (fun c => c.toInt8.toInt32)) (n := 4) g0_a_1 Z_16s A_1'_13 F_1_value'_14 F_1_coder'_15 VC (O2.ext O_17d.2) P5 rfl rfl (by decide) (by decide) hp rfl (by decide) (by decide)) (a := a_1) (g := (mkF m 111 #[.val (.int (4 : Int32)), .val (.int c0), .val (.int c1), .val (.int c2), .val (.int c3)] [(.ref a_3), (.ref a_1), (.ref a_1)])) rfl (by rw [hml]; rfl) (argsL := [(.ref a_3)]) (rest := [(.ref a_1)]) (lenOf pd_22 rfl) rfl (by show 2 * 0 + _ ≤ _; exact Nat.le_of_eq rfl) (hb hby d_method2x_111) e_11 rfl (by decide) (by decide)
  obtain ⟨rfl, Nq_18, K_18, Ex_18, Fc_18, t_18, kb_18, tn_18, th_18, tx_18, Fv_18, Kb_18⟩ := Q_18
  refine own_G.via st_18 ?_
  have Sf_19_a_1 : Safe Z own_EL s.vm T_18.heap a_1 := (Safe.keep K_18 (sfS Sf_12_a_1 sf0) CH_12.1 Sf_12_a_1)
  have CH_19 : CHr Z own_EL s.vm h0 s.vm T_18.heap := CH_12.trans (CHr.keep K_18 (sfS Sf_12_a_1 sf0) CH_12.1)
  have N_18 := Fr.app N_11 Nq_18
  show own_G _ _ _ _ (T_18.setTop (mkF m 114 #[.val (.int (4 : Int32)), .val (.int c0), .val (.int c1), .val (.int c2), .val (.int c3)] [(.ref a_1)]))
  exact own_G.endH X_18 hS0 (Nat.le_trans (Nat.zero_le _) (Nat.le_trans (Nat.le_trans (Nat.le_trans (Nat.le_trans (Nat.le_trans (Nat.le_trans E_1.1 E_3.1) (Keep.of_wr W_5).1) (Keep.of_wr W_7).1) (Keep.of_wr W_9).1) (Keep.of_wr W_11).1) K_18.1)) hZ hEW (hh ▸ CH_19) hlk (v := (some (.ref a_1))) (fun h => by rw [hrt] at h; cases h) (fun fs hr => retOut X_18 hx hrt rfl (Or.inr (Or.inr (Or.inr (Or.inr ⟨rfl, rfl, rfl⟩)))) (hb hby d_method2x_114) hr) rfl ⟨a_1, t_18, kb_18, rfl, N_18, ((((((((Keep.refl h0 []).ext E_1).ext E_3).wr W_5 (Or.inr (Nat.le_trans E_1.1 (Nat.le_of_eq g_3.symm)))).wr W_7 (Or.inr (Nat.le_trans E_1.1 (Nat.le_of_eq g_3.symm)))).wr W_9 (Or.inr (Nat.le_trans E_1.1 (Nat.le_of_eq g_3.symm)))).wr W_11 (Or.inr (Nat.le_trans E_1.1 (Nat.le_of_eq g_3.symm)))).trans K_18 (allS (Or.inr (Nat.le_of_eq g_1.symm)) all0)), (Nat.le_of_eq g_1.symm), Ex_18, Fc_18, Fv_18, Kb_18⟩ (by decide) (by decide)
theorem rm_mk (l : Launch) (Z : State) (a0 : Array Value) (hw : ∀ d ∈ tables_1, d.before a0 Z = true) (ws : List Jvm.Cond) (ln c0 c1 c2 c3 : Int32) (zc : Int32) (h0 : Heap) (n0 : Nat) (Z0 : n0 ≤ h0.size) (hl : own_l ln) (b0 : own_b c0) (b1 : own_b c1) (b2 : own_b c2) (b3 : own_b c3) (O2 : Sta Z Z.heap "java/lang/String" "COMPACT_STRINGS" "Z" (.int zc)) (P5 : ¬ (zc = (0 : Int32))) (X00 : Old Z n0 h0) :
    MetFree l (⟨"com/example/enlist/enlist/definition/TransactionDefinitionNamedPinLaw", "make", "(ICCCC)Ljava/lang/String;"⟩ : MethodName) (head1 (Jvm.Cond.code (⟨"com/example/enlist/enlist/definition/TransactionDefinitionNamedPinLaw", "make", "(ICCCC)Ljava/lang/String;"⟩ : MethodName) method_2_code 5 (some (.object "java/lang/String")) :: ws) ({ frames := 6, cells := 6, slots := 12, locals := 70 } : Room)) (fun a_ U => a_ = #[(.int ln), (.int c0), (.int c1), (.int c2), (.int c3)] ∧ Z.Warmed39 U.vm ∧ U.heap = h0 ∧ CHv Z own_EL U.vm h0) (fun _ _ _ _ _ => True) (fun _ U o U' => ∃ v L, o = .returned v ∧ Qs Z ln c0 c1 c2 c3 h0 n0 v U'.heap L ∧ CHr Z own_EL U.vm U.heap U'.vm U'.heap ∧ ReturnedEndW U o U' L ({ frames := 6, cells := 6, slots := 12, locals := 70 } : Room).cells ({ frames := 6, cells := 6, slots := 12, locals := 70 } : Room).slots) := by
  rcases hl with rfl | rfl | rfl | rfl | rfl
  · exact rm_mk0 l Z a0 hw ws c0 c1 c2 c3 zc h0 n0 Z0 b0 b1 b2 b3 O2 P5 X00
  · exact rm_mk1 l Z a0 hw ws c0 c1 c2 c3 zc h0 n0 Z0 b0 b1 b2 b3 O2 P5 X00
  · exact rm_mk2 l Z a0 hw ws c0 c1 c2 c3 zc h0 n0 Z0 b0 b1 b2 b3 O2 P5 X00
  · exact rm_mk3 l Z a0 hw ws c0 c1 c2 c3 zc h0 n0 Z0 b0 b1 b2 b3 O2 P5 X00
  · exact rm_mk4 l Z a0 hw ws c0 c1 c2 c3 zc h0 n0 Z0 b0 b1 b2 b3 O2 P5 X00
def Qnm (Z : State) (r rq io em mp : Addr) (h0 : Heap) (n0 : Nat) (v : Option Value) (h : Heap) (L : List Loc) : Prop := ∃ d st : Addr, v = some (.ref d) ∧ Fr n0 L ∧ Keep h0 h [] ∧ Exa Z h d "com/example/enlist/enlist/definition/TransactionDefinition" ∧ Fld Z h d "com/example/enlist/enlist/definition/TransactionDefinition" "settings" "Lcom/example/enlist/enlist/definition/TransactionDefinition$Settings;" (.ref st) ∧ Fld Z h st "com/example/enlist/enlist/definition/TransactionDefinition$Settings" "name" "Ljava/lang/String;" (.ref r) ∧ Fld Z h st "com/example/enlist/enlist/definition/TransactionDefinition$Settings" "propagation" "Lcom/example/enlist/enlist/definition/Propagation;" (.ref rq) ∧ Fld Z h st "com/example/enlist/enlist/definition/TransactionDefinition$Settings" "isolation" "Lcom/example/enlist/enlist/definition/Isolation;" (.ref io) ∧ Fld Z h st "com/example/enlist/enlist/definition/TransactionDefinition$Settings" "readOnly" "Z" (.int (0 : Int32)) ∧ Fld Z h st "com/example/enlist/enlist/definition/TransactionDefinition$Settings" "timeout" "Ljava/util/OptionalInt;" (.ref em) ∧ Fld Z h st "com/example/enlist/enlist/definition/TransactionDefinition$Settings" "rollbackRules" "Ljava/util/Map;" (.ref mp)
theorem pd_23 : parseMethodDescriptor "()Lcom/example/enlist/enlist/definition/TransactionDefinition$Settings;" = some ⟨[], some (.object "com/example/enlist/enlist/definition/TransactionDefinition$Settings")⟩ := by decide +kernel
theorem pd_24 : parseMethodDescriptor "(Ljava/lang/Object;Ljava/lang/String;)Ljava/lang/Object;" = some ⟨[(.object "java/lang/Object"), (.object "java/lang/String")], some (.object "java/lang/Object")⟩ := by decide +kernel
theorem pd_25 : parseMethodDescriptor "(Lcom/example/enlist/enlist/definition/TransactionDefinition$Settings;)V" = some ⟨[(.object "com/example/enlist/enlist/definition/TransactionDefinition$Settings")], none⟩ := by decide +kernel
theorem d_prog72x_0 : decode prog_7_method_2_code 0 = .ok (.getstatic 13, 3) := by decide +kernel
theorem d_prog72x_3 : decode prog_7_method_2_code 3 = .ok (.getfield 7, 3) := by decide +kernel
theorem d_prog72x_6 : decode prog_7_method_2_code 6 = .ok (.invokevirtual 17, 3) := by decide +kernel
theorem d_prog72x_9 : decode prog_7_method_2_code 9 = .ok (.astore_n 1, 1) := by decide +kernel
theorem d_prog72x_10 : decode prog_7_method_2_code 10 = .ok (.aload_n 1, 1) := by decide +kernel
theorem d_prog72x_11 : decode prog_7_method_2_code 11 = .ok (.aload_n 0, 1) := by decide +kernel
theorem d_prog72x_12 : decode prog_7_method_2_code 12 = .ok (.ldc 23, 2) := by decide +kernel
theorem d_prog72x_14 : decode prog_7_method_2_code 14 = .ok (.invokestatic 25, 3) := by decide +kernel
theorem d_prog72x_17 : decode prog_7_method_2_code 17 = .ok (.checkcast 31, 3) := by decide +kernel
theorem d_prog72x_20 : decode prog_7_method_2_code 20 = .ok (.putfield 33, 3) := by decide +kernel
theorem d_prog72x_23 : decode prog_7_method_2_code 23 = .ok (.new 8, 3) := by decide +kernel
theorem d_prog72x_26 : decode prog_7_method_2_code 26 = .ok (.dup, 1) := by decide +kernel
theorem d_prog72x_27 : decode prog_7_method_2_code 27 = .ok (.aload_n 1, 1) := by decide +kernel
theorem d_prog72x_28 : decode prog_7_method_2_code 28 = .ok (.invokespecial 36, 3) := by decide +kernel
theorem d_prog72x_31 : decode prog_7_method_2_code 31 = .ok (.areturn, 1) := by decide +kernel
set_option maxRecDepth 65536 in
set_option maxHeartbeats 40000000 in
theorem rm_nmd (l : Launch) (Z : State) (a0 : Array Value) (hw : ∀ d ∈ tables_1, d.before a0 Z = true) (ws : List Jvm.Cond) (r rq io em mp df ds : Addr) (h0 : Heap) (n0 : Nat) (Z0 : n0 ≤ h0.size) (E0 : Exa Z h0 r "java/lang/String") (OR : Sta Z Z.heap "com/example/enlist/enlist/definition/Propagation" "REQUIRED" "Lcom/example/enlist/enlist/definition/Propagation;" (.ref rq)) (OI : Sta Z Z.heap "com/example/enlist/enlist/definition/Isolation" "DEFAULT" "Lcom/example/enlist/enlist/definition/Isolation;" (.ref io)) (OE : Sta Z Z.heap "java/util/OptionalInt" "EMPTY" "Ljava/util/OptionalInt;" (.ref em)) (OM : Sta Z Z.heap "java/util/ImmutableCollections" "EMPTY_MAP" "Ljava/util/ImmutableCollections$MapN;" (.ref mp)) (OD : Sta Z Z.heap "com/example/enlist/enlist/definition/TransactionDefinition" "DEFAULT" "Lcom/example/enlist/enlist/definition/TransactionDefinition;" (.ref df)) (FD : Fld Z Z.heap df "com/example/enlist/enlist/definition/TransactionDefinition" "settings" "Lcom/example/enlist/enlist/definition/TransactionDefinition$Settings;" (.ref ds)) (ED0 : Exa Z Z.heap ds "com/example/enlist/enlist/definition/TransactionDefinition$Settings") (HD0 : Fld Z Z.heap ds "com/example/enlist/enlist/definition/TransactionDefinition$Settings" "name" "Ljava/lang/String;" .null) (HD1 : Fld Z Z.heap ds "com/example/enlist/enlist/definition/TransactionDefinition$Settings" "propagation" "Lcom/example/enlist/enlist/definition/Propagation;" (.ref rq)) (HD2 : Fld Z Z.heap ds "com/example/enlist/enlist/definition/TransactionDefinition$Settings" "isolation" "Lcom/example/enlist/enlist/definition/Isolation;" (.ref io)) (HD3 : Fld Z Z.heap ds "com/example/enlist/enlist/definition/TransactionDefinition$Settings" "readOnly" "Z" (.int (0 : Int32))) (HD4 : Fld Z Z.heap ds "com/example/enlist/enlist/definition/TransactionDefinition$Settings" "timeout" "Ljava/util/OptionalInt;" (.ref em)) (HD5 : Fld Z Z.heap ds "com/example/enlist/enlist/definition/TransactionDefinition$Settings" "rollbackRules" "Ljava/util/Map;" (.ref mp)) (X00 : Old Z n0 h0) :
    MetFree l (⟨"com/example/enlist/enlist/definition/TransactionDefinition", "named", "(Ljava/lang/String;)Lcom/example/enlist/enlist/definition/TransactionDefinition;"⟩ : MethodName) (head1 (Jvm.Cond.code (⟨"com/example/enlist/enlist/definition/TransactionDefinition", "named", "(Ljava/lang/String;)Lcom/example/enlist/enlist/definition/TransactionDefinition;"⟩ : MethodName) prog_7_method_2_code 2 (some (.object "com/example/enlist/enlist/definition/TransactionDefinition")) :: ws) ({ frames := 3, cells := 4, slots := 27, locals := 38 } : Room)) (fun a_ U => a_ = #[(.ref r)] ∧ Z.Warmed39 U.vm ∧ U.heap = h0 ∧ CHv Z own_EL U.vm h0) (fun _ _ _ _ _ => True) (fun _ U o U' => ∃ v L, o = .returned v ∧ Qnm Z r rq io em mp h0 n0 v U'.heap L ∧ CHr Z own_EL U.vm U.heap U'.vm U'.heap ∧ ReturnedEndW U o U' L ({ frames := 3, cells := 4, slots := 27, locals := 38 } : Room).cells ({ frames := 3, cells := 4, slots := 27, locals := 38 } : Room).slots) := by
  refine MetFree.of_bodySF (plainFor_of_name pn_10) hisR ?_
  intro p e s m args below meth c s₁ Bd hml0 hP hK
  obtain ⟨rfl, hZ, hh, hCH⟩ := hP
  have hx := Bd.exec
  have hby := Bd.bytes
  have hrt := Bd.returns
  have hlk : meth.locks = false := Bd.notSynchronized
  have hml : c.maxLocals = 2 := hml0
  have hown : s.vm.findClass "com/example/enlist/enlist/definition/TransactionDefinition" = some m.cls := findClass_of_methodNamed Bd.named
  have hnm := (name_of_methodNamed Bd.named Bd.method).1
  have X0 : Stand p l e ({ frames := 3, cells := 4, slots := 27, locals := 38 } : Room) (s.setVm s.vm) m #[(.ref r)] below meth c s₁ [] 0 0 := Stand.of_body Bd
  have e0 : s₁.heap = h0 := by rw [← hh, Bd.state]; rfl
  have N0 := Fr.nil n0
  have hS0 : s.Since s.vm 0 := own_since s 0
  have hstr : ∀ d ∈ Bundle.stringAtoms, d.before a0 Z = true := fun d hd => hw d ((by decide +kernel : ∀ d ∈ Bundle.stringAtoms, d ∈ tables_1) d hd)
  have hEW : EW Z a0 own_EL := own_EW hw
  have CH0 : CHr Z own_EL s.vm h0 s.vm h0 := CHr.refl hCH
  show own_G p.tables e below (fun o t => ∃ v L, o = .returned v ∧ Qnm Z r rq io em mp h0 n0 v t.heap L ∧ CHr Z own_EL s.vm s.heap t.vm t.heap ∧ ReturnedEndW s o t L ({ frames := 3, cells := 4, slots := 27, locals := 38 } : Room).cells ({ frames := 3, cells := 4, slots := 27, locals := 38 } : Room).slots) (s₁.setTop (entryFrame m #[(.ref r)] 2))
  refine own_G.cast (show entryFrame m #[(.ref r)] 2 = mkF m 0 #[.val (.ref r), .unset] [] from by first | (simp [entryFrame, mkF, argsToLocals, Value.category]; done) | rfl) ?_
  have FDF := FD.ext X00.2
  have ED := ED0.ext X00.2
  have GD0 := HD0.ext X00.2
  have GD1 := HD1.ext X00.2
  have GD2 := HD2.ext X00.2
  have GD3 := HD3.ext X00.2
  have GD4 := HD4.ext X00.2
  have GD5 := HD5.ext X00.2
  obtain ⟨T_1, X_1, e_1, st_1⟩ := getS2 X0 hx hZ hown (host := "") (Or.inl (own_w hw 30 rfl)) Via.refl e0 (OD.ext X00.2) (g := (mkF m 0 #[.val (.ref r), .unset] [])) rfl (hb hby d_prog72x_0)
  refine own_G.go st_1 ?_
  show own_G _ _ _ _ (T_1.setTop (mkF m 3 #[.val (.ref r), .unset] [(.ref df)]))
  obtain ⟨T_2, X_2, e_2, st_2⟩ := getF X_1 hx hZ hown (host := "") (Or.inl (own_w hw 32 rfl)) Via.refl e_1 FDF (g := (mkF m 3 #[.val (.ref r), .unset] [(.ref df)])) rfl rfl (hb hby d_prog72x_3)
  refine own_G.go st_2 ?_
  show own_G _ _ _ _ (T_2.setTop (mkF m 6 #[.val (.ref r), .unset] [(.ref ds)]))
  obtain ⟨_, T_3, L_3, Q_3, X_3, st_3⟩ := own_callPR X_2 hx hZ hown (own_w hw 34 rfl) (own_w hw 35 rfl) (own_w hw 36 rfl) (own_w hw 40 rfl) (own_w hw 38 rfl) (by decide) (Q := (Qcy Z rq io em mp h0 n0)) (backOf (W := 0) (rm_cpy l Z a0 hw [] ds rq io em mp h0 n0 Z0 ED GD0 GD1 GD2 GD3 GD4 GD5 OR OI OE OM X00) hZ (own_w hw 38 rfl) (own_w hw 37 rfl) (by decide) (by decide)) ED (g := (mkF m 6 #[.val (.ref r), .unset] [(.ref ds)])) rfl (by rw [hml]; rfl) (argsL := []) (rest := []) (lenOf pd_23 rfl) rfl (by show 2 * 0 + _ ≤ _; exact Nat.le_of_eq rfl) (hb hby d_prog72x_6) e_2 rfl (by decide) (by decide)
  obtain ⟨q_3, rfl, Nq_3, K_3, lo_3, Ex_3, F0_3, F1_3, F2_3, F3_3, F4_3, F5_3⟩ := Q_3
  refine own_G.via st_3 ?_
  have CH_4 : CHr Z own_EL s.vm h0 s.vm T_3.heap := CH0.trans (CHr.keep K_3 sf0 CH0.1)
  have N_3 := Fr.app N0 Nq_3
  show own_G _ _ _ _ (T_3.setTop (mkF m 9 #[.val (.ref r), .unset] [(.ref q_3)]))
  refine own_G.go (fun _ k => XS.astoreN X_3.here hx rfl (hb hby d_prog72x_9) rfl rfl (l' := #[.val (.ref r), .val (.ref q_3)]) rfl k) ?_
  show own_G _ _ _ _ (T_3.setTop (mkF m 10 #[.val (.ref r), .val (.ref q_3)] []))
  refine own_G.go (fun _ k => XS.aloadN X_3.here hx rfl (hb hby d_prog72x_10) rfl rfl k) ?_
  show own_G _ _ _ _ (T_3.setTop (mkF m 11 #[.val (.ref r), .val (.ref q_3)] [(.ref q_3)]))
  refine own_G.go (fun _ k => XS.aloadN X_3.here hx rfl (hb hby d_prog72x_11) rfl rfl k) ?_
  show own_G _ _ _ _ (T_3.setTop (mkF m 12 #[.val (.ref r), .val (.ref q_3)] [(.ref r), (.ref q_3)]))
  obtain ⟨al_5, T_5, h_5, k_5, bl_5, kl_5, X_5, e_5, E_5, hS_5, hk_5, hZ_5, hown_5, Ex_5, Fc_5, Fv_5, Va_5, lta_5, ltb_5, Cr_5, -, hne_5, st_5⟩ := ldcCH X_3 hx hZ hown (own_w hw 74 rfl) hstr rfl hS0 (Nat.le_trans (Nat.zero_le _) K_3.1) hEW (by simp [own_EL]) CH_4.1 (vs := ([(.int (110 : Int32)), (.int (97 : Int32)), (.int (109 : Int32)), (.int (101 : Int32))] : List Value)) (z := (4 : Int32)) (own_lit4) (by decide) (by decide) (g := (mkF m 12 #[.val (.ref r), .val (.ref q_3)] [(.ref r), (.ref q_3)])) rfl (hb hby d_prog72x_12) (n := 16) (by decide +kernel) (by decide) (by decide) (by decide)
  refine own_G.go st_5 ?_
  have CH_6 : CHr Z own_EL s.vm h0 T_5.vm h_5 := CH_4.trans Cr_5
  show own_G _ _ _ _ (T_5.setTop (mkF m 14 #[.val (.ref r), .val (.ref q_3)] [(.ref al_5), (.ref r), (.ref q_3)]))
  obtain ⟨_, T_7, L_7, Q_7, X_7, st_7⟩ := own_callS X_5 hx hown_5 (mvT hZ_5 (own_w hw 75 rfl)) (mvT hZ_5 (own_w hw 76 rfl)) (mvT hZ_5 (own_w hw 77 rfl)) (mvT hZ_5 (own_w hw 78 rfl)) (by decide) (Q := (Qp (.ref r) h_5)) (backOf (W := 1) (rm_rnn l Z a0 hw [] r al_5 h_5 n0 (Nat.le_trans Z0 (Nat.le_trans K_3.1 E_5.1)) ) hZ_5 (own_w hw 78 rfl) (own_w hw 77 rfl) (by decide) (by decide)) (g := (mkF m 14 #[.val (.ref r), .val (.ref q_3)] [(.ref al_5), (.ref r), (.ref q_3)])) rfl (by rw [hml]; rfl) (argsL := [(.ref r), (.ref al_5)]) (rest := [(.ref q_3)]) (lenOf pd_24 rfl) rfl (by show 2 * 0 + _ ≤ _; exact Nat.le_of_eq rfl) (hb hby d_prog72x_14) e_5 rfl (by decide) (by decide)
  obtain ⟨rfl, rfl, eh_7⟩ := Q_7
  refine own_G.via st_7 ?_
  have N_7 := Fr.app N_3 (Fr.nil n0)
  show own_G _ _ _ _ (T_7.setTop (mkF m 17 #[.val (.ref r), .val (.ref q_3)] [(.ref r), (.ref q_3)]))
  have E0'_8 : Exa Z h_5 r "java/lang/String" := ((E0.keep K_3).ext E_5)
  obtain ⟨T_9, X_9, e_9, st_9⟩ := castY X_7 hx hZ_5 hown_5 (own_w hw 79 rfl) eh_7 (Ins.self E0'_8) (g := (mkF m 17 #[.val (.ref r), .val (.ref q_3)] [(.ref r), (.ref q_3)])) rfl rfl (hb hby d_prog72x_17)
  refine own_G.go st_9 ?_
  show own_G _ _ _ _ (T_9.setTop (mkF m 20 #[.val (.ref r), .val (.ref q_3)] [(.ref r), (.ref q_3)]))
  have F0_3'_10 : Fld Z h_5 q_3 "com/example/enlist/enlist/definition/TransactionDefinition$Settings" "name" "Ljava/lang/String;" .null := (F0_3.ext E_5)
  have Ex_3'_11 : Exa Z h_5 q_3 "com/example/enlist/enlist/definition/TransactionDefinition$Settings" := (Ex_3.ext E_5)
  obtain ⟨T_12, h_12, X_12, e_12, W_12, st_12⟩ := own_putFR X_9 hx hZ_5 hown_5 (own_w hw 80 rfl) e_9 F0_3'_10 Ex_3'_11 (own_w hw 71 rfl) (own_w hw 40 rfl) (ty := (.object "java/lang/String")) (by decide) rfl rfl (g := (mkF m 20 #[.val (.ref r), .val (.ref q_3)] [(.ref r), (.ref q_3)])) rfl rfl (hb hby d_prog72x_20)
  refine own_G.go st_12 ?_
  have CH_13 : CHr Z own_EL s.vm h0 T_5.vm h_12 := CH_6.trans (CHr.wr W_12 (Safe.exa hZ_5.alike Ex_3'_11 (by decide) (by decide)) CH_6.1)
  have F_12 : Fld Z h_12 q_3 "com/example/enlist/enlist/definition/TransactionDefinition$Settings" "name" "Ljava/lang/String;" (.ref r) := F0_3'_10.same W_12
  have g0_q_3 : n0 ≤ q_3 := Nat.le_trans Z0 lo_3
  have N_12 := Fr.snoc X_12 N_7 g0_q_3
  show own_G _ _ _ _ (T_12.setTop (mkF m 23 #[.val (.ref r), .val (.ref q_3)] []))
  obtain ⟨T_14, h_14, X_14, e_14, E_14, A_14, D_14, -, st_14⟩ := newO X_12 hx hZ_5 hown_5 (own_w hw 81 rfl) (own_w hw 82 rfl) (own_w hw 28 rfl) e_12 (g := (mkF m 23 #[.val (.ref r), .val (.ref q_3)] [])) rfl (hb hby d_prog72x_23) (by decide) (by decide)
  obtain ⟨a_14, g_14⟩ : ∃ z, z = h_12.size := ⟨_, rfl⟩
  rw [← g_14] at A_14 D_14 st_14
  refine own_G.go st_14 ?_
  have CH_15 : CHr Z own_EL s.vm h0 T_5.vm h_14 := CH_13.trans (CHr.ext E_14 CH_13.1)
  have F_14_settings : Fld Z h_14 a_14 "com/example/enlist/enlist/definition/TransactionDefinition" "settings" "Lcom/example/enlist/enlist/definition/TransactionDefinition$Settings;" .null := D_14 (Or.inr (own_w hw 33 rfl)) (ty := (.object "com/example/enlist/enlist/definition/TransactionDefinition$Settings")) (by decide)
  show own_G _ _ _ _ (T_14.setTop (mkF m 26 #[.val (.ref r), .val (.ref q_3)] [(.ref a_14)]))
  refine own_G.go (fun _ k => XS.dup X_14.here hx rfl (hb hby d_prog72x_26) rfl rfl k) ?_
  show own_G _ _ _ _ (T_14.setTop (mkF m 27 #[.val (.ref r), .val (.ref q_3)] [(.ref a_14), (.ref a_14)]))
  refine own_G.go (fun _ k => XS.aloadN X_14.here hx rfl (hb hby d_prog72x_27) rfl rfl k) ?_
  show own_G _ _ _ _ (T_14.setTop (mkF m 28 #[.val (.ref r), .val (.ref q_3)] [(.ref q_3), (.ref a_14), (.ref a_14)]))
  have g0_a_14 : n0 ≤ a_14 := Nat.le_trans (Nat.le_trans Z0 (Nat.le_trans (Nat.le_trans K_3.1 E_5.1) (Keep.of_wr W_12).1)) (Nat.le_of_eq g_14.symm)
  obtain ⟨_, T_16, L_16, Q_16, X_16, st_16⟩ := own_callI X_14 hx rfl hown_5 (mvT hZ_5 (own_w hw 83 rfl)) (mvT hZ_5 (own_w hw 84 rfl)) (mvT hZ_5 (own_w hw 85 rfl)) (by decide) (Q := (Qti Z a_14 q_3 h_14 n0)) (backOf (W := 1) (rm_tdi l Z a0 hw [] a_14 q_3 h_14 n0 (Nat.le_trans Z0 (Nat.le_trans (Nat.le_trans (Nat.le_trans K_3.1 E_5.1) (Keep.of_wr W_12).1) E_14.1)) g0_a_14 A_14 F_14_settings) hZ_5 (own_w hw 85 rfl) (own_w hw 28 rfl) (by decide) (by decide)) (a := a_14) (g := (mkF m 28 #[.val (.ref r), .val (.ref q_3)] [(.ref q_3), (.ref a_14), (.ref a_14)])) rfl (by rw [hml]; rfl) (argsL := [(.ref q_3)]) (rest := [(.ref a_14)]) (lenOf pd_25 rfl) rfl (by show 2 * 0 + _ ≤ _; exact Nat.le_of_eq rfl) (hb hby d_prog72x_28) e_14 rfl (by decide) (by decide)
  obtain ⟨rfl, Nq_16, K_16, Ex_16, Fs_16⟩ := Q_16
  refine own_G.via st_16 ?_
  have CH_17 : CHr Z own_EL s.vm h0 T_5.vm T_16.heap := CH_15.trans (CHr.keep K_16 (sfS (Safe.exa hZ_5.alike A_14 (by decide) (by decide)) sf0) CH_15.1)
  have N_16 := Fr.app N_12 Nq_16
  show own_G _ _ _ _ (T_16.setTop (mkF m 31 #[.val (.ref r), .val (.ref q_3)] [(.ref a_14)]))
  have F_12'_18 : Fld Z T_16.heap q_3 "com/example/enlist/enlist/definition/TransactionDefinition$Settings" "name" "Ljava/lang/String;" (.ref r) := ((F_12.ext E_14).keep K_16 (ninS (Nat.ne_of_lt (Nat.lt_of_lt_of_le (Nat.lt_of_lt_of_le Ex_3.lt (Nat.le_trans E_5.1 (Keep.of_wr W_12).1)) (Nat.le_of_eq g_14.symm))) nin0))
  have F1_3'_19 : Fld Z T_16.heap q_3 "com/example/enlist/enlist/definition/TransactionDefinition$Settings" "propagation" "Lcom/example/enlist/enlist/definition/Propagation;" (.ref rq) := ((((F1_3.ext E_5).other W_12 (Or.inr (slot_ne (C := "com/example/enlist/enlist/definition/TransactionDefinition$Settings") (Or.inl (own_w hw 49 rfl)) (Or.inl (own_w hw 71 rfl)) (by decide) (by decide : parseFieldDescriptor "Lcom/example/enlist/enlist/definition/Propagation;" = some (.object "com/example/enlist/enlist/definition/Propagation")) (by decide : parseFieldDescriptor "Ljava/lang/String;" = some (.object "java/lang/String"))))).ext E_14).keep K_16 (ninS (Nat.ne_of_lt (Nat.lt_of_lt_of_le (Nat.lt_of_lt_of_le Ex_3.lt (Nat.le_trans E_5.1 (Keep.of_wr W_12).1)) (Nat.le_of_eq g_14.symm))) nin0))
  have F2_3'_20 : Fld Z T_16.heap q_3 "com/example/enlist/enlist/definition/TransactionDefinition$Settings" "isolation" "Lcom/example/enlist/enlist/definition/Isolation;" (.ref io) := ((((F2_3.ext E_5).other W_12 (Or.inr (slot_ne (C := "com/example/enlist/enlist/definition/TransactionDefinition$Settings") (Or.inl (own_w hw 54 rfl)) (Or.inl (own_w hw 71 rfl)) (by decide) (by decide : parseFieldDescriptor "Lcom/example/enlist/enlist/definition/Isolation;" = some (.object "com/example/enlist/enlist/definition/Isolation")) (by decide : parseFieldDescriptor "Ljava/lang/String;" = some (.object "java/lang/String"))))).ext E_14).keep K_16 (ninS (Nat.ne_of_lt (Nat.lt_of_lt_of_le (Nat.lt_of_lt_of_le Ex_3.lt (Nat.le_trans E_5.1 (Keep.of_wr W_12).1)) (Nat.le_of_eq g_14.symm))) nin0))
  have F3_3'_21 : Fld Z T_16.heap q_3 "com/example/enlist/enlist/definition/TransactionDefinition$Settings" "readOnly" "Z" (.int (0 : Int32)) := ((((F3_3.ext E_5).other W_12 (Or.inr (slot_ne (C := "com/example/enlist/enlist/definition/TransactionDefinition$Settings") (Or.inl (own_w hw 73 rfl)) (Or.inl (own_w hw 71 rfl)) (by decide) (by decide : parseFieldDescriptor "Z" = some .boolean) (by decide : parseFieldDescriptor "Ljava/lang/String;" = some (.object "java/lang/String"))))).ext E_14).keep K_16 (ninS (Nat.ne_of_lt (Nat.lt_of_lt_of_le (Nat.lt_of_lt_of_le Ex_3.lt (Nat.le_trans E_5.1 (Keep.of_wr W_12).1)) (Nat.le_of_eq g_14.symm))) nin0))
  have F4_3'_22 : Fld Z T_16.heap q_3 "com/example/enlist/enlist/definition/TransactionDefinition$Settings" "timeout" "Ljava/util/OptionalInt;" (.ref em) := ((((F4_3.ext E_5).other W_12 (Or.inr (slot_ne (C := "com/example/enlist/enlist/definition/TransactionDefinition$Settings") (Or.inl (own_w hw 61 rfl)) (Or.inl (own_w hw 71 rfl)) (by decide) (by decide : parseFieldDescriptor "Ljava/util/OptionalInt;" = some (.object "java/util/OptionalInt")) (by decide : parseFieldDescriptor "Ljava/lang/String;" = some (.object "java/lang/String"))))).ext E_14).keep K_16 (ninS (Nat.ne_of_lt (Nat.lt_of_lt_of_le (Nat.lt_of_lt_of_le Ex_3.lt (Nat.le_trans E_5.1 (Keep.of_wr W_12).1)) (Nat.le_of_eq g_14.symm))) nin0))
  have F5_3'_23 : Fld Z T_16.heap q_3 "com/example/enlist/enlist/definition/TransactionDefinition$Settings" "rollbackRules" "Ljava/util/Map;" (.ref mp) := ((((F5_3.ext E_5).other W_12 (Or.inr (slot_ne (C := "com/example/enlist/enlist/definition/TransactionDefinition$Settings") (Or.inl (own_w hw 69 rfl)) (Or.inl (own_w hw 71 rfl)) (by decide) (by decide : parseFieldDescriptor "Ljava/util/Map;" = some (.object "java/util/Map")) (by decide : parseFieldDescriptor "Ljava/lang/String;" = some (.object "java/lang/String"))))).ext E_14).keep K_16 (ninS (Nat.ne_of_lt (Nat.lt_of_lt_of_le (Nat.lt_of_lt_of_le Ex_3.lt (Nat.le_trans E_5.1 (Keep.of_wr W_12).1)) (Nat.le_of_eq g_14.symm))) nin0))
  exact own_G.endH X_16 hS_5 (Nat.le_trans hk_5 (Nat.le_trans (Nat.le_trans (Keep.of_wr W_12).1 E_14.1) K_16.1)) hZ_5 hEW (hh ▸ CH_17) hlk (v := (some (.ref a_14))) (fun h => by rw [hrt] at h; cases h) (fun fs hr => retOut X_16 hx hrt rfl (Or.inr (Or.inr (Or.inr (Or.inr ⟨rfl, rfl, rfl⟩)))) (hb hby d_prog72x_31) hr) rfl ⟨a_14, q_3, rfl, N_16, ((((((Keep.refl h0 []).trans K_3 all0).ext E_5).wr W_12 (Or.inr lo_3)).ext E_14).trans K_16 (allS (Or.inr (Nat.le_trans (Nat.le_trans (Nat.le_trans K_3.1 E_5.1) (Keep.of_wr W_12).1) (Nat.le_of_eq g_14.symm))) all0)), Ex_16, Fs_16, F_12'_18, F1_3'_19, F2_3'_20, F3_3'_21, F4_3'_22, F5_3'_23⟩ (by decide) (by decide)
def Qm0 (Z : State) (h0 : Heap) (n0 : Nat) (v : Option Value) (h : Heap) (L : List Loc) : Prop := ∃ (r t : Addr) (kt : ClassId), v = some (.ref r) ∧ Fr n0 L ∧ Keep h0 h [] ∧ Exa Z h r "java/lang/String" ∧ Fld Z h r "java/lang/String" "coder" "B" (.int (0 : Int32)) ∧ Fld Z h r "java/lang/String" "value" "[B" (.ref t) ∧ Arv Z h t kt .byte (0 : Int32) ([] : List Value) (.int (0 : Int32))
theorem d_prog711x_10 : decode prog_7_method_11_code 10 = .ok (.ldc 107, 2) := by decide +kernel
theorem d_prog711x_12 : decode prog_7_method_11_code 12 = .ok (.goto 10, 3) := by decide +kernel
set_option maxRecDepth 65536 in
set_option maxHeartbeats 40000000 in
theorem rm_nm0 (l : Launch) (Z : State) (a0 : Array Value) (hw : ∀ d ∈ tables_1, d.before a0 Z = true) (ws : List Jvm.Cond) (d st : Addr) (h0 : Heap) (n0 : Nat) (Z0 : n0 ≤ h0.size) (F0 : Fld Z h0 d "com/example/enlist/enlist/definition/TransactionDefinition" "settings" "Lcom/example/enlist/enlist/definition/TransactionDefinition$Settings;" (.ref st)) (F1 : Fld Z h0 st "com/example/enlist/enlist/definition/TransactionDefinition$Settings" "name" "Ljava/lang/String;" .null) :
    MetFree l (⟨"com/example/enlist/enlist/definition/TransactionDefinition", "name", "()Ljava/lang/String;"⟩ : MethodName) (head1 (Jvm.Cond.code (⟨"com/example/enlist/enlist/definition/TransactionDefinition", "name", "()Ljava/lang/String;"⟩ : MethodName) prog_7_method_11_code 1 (some (.object "java/lang/String")) :: ws) ({ frames := 0, cells := 2, slots := 4, locals := 0 } : Room)) (fun a_ U => a_ = #[(.ref d)] ∧ Z.Warmed39 U.vm ∧ U.heap = h0 ∧ CHv Z own_EL U.vm h0) (fun _ _ _ _ _ => True) (fun _ U o U' => ∃ v L, o = .returned v ∧ Qm0 Z h0 n0 v U'.heap L ∧ CHr Z own_EL U.vm U.heap U'.vm U'.heap ∧ ReturnedEndW U o U' L ({ frames := 0, cells := 2, slots := 4, locals := 0 } : Room).cells ({ frames := 0, cells := 2, slots := 4, locals := 0 } : Room).slots) := by
  refine MetFree.of_bodySF (plainFor_of_name pn_10) hisR ?_
  intro p e s m args below meth c s₁ Bd hml0 hP hK
  obtain ⟨rfl, hZ, hh, hCH⟩ := hP
  have hx := Bd.exec
  have hby := Bd.bytes
  have hrt := Bd.returns
  have hlk : meth.locks = false := Bd.notSynchronized
  have hml : c.maxLocals = 1 := hml0
  have hown : s.vm.findClass "com/example/enlist/enlist/definition/TransactionDefinition" = some m.cls := findClass_of_methodNamed Bd.named
  have hnm := (name_of_methodNamed Bd.named Bd.method).1
  have X0 : Stand p l e ({ frames := 0, cells := 2, slots := 4, locals := 0 } : Room) (s.setVm s.vm) m #[(.ref d)] below meth c s₁ [] 0 0 := Stand.of_body Bd
  have e0 : s₁.heap = h0 := by rw [← hh, Bd.state]; rfl
  have N0 := Fr.nil n0
  have hS0 : s.Since s.vm 0 := own_since s 0
  have hstr : ∀ d ∈ Bundle.stringAtoms, d.before a0 Z = true := fun d hd => hw d ((by decide +kernel : ∀ d ∈ Bundle.stringAtoms, d ∈ tables_1) d hd)
  have hEW : EW Z a0 own_EL := own_EW hw
  have CH0 : CHr Z own_EL s.vm h0 s.vm h0 := CHr.refl hCH
  show own_G p.tables e below (fun o t => ∃ v L, o = .returned v ∧ Qm0 Z h0 n0 v t.heap L ∧ CHr Z own_EL s.vm s.heap t.vm t.heap ∧ ReturnedEndW s o t L ({ frames := 0, cells := 2, slots := 4, locals := 0 } : Room).cells ({ frames := 0, cells := 2, slots := 4, locals := 0 } : Room).slots) (s₁.setTop (entryFrame m #[(.ref d)] 1))
  refine own_G.cast (show entryFrame m #[(.ref d)] 1 = mkF m 0 #[.val (.ref d)] [] from by first | (simp [entryFrame, mkF, argsToLocals, Value.category]; done) | rfl) ?_
  refine own_G.go (fun _ k => XS.aloadN X0.here hx rfl (hb hby d_prog711x_0) rfl rfl k) ?_
  show own_G _ _ _ _ (s₁.setTop (mkF m 1 #[.val (.ref d)] [(.ref d)]))
  obtain ⟨T_1, X_1, e_1, st_1⟩ := getF X0 hx hZ hown (host := "") (Or.inl (own_w hw 32 rfl)) Via.refl e0 F0 (g := (mkF m 1 #[.val (.ref d)] [(.ref d)])) rfl rfl (hb hby d_prog711x_1)
  refine own_G.go st_1 ?_
  show own_G _ _ _ _ (T_1.setTop (mkF m 4 #[.val (.ref d)] [(.ref st)]))
  obtain ⟨T_2, X_2, e_2, st_2⟩ := own_getFR X_1 hx hZ hown (own_w hw 80 rfl) e_1 F1 (g := (mkF m 4 #[.val (.ref d)] [(.ref st)])) rfl rfl (hb hby d_prog711x_4)
  refine own_G.go st_2 ?_
  show own_G _ _ _ _ (T_2.setTop (mkF m 7 #[.val (.ref d)] [.null]))
  refine own_G.go (fun _ k => XS.ifnonnullNo X_2.here hx rfl (hb hby d_prog711x_7) rfl k) ?_
  show own_G _ _ _ _ (T_2.setTop (mkF m 10 #[.val (.ref d)] []))
  obtain ⟨al_3, T_3, h_3, k_3, bl_3, kl_3, X_3, e_3, E_3, hS_3, hk_3, hZ_3, hown_3, Ex_3, Fc_3, Fv_3, Va_3, lta_3, ltb_3, Cr_3, -, hne_3, st_3⟩ := ldcCH X_2 hx hZ hown (own_w hw 265 rfl) hstr e_2 hS0 (Nat.zero_le _) hEW (by simp [own_EL]) CH0.1 (vs := ([] : List Value)) (z := (0 : Int32)) (own_lit1) (by decide) (by decide) (g := (mkF m 10 #[.val (.ref d)] [])) rfl (hb hby d_prog711x_10) (n := 0) (by decide +kernel) (by decide) (by decide) (by decide)
  refine own_G.go st_3 ?_
  have CH_4 : CHr Z own_EL s.vm h0 T_3.vm h_3 := CH0.trans Cr_3
  show own_G _ _ _ _ (T_3.setTop (mkF m 12 #[.val (.ref d)] [(.ref al_3)]))
  refine own_G.go (fun _ k => XS.goto X_3.here hx rfl (pc0 := 12) (pc' := 22) rfl (hb hby d_prog711x_12) (by decide) (by decide) k) ?_
  show own_G _ _ _ _ (T_3.setTop (mkF m 22 #[.val (.ref d)] [(.ref al_3)]))
  exact own_G.endH X_3 hS_3 hk_3 hZ_3 hEW (hh ▸ CH_4) hlk (v := (some (.ref al_3))) (fun h => by rw [hrt] at h; cases h) (fun fs hr => retOut X_3 hx hrt rfl (Or.inr (Or.inr (Or.inr (Or.inr ⟨rfl, rfl, rfl⟩)))) (hb hby d_prog711x_22) hr) e_3 ⟨al_3, bl_3, kl_3, rfl, N0, ((Keep.refl h0 []).ext E_3), Ex_3, Fc_3, Fv_3, Va_3⟩ (by decide) (by decide)
def Qt (Z : State) (n c0 c1 c2 c3 : Int32) (h0 : Heap) (n0 : Nat) (v : Option Value) (h : Heap) (L : List Loc) : Prop := ∃ (r t : Addr) (kt : ClassId), v = some (.ref r) ∧ Fr n0 L ∧ Keep h0 h [] ∧ Exa Z h r "java/lang/String" ∧ Fld Z h r "java/lang/String" "coder" "B" (.int (0 : Int32)) ∧ Fld Z h r "java/lang/String" "value" "[B" (.ref t) ∧ Arv Z h t kt .byte (Int32.ofNat (own_tx n c0 c1 c2 c3).length) (((own_tx n c0 c1 c2 c3).map (fun c => c.toInt8.toInt32)).map Value.int) (.int (0 : Int32))
def own_L0 (c0 c1 c2 c3 : Int32) : List Value := []
def own_L1 (c0 c1 c2 c3 : Int32) : List Value := [(.int (0 : Int32)), (.int (0 : Int32)), (.int (0 : Int32)), (.int (0 : Int32)), (.int (0 : Int32)), (.int (0 : Int32)), (.int (0 : Int32)), (.int (0 : Int32)), (.int (0 : Int32)), (.int (0 : Int32)), (.int (0 : Int32)), (.int (0 : Int32)), (.int (0 : Int32)), (.int (0 : Int32)), (.int (0 : Int32)), (.int (0 : Int32))]
theorem pd_26 : parseMethodDescriptor "(Ljava/lang/String;)Ljava/lang/StringBuilder;" = some ⟨[(.object "java/lang/String")], some (.object "java/lang/StringBuilder")⟩ := by decide +kernel
def own_L2 (c0 c1 c2 c3 : Int32) : List Value := [(.int (116 : Int32)), (.int (114 : Int32)), (.int (97 : Int32)), (.int (110 : Int32)), (.int (115 : Int32)), (.int (97 : Int32)), (.int (99 : Int32)), (.int (116 : Int32)), (.int (105 : Int32)), (.int (111 : Int32)), (.int (110 : Int32)), (.int (32 : Int32)), (.int (39 : Int32)), (.int (0 : Int32)), (.int (0 : Int32)), (.int (0 : Int32))]
def own_L3 (c0 c1 c2 c3 : Int32) : List Value := [(.int (116 : Int32)), (.int (114 : Int32)), (.int (97 : Int32)), (.int (110 : Int32)), (.int (115 : Int32)), (.int (97 : Int32)), (.int (99 : Int32)), (.int (116 : Int32)), (.int (105 : Int32)), (.int (111 : Int32)), (.int (110 : Int32)), (.int (32 : Int32)), (.int (39 : Int32)), (.int (39 : Int32)), (.int (0 : Int32)), (.int (0 : Int32))]
theorem pd_27 : parseMethodDescriptor "()Ljava/lang/String;" = some ⟨[], some (.object "java/lang/String")⟩ := by decide +kernel
def own_L4 (c0 c1 c2 c3 : Int32) : List Value := [(.int c0.toInt8.toInt32)]
def own_L5 (c0 c1 c2 c3 : Int32) : List Value := [(.int (116 : Int32)), (.int (114 : Int32)), (.int (97 : Int32)), (.int (110 : Int32)), (.int (115 : Int32)), (.int (97 : Int32)), (.int (99 : Int32)), (.int (116 : Int32)), (.int (105 : Int32)), (.int (111 : Int32)), (.int (110 : Int32)), (.int (32 : Int32)), (.int (39 : Int32)), (.int c0.toInt8.toInt32), (.int (0 : Int32)), (.int (0 : Int32))]
def own_L6 (c0 c1 c2 c3 : Int32) : List Value := [(.int (116 : Int32)), (.int (114 : Int32)), (.int (97 : Int32)), (.int (110 : Int32)), (.int (115 : Int32)), (.int (97 : Int32)), (.int (99 : Int32)), (.int (116 : Int32)), (.int (105 : Int32)), (.int (111 : Int32)), (.int (110 : Int32)), (.int (32 : Int32)), (.int (39 : Int32)), (.int c0.toInt8.toInt32), (.int (39 : Int32)), (.int (0 : Int32))]
def own_L7 (c0 c1 c2 c3 : Int32) : List Value := [(.int c0.toInt8.toInt32), (.int c1.toInt8.toInt32)]
def own_L8 (c0 c1 c2 c3 : Int32) : List Value := [(.int (116 : Int32)), (.int (114 : Int32)), (.int (97 : Int32)), (.int (110 : Int32)), (.int (115 : Int32)), (.int (97 : Int32)), (.int (99 : Int32)), (.int (116 : Int32)), (.int (105 : Int32)), (.int (111 : Int32)), (.int (110 : Int32)), (.int (32 : Int32)), (.int (39 : Int32)), (.int c0.toInt8.toInt32), (.int c1.toInt8.toInt32), (.int (0 : Int32))]
def own_L9 (c0 c1 c2 c3 : Int32) : List Value := [(.int (116 : Int32)), (.int (114 : Int32)), (.int (97 : Int32)), (.int (110 : Int32)), (.int (115 : Int32)), (.int (97 : Int32)), (.int (99 : Int32)), (.int (116 : Int32)), (.int (105 : Int32)), (.int (111 : Int32)), (.int (110 : Int32)), (.int (32 : Int32)), (.int (39 : Int32)), (.int c0.toInt8.toInt32), (.int c1.toInt8.toInt32), (.int (39 : Int32))]
def own_L10 (c0 c1 c2 c3 : Int32) : List Value := [(.int c0.toInt8.toInt32), (.int c1.toInt8.toInt32), (.int c2.toInt8.toInt32)]
def own_L11 (c0 c1 c2 c3 : Int32) : List Value := [(.int (116 : Int32)), (.int (114 : Int32)), (.int (97 : Int32)), (.int (110 : Int32)), (.int (115 : Int32)), (.int (97 : Int32)), (.int (99 : Int32)), (.int (116 : Int32)), (.int (105 : Int32)), (.int (111 : Int32)), (.int (110 : Int32)), (.int (32 : Int32)), (.int (39 : Int32)), (.int c0.toInt8.toInt32), (.int c1.toInt8.toInt32), (.int c2.toInt8.toInt32)]
def own_L12 (c0 c1 c2 c3 : Int32) : List Value := [(.int (116 : Int32)), (.int (114 : Int32)), (.int (97 : Int32)), (.int (110 : Int32)), (.int (115 : Int32)), (.int (97 : Int32)), (.int (99 : Int32)), (.int (116 : Int32)), (.int (105 : Int32)), (.int (111 : Int32)), (.int (110 : Int32)), (.int (32 : Int32)), (.int (39 : Int32)), (.int c0.toInt8.toInt32), (.int c1.toInt8.toInt32), (.int c2.toInt8.toInt32), (.int (39 : Int32)), (.int (0 : Int32)), (.int (0 : Int32)), (.int (0 : Int32)), (.int (0 : Int32)), (.int (0 : Int32)), (.int (0 : Int32)), (.int (0 : Int32)), (.int (0 : Int32)), (.int (0 : Int32)), (.int (0 : Int32)), (.int (0 : Int32)), (.int (0 : Int32)), (.int (0 : Int32)), (.int (0 : Int32)), (.int (0 : Int32)), (.int (0 : Int32)), (.int (0 : Int32))]
def own_L13 (c0 c1 c2 c3 : Int32) : List Value := [(.int c0.toInt8.toInt32), (.int c1.toInt8.toInt32), (.int c2.toInt8.toInt32), (.int c3.toInt8.toInt32)]
def own_L14 (c0 c1 c2 c3 : Int32) : List Value := [(.int (116 : Int32)), (.int (114 : Int32)), (.int (97 : Int32)), (.int (110 : Int32)), (.int (115 : Int32)), (.int (97 : Int32)), (.int (99 : Int32)), (.int (116 : Int32)), (.int (105 : Int32)), (.int (111 : Int32)), (.int (110 : Int32)), (.int (32 : Int32)), (.int (39 : Int32)), (.int c0.toInt8.toInt32), (.int c1.toInt8.toInt32), (.int c2.toInt8.toInt32), (.int c3.toInt8.toInt32), (.int (0 : Int32)), (.int (0 : Int32)), (.int (0 : Int32)), (.int (0 : Int32)), (.int (0 : Int32)), (.int (0 : Int32)), (.int (0 : Int32)), (.int (0 : Int32)), (.int (0 : Int32)), (.int (0 : Int32)), (.int (0 : Int32)), (.int (0 : Int32)), (.int (0 : Int32)), (.int (0 : Int32)), (.int (0 : Int32)), (.int (0 : Int32)), (.int (0 : Int32))]
def own_L15 (c0 c1 c2 c3 : Int32) : List Value := [(.int (116 : Int32)), (.int (114 : Int32)), (.int (97 : Int32)), (.int (110 : Int32)), (.int (115 : Int32)), (.int (97 : Int32)), (.int (99 : Int32)), (.int (116 : Int32)), (.int (105 : Int32)), (.int (111 : Int32)), (.int (110 : Int32)), (.int (32 : Int32)), (.int (39 : Int32)), (.int c0.toInt8.toInt32), (.int c1.toInt8.toInt32), (.int c2.toInt8.toInt32), (.int c3.toInt8.toInt32), (.int (39 : Int32)), (.int (0 : Int32)), (.int (0 : Int32)), (.int (0 : Int32)), (.int (0 : Int32)), (.int (0 : Int32)), (.int (0 : Int32)), (.int (0 : Int32)), (.int (0 : Int32)), (.int (0 : Int32)), (.int (0 : Int32)), (.int (0 : Int32)), (.int (0 : Int32)), (.int (0 : Int32)), (.int (0 : Int32)), (.int (0 : Int32)), (.int (0 : Int32))]
theorem d_prog717x_0 : decode prog_7_method_17_code 0 = .ok (.aload_n 0, 1) := by decide +kernel
theorem d_prog717x_1 : decode prog_7_method_17_code 1 = .ok (.getfield 7, 3) := by decide +kernel
theorem d_prog717x_4 : decode prog_7_method_17_code 4 = .ok (.getfield 33, 3) := by decide +kernel
theorem d_prog717x_7 : decode prog_7_method_17_code 7 = .ok (.ifnonnull 8, 3) := by decide +kernel
theorem d_prog717x_15 : decode prog_7_method_17_code 15 = .ok (.new 59, 3) := by decide +kernel
theorem d_prog717x_18 : decode prog_7_method_17_code 18 = .ok (.dup, 1) := by decide +kernel
theorem d_prog717x_19 : decode prog_7_method_17_code 19 = .ok (.invokespecial 61, 3) := by decide +kernel
theorem d_prog717x_22 : decode prog_7_method_17_code 22 = .ok (.ldc 146, 2) := by decide +kernel
theorem d_prog717x_24 : decode prog_7_method_17_code 24 = .ok (.invokevirtual 64, 3) := by decide +kernel
theorem d_prog717x_27 : decode prog_7_method_17_code 27 = .ok (.aload_n 0, 1) := by decide +kernel
theorem d_prog717x_28 : decode prog_7_method_17_code 28 = .ok (.getfield 7, 3) := by decide +kernel
theorem d_prog717x_31 : decode prog_7_method_17_code 31 = .ok (.getfield 33, 3) := by decide +kernel
theorem d_prog717x_34 : decode prog_7_method_17_code 34 = .ok (.invokevirtual 64, 3) := by decide +kernel
theorem d_prog717x_37 : decode prog_7_method_17_code 37 = .ok (.ldc 148, 2) := by decide +kernel
theorem d_prog717x_39 : decode prog_7_method_17_code 39 = .ok (.invokevirtual 64, 3) := by decide +kernel
theorem d_prog717x_42 : decode prog_7_method_17_code 42 = .ok (.invokevirtual 78, 3) := by decide +kernel
theorem d_prog717x_45 : decode prog_7_method_17_code 45 = .ok (.areturn, 1) := by decide +kernel
set_option maxRecDepth 65536 in
set_option maxHeartbeats 40000000 in
theorem rm_ts0 (l : Launch) (Z : State) (a0 : Array Value) (hw : ∀ d ∈ tables_1, d.before a0 Z = true) (ws : List Jvm.Cond) (c0 c1 c2 c3 : Int32) (d st r t : Addr) (kt : ClassId) (zc : Int32) (h0 : Heap) (n0 : Nat) (Z0 : n0 ≤ h0.size) (b0 : own_b c0) (b1 : own_b c1) (b2 : own_b c2) (b3 : own_b c3) (F0 : Fld Z h0 d "com/example/enlist/enlist/definition/TransactionDefinition" "settings" "Lcom/example/enlist/enlist/definition/TransactionDefinition$Settings;" (.ref st)) (F1 : Fld Z h0 st "com/example/enlist/enlist/definition/TransactionDefinition$Settings" "name" "Ljava/lang/String;" (.ref r)) (E0 : Exa Z h0 r "java/lang/String") (C0 : Fld Z h0 r "java/lang/String" "coder" "B" (.int (0 : Int32))) (V0 : Fld Z h0 r "java/lang/String" "value" "[B" (.ref t)) (K0 : Arv Z h0 t kt .byte (Int32.ofNat (own_cs (0 : Int32) c0 c1 c2 c3).length) (((own_cs (0 : Int32) c0 c1 c2 c3).map (fun c => c.toInt8.toInt32)).map Value.int) (.int (0 : Int32))) (O2 : Sta Z Z.heap "java/lang/String" "COMPACT_STRINGS" "Z" (.int zc)) (P5 : ¬ (zc = (0 : Int32))) (X00 : Old Z n0 h0) :
    MetFree l (⟨"com/example/enlist/enlist/definition/TransactionDefinition", "toString", "()Ljava/lang/String;"⟩ : MethodName) (head1 (Jvm.Cond.code (⟨"com/example/enlist/enlist/definition/TransactionDefinition", "toString", "()Ljava/lang/String;"⟩ : MethodName) prog_7_method_17_code 1 (some (.object "java/lang/String")) :: ws) ({ frames := 6, cells := 9, slots := 140, locals := 91 } : Room)) (fun a_ U => a_ = #[(.ref d)] ∧ Z.Warmed39 U.vm ∧ U.heap = h0 ∧ CHv Z own_EL U.vm h0) (fun _ _ _ _ _ => True) (fun _ U o U' => ∃ v L, o = .returned v ∧ Qt Z (0 : Int32) c0 c1 c2 c3 h0 n0 v U'.heap L ∧ CHr Z own_EL U.vm U.heap U'.vm U'.heap ∧ ReturnedEndW U o U' L ({ frames := 6, cells := 9, slots := 140, locals := 91 } : Room).cells ({ frames := 6, cells := 9, slots := 140, locals := 91 } : Room).slots) := by
  refine MetFree.of_bodySF (plainFor_of_name pn_10) hisR ?_
  intro p e s m args below meth c s₁ Bd hml0 hP hK
  obtain ⟨rfl, hZ, hh, hCH⟩ := hP
  have hx := Bd.exec
  have hby := Bd.bytes
  have hrt := Bd.returns
  have hlk : meth.locks = false := Bd.notSynchronized
  have hml : c.maxLocals = 1 := hml0
  have hown : s.vm.findClass "com/example/enlist/enlist/definition/TransactionDefinition" = some m.cls := findClass_of_methodNamed Bd.named
  have hnm := (name_of_methodNamed Bd.named Bd.method).1
  have X0 : Stand p l e ({ frames := 6, cells := 9, slots := 140, locals := 91 } : Room) (s.setVm s.vm) m #[(.ref d)] below meth c s₁ [] 0 0 := Stand.of_body Bd
  have e0 : s₁.heap = h0 := by rw [← hh, Bd.state]; rfl
  have N0 := Fr.nil n0
  have hS0 : s.Since s.vm 0 := own_since s 0
  have hstr : ∀ d ∈ Bundle.stringAtoms, d.before a0 Z = true := fun d hd => hw d ((by decide +kernel : ∀ d ∈ Bundle.stringAtoms, d ∈ tables_1) d hd)
  have hEW : EW Z a0 own_EL := own_EW hw
  have CH0 : CHr Z own_EL s.vm h0 s.vm h0 := CHr.refl hCH
  show own_G p.tables e below (fun o t => ∃ v L, o = .returned v ∧ Qt Z (0 : Int32) c0 c1 c2 c3 h0 n0 v t.heap L ∧ CHr Z own_EL s.vm s.heap t.vm t.heap ∧ ReturnedEndW s o t L ({ frames := 6, cells := 9, slots := 140, locals := 91 } : Room).cells ({ frames := 6, cells := 9, slots := 140, locals := 91 } : Room).slots) (s₁.setTop (entryFrame m #[(.ref d)] 1))
  refine own_G.cast (show entryFrame m #[(.ref d)] 1 = mkF m 0 #[.val (.ref d)] [] from by first | (simp [entryFrame, mkF, argsToLocals, Value.category]; done) | rfl) ?_
  have K1 : Arv Z h0 t kt .byte (0 : Int32) (own_L0 c0 c1 c2 c3) (.int (0 : Int32)) := K0
  refine own_G.go (fun _ k => XS.aloadN X0.here hx rfl (hb hby d_prog717x_0) rfl rfl k) ?_
  show own_G _ _ _ _ (s₁.setTop (mkF m 1 #[.val (.ref d)] [(.ref d)]))
  obtain ⟨T_1, X_1, e_1, st_1⟩ := getF X0 hx hZ hown (host := "") (Or.inl (own_w hw 32 rfl)) Via.refl e0 F0 (g := (mkF m 1 #[.val (.ref d)] [(.ref d)])) rfl rfl (hb hby d_prog717x_1)
  refine own_G.go st_1 ?_
  show own_G _ _ _ _ (T_1.setTop (mkF m 4 #[.val (.ref d)] [(.ref st)]))
  obtain ⟨T_2, X_2, e_2, st_2⟩ := own_getFR X_1 hx hZ hown (own_w hw 80 rfl) e_1 F1 (g := (mkF m 4 #[.val (.ref d)] [(.ref st)])) rfl rfl (hb hby d_prog717x_4)
  refine own_G.go st_2 ?_
  show own_G _ _ _ _ (T_2.setTop (mkF m 7 #[.val (.ref d)] [(.ref r)]))
  refine own_G.go (fun _ k => XS.ifnonnullYes X_2.here hx rfl (pc0 := 7) (pc' := 15) rfl (hb hby d_prog717x_7) rfl (by decide) (by decide) k) ?_
  show own_G _ _ _ _ (T_2.setTop (mkF m 15 #[.val (.ref d)] []))
  obtain ⟨T_3, h_3, X_3, e_3, E_3, A_3, D_3, -, st_3⟩ := newO X_2 hx hZ hown (own_w hw 129 rfl) (own_w hw 130 rfl) (own_w hw 131 rfl) e_2 (g := (mkF m 15 #[.val (.ref d)] [])) rfl (hb hby d_prog717x_15) (by decide) (by decide)
  obtain ⟨a_3, g_3⟩ : ∃ z, z = h0.size := ⟨_, rfl⟩
  rw [← g_3] at A_3 D_3 st_3
  refine own_G.go st_3 ?_
  have CH_4 : CHr Z own_EL s.vm h0 s.vm h_3 := CH0.trans (CHr.ext E_3 CH0.1)
  have F_3_value : Fld Z h_3 a_3 "java/lang/AbstractStringBuilder" "value" "[B" .null := D_3 (Or.inl (own_w hw 144 rfl)) (ty := (.array .byte)) (by decide)
  have F_3_coder : Fld Z h_3 a_3 "java/lang/AbstractStringBuilder" "coder" "B" (.int (0 : Int32)) := D_3 (Or.inl (own_w hw 146 rfl)) (ty := .byte) (by decide)
  have F_3_count : Fld Z h_3 a_3 "java/lang/AbstractStringBuilder" "count" "I" (.int (0 : Int32)) := D_3 (Or.inl (own_w hw 170 rfl)) (ty := .int) (by decide)
  show own_G _ _ _ _ (T_3.setTop (mkF m 18 #[.val (.ref d)] [(.ref a_3)]))
  refine own_G.go (fun _ k => XS.dup X_3.here hx rfl (hb hby d_prog717x_18) rfl rfl k) ?_
  show own_G _ _ _ _ (T_3.setTop (mkF m 19 #[.val (.ref d)] [(.ref a_3), (.ref a_3)]))
  have Ssb : Safe Z own_EL s.vm h_3 a_3 := (Safe.exa hZ.alike A_3 (by decide) (by decide))
  have g0_a_3 : n0 ≤ a_3 := Nat.le_trans Z0 (Nat.le_of_eq g_3.symm)
  have O_5d : Old Z n0 h_3 := (X00.ext E_3)
  obtain ⟨_, T_6, L_6, Q_6, X_6, st_6⟩ := own_callI X_3 hx rfl hown (mvT hZ (own_w hw 132 rfl)) (mvT hZ (own_w hw 133 rfl)) (mvT hZ (own_w hw 134 rfl)) (by decide) (Q := (Qsb Z a_3 h_3 n0)) (backOf (W := 1) (rm_sbi l Z a0 hw [] a_3 zc h_3 n0 (Nat.le_trans Z0 E_3.1) g0_a_3 A_3 F_3_value F_3_coder F_3_count O2 P5 O_5d) hZ (own_w hw 134 rfl) (own_w hw 131 rfl) (by decide) (by decide)) (a := a_3) (g := (mkF m 19 #[.val (.ref d)] [(.ref a_3), (.ref a_3)])) rfl (by rw [hml]; rfl) (argsL := []) (rest := [(.ref a_3)]) (lenOf pd_20 rfl) rfl (by show 2 * 0 + _ ≤ _; exact Nat.le_of_eq rfl) (hb hby d_prog717x_19) e_3 rfl (by decide) (by decide)
  obtain ⟨q_6, kq_6, rfl, Nq_6, K_6, lo_6, Es_6, Fv_6, Fc_6, Fn_6, Eb_6, V_6⟩ := Q_6
  refine own_G.via st_6 ?_
  have Sf_7_a_3 : Safe Z own_EL s.vm T_6.heap a_3 := (Safe.keep K_6 (sfS Ssb sf0) CH_4.1 Ssb)
  have CH_7 : CHr Z own_EL s.vm h0 s.vm T_6.heap := CH_4.trans (CHr.keep K_6 (sfS Ssb sf0) CH_4.1)
  have Sn_6 : Safe Z own_EL s.vm T_6.heap q_6 := Safe.keep K_6 (sfS Ssb sf0) CH_4.1 (Safe.new lo_6)
  have W_6 : Arv Z T_6.heap q_6 kq_6 .byte (16 : Int32) (own_L1 c0 c1 c2 c3) (.int (0 : Int32)) := V_6
  have N_6 := Fr.app N0 Nq_6
  show own_G _ _ _ _ (T_6.setTop (mkF m 22 #[.val (.ref d)] [(.ref a_3)]))
  obtain ⟨al_8, T_8, h_8, k_8, bl_8, kl_8, X_8, e_8, E_8, hS_8, hk_8, hZ_8, hown_8, Ex_8, Fc_8, Fv_8, Va_8, lta_8, ltb_8, Cr_8, -, hne_8, st_8⟩ := ldcCH X_6 hx hZ hown (own_w hw 147 rfl) hstr rfl hS0 (Nat.le_trans (Nat.zero_le _) (Nat.le_trans E_3.1 K_6.1)) hEW (by simp [own_EL]) CH_7.1 (vs := ([(.int (116 : Int32)), (.int (114 : Int32)), (.int (97 : Int32)), (.int (110 : Int32)), (.int (115 : Int32)), (.int (97 : Int32)), (.int (99 : Int32)), (.int (116 : Int32)), (.int (105 : Int32)), (.int (111 : Int32)), (.int (110 : Int32)), (.int (32 : Int32)), (.int (39 : Int32))] : List Value)) (z := (13 : Int32)) (own_lit2) (by decide) (by decide) (g := (mkF m 22 #[.val (.ref d)] [(.ref a_3)])) rfl (hb hby d_prog717x_22) (n := 52) (by decide +kernel) (by decide) (by decide) (by decide)
  refine own_G.go st_8 ?_
  have Sf_9_a_3 : Safe Z own_EL T_8.vm h_8 a_3 := Cr_8.safe (Nat.lt_of_lt_of_le A_3.lt K_6.1) Sf_7_a_3
  have Sf_9_q_6 : Safe Z own_EL T_8.vm h_8 q_6 := Cr_8.safe V_6.lt Sn_6
  have CH_9 : CHr Z own_EL s.vm h0 T_8.vm h_8 := CH_7.trans Cr_8
  show own_G _ _ _ _ (T_8.setTop (mkF m 24 #[.val (.ref d)] [(.ref al_8), (.ref a_3)]))
  have Es_6'_10 : Exa Z h_8 a_3 "java/lang/StringBuilder" := (Es_6.ext E_8)
  have Fv_6'_11 : Fld Z h_8 a_3 "java/lang/AbstractStringBuilder" "value" "[B" (.ref q_6) := (Fv_6.ext E_8)
  have Fc_6'_12 : Fld Z h_8 a_3 "java/lang/AbstractStringBuilder" "coder" "B" (.int (0 : Int32)) := (Fc_6.ext E_8)
  have Fn_6'_13 : Fld Z h_8 a_3 "java/lang/AbstractStringBuilder" "count" "I" (.int (0 : Int32)) := (Fn_6.ext E_8)
  have W_6'_14 : Arv Z h_8 q_6 kq_6 .byte (16 : Int32) (own_L1 c0 c1 c2 c3) (.int (0 : Int32)) := (W_6.ext E_8)
  have g0_q_6 : n0 ≤ q_6 := Nat.le_trans (Nat.le_trans Z0 E_3.1) lo_6
  have O_15d : Old Z n0 h_8 := ((O_5d.keep K_6 (allS g0_a_3 all0)).ext E_8)
  obtain ⟨cq_16, kq_16, q_16a, q_16b, q_16c⟩ := isOf hZ_8 e_8 Es_6'_10
  obtain ⟨_, T_16, L_16, Q_16, X_16, st_16⟩ := own_callV X_8 hx (z := (⟨"java/lang/StringBuilder", "append", "(Ljava/lang/String;)Ljava/lang/StringBuilder;"⟩ : MethodName)) hown_8 (mvT hZ_8 (own_w hw 148 rfl)) (mvT hZ_8 (own_w hw 149 rfl)) (notFace_of_selects (args := #[]) (mvT hZ_8 (own_w hw 151 rfl))) (mvT hZ_8 (own_w hw 151 rfl)) (mvT hZ_8 (own_w hw 150 rfl)) (by decide) (Q := (QapN Z a_3 q_6 kq_6 (16 : Int32) (0 : Int32) (13 : Int32) ([(.int (116 : Int32)), (.int (114 : Int32)), (.int (97 : Int32)), (.int (110 : Int32)), (.int (115 : Int32)), (.int (97 : Int32)), (.int (99 : Int32)), (.int (116 : Int32)), (.int (105 : Int32)), (.int (111 : Int32)), (.int (110 : Int32)), (.int (32 : Int32)), (.int (39 : Int32))] : List Value) (own_L1 c0 c1 c2 c3) h_8 n0)) (backOf (W := 0) (rm_asN l Z a0 hw [] a_3 al_8 bl_8 q_6 kl_8 kq_6 (16 : Int32) (0 : Int32) (13 : Int32) ([(.int (116 : Int32)), (.int (114 : Int32)), (.int (97 : Int32)), (.int (110 : Int32)), (.int (115 : Int32)), (.int (97 : Int32)), (.int (99 : Int32)), (.int (116 : Int32)), (.int (105 : Int32)), (.int (111 : Int32)), (.int (110 : Int32)), (.int (32 : Int32)), (.int (39 : Int32))] : List Value) (own_L1 c0 c1 c2 c3) zc h_8 n0 (Nat.le_trans Z0 (Nat.le_trans (Nat.le_trans E_3.1 K_6.1) E_8.1)) Es_6'_10 Fv_6'_11 Fc_6'_12 Fn_6'_13 Ex_8 Fc_8 Fv_8 Va_8 W_6'_14 g0_q_6 (Nat.ne_of_lt (Nat.lt_of_lt_of_le A_3.lt lo_6)) (Nat.le_of_ble_eq_true rfl) (by decide) g0_a_3 rfl (by decide) (by decide) (by decide) O2 P5 O_15d) hZ_8 (own_w hw 152 rfl) (own_w hw 131 rfl) (by decide) (by decide)) q_16a q_16c (g := (mkF m 24 #[.val (.ref d)] [(.ref al_8), (.ref a_3)])) rfl (by rw [hml]; rfl) (argsL := [(.ref al_8)]) (rest := []) (lenOf pd_26 rfl) rfl (by show 2 * 0 + _ ≤ _; exact Nat.le_of_eq rfl) (hb hby d_prog717x_24) e_8 rfl (by decide) (by decide)
  obtain ⟨rfl, Nq_16, K_16, Es_16, Fv_16, Fc_16, Fn_16, V_16⟩ := Q_16
  refine own_G.via st_16 ?_
  have Sf_17_a_3 : Safe Z own_EL T_8.vm T_16.heap a_3 := (Safe.keep K_16 (sfS Sf_9_a_3 (sfS Sf_9_q_6 sf0)) CH_9.1 Sf_9_a_3)
  have Sf_17_q_6 : Safe Z own_EL T_8.vm T_16.heap q_6 := (Safe.keep K_16 (sfS Sf_9_a_3 (sfS Sf_9_q_6 sf0)) CH_9.1 Sf_9_q_6)
  have CH_17 : CHr Z own_EL s.vm h0 T_8.vm T_16.heap := CH_9.trans (CHr.keep K_16 (sfS Sf_9_a_3 (sfS Sf_9_q_6 sf0)) CH_9.1)
  have W_16 : Arv Z T_16.heap q_6 kq_6 .byte (16 : Int32) (own_L2 c0 c1 c2 c3) (.int (0 : Int32)) := V_16
  have N_16 := Fr.app N_6 Nq_16
  have G_16 : Fld Z T_16.heap a_3 "java/lang/AbstractStringBuilder" "count" "I" (.int (13 : Int32)) := Fn_16
  show own_G _ _ _ _ (T_16.setTop (mkF m 27 #[.val (.ref d)] [(.ref a_3)]))
  refine own_G.go (fun _ k => XS.aloadN X_16.here hx rfl (hb hby d_prog717x_27) rfl rfl k) ?_
  show own_G _ _ _ _ (T_16.setTop (mkF m 28 #[.val (.ref d)] [(.ref d), (.ref a_3)]))
  have F0'_18 : Fld Z T_16.heap d "com/example/enlist/enlist/definition/TransactionDefinition" "settings" "Lcom/example/enlist/enlist/definition/TransactionDefinition$Settings;" (.ref st) := ((((F0.ext E_3).keep K_6 (ninS (Nat.ne_of_lt (Nat.lt_of_lt_of_le F0.lt (Nat.le_of_eq g_3.symm))) nin0)).ext E_8).keep K_16 (ninS (Nat.ne_of_lt (Nat.lt_of_lt_of_le F0.lt (Nat.le_of_eq g_3.symm))) (ninS (Nat.ne_of_lt (Nat.lt_of_lt_of_le (Nat.lt_of_lt_of_le F0.lt E_3.1) lo_6)) nin0)))
  obtain ⟨T_19, X_19, e_19, st_19⟩ := getF X_16 hx hZ_8 hown_8 (host := "") (Or.inl (own_w hw 32 rfl)) Via.refl rfl F0'_18 (g := (mkF m 28 #[.val (.ref d)] [(.ref d), (.ref a_3)])) rfl rfl (hb hby d_prog717x_28)
  refine own_G.go st_19 ?_
  show own_G _ _ _ _ (T_19.setTop (mkF m 31 #[.val (.ref d)] [(.ref st), (.ref a_3)]))
  have F1'_20 : Fld Z T_16.heap st "com/example/enlist/enlist/definition/TransactionDefinition$Settings" "name" "Ljava/lang/String;" (.ref r) := ((((F1.ext E_3).keep K_6 (ninS (Nat.ne_of_lt (Nat.lt_of_lt_of_le F1.lt (Nat.le_of_eq g_3.symm))) nin0)).ext E_8).keep K_16 (ninS (Nat.ne_of_lt (Nat.lt_of_lt_of_le F1.lt (Nat.le_of_eq g_3.symm))) (ninS (Nat.ne_of_lt (Nat.lt_of_lt_of_le (Nat.lt_of_lt_of_le F1.lt E_3.1) lo_6)) nin0)))
  obtain ⟨T_21, X_21, e_21, st_21⟩ := own_getFR X_19 hx hZ_8 hown_8 (own_w hw 80 rfl) e_19 F1'_20 (g := (mkF m 31 #[.val (.ref d)] [(.ref st), (.ref a_3)])) rfl rfl (hb hby d_prog717x_31)
  refine own_G.go st_21 ?_
  show own_G _ _ _ _ (T_21.setTop (mkF m 34 #[.val (.ref d)] [(.ref r), (.ref a_3)]))
  have E0'_22 : Exa Z T_16.heap r "java/lang/String" := ((((E0.ext E_3).keep K_6).ext E_8).keep K_16)
  have C0'_23 : Fld Z T_16.heap r "java/lang/String" "coder" "B" (.int (0 : Int32)) := ((((C0.ext E_3).keep K_6 (ninS (Nat.ne_of_lt (Nat.lt_of_lt_of_le E0.lt (Nat.le_of_eq g_3.symm))) nin0)).ext E_8).keep K_16 (ninS (Nat.ne_of_lt (Nat.lt_of_lt_of_le E0.lt (Nat.le_of_eq g_3.symm))) (ninS (Nat.ne_of_lt (Nat.lt_of_lt_of_le (Nat.lt_of_lt_of_le E0.lt E_3.1) lo_6)) nin0)))
  have V0'_24 : Fld Z T_16.heap r "java/lang/String" "value" "[B" (.ref t) := ((((V0.ext E_3).keep K_6 (ninS (Nat.ne_of_lt (Nat.lt_of_lt_of_le E0.lt (Nat.le_of_eq g_3.symm))) nin0)).ext E_8).keep K_16 (ninS (Nat.ne_of_lt (Nat.lt_of_lt_of_le E0.lt (Nat.le_of_eq g_3.symm))) (ninS (Nat.ne_of_lt (Nat.lt_of_lt_of_le (Nat.lt_of_lt_of_le E0.lt E_3.1) lo_6)) nin0)))
  have K1'_25 : Arv Z T_16.heap t kt .byte (0 : Int32) (own_L0 c0 c1 c2 c3) (.int (0 : Int32)) := ((((K1.ext E_3).keep K_6 (ninS (Nat.ne_of_lt (Nat.lt_of_lt_of_le K1.lt (Nat.le_of_eq g_3.symm))) nin0)).ext E_8).keep K_16 (ninS (Nat.ne_of_lt (Nat.lt_of_lt_of_le K1.lt (Nat.le_of_eq g_3.symm))) (ninS (Nat.ne_of_lt (Nat.lt_of_lt_of_le (Nat.lt_of_lt_of_le K1.lt E_3.1) lo_6)) nin0)))
  have O_26d : Old Z n0 T_16.heap := (O_15d.keep K_16 (allS g0_a_3 (allS g0_q_6 all0)))
  obtain ⟨cq_27, kq_27, q_27a, q_27b, q_27c⟩ := isOf hZ_8 e_21 Es_16
  obtain ⟨_, T_27, L_27, Q_27, X_27, st_27⟩ := own_callV X_21 hx (z := (⟨"java/lang/StringBuilder", "append", "(Ljava/lang/String;)Ljava/lang/StringBuilder;"⟩ : MethodName)) hown_8 (mvT hZ_8 (own_w hw 148 rfl)) (mvT hZ_8 (own_w hw 149 rfl)) (notFace_of_selects (args := #[]) (mvT hZ_8 (own_w hw 151 rfl))) (mvT hZ_8 (own_w hw 151 rfl)) (mvT hZ_8 (own_w hw 150 rfl)) (by decide) (Q := (QapN Z a_3 q_6 kq_6 (16 : Int32) (13 : Int32) (0 : Int32) (own_L0 c0 c1 c2 c3) (own_L2 c0 c1 c2 c3) T_16.heap n0)) (backOf (W := 0) (rm_asN l Z a0 hw [] a_3 r t q_6 kt kq_6 (16 : Int32) (13 : Int32) (0 : Int32) (own_L0 c0 c1 c2 c3) (own_L2 c0 c1 c2 c3) zc T_16.heap n0 (Nat.le_trans Z0 (Nat.le_trans (Nat.le_trans (Nat.le_trans E_3.1 K_6.1) E_8.1) K_16.1)) Es_16 Fv_16 Fc_16 G_16 E0'_22 C0'_23 V0'_24 K1'_25 W_16 g0_q_6 (Nat.ne_of_lt (Nat.lt_of_lt_of_le A_3.lt lo_6)) (Nat.le_of_ble_eq_true rfl) (by decide) g0_a_3 rfl (by decide) (by decide) (by decide) O2 P5 O_26d) hZ_8 (own_w hw 152 rfl) (own_w hw 131 rfl) (by decide) (by decide)) q_27a q_27c (g := (mkF m 34 #[.val (.ref d)] [(.ref r), (.ref a_3)])) rfl (by rw [hml]; rfl) (argsL := [(.ref r)]) (rest := []) (lenOf pd_26 rfl) rfl (by show 2 * 0 + _ ≤ _; exact Nat.le_of_eq rfl) (hb hby d_prog717x_34) e_21 rfl (by decide) (by decide)
  obtain ⟨rfl, Nq_27, K_27, Es_27, Fv_27, Fc_27, Fn_27, V_27⟩ := Q_27
  refine own_G.via st_27 ?_
  have Sf_28_a_3 : Safe Z own_EL T_8.vm T_27.heap a_3 := (Safe.keep K_27 (sfS Sf_17_a_3 (sfS Sf_17_q_6 sf0)) CH_17.1 Sf_17_a_3)
  have Sf_28_q_6 : Safe Z own_EL T_8.vm T_27.heap q_6 := (Safe.keep K_27 (sfS Sf_17_a_3 (sfS Sf_17_q_6 sf0)) CH_17.1 Sf_17_q_6)
  have CH_28 : CHr Z own_EL s.vm h0 T_8.vm T_27.heap := CH_17.trans (CHr.keep K_27 (sfS Sf_17_a_3 (sfS Sf_17_q_6 sf0)) CH_17.1)
  have W_27 : Arv Z T_27.heap q_6 kq_6 .byte (16 : Int32) (own_L2 c0 c1 c2 c3) (.int (0 : Int32)) := V_27
  have N_27 := Fr.app N_16 Nq_27
  have G_27 : Fld Z T_27.heap a_3 "java/lang/AbstractStringBuilder" "count" "I" (.int (13 : Int32)) := Fn_27
  show own_G _ _ _ _ (T_27.setTop (mkF m 37 #[.val (.ref d)] [(.ref a_3)]))
  obtain ⟨al_29, T_29, h_29, k_29, bl_29, kl_29, X_29, e_29, E_29, hS_29, hk_29, hZ_29, hown_29, Ex_29, Fc_29, Fv_29, Va_29, lta_29, ltb_29, Cr_29, -, hne_29, st_29⟩ := ldcCH X_27 hx hZ_8 hown_8 (own_w hw 196 rfl) hstr rfl hS_8 (Nat.le_trans hk_8 (Nat.le_trans K_16.1 K_27.1)) hEW (by simp [own_EL]) CH_28.1 (vs := ([(.int (39 : Int32))] : List Value)) (z := (1 : Int32)) (own_lit3) (by decide) (by decide) (g := (mkF m 37 #[.val (.ref d)] [(.ref a_3)])) rfl (hb hby d_prog717x_37) (n := 4) (by decide +kernel) (by decide) (by decide) (by decide)
  refine own_G.go st_29 ?_
  have Sf_30_a_3 : Safe Z own_EL T_29.vm h_29 a_3 := Cr_29.safe (Nat.lt_of_lt_of_le A_3.lt (Nat.le_trans (Nat.le_trans (Nat.le_trans K_6.1 E_8.1) K_16.1) K_27.1)) Sf_28_a_3
  have Sf_30_q_6 : Safe Z own_EL T_29.vm h_29 q_6 := Cr_29.safe (Nat.lt_of_lt_of_le V_6.lt (Nat.le_trans (Nat.le_trans E_8.1 K_16.1) K_27.1)) Sf_28_q_6
  have CH_30 : CHr Z own_EL s.vm h0 T_29.vm h_29 := CH_28.trans Cr_29
  show own_G _ _ _ _ (T_29.setTop (mkF m 39 #[.val (.ref d)] [(.ref al_29), (.ref a_3)]))
  have Es_27'_31 : Exa Z h_29 a_3 "java/lang/StringBuilder" := (Es_27.ext E_29)
  have Fv_27'_32 : Fld Z h_29 a_3 "java/lang/AbstractStringBuilder" "value" "[B" (.ref q_6) := (Fv_27.ext E_29)
  have Fc_27'_33 : Fld Z h_29 a_3 "java/lang/AbstractStringBuilder" "coder" "B" (.int (0 : Int32)) := (Fc_27.ext E_29)
  have G_27'_34 : Fld Z h_29 a_3 "java/lang/AbstractStringBuilder" "count" "I" (.int (13 : Int32)) := (G_27.ext E_29)
  have W_27'_35 : Arv Z h_29 q_6 kq_6 .byte (16 : Int32) (own_L2 c0 c1 c2 c3) (.int (0 : Int32)) := (W_27.ext E_29)
  have O_36d : Old Z n0 h_29 := ((O_26d.keep K_27 (allS g0_a_3 (allS g0_q_6 all0))).ext E_29)
  obtain ⟨cq_37, kq_37, q_37a, q_37b, q_37c⟩ := isOf hZ_29 e_29 Es_27'_31
  obtain ⟨_, T_37, L_37, Q_37, X_37, st_37⟩ := own_callV X_29 hx (z := (⟨"java/lang/StringBuilder", "append", "(Ljava/lang/String;)Ljava/lang/StringBuilder;"⟩ : MethodName)) hown_29 (mvT hZ_29 (own_w hw 148 rfl)) (mvT hZ_29 (own_w hw 149 rfl)) (notFace_of_selects (args := #[]) (mvT hZ_29 (own_w hw 151 rfl))) (mvT hZ_29 (own_w hw 151 rfl)) (mvT hZ_29 (own_w hw 150 rfl)) (by decide) (Q := (QapN Z a_3 q_6 kq_6 (16 : Int32) (13 : Int32) (1 : Int32) ([(.int (39 : Int32))] : List Value) (own_L2 c0 c1 c2 c3) h_29 n0)) (backOf (W := 0) (rm_asN l Z a0 hw [] a_3 al_29 bl_29 q_6 kl_29 kq_6 (16 : Int32) (13 : Int32) (1 : Int32) ([(.int (39 : Int32))] : List Value) (own_L2 c0 c1 c2 c3) zc h_29 n0 (Nat.le_trans Z0 (Nat.le_trans (Nat.le_trans (Nat.le_trans (Nat.le_trans (Nat.le_trans E_3.1 K_6.1) E_8.1) K_16.1) K_27.1) E_29.1)) Es_27'_31 Fv_27'_32 Fc_27'_33 G_27'_34 Ex_29 Fc_29 Fv_29 Va_29 W_27'_35 g0_q_6 (Nat.ne_of_lt (Nat.lt_of_lt_of_le A_3.lt lo_6)) (Nat.le_of_ble_eq_true rfl) (by decide) g0_a_3 rfl (by decide) (by decide) (by decide) O2 P5 O_36d) hZ_29 (own_w hw 152 rfl) (own_w hw 131 rfl) (by decide) (by decide)) q_37a q_37c (g := (mkF m 39 #[.val (.ref d)] [(.ref al_29), (.ref a_3)])) rfl (by rw [hml]; rfl) (argsL := [(.ref al_29)]) (rest := []) (lenOf pd_26 rfl) rfl (by show 2 * 0 + _ ≤ _; exact Nat.le_of_eq rfl) (hb hby d_prog717x_39) e_29 rfl (by decide) (by decide)
  obtain ⟨rfl, Nq_37, K_37, Es_37, Fv_37, Fc_37, Fn_37, V_37⟩ := Q_37
  refine own_G.via st_37 ?_
  have Sf_38_a_3 : Safe Z own_EL T_29.vm T_37.heap a_3 := (Safe.keep K_37 (sfS Sf_30_a_3 (sfS Sf_30_q_6 sf0)) CH_30.1 Sf_30_a_3)
  have Sf_38_q_6 : Safe Z own_EL T_29.vm T_37.heap q_6 := (Safe.keep K_37 (sfS Sf_30_a_3 (sfS Sf_30_q_6 sf0)) CH_30.1 Sf_30_q_6)
  have CH_38 : CHr Z own_EL s.vm h0 T_29.vm T_37.heap := CH_30.trans (CHr.keep K_37 (sfS Sf_30_a_3 (sfS Sf_30_q_6 sf0)) CH_30.1)
  have W_37 : Arv Z T_37.heap q_6 kq_6 .byte (16 : Int32) (own_L3 c0 c1 c2 c3) (.int (0 : Int32)) := V_37
  have N_37 := Fr.app N_27 Nq_37
  have G_37 : Fld Z T_37.heap a_3 "java/lang/AbstractStringBuilder" "count" "I" (.int (14 : Int32)) := Fn_37
  show own_G _ _ _ _ (T_37.setTop (mkF m 42 #[.val (.ref d)] [(.ref a_3)]))
  have O_39d : Old Z n0 T_37.heap := (O_36d.keep K_37 (allS g0_a_3 (allS g0_q_6 all0)))
  obtain ⟨cq_40, kq_40, q_40a, q_40b, q_40c⟩ := isOf hZ_29 rfl Es_37
  obtain ⟨_, T_40, L_40, Q_40, X_40, st_40⟩ := own_callV X_37 hx (z := (⟨"java/lang/StringBuilder", "toString", "()Ljava/lang/String;"⟩ : MethodName)) hown_29 (mvT hZ_29 (own_w hw 197 rfl)) (mvT hZ_29 (own_w hw 198 rfl)) (notFace_of_selects (args := #[]) (mvT hZ_29 (own_w hw 200 rfl))) (mvT hZ_29 (own_w hw 200 rfl)) (mvT hZ_29 (own_w hw 199 rfl)) (by decide) (Q := (Qts Z (14 : Int32) (own_cr (own_L3 c0 c1 c2 c3) (14 : Int32)) T_37.heap n0)) (backOf (W := 0) (rm_stsC l Z a0 hw [] a_3 q_6 kq_6 (16 : Int32) (14 : Int32) (own_L3 c0 c1 c2 c3) zc T_37.heap n0 (Nat.le_trans Z0 (Nat.le_trans (Nat.le_trans (Nat.le_trans (Nat.le_trans (Nat.le_trans (Nat.le_trans E_3.1 K_6.1) E_8.1) K_16.1) K_27.1) E_29.1) K_37.1)) Es_37 Fv_37 Fc_37 G_37 W_37 (by decide) (by decide) (by decide) (by decide) (by decide) O2 P5 O_39d) hZ_29 (own_w hw 201 rfl) (own_w hw 131 rfl) (by decide) (by decide)) q_40a q_40c (g := (mkF m 42 #[.val (.ref d)] [(.ref a_3)])) rfl (by rw [hml]; rfl) (argsL := []) (rest := []) (lenOf pd_27 rfl) rfl (by show 2 * 0 + _ ≤ _; exact Nat.le_of_eq rfl) (hb hby d_prog717x_42) rfl rfl (by decide) (by decide)
  obtain ⟨r_40, t_40, kt_40, rfl, Nq_40, K_40, lo_40, Ex_40, Fc_40, Fv_40, V_40⟩ := Q_40
  refine own_G.via st_40 ?_
  have Sf_41_a_3 : Safe Z own_EL T_29.vm T_40.heap a_3 := (Safe.keep K_40 sf0 CH_38.1 Sf_38_a_3)
  have Sf_41_q_6 : Safe Z own_EL T_29.vm T_40.heap q_6 := (Safe.keep K_40 sf0 CH_38.1 Sf_38_q_6)
  have CH_41 : CHr Z own_EL s.vm h0 T_29.vm T_40.heap := CH_38.trans (CHr.keep K_40 sf0 CH_38.1)
  have W_40 : Arv Z T_40.heap t_40 kt_40 .byte (Int32.ofNat (own_tx (0 : Int32) c0 c1 c2 c3).length) (((own_tx (0 : Int32) c0 c1 c2 c3).map (fun c => c.toInt8.toInt32)).map Value.int) (.int (0 : Int32)) := V_40
  have N_40 := Fr.app N_37 Nq_40
  show own_G _ _ _ _ (T_40.setTop (mkF m 45 #[.val (.ref d)] [(.ref r_40)]))
  exact own_G.endH X_40 hS_29 (Nat.le_trans hk_29 (Nat.le_trans K_37.1 K_40.1)) hZ_29 hEW (hh ▸ CH_41) hlk (v := (some (.ref r_40))) (fun h => by rw [hrt] at h; cases h) (fun fs hr => retOut X_40 hx hrt rfl (Or.inr (Or.inr (Or.inr (Or.inr ⟨rfl, rfl, rfl⟩)))) (hb hby d_prog717x_45) hr) rfl ⟨r_40, t_40, kt_40, rfl, N_40, (((((((((Keep.refl h0 []).ext E_3).trans K_6 (allS (Or.inr (Nat.le_of_eq g_3.symm)) all0)).ext E_8).trans K_16 (allS (Or.inr (Nat.le_of_eq g_3.symm)) (allS (Or.inr (Nat.le_trans E_3.1 lo_6)) all0))).trans K_27 (allS (Or.inr (Nat.le_of_eq g_3.symm)) (allS (Or.inr (Nat.le_trans E_3.1 lo_6)) all0))).ext E_29).trans K_37 (allS (Or.inr (Nat.le_of_eq g_3.symm)) (allS (Or.inr (Nat.le_trans E_3.1 lo_6)) all0))).trans K_40 all0), Ex_40, Fc_40, Fv_40, W_40⟩ (by decide) (by decide)
set_option maxRecDepth 65536 in
set_option maxHeartbeats 40000000 in
theorem rm_ts1 (l : Launch) (Z : State) (a0 : Array Value) (hw : ∀ d ∈ tables_1, d.before a0 Z = true) (ws : List Jvm.Cond) (c0 c1 c2 c3 : Int32) (d st r t : Addr) (kt : ClassId) (zc : Int32) (h0 : Heap) (n0 : Nat) (Z0 : n0 ≤ h0.size) (b0 : own_b c0) (b1 : own_b c1) (b2 : own_b c2) (b3 : own_b c3) (F0 : Fld Z h0 d "com/example/enlist/enlist/definition/TransactionDefinition" "settings" "Lcom/example/enlist/enlist/definition/TransactionDefinition$Settings;" (.ref st)) (F1 : Fld Z h0 st "com/example/enlist/enlist/definition/TransactionDefinition$Settings" "name" "Ljava/lang/String;" (.ref r)) (E0 : Exa Z h0 r "java/lang/String") (C0 : Fld Z h0 r "java/lang/String" "coder" "B" (.int (0 : Int32))) (V0 : Fld Z h0 r "java/lang/String" "value" "[B" (.ref t)) (K0 : Arv Z h0 t kt .byte (Int32.ofNat (own_cs (1 : Int32) c0 c1 c2 c3).length) (((own_cs (1 : Int32) c0 c1 c2 c3).map (fun c => c.toInt8.toInt32)).map Value.int) (.int (0 : Int32))) (O2 : Sta Z Z.heap "java/lang/String" "COMPACT_STRINGS" "Z" (.int zc)) (P5 : ¬ (zc = (0 : Int32))) (X00 : Old Z n0 h0) :
    MetFree l (⟨"com/example/enlist/enlist/definition/TransactionDefinition", "toString", "()Ljava/lang/String;"⟩ : MethodName) (head1 (Jvm.Cond.code (⟨"com/example/enlist/enlist/definition/TransactionDefinition", "toString", "()Ljava/lang/String;"⟩ : MethodName) prog_7_method_17_code 1 (some (.object "java/lang/String")) :: ws) ({ frames := 6, cells := 9, slots := 140, locals := 91 } : Room)) (fun a_ U => a_ = #[(.ref d)] ∧ Z.Warmed39 U.vm ∧ U.heap = h0 ∧ CHv Z own_EL U.vm h0) (fun _ _ _ _ _ => True) (fun _ U o U' => ∃ v L, o = .returned v ∧ Qt Z (1 : Int32) c0 c1 c2 c3 h0 n0 v U'.heap L ∧ CHr Z own_EL U.vm U.heap U'.vm U'.heap ∧ ReturnedEndW U o U' L ({ frames := 6, cells := 9, slots := 140, locals := 91 } : Room).cells ({ frames := 6, cells := 9, slots := 140, locals := 91 } : Room).slots) := by
  refine MetFree.of_bodySF (plainFor_of_name pn_10) hisR ?_
  intro p e s m args below meth c s₁ Bd hml0 hP hK
  obtain ⟨rfl, hZ, hh, hCH⟩ := hP
  have hx := Bd.exec
  have hby := Bd.bytes
  have hrt := Bd.returns
  have hlk : meth.locks = false := Bd.notSynchronized
  have hml : c.maxLocals = 1 := hml0
  have hown : s.vm.findClass "com/example/enlist/enlist/definition/TransactionDefinition" = some m.cls := findClass_of_methodNamed Bd.named
  have hnm := (name_of_methodNamed Bd.named Bd.method).1
  have X0 : Stand p l e ({ frames := 6, cells := 9, slots := 140, locals := 91 } : Room) (s.setVm s.vm) m #[(.ref d)] below meth c s₁ [] 0 0 := Stand.of_body Bd
  have e0 : s₁.heap = h0 := by rw [← hh, Bd.state]; rfl
  have N0 := Fr.nil n0
  have hS0 : s.Since s.vm 0 := own_since s 0
  have hstr : ∀ d ∈ Bundle.stringAtoms, d.before a0 Z = true := fun d hd => hw d ((by decide +kernel : ∀ d ∈ Bundle.stringAtoms, d ∈ tables_1) d hd)
  have hEW : EW Z a0 own_EL := own_EW hw
  have CH0 : CHr Z own_EL s.vm h0 s.vm h0 := CHr.refl hCH
  show own_G p.tables e below (fun o t => ∃ v L, o = .returned v ∧ Qt Z (1 : Int32) c0 c1 c2 c3 h0 n0 v t.heap L ∧ CHr Z own_EL s.vm s.heap t.vm t.heap ∧ ReturnedEndW s o t L ({ frames := 6, cells := 9, slots := 140, locals := 91 } : Room).cells ({ frames := 6, cells := 9, slots := 140, locals := 91 } : Room).slots) (s₁.setTop (entryFrame m #[(.ref d)] 1))
  refine own_G.cast (show entryFrame m #[(.ref d)] 1 = mkF m 0 #[.val (.ref d)] [] from by first | (simp [entryFrame, mkF, argsToLocals, Value.category]; done) | rfl) ?_
  have K1 : Arv Z h0 t kt .byte (1 : Int32) (own_L4 c0 c1 c2 c3) (.int (0 : Int32)) := K0
  refine own_G.go (fun _ k => XS.aloadN X0.here hx rfl (hb hby d_prog717x_0) rfl rfl k) ?_
  show own_G _ _ _ _ (s₁.setTop (mkF m 1 #[.val (.ref d)] [(.ref d)]))
  obtain ⟨T_1, X_1, e_1, st_1⟩ := getF X0 hx hZ hown (host := "") (Or.inl (own_w hw 32 rfl)) Via.refl e0 F0 (g := (mkF m 1 #[.val (.ref d)] [(.ref d)])) rfl rfl (hb hby d_prog717x_1)
  refine own_G.go st_1 ?_
  show own_G _ _ _ _ (T_1.setTop (mkF m 4 #[.val (.ref d)] [(.ref st)]))
  obtain ⟨T_2, X_2, e_2, st_2⟩ := own_getFR X_1 hx hZ hown (own_w hw 80 rfl) e_1 F1 (g := (mkF m 4 #[.val (.ref d)] [(.ref st)])) rfl rfl (hb hby d_prog717x_4)
  refine own_G.go st_2 ?_
  show own_G _ _ _ _ (T_2.setTop (mkF m 7 #[.val (.ref d)] [(.ref r)]))
  refine own_G.go (fun _ k => XS.ifnonnullYes X_2.here hx rfl (pc0 := 7) (pc' := 15) rfl (hb hby d_prog717x_7) rfl (by decide) (by decide) k) ?_
  show own_G _ _ _ _ (T_2.setTop (mkF m 15 #[.val (.ref d)] []))
  obtain ⟨T_3, h_3, X_3, e_3, E_3, A_3, D_3, -, st_3⟩ := newO X_2 hx hZ hown (own_w hw 129 rfl) (own_w hw 130 rfl) (own_w hw 131 rfl) e_2 (g := (mkF m 15 #[.val (.ref d)] [])) rfl (hb hby d_prog717x_15) (by decide) (by decide)
  obtain ⟨a_3, g_3⟩ : ∃ z, z = h0.size := ⟨_, rfl⟩
  rw [← g_3] at A_3 D_3 st_3
  refine own_G.go st_3 ?_
  have CH_4 : CHr Z own_EL s.vm h0 s.vm h_3 := CH0.trans (CHr.ext E_3 CH0.1)
  have F_3_value : Fld Z h_3 a_3 "java/lang/AbstractStringBuilder" "value" "[B" .null := D_3 (Or.inl (own_w hw 144 rfl)) (ty := (.array .byte)) (by decide)
  have F_3_coder : Fld Z h_3 a_3 "java/lang/AbstractStringBuilder" "coder" "B" (.int (0 : Int32)) := D_3 (Or.inl (own_w hw 146 rfl)) (ty := .byte) (by decide)
  have F_3_count : Fld Z h_3 a_3 "java/lang/AbstractStringBuilder" "count" "I" (.int (0 : Int32)) := D_3 (Or.inl (own_w hw 170 rfl)) (ty := .int) (by decide)
  show own_G _ _ _ _ (T_3.setTop (mkF m 18 #[.val (.ref d)] [(.ref a_3)]))
  refine own_G.go (fun _ k => XS.dup X_3.here hx rfl (hb hby d_prog717x_18) rfl rfl k) ?_
  show own_G _ _ _ _ (T_3.setTop (mkF m 19 #[.val (.ref d)] [(.ref a_3), (.ref a_3)]))
  have Ssb : Safe Z own_EL s.vm h_3 a_3 := (Safe.exa hZ.alike A_3 (by decide) (by decide))
  have g0_a_3 : n0 ≤ a_3 := Nat.le_trans Z0 (Nat.le_of_eq g_3.symm)
  have O_5d : Old Z n0 h_3 := (X00.ext E_3)
  obtain ⟨_, T_6, L_6, Q_6, X_6, st_6⟩ := own_callI X_3 hx rfl hown (mvT hZ (own_w hw 132 rfl)) (mvT hZ (own_w hw 133 rfl)) (mvT hZ (own_w hw 134 rfl)) (by decide) (Q := (Qsb Z a_3 h_3 n0)) (backOf (W := 1) (rm_sbi l Z a0 hw [] a_3 zc h_3 n0 (Nat.le_trans Z0 E_3.1) g0_a_3 A_3 F_3_value F_3_coder F_3_count O2 P5 O_5d) hZ (own_w hw 134 rfl) (own_w hw 131 rfl) (by decide) (by decide)) (a := a_3) (g := (mkF m 19 #[.val (.ref d)] [(.ref a_3), (.ref a_3)])) rfl (by rw [hml]; rfl) (argsL := []) (rest := [(.ref a_3)]) (lenOf pd_20 rfl) rfl (by show 2 * 0 + _ ≤ _; exact Nat.le_of_eq rfl) (hb hby d_prog717x_19) e_3 rfl (by decide) (by decide)
  obtain ⟨q_6, kq_6, rfl, Nq_6, K_6, lo_6, Es_6, Fv_6, Fc_6, Fn_6, Eb_6, V_6⟩ := Q_6
  refine own_G.via st_6 ?_
  have Sf_7_a_3 : Safe Z own_EL s.vm T_6.heap a_3 := (Safe.keep K_6 (sfS Ssb sf0) CH_4.1 Ssb)
  have CH_7 : CHr Z own_EL s.vm h0 s.vm T_6.heap := CH_4.trans (CHr.keep K_6 (sfS Ssb sf0) CH_4.1)
  have Sn_6 : Safe Z own_EL s.vm T_6.heap q_6 := Safe.keep K_6 (sfS Ssb sf0) CH_4.1 (Safe.new lo_6)
  have W_6 : Arv Z T_6.heap q_6 kq_6 .byte (16 : Int32) (own_L1 c0 c1 c2 c3) (.int (0 : Int32)) := V_6
  have N_6 := Fr.app N0 Nq_6
  show own_G _ _ _ _ (T_6.setTop (mkF m 22 #[.val (.ref d)] [(.ref a_3)]))
  obtain ⟨al_8, T_8, h_8, k_8, bl_8, kl_8, X_8, e_8, E_8, hS_8, hk_8, hZ_8, hown_8, Ex_8, Fc_8, Fv_8, Va_8, lta_8, ltb_8, Cr_8, -, hne_8, st_8⟩ := ldcCH X_6 hx hZ hown (own_w hw 147 rfl) hstr rfl hS0 (Nat.le_trans (Nat.zero_le _) (Nat.le_trans E_3.1 K_6.1)) hEW (by simp [own_EL]) CH_7.1 (vs := ([(.int (116 : Int32)), (.int (114 : Int32)), (.int (97 : Int32)), (.int (110 : Int32)), (.int (115 : Int32)), (.int (97 : Int32)), (.int (99 : Int32)), (.int (116 : Int32)), (.int (105 : Int32)), (.int (111 : Int32)), (.int (110 : Int32)), (.int (32 : Int32)), (.int (39 : Int32))] : List Value)) (z := (13 : Int32)) (own_lit2) (by decide) (by decide) (g := (mkF m 22 #[.val (.ref d)] [(.ref a_3)])) rfl (hb hby d_prog717x_22) (n := 52) (by decide +kernel) (by decide) (by decide) (by decide)
  refine own_G.go st_8 ?_
  have Sf_9_a_3 : Safe Z own_EL T_8.vm h_8 a_3 := Cr_8.safe (Nat.lt_of_lt_of_le A_3.lt K_6.1) Sf_7_a_3
  have Sf_9_q_6 : Safe Z own_EL T_8.vm h_8 q_6 := Cr_8.safe V_6.lt Sn_6
  have CH_9 : CHr Z own_EL s.vm h0 T_8.vm h_8 := CH_7.trans Cr_8
  show own_G _ _ _ _ (T_8.setTop (mkF m 24 #[.val (.ref d)] [(.ref al_8), (.ref a_3)]))
  have Es_6'_10 : Exa Z h_8 a_3 "java/lang/StringBuilder" := (Es_6.ext E_8)
  have Fv_6'_11 : Fld Z h_8 a_3 "java/lang/AbstractStringBuilder" "value" "[B" (.ref q_6) := (Fv_6.ext E_8)
  have Fc_6'_12 : Fld Z h_8 a_3 "java/lang/AbstractStringBuilder" "coder" "B" (.int (0 : Int32)) := (Fc_6.ext E_8)
  have Fn_6'_13 : Fld Z h_8 a_3 "java/lang/AbstractStringBuilder" "count" "I" (.int (0 : Int32)) := (Fn_6.ext E_8)
  have W_6'_14 : Arv Z h_8 q_6 kq_6 .byte (16 : Int32) (own_L1 c0 c1 c2 c3) (.int (0 : Int32)) := (W_6.ext E_8)
  have g0_q_6 : n0 ≤ q_6 := Nat.le_trans (Nat.le_trans Z0 E_3.1) lo_6
  have O_15d : Old Z n0 h_8 := ((O_5d.keep K_6 (allS g0_a_3 all0)).ext E_8)
  obtain ⟨cq_16, kq_16, q_16a, q_16b, q_16c⟩ := isOf hZ_8 e_8 Es_6'_10
  obtain ⟨_, T_16, L_16, Q_16, X_16, st_16⟩ := own_callV X_8 hx (z := (⟨"java/lang/StringBuilder", "append", "(Ljava/lang/String;)Ljava/lang/StringBuilder;"⟩ : MethodName)) hown_8 (mvT hZ_8 (own_w hw 148 rfl)) (mvT hZ_8 (own_w hw 149 rfl)) (notFace_of_selects (args := #[]) (mvT hZ_8 (own_w hw 151 rfl))) (mvT hZ_8 (own_w hw 151 rfl)) (mvT hZ_8 (own_w hw 150 rfl)) (by decide) (Q := (QapN Z a_3 q_6 kq_6 (16 : Int32) (0 : Int32) (13 : Int32) ([(.int (116 : Int32)), (.int (114 : Int32)), (.int (97 : Int32)), (.int (110 : Int32)), (.int (115 : Int32)), (.int (97 : Int32)), (.int (99 : Int32)), (.int (116 : Int32)), (.int (105 : Int32)), (.int (111 : Int32)), (.int (110 : Int32)), (.int (32 : Int32)), (.int (39 : Int32))] : List Value) (own_L1 c0 c1 c2 c3) h_8 n0)) (backOf (W := 0) (rm_asN l Z a0 hw [] a_3 al_8 bl_8 q_6 kl_8 kq_6 (16 : Int32) (0 : Int32) (13 : Int32) ([(.int (116 : Int32)), (.int (114 : Int32)), (.int (97 : Int32)), (.int (110 : Int32)), (.int (115 : Int32)), (.int (97 : Int32)), (.int (99 : Int32)), (.int (116 : Int32)), (.int (105 : Int32)), (.int (111 : Int32)), (.int (110 : Int32)), (.int (32 : Int32)), (.int (39 : Int32))] : List Value) (own_L1 c0 c1 c2 c3) zc h_8 n0 (Nat.le_trans Z0 (Nat.le_trans (Nat.le_trans E_3.1 K_6.1) E_8.1)) Es_6'_10 Fv_6'_11 Fc_6'_12 Fn_6'_13 Ex_8 Fc_8 Fv_8 Va_8 W_6'_14 g0_q_6 (Nat.ne_of_lt (Nat.lt_of_lt_of_le A_3.lt lo_6)) (Nat.le_of_ble_eq_true rfl) (by decide) g0_a_3 rfl (by decide) (by decide) (by decide) O2 P5 O_15d) hZ_8 (own_w hw 152 rfl) (own_w hw 131 rfl) (by decide) (by decide)) q_16a q_16c (g := (mkF m 24 #[.val (.ref d)] [(.ref al_8), (.ref a_3)])) rfl (by rw [hml]; rfl) (argsL := [(.ref al_8)]) (rest := []) (lenOf pd_26 rfl) rfl (by show 2 * 0 + _ ≤ _; exact Nat.le_of_eq rfl) (hb hby d_prog717x_24) e_8 rfl (by decide) (by decide)
  obtain ⟨rfl, Nq_16, K_16, Es_16, Fv_16, Fc_16, Fn_16, V_16⟩ := Q_16
  refine own_G.via st_16 ?_
  have Sf_17_a_3 : Safe Z own_EL T_8.vm T_16.heap a_3 := (Safe.keep K_16 (sfS Sf_9_a_3 (sfS Sf_9_q_6 sf0)) CH_9.1 Sf_9_a_3)
  have Sf_17_q_6 : Safe Z own_EL T_8.vm T_16.heap q_6 := (Safe.keep K_16 (sfS Sf_9_a_3 (sfS Sf_9_q_6 sf0)) CH_9.1 Sf_9_q_6)
  have CH_17 : CHr Z own_EL s.vm h0 T_8.vm T_16.heap := CH_9.trans (CHr.keep K_16 (sfS Sf_9_a_3 (sfS Sf_9_q_6 sf0)) CH_9.1)
  have W_16 : Arv Z T_16.heap q_6 kq_6 .byte (16 : Int32) (own_L2 c0 c1 c2 c3) (.int (0 : Int32)) := V_16
  have N_16 := Fr.app N_6 Nq_16
  have G_16 : Fld Z T_16.heap a_3 "java/lang/AbstractStringBuilder" "count" "I" (.int (13 : Int32)) := Fn_16
  show own_G _ _ _ _ (T_16.setTop (mkF m 27 #[.val (.ref d)] [(.ref a_3)]))
  refine own_G.go (fun _ k => XS.aloadN X_16.here hx rfl (hb hby d_prog717x_27) rfl rfl k) ?_
  show own_G _ _ _ _ (T_16.setTop (mkF m 28 #[.val (.ref d)] [(.ref d), (.ref a_3)]))
  have F0'_18 : Fld Z T_16.heap d "com/example/enlist/enlist/definition/TransactionDefinition" "settings" "Lcom/example/enlist/enlist/definition/TransactionDefinition$Settings;" (.ref st) := ((((F0.ext E_3).keep K_6 (ninS (Nat.ne_of_lt (Nat.lt_of_lt_of_le F0.lt (Nat.le_of_eq g_3.symm))) nin0)).ext E_8).keep K_16 (ninS (Nat.ne_of_lt (Nat.lt_of_lt_of_le F0.lt (Nat.le_of_eq g_3.symm))) (ninS (Nat.ne_of_lt (Nat.lt_of_lt_of_le (Nat.lt_of_lt_of_le F0.lt E_3.1) lo_6)) nin0)))
  obtain ⟨T_19, X_19, e_19, st_19⟩ := getF X_16 hx hZ_8 hown_8 (host := "") (Or.inl (own_w hw 32 rfl)) Via.refl rfl F0'_18 (g := (mkF m 28 #[.val (.ref d)] [(.ref d), (.ref a_3)])) rfl rfl (hb hby d_prog717x_28)
  refine own_G.go st_19 ?_
  show own_G _ _ _ _ (T_19.setTop (mkF m 31 #[.val (.ref d)] [(.ref st), (.ref a_3)]))
  have F1'_20 : Fld Z T_16.heap st "com/example/enlist/enlist/definition/TransactionDefinition$Settings" "name" "Ljava/lang/String;" (.ref r) := ((((F1.ext E_3).keep K_6 (ninS (Nat.ne_of_lt (Nat.lt_of_lt_of_le F1.lt (Nat.le_of_eq g_3.symm))) nin0)).ext E_8).keep K_16 (ninS (Nat.ne_of_lt (Nat.lt_of_lt_of_le F1.lt (Nat.le_of_eq g_3.symm))) (ninS (Nat.ne_of_lt (Nat.lt_of_lt_of_le (Nat.lt_of_lt_of_le F1.lt E_3.1) lo_6)) nin0)))
  obtain ⟨T_21, X_21, e_21, st_21⟩ := own_getFR X_19 hx hZ_8 hown_8 (own_w hw 80 rfl) e_19 F1'_20 (g := (mkF m 31 #[.val (.ref d)] [(.ref st), (.ref a_3)])) rfl rfl (hb hby d_prog717x_31)
  refine own_G.go st_21 ?_
  show own_G _ _ _ _ (T_21.setTop (mkF m 34 #[.val (.ref d)] [(.ref r), (.ref a_3)]))
  have E0'_22 : Exa Z T_16.heap r "java/lang/String" := ((((E0.ext E_3).keep K_6).ext E_8).keep K_16)
  have C0'_23 : Fld Z T_16.heap r "java/lang/String" "coder" "B" (.int (0 : Int32)) := ((((C0.ext E_3).keep K_6 (ninS (Nat.ne_of_lt (Nat.lt_of_lt_of_le E0.lt (Nat.le_of_eq g_3.symm))) nin0)).ext E_8).keep K_16 (ninS (Nat.ne_of_lt (Nat.lt_of_lt_of_le E0.lt (Nat.le_of_eq g_3.symm))) (ninS (Nat.ne_of_lt (Nat.lt_of_lt_of_le (Nat.lt_of_lt_of_le E0.lt E_3.1) lo_6)) nin0)))
  have V0'_24 : Fld Z T_16.heap r "java/lang/String" "value" "[B" (.ref t) := ((((V0.ext E_3).keep K_6 (ninS (Nat.ne_of_lt (Nat.lt_of_lt_of_le E0.lt (Nat.le_of_eq g_3.symm))) nin0)).ext E_8).keep K_16 (ninS (Nat.ne_of_lt (Nat.lt_of_lt_of_le E0.lt (Nat.le_of_eq g_3.symm))) (ninS (Nat.ne_of_lt (Nat.lt_of_lt_of_le (Nat.lt_of_lt_of_le E0.lt E_3.1) lo_6)) nin0)))
  have K1'_25 : Arv Z T_16.heap t kt .byte (1 : Int32) (own_L4 c0 c1 c2 c3) (.int (0 : Int32)) := ((((K1.ext E_3).keep K_6 (ninS (Nat.ne_of_lt (Nat.lt_of_lt_of_le K1.lt (Nat.le_of_eq g_3.symm))) nin0)).ext E_8).keep K_16 (ninS (Nat.ne_of_lt (Nat.lt_of_lt_of_le K1.lt (Nat.le_of_eq g_3.symm))) (ninS (Nat.ne_of_lt (Nat.lt_of_lt_of_le (Nat.lt_of_lt_of_le K1.lt E_3.1) lo_6)) nin0)))
  have O_26d : Old Z n0 T_16.heap := (O_15d.keep K_16 (allS g0_a_3 (allS g0_q_6 all0)))
  obtain ⟨cq_27, kq_27, q_27a, q_27b, q_27c⟩ := isOf hZ_8 e_21 Es_16
  obtain ⟨_, T_27, L_27, Q_27, X_27, st_27⟩ := own_callV X_21 hx (z := (⟨"java/lang/StringBuilder", "append", "(Ljava/lang/String;)Ljava/lang/StringBuilder;"⟩ : MethodName)) hown_8 (mvT hZ_8 (own_w hw 148 rfl)) (mvT hZ_8 (own_w hw 149 rfl)) (notFace_of_selects (args := #[]) (mvT hZ_8 (own_w hw 151 rfl))) (mvT hZ_8 (own_w hw 151 rfl)) (mvT hZ_8 (own_w hw 150 rfl)) (by decide) (Q := (QapN Z a_3 q_6 kq_6 (16 : Int32) (13 : Int32) (1 : Int32) (own_L4 c0 c1 c2 c3) (own_L2 c0 c1 c2 c3) T_16.heap n0)) (backOf (W := 0) (rm_asN l Z a0 hw [] a_3 r t q_6 kt kq_6 (16 : Int32) (13 : Int32) (1 : Int32) (own_L4 c0 c1 c2 c3) (own_L2 c0 c1 c2 c3) zc T_16.heap n0 (Nat.le_trans Z0 (Nat.le_trans (Nat.le_trans (Nat.le_trans E_3.1 K_6.1) E_8.1) K_16.1)) Es_16 Fv_16 Fc_16 G_16 E0'_22 C0'_23 V0'_24 K1'_25 W_16 g0_q_6 (Nat.ne_of_lt (Nat.lt_of_lt_of_le A_3.lt lo_6)) (Nat.le_of_ble_eq_true rfl) (by decide) g0_a_3 rfl (by decide) (by decide) (by decide) O2 P5 O_26d) hZ_8 (own_w hw 152 rfl) (own_w hw 131 rfl) (by decide) (by decide)) q_27a q_27c (g := (mkF m 34 #[.val (.ref d)] [(.ref r), (.ref a_3)])) rfl (by rw [hml]; rfl) (argsL := [(.ref r)]) (rest := []) (lenOf pd_26 rfl) rfl (by show 2 * 0 + _ ≤ _; exact Nat.le_of_eq rfl) (hb hby d_prog717x_34) e_21 rfl (by decide) (by decide)
  obtain ⟨rfl, Nq_27, K_27, Es_27, Fv_27, Fc_27, Fn_27, V_27⟩ := Q_27
  refine own_G.via st_27 ?_
  have Sf_28_a_3 : Safe Z own_EL T_8.vm T_27.heap a_3 := (Safe.keep K_27 (sfS Sf_17_a_3 (sfS Sf_17_q_6 sf0)) CH_17.1 Sf_17_a_3)
  have Sf_28_q_6 : Safe Z own_EL T_8.vm T_27.heap q_6 := (Safe.keep K_27 (sfS Sf_17_a_3 (sfS Sf_17_q_6 sf0)) CH_17.1 Sf_17_q_6)
  have CH_28 : CHr Z own_EL s.vm h0 T_8.vm T_27.heap := CH_17.trans (CHr.keep K_27 (sfS Sf_17_a_3 (sfS Sf_17_q_6 sf0)) CH_17.1)
  have W_27 : Arv Z T_27.heap q_6 kq_6 .byte (16 : Int32) (own_L5 c0 c1 c2 c3) (.int (0 : Int32)) := V_27
  have N_27 := Fr.app N_16 Nq_27
  have G_27 : Fld Z T_27.heap a_3 "java/lang/AbstractStringBuilder" "count" "I" (.int (14 : Int32)) := Fn_27
  show own_G _ _ _ _ (T_27.setTop (mkF m 37 #[.val (.ref d)] [(.ref a_3)]))
  obtain ⟨al_29, T_29, h_29, k_29, bl_29, kl_29, X_29, e_29, E_29, hS_29, hk_29, hZ_29, hown_29, Ex_29, Fc_29, Fv_29, Va_29, lta_29, ltb_29, Cr_29, -, hne_29, st_29⟩ := ldcCH X_27 hx hZ_8 hown_8 (own_w hw 196 rfl) hstr rfl hS_8 (Nat.le_trans hk_8 (Nat.le_trans K_16.1 K_27.1)) hEW (by simp [own_EL]) CH_28.1 (vs := ([(.int (39 : Int32))] : List Value)) (z := (1 : Int32)) (own_lit3) (by decide) (by decide) (g := (mkF m 37 #[.val (.ref d)] [(.ref a_3)])) rfl (hb hby d_prog717x_37) (n := 4) (by decide +kernel) (by decide) (by decide) (by decide)
  refine own_G.go st_29 ?_
  have Sf_30_a_3 : Safe Z own_EL T_29.vm h_29 a_3 := Cr_29.safe (Nat.lt_of_lt_of_le A_3.lt (Nat.le_trans (Nat.le_trans (Nat.le_trans K_6.1 E_8.1) K_16.1) K_27.1)) Sf_28_a_3
  have Sf_30_q_6 : Safe Z own_EL T_29.vm h_29 q_6 := Cr_29.safe (Nat.lt_of_lt_of_le V_6.lt (Nat.le_trans (Nat.le_trans E_8.1 K_16.1) K_27.1)) Sf_28_q_6
  have CH_30 : CHr Z own_EL s.vm h0 T_29.vm h_29 := CH_28.trans Cr_29
  show own_G _ _ _ _ (T_29.setTop (mkF m 39 #[.val (.ref d)] [(.ref al_29), (.ref a_3)]))
  have Es_27'_31 : Exa Z h_29 a_3 "java/lang/StringBuilder" := (Es_27.ext E_29)
  have Fv_27'_32 : Fld Z h_29 a_3 "java/lang/AbstractStringBuilder" "value" "[B" (.ref q_6) := (Fv_27.ext E_29)
  have Fc_27'_33 : Fld Z h_29 a_3 "java/lang/AbstractStringBuilder" "coder" "B" (.int (0 : Int32)) := (Fc_27.ext E_29)
  have G_27'_34 : Fld Z h_29 a_3 "java/lang/AbstractStringBuilder" "count" "I" (.int (14 : Int32)) := (G_27.ext E_29)
  have W_27'_35 : Arv Z h_29 q_6 kq_6 .byte (16 : Int32) (own_L5 c0 c1 c2 c3) (.int (0 : Int32)) := (W_27.ext E_29)
  have O_36d : Old Z n0 h_29 := ((O_26d.keep K_27 (allS g0_a_3 (allS g0_q_6 all0))).ext E_29)
  obtain ⟨cq_37, kq_37, q_37a, q_37b, q_37c⟩ := isOf hZ_29 e_29 Es_27'_31
  obtain ⟨_, T_37, L_37, Q_37, X_37, st_37⟩ := own_callV X_29 hx (z := (⟨"java/lang/StringBuilder", "append", "(Ljava/lang/String;)Ljava/lang/StringBuilder;"⟩ : MethodName)) hown_29 (mvT hZ_29 (own_w hw 148 rfl)) (mvT hZ_29 (own_w hw 149 rfl)) (notFace_of_selects (args := #[]) (mvT hZ_29 (own_w hw 151 rfl))) (mvT hZ_29 (own_w hw 151 rfl)) (mvT hZ_29 (own_w hw 150 rfl)) (by decide) (Q := (QapN Z a_3 q_6 kq_6 (16 : Int32) (14 : Int32) (1 : Int32) ([(.int (39 : Int32))] : List Value) (own_L5 c0 c1 c2 c3) h_29 n0)) (backOf (W := 0) (rm_asN l Z a0 hw [] a_3 al_29 bl_29 q_6 kl_29 kq_6 (16 : Int32) (14 : Int32) (1 : Int32) ([(.int (39 : Int32))] : List Value) (own_L5 c0 c1 c2 c3) zc h_29 n0 (Nat.le_trans Z0 (Nat.le_trans (Nat.le_trans (Nat.le_trans (Nat.le_trans (Nat.le_trans E_3.1 K_6.1) E_8.1) K_16.1) K_27.1) E_29.1)) Es_27'_31 Fv_27'_32 Fc_27'_33 G_27'_34 Ex_29 Fc_29 Fv_29 Va_29 W_27'_35 g0_q_6 (Nat.ne_of_lt (Nat.lt_of_lt_of_le A_3.lt lo_6)) (Nat.le_of_ble_eq_true rfl) (by decide) g0_a_3 rfl (by decide) (by decide) (by decide) O2 P5 O_36d) hZ_29 (own_w hw 152 rfl) (own_w hw 131 rfl) (by decide) (by decide)) q_37a q_37c (g := (mkF m 39 #[.val (.ref d)] [(.ref al_29), (.ref a_3)])) rfl (by rw [hml]; rfl) (argsL := [(.ref al_29)]) (rest := []) (lenOf pd_26 rfl) rfl (by show 2 * 0 + _ ≤ _; exact Nat.le_of_eq rfl) (hb hby d_prog717x_39) e_29 rfl (by decide) (by decide)
  obtain ⟨rfl, Nq_37, K_37, Es_37, Fv_37, Fc_37, Fn_37, V_37⟩ := Q_37
  refine own_G.via st_37 ?_
  have Sf_38_a_3 : Safe Z own_EL T_29.vm T_37.heap a_3 := (Safe.keep K_37 (sfS Sf_30_a_3 (sfS Sf_30_q_6 sf0)) CH_30.1 Sf_30_a_3)
  have Sf_38_q_6 : Safe Z own_EL T_29.vm T_37.heap q_6 := (Safe.keep K_37 (sfS Sf_30_a_3 (sfS Sf_30_q_6 sf0)) CH_30.1 Sf_30_q_6)
  have CH_38 : CHr Z own_EL s.vm h0 T_29.vm T_37.heap := CH_30.trans (CHr.keep K_37 (sfS Sf_30_a_3 (sfS Sf_30_q_6 sf0)) CH_30.1)
  have W_37 : Arv Z T_37.heap q_6 kq_6 .byte (16 : Int32) (own_L6 c0 c1 c2 c3) (.int (0 : Int32)) := V_37
  have N_37 := Fr.app N_27 Nq_37
  have G_37 : Fld Z T_37.heap a_3 "java/lang/AbstractStringBuilder" "count" "I" (.int (15 : Int32)) := Fn_37
  show own_G _ _ _ _ (T_37.setTop (mkF m 42 #[.val (.ref d)] [(.ref a_3)]))
  have O_39d : Old Z n0 T_37.heap := (O_36d.keep K_37 (allS g0_a_3 (allS g0_q_6 all0)))
  obtain ⟨cq_40, kq_40, q_40a, q_40b, q_40c⟩ := isOf hZ_29 rfl Es_37
  obtain ⟨_, T_40, L_40, Q_40, X_40, st_40⟩ := own_callV X_37 hx (z := (⟨"java/lang/StringBuilder", "toString", "()Ljava/lang/String;"⟩ : MethodName)) hown_29 (mvT hZ_29 (own_w hw 197 rfl)) (mvT hZ_29 (own_w hw 198 rfl)) (notFace_of_selects (args := #[]) (mvT hZ_29 (own_w hw 200 rfl))) (mvT hZ_29 (own_w hw 200 rfl)) (mvT hZ_29 (own_w hw 199 rfl)) (by decide) (Q := (Qts Z (15 : Int32) (own_cr (own_L6 c0 c1 c2 c3) (15 : Int32)) T_37.heap n0)) (backOf (W := 0) (rm_stsC l Z a0 hw [] a_3 q_6 kq_6 (16 : Int32) (15 : Int32) (own_L6 c0 c1 c2 c3) zc T_37.heap n0 (Nat.le_trans Z0 (Nat.le_trans (Nat.le_trans (Nat.le_trans (Nat.le_trans (Nat.le_trans (Nat.le_trans E_3.1 K_6.1) E_8.1) K_16.1) K_27.1) E_29.1) K_37.1)) Es_37 Fv_37 Fc_37 G_37 W_37 (by decide) (by decide) (by decide) (by decide) (by decide) O2 P5 O_39d) hZ_29 (own_w hw 201 rfl) (own_w hw 131 rfl) (by decide) (by decide)) q_40a q_40c (g := (mkF m 42 #[.val (.ref d)] [(.ref a_3)])) rfl (by rw [hml]; rfl) (argsL := []) (rest := []) (lenOf pd_27 rfl) rfl (by show 2 * 0 + _ ≤ _; exact Nat.le_of_eq rfl) (hb hby d_prog717x_42) rfl rfl (by decide) (by decide)
  obtain ⟨r_40, t_40, kt_40, rfl, Nq_40, K_40, lo_40, Ex_40, Fc_40, Fv_40, V_40⟩ := Q_40
  refine own_G.via st_40 ?_
  have Sf_41_a_3 : Safe Z own_EL T_29.vm T_40.heap a_3 := (Safe.keep K_40 sf0 CH_38.1 Sf_38_a_3)
  have Sf_41_q_6 : Safe Z own_EL T_29.vm T_40.heap q_6 := (Safe.keep K_40 sf0 CH_38.1 Sf_38_q_6)
  have CH_41 : CHr Z own_EL s.vm h0 T_29.vm T_40.heap := CH_38.trans (CHr.keep K_40 sf0 CH_38.1)
  have W_40 : Arv Z T_40.heap t_40 kt_40 .byte (Int32.ofNat (own_tx (1 : Int32) c0 c1 c2 c3).length) (((own_tx (1 : Int32) c0 c1 c2 c3).map (fun c => c.toInt8.toInt32)).map Value.int) (.int (0 : Int32)) := V_40
  have N_40 := Fr.app N_37 Nq_40
  show own_G _ _ _ _ (T_40.setTop (mkF m 45 #[.val (.ref d)] [(.ref r_40)]))
  exact own_G.endH X_40 hS_29 (Nat.le_trans hk_29 (Nat.le_trans K_37.1 K_40.1)) hZ_29 hEW (hh ▸ CH_41) hlk (v := (some (.ref r_40))) (fun h => by rw [hrt] at h; cases h) (fun fs hr => retOut X_40 hx hrt rfl (Or.inr (Or.inr (Or.inr (Or.inr ⟨rfl, rfl, rfl⟩)))) (hb hby d_prog717x_45) hr) rfl ⟨r_40, t_40, kt_40, rfl, N_40, (((((((((Keep.refl h0 []).ext E_3).trans K_6 (allS (Or.inr (Nat.le_of_eq g_3.symm)) all0)).ext E_8).trans K_16 (allS (Or.inr (Nat.le_of_eq g_3.symm)) (allS (Or.inr (Nat.le_trans E_3.1 lo_6)) all0))).trans K_27 (allS (Or.inr (Nat.le_of_eq g_3.symm)) (allS (Or.inr (Nat.le_trans E_3.1 lo_6)) all0))).ext E_29).trans K_37 (allS (Or.inr (Nat.le_of_eq g_3.symm)) (allS (Or.inr (Nat.le_trans E_3.1 lo_6)) all0))).trans K_40 all0), Ex_40, Fc_40, Fv_40, W_40⟩ (by decide) (by decide)
set_option maxRecDepth 65536 in
set_option maxHeartbeats 40000000 in
theorem rm_ts2 (l : Launch) (Z : State) (a0 : Array Value) (hw : ∀ d ∈ tables_1, d.before a0 Z = true) (ws : List Jvm.Cond) (c0 c1 c2 c3 : Int32) (d st r t : Addr) (kt : ClassId) (zc : Int32) (h0 : Heap) (n0 : Nat) (Z0 : n0 ≤ h0.size) (b0 : own_b c0) (b1 : own_b c1) (b2 : own_b c2) (b3 : own_b c3) (F0 : Fld Z h0 d "com/example/enlist/enlist/definition/TransactionDefinition" "settings" "Lcom/example/enlist/enlist/definition/TransactionDefinition$Settings;" (.ref st)) (F1 : Fld Z h0 st "com/example/enlist/enlist/definition/TransactionDefinition$Settings" "name" "Ljava/lang/String;" (.ref r)) (E0 : Exa Z h0 r "java/lang/String") (C0 : Fld Z h0 r "java/lang/String" "coder" "B" (.int (0 : Int32))) (V0 : Fld Z h0 r "java/lang/String" "value" "[B" (.ref t)) (K0 : Arv Z h0 t kt .byte (Int32.ofNat (own_cs (2 : Int32) c0 c1 c2 c3).length) (((own_cs (2 : Int32) c0 c1 c2 c3).map (fun c => c.toInt8.toInt32)).map Value.int) (.int (0 : Int32))) (O2 : Sta Z Z.heap "java/lang/String" "COMPACT_STRINGS" "Z" (.int zc)) (P5 : ¬ (zc = (0 : Int32))) (X00 : Old Z n0 h0) :
    MetFree l (⟨"com/example/enlist/enlist/definition/TransactionDefinition", "toString", "()Ljava/lang/String;"⟩ : MethodName) (head1 (Jvm.Cond.code (⟨"com/example/enlist/enlist/definition/TransactionDefinition", "toString", "()Ljava/lang/String;"⟩ : MethodName) prog_7_method_17_code 1 (some (.object "java/lang/String")) :: ws) ({ frames := 6, cells := 9, slots := 140, locals := 91 } : Room)) (fun a_ U => a_ = #[(.ref d)] ∧ Z.Warmed39 U.vm ∧ U.heap = h0 ∧ CHv Z own_EL U.vm h0) (fun _ _ _ _ _ => True) (fun _ U o U' => ∃ v L, o = .returned v ∧ Qt Z (2 : Int32) c0 c1 c2 c3 h0 n0 v U'.heap L ∧ CHr Z own_EL U.vm U.heap U'.vm U'.heap ∧ ReturnedEndW U o U' L ({ frames := 6, cells := 9, slots := 140, locals := 91 } : Room).cells ({ frames := 6, cells := 9, slots := 140, locals := 91 } : Room).slots) := by
  refine MetFree.of_bodySF (plainFor_of_name pn_10) hisR ?_
  intro p e s m args below meth c s₁ Bd hml0 hP hK
  obtain ⟨rfl, hZ, hh, hCH⟩ := hP
  have hx := Bd.exec
  have hby := Bd.bytes
  have hrt := Bd.returns
  have hlk : meth.locks = false := Bd.notSynchronized
  have hml : c.maxLocals = 1 := hml0
  have hown : s.vm.findClass "com/example/enlist/enlist/definition/TransactionDefinition" = some m.cls := findClass_of_methodNamed Bd.named
  have hnm := (name_of_methodNamed Bd.named Bd.method).1
  have X0 : Stand p l e ({ frames := 6, cells := 9, slots := 140, locals := 91 } : Room) (s.setVm s.vm) m #[(.ref d)] below meth c s₁ [] 0 0 := Stand.of_body Bd
  have e0 : s₁.heap = h0 := by rw [← hh, Bd.state]; rfl
  have N0 := Fr.nil n0
  have hS0 : s.Since s.vm 0 := own_since s 0
  have hstr : ∀ d ∈ Bundle.stringAtoms, d.before a0 Z = true := fun d hd => hw d ((by decide +kernel : ∀ d ∈ Bundle.stringAtoms, d ∈ tables_1) d hd)
  have hEW : EW Z a0 own_EL := own_EW hw
  have CH0 : CHr Z own_EL s.vm h0 s.vm h0 := CHr.refl hCH
  show own_G p.tables e below (fun o t => ∃ v L, o = .returned v ∧ Qt Z (2 : Int32) c0 c1 c2 c3 h0 n0 v t.heap L ∧ CHr Z own_EL s.vm s.heap t.vm t.heap ∧ ReturnedEndW s o t L ({ frames := 6, cells := 9, slots := 140, locals := 91 } : Room).cells ({ frames := 6, cells := 9, slots := 140, locals := 91 } : Room).slots) (s₁.setTop (entryFrame m #[(.ref d)] 1))
  refine own_G.cast (show entryFrame m #[(.ref d)] 1 = mkF m 0 #[.val (.ref d)] [] from by first | (simp [entryFrame, mkF, argsToLocals, Value.category]; done) | rfl) ?_
  have K1 : Arv Z h0 t kt .byte (2 : Int32) (own_L7 c0 c1 c2 c3) (.int (0 : Int32)) := K0
  refine own_G.go (fun _ k => XS.aloadN X0.here hx rfl (hb hby d_prog717x_0) rfl rfl k) ?_
  show own_G _ _ _ _ (s₁.setTop (mkF m 1 #[.val (.ref d)] [(.ref d)]))
  obtain ⟨T_1, X_1, e_1, st_1⟩ := getF X0 hx hZ hown (host := "") (Or.inl (own_w hw 32 rfl)) Via.refl e0 F0 (g := (mkF m 1 #[.val (.ref d)] [(.ref d)])) rfl rfl (hb hby d_prog717x_1)
  refine own_G.go st_1 ?_
  show own_G _ _ _ _ (T_1.setTop (mkF m 4 #[.val (.ref d)] [(.ref st)]))
  obtain ⟨T_2, X_2, e_2, st_2⟩ := own_getFR X_1 hx hZ hown (own_w hw 80 rfl) e_1 F1 (g := (mkF m 4 #[.val (.ref d)] [(.ref st)])) rfl rfl (hb hby d_prog717x_4)
  refine own_G.go st_2 ?_
  show own_G _ _ _ _ (T_2.setTop (mkF m 7 #[.val (.ref d)] [(.ref r)]))
  refine own_G.go (fun _ k => XS.ifnonnullYes X_2.here hx rfl (pc0 := 7) (pc' := 15) rfl (hb hby d_prog717x_7) rfl (by decide) (by decide) k) ?_
  show own_G _ _ _ _ (T_2.setTop (mkF m 15 #[.val (.ref d)] []))
  obtain ⟨T_3, h_3, X_3, e_3, E_3, A_3, D_3, -, st_3⟩ := newO X_2 hx hZ hown (own_w hw 129 rfl) (own_w hw 130 rfl) (own_w hw 131 rfl) e_2 (g := (mkF m 15 #[.val (.ref d)] [])) rfl (hb hby d_prog717x_15) (by decide) (by decide)
  obtain ⟨a_3, g_3⟩ : ∃ z, z = h0.size := ⟨_, rfl⟩
  rw [← g_3] at A_3 D_3 st_3
  refine own_G.go st_3 ?_
  have CH_4 : CHr Z own_EL s.vm h0 s.vm h_3 := CH0.trans (CHr.ext E_3 CH0.1)
  have F_3_value : Fld Z h_3 a_3 "java/lang/AbstractStringBuilder" "value" "[B" .null := D_3 (Or.inl (own_w hw 144 rfl)) (ty := (.array .byte)) (by decide)
  have F_3_coder : Fld Z h_3 a_3 "java/lang/AbstractStringBuilder" "coder" "B" (.int (0 : Int32)) := D_3 (Or.inl (own_w hw 146 rfl)) (ty := .byte) (by decide)
  have F_3_count : Fld Z h_3 a_3 "java/lang/AbstractStringBuilder" "count" "I" (.int (0 : Int32)) := D_3 (Or.inl (own_w hw 170 rfl)) (ty := .int) (by decide)
  show own_G _ _ _ _ (T_3.setTop (mkF m 18 #[.val (.ref d)] [(.ref a_3)]))
  refine own_G.go (fun _ k => XS.dup X_3.here hx rfl (hb hby d_prog717x_18) rfl rfl k) ?_
  show own_G _ _ _ _ (T_3.setTop (mkF m 19 #[.val (.ref d)] [(.ref a_3), (.ref a_3)]))
  have Ssb : Safe Z own_EL s.vm h_3 a_3 := (Safe.exa hZ.alike A_3 (by decide) (by decide))
  have g0_a_3 : n0 ≤ a_3 := Nat.le_trans Z0 (Nat.le_of_eq g_3.symm)
  have O_5d : Old Z n0 h_3 := (X00.ext E_3)
  obtain ⟨_, T_6, L_6, Q_6, X_6, st_6⟩ := own_callI X_3 hx rfl hown (mvT hZ (own_w hw 132 rfl)) (mvT hZ (own_w hw 133 rfl)) (mvT hZ (own_w hw 134 rfl)) (by decide) (Q := (Qsb Z a_3 h_3 n0)) (backOf (W := 1) (rm_sbi l Z a0 hw [] a_3 zc h_3 n0 (Nat.le_trans Z0 E_3.1) g0_a_3 A_3 F_3_value F_3_coder F_3_count O2 P5 O_5d) hZ (own_w hw 134 rfl) (own_w hw 131 rfl) (by decide) (by decide)) (a := a_3) (g := (mkF m 19 #[.val (.ref d)] [(.ref a_3), (.ref a_3)])) rfl (by rw [hml]; rfl) (argsL := []) (rest := [(.ref a_3)]) (lenOf pd_20 rfl) rfl (by show 2 * 0 + _ ≤ _; exact Nat.le_of_eq rfl) (hb hby d_prog717x_19) e_3 rfl (by decide) (by decide)
  obtain ⟨q_6, kq_6, rfl, Nq_6, K_6, lo_6, Es_6, Fv_6, Fc_6, Fn_6, Eb_6, V_6⟩ := Q_6
  refine own_G.via st_6 ?_
  have Sf_7_a_3 : Safe Z own_EL s.vm T_6.heap a_3 := (Safe.keep K_6 (sfS Ssb sf0) CH_4.1 Ssb)
  have CH_7 : CHr Z own_EL s.vm h0 s.vm T_6.heap := CH_4.trans (CHr.keep K_6 (sfS Ssb sf0) CH_4.1)
  have Sn_6 : Safe Z own_EL s.vm T_6.heap q_6 := Safe.keep K_6 (sfS Ssb sf0) CH_4.1 (Safe.new lo_6)
  have W_6 : Arv Z T_6.heap q_6 kq_6 .byte (16 : Int32) (own_L1 c0 c1 c2 c3) (.int (0 : Int32)) := V_6
  have N_6 := Fr.app N0 Nq_6
  show own_G _ _ _ _ (T_6.setTop (mkF m 22 #[.val (.ref d)] [(.ref a_3)]))
  obtain ⟨al_8, T_8, h_8, k_8, bl_8, kl_8, X_8, e_8, E_8, hS_8, hk_8, hZ_8, hown_8, Ex_8, Fc_8, Fv_8, Va_8, lta_8, ltb_8, Cr_8, -, hne_8, st_8⟩ := ldcCH X_6 hx hZ hown (own_w hw 147 rfl) hstr rfl hS0 (Nat.le_trans (Nat.zero_le _) (Nat.le_trans E_3.1 K_6.1)) hEW (by simp [own_EL]) CH_7.1 (vs := ([(.int (116 : Int32)), (.int (114 : Int32)), (.int (97 : Int32)), (.int (110 : Int32)), (.int (115 : Int32)), (.int (97 : Int32)), (.int (99 : Int32)), (.int (116 : Int32)), (.int (105 : Int32)), (.int (111 : Int32)), (.int (110 : Int32)), (.int (32 : Int32)), (.int (39 : Int32))] : List Value)) (z := (13 : Int32)) (own_lit2) (by decide) (by decide) (g := (mkF m 22 #[.val (.ref d)] [(.ref a_3)])) rfl (hb hby d_prog717x_22) (n := 52) (by decide +kernel) (by decide) (by decide) (by decide)
  refine own_G.go st_8 ?_
  have Sf_9_a_3 : Safe Z own_EL T_8.vm h_8 a_3 := Cr_8.safe (Nat.lt_of_lt_of_le A_3.lt K_6.1) Sf_7_a_3
  have Sf_9_q_6 : Safe Z own_EL T_8.vm h_8 q_6 := Cr_8.safe V_6.lt Sn_6
  have CH_9 : CHr Z own_EL s.vm h0 T_8.vm h_8 := CH_7.trans Cr_8
  show own_G _ _ _ _ (T_8.setTop (mkF m 24 #[.val (.ref d)] [(.ref al_8), (.ref a_3)]))
  have Es_6'_10 : Exa Z h_8 a_3 "java/lang/StringBuilder" := (Es_6.ext E_8)
  have Fv_6'_11 : Fld Z h_8 a_3 "java/lang/AbstractStringBuilder" "value" "[B" (.ref q_6) := (Fv_6.ext E_8)
  have Fc_6'_12 : Fld Z h_8 a_3 "java/lang/AbstractStringBuilder" "coder" "B" (.int (0 : Int32)) := (Fc_6.ext E_8)
  have Fn_6'_13 : Fld Z h_8 a_3 "java/lang/AbstractStringBuilder" "count" "I" (.int (0 : Int32)) := (Fn_6.ext E_8)
  have W_6'_14 : Arv Z h_8 q_6 kq_6 .byte (16 : Int32) (own_L1 c0 c1 c2 c3) (.int (0 : Int32)) := (W_6.ext E_8)
  have g0_q_6 : n0 ≤ q_6 := Nat.le_trans (Nat.le_trans Z0 E_3.1) lo_6
  have O_15d : Old Z n0 h_8 := ((O_5d.keep K_6 (allS g0_a_3 all0)).ext E_8)
  obtain ⟨cq_16, kq_16, q_16a, q_16b, q_16c⟩ := isOf hZ_8 e_8 Es_6'_10
  obtain ⟨_, T_16, L_16, Q_16, X_16, st_16⟩ := own_callV X_8 hx (z := (⟨"java/lang/StringBuilder", "append", "(Ljava/lang/String;)Ljava/lang/StringBuilder;"⟩ : MethodName)) hown_8 (mvT hZ_8 (own_w hw 148 rfl)) (mvT hZ_8 (own_w hw 149 rfl)) (notFace_of_selects (args := #[]) (mvT hZ_8 (own_w hw 151 rfl))) (mvT hZ_8 (own_w hw 151 rfl)) (mvT hZ_8 (own_w hw 150 rfl)) (by decide) (Q := (QapN Z a_3 q_6 kq_6 (16 : Int32) (0 : Int32) (13 : Int32) ([(.int (116 : Int32)), (.int (114 : Int32)), (.int (97 : Int32)), (.int (110 : Int32)), (.int (115 : Int32)), (.int (97 : Int32)), (.int (99 : Int32)), (.int (116 : Int32)), (.int (105 : Int32)), (.int (111 : Int32)), (.int (110 : Int32)), (.int (32 : Int32)), (.int (39 : Int32))] : List Value) (own_L1 c0 c1 c2 c3) h_8 n0)) (backOf (W := 0) (rm_asN l Z a0 hw [] a_3 al_8 bl_8 q_6 kl_8 kq_6 (16 : Int32) (0 : Int32) (13 : Int32) ([(.int (116 : Int32)), (.int (114 : Int32)), (.int (97 : Int32)), (.int (110 : Int32)), (.int (115 : Int32)), (.int (97 : Int32)), (.int (99 : Int32)), (.int (116 : Int32)), (.int (105 : Int32)), (.int (111 : Int32)), (.int (110 : Int32)), (.int (32 : Int32)), (.int (39 : Int32))] : List Value) (own_L1 c0 c1 c2 c3) zc h_8 n0 (Nat.le_trans Z0 (Nat.le_trans (Nat.le_trans E_3.1 K_6.1) E_8.1)) Es_6'_10 Fv_6'_11 Fc_6'_12 Fn_6'_13 Ex_8 Fc_8 Fv_8 Va_8 W_6'_14 g0_q_6 (Nat.ne_of_lt (Nat.lt_of_lt_of_le A_3.lt lo_6)) (Nat.le_of_ble_eq_true rfl) (by decide) g0_a_3 rfl (by decide) (by decide) (by decide) O2 P5 O_15d) hZ_8 (own_w hw 152 rfl) (own_w hw 131 rfl) (by decide) (by decide)) q_16a q_16c (g := (mkF m 24 #[.val (.ref d)] [(.ref al_8), (.ref a_3)])) rfl (by rw [hml]; rfl) (argsL := [(.ref al_8)]) (rest := []) (lenOf pd_26 rfl) rfl (by show 2 * 0 + _ ≤ _; exact Nat.le_of_eq rfl) (hb hby d_prog717x_24) e_8 rfl (by decide) (by decide)
  obtain ⟨rfl, Nq_16, K_16, Es_16, Fv_16, Fc_16, Fn_16, V_16⟩ := Q_16
  refine own_G.via st_16 ?_
  have Sf_17_a_3 : Safe Z own_EL T_8.vm T_16.heap a_3 := (Safe.keep K_16 (sfS Sf_9_a_3 (sfS Sf_9_q_6 sf0)) CH_9.1 Sf_9_a_3)
  have Sf_17_q_6 : Safe Z own_EL T_8.vm T_16.heap q_6 := (Safe.keep K_16 (sfS Sf_9_a_3 (sfS Sf_9_q_6 sf0)) CH_9.1 Sf_9_q_6)
  have CH_17 : CHr Z own_EL s.vm h0 T_8.vm T_16.heap := CH_9.trans (CHr.keep K_16 (sfS Sf_9_a_3 (sfS Sf_9_q_6 sf0)) CH_9.1)
  have W_16 : Arv Z T_16.heap q_6 kq_6 .byte (16 : Int32) (own_L2 c0 c1 c2 c3) (.int (0 : Int32)) := V_16
  have N_16 := Fr.app N_6 Nq_16
  have G_16 : Fld Z T_16.heap a_3 "java/lang/AbstractStringBuilder" "count" "I" (.int (13 : Int32)) := Fn_16
  show own_G _ _ _ _ (T_16.setTop (mkF m 27 #[.val (.ref d)] [(.ref a_3)]))
  refine own_G.go (fun _ k => XS.aloadN X_16.here hx rfl (hb hby d_prog717x_27) rfl rfl k) ?_
  show own_G _ _ _ _ (T_16.setTop (mkF m 28 #[.val (.ref d)] [(.ref d), (.ref a_3)]))
  have F0'_18 : Fld Z T_16.heap d "com/example/enlist/enlist/definition/TransactionDefinition" "settings" "Lcom/example/enlist/enlist/definition/TransactionDefinition$Settings;" (.ref st) := ((((F0.ext E_3).keep K_6 (ninS (Nat.ne_of_lt (Nat.lt_of_lt_of_le F0.lt (Nat.le_of_eq g_3.symm))) nin0)).ext E_8).keep K_16 (ninS (Nat.ne_of_lt (Nat.lt_of_lt_of_le F0.lt (Nat.le_of_eq g_3.symm))) (ninS (Nat.ne_of_lt (Nat.lt_of_lt_of_le (Nat.lt_of_lt_of_le F0.lt E_3.1) lo_6)) nin0)))
  obtain ⟨T_19, X_19, e_19, st_19⟩ := getF X_16 hx hZ_8 hown_8 (host := "") (Or.inl (own_w hw 32 rfl)) Via.refl rfl F0'_18 (g := (mkF m 28 #[.val (.ref d)] [(.ref d), (.ref a_3)])) rfl rfl (hb hby d_prog717x_28)
  refine own_G.go st_19 ?_
  show own_G _ _ _ _ (T_19.setTop (mkF m 31 #[.val (.ref d)] [(.ref st), (.ref a_3)]))
  have F1'_20 : Fld Z T_16.heap st "com/example/enlist/enlist/definition/TransactionDefinition$Settings" "name" "Ljava/lang/String;" (.ref r) := ((((F1.ext E_3).keep K_6 (ninS (Nat.ne_of_lt (Nat.lt_of_lt_of_le F1.lt (Nat.le_of_eq g_3.symm))) nin0)).ext E_8).keep K_16 (ninS (Nat.ne_of_lt (Nat.lt_of_lt_of_le F1.lt (Nat.le_of_eq g_3.symm))) (ninS (Nat.ne_of_lt (Nat.lt_of_lt_of_le (Nat.lt_of_lt_of_le F1.lt E_3.1) lo_6)) nin0)))
  obtain ⟨T_21, X_21, e_21, st_21⟩ := own_getFR X_19 hx hZ_8 hown_8 (own_w hw 80 rfl) e_19 F1'_20 (g := (mkF m 31 #[.val (.ref d)] [(.ref st), (.ref a_3)])) rfl rfl (hb hby d_prog717x_31)
  refine own_G.go st_21 ?_
  show own_G _ _ _ _ (T_21.setTop (mkF m 34 #[.val (.ref d)] [(.ref r), (.ref a_3)]))
  have E0'_22 : Exa Z T_16.heap r "java/lang/String" := ((((E0.ext E_3).keep K_6).ext E_8).keep K_16)
  have C0'_23 : Fld Z T_16.heap r "java/lang/String" "coder" "B" (.int (0 : Int32)) := ((((C0.ext E_3).keep K_6 (ninS (Nat.ne_of_lt (Nat.lt_of_lt_of_le E0.lt (Nat.le_of_eq g_3.symm))) nin0)).ext E_8).keep K_16 (ninS (Nat.ne_of_lt (Nat.lt_of_lt_of_le E0.lt (Nat.le_of_eq g_3.symm))) (ninS (Nat.ne_of_lt (Nat.lt_of_lt_of_le (Nat.lt_of_lt_of_le E0.lt E_3.1) lo_6)) nin0)))
  have V0'_24 : Fld Z T_16.heap r "java/lang/String" "value" "[B" (.ref t) := ((((V0.ext E_3).keep K_6 (ninS (Nat.ne_of_lt (Nat.lt_of_lt_of_le E0.lt (Nat.le_of_eq g_3.symm))) nin0)).ext E_8).keep K_16 (ninS (Nat.ne_of_lt (Nat.lt_of_lt_of_le E0.lt (Nat.le_of_eq g_3.symm))) (ninS (Nat.ne_of_lt (Nat.lt_of_lt_of_le (Nat.lt_of_lt_of_le E0.lt E_3.1) lo_6)) nin0)))
  have K1'_25 : Arv Z T_16.heap t kt .byte (2 : Int32) (own_L7 c0 c1 c2 c3) (.int (0 : Int32)) := ((((K1.ext E_3).keep K_6 (ninS (Nat.ne_of_lt (Nat.lt_of_lt_of_le K1.lt (Nat.le_of_eq g_3.symm))) nin0)).ext E_8).keep K_16 (ninS (Nat.ne_of_lt (Nat.lt_of_lt_of_le K1.lt (Nat.le_of_eq g_3.symm))) (ninS (Nat.ne_of_lt (Nat.lt_of_lt_of_le (Nat.lt_of_lt_of_le K1.lt E_3.1) lo_6)) nin0)))
  have O_26d : Old Z n0 T_16.heap := (O_15d.keep K_16 (allS g0_a_3 (allS g0_q_6 all0)))
  obtain ⟨cq_27, kq_27, q_27a, q_27b, q_27c⟩ := isOf hZ_8 e_21 Es_16
  obtain ⟨_, T_27, L_27, Q_27, X_27, st_27⟩ := own_callV X_21 hx (z := (⟨"java/lang/StringBuilder", "append", "(Ljava/lang/String;)Ljava/lang/StringBuilder;"⟩ : MethodName)) hown_8 (mvT hZ_8 (own_w hw 148 rfl)) (mvT hZ_8 (own_w hw 149 rfl)) (notFace_of_selects (args := #[]) (mvT hZ_8 (own_w hw 151 rfl))) (mvT hZ_8 (own_w hw 151 rfl)) (mvT hZ_8 (own_w hw 150 rfl)) (by decide) (Q := (QapN Z a_3 q_6 kq_6 (16 : Int32) (13 : Int32) (2 : Int32) (own_L7 c0 c1 c2 c3) (own_L2 c0 c1 c2 c3) T_16.heap n0)) (backOf (W := 0) (rm_asN l Z a0 hw [] a_3 r t q_6 kt kq_6 (16 : Int32) (13 : Int32) (2 : Int32) (own_L7 c0 c1 c2 c3) (own_L2 c0 c1 c2 c3) zc T_16.heap n0 (Nat.le_trans Z0 (Nat.le_trans (Nat.le_trans (Nat.le_trans E_3.1 K_6.1) E_8.1) K_16.1)) Es_16 Fv_16 Fc_16 G_16 E0'_22 C0'_23 V0'_24 K1'_25 W_16 g0_q_6 (Nat.ne_of_lt (Nat.lt_of_lt_of_le A_3.lt lo_6)) (Nat.le_of_ble_eq_true rfl) (by decide) g0_a_3 rfl (by decide) (by decide) (by decide) O2 P5 O_26d) hZ_8 (own_w hw 152 rfl) (own_w hw 131 rfl) (by decide) (by decide)) q_27a q_27c (g := (mkF m 34 #[.val (.ref d)] [(.ref r), (.ref a_3)])) rfl (by rw [hml]; rfl) (argsL := [(.ref r)]) (rest := []) (lenOf pd_26 rfl) rfl (by show 2 * 0 + _ ≤ _; exact Nat.le_of_eq rfl) (hb hby d_prog717x_34) e_21 rfl (by decide) (by decide)
  obtain ⟨rfl, Nq_27, K_27, Es_27, Fv_27, Fc_27, Fn_27, V_27⟩ := Q_27
  refine own_G.via st_27 ?_
  have Sf_28_a_3 : Safe Z own_EL T_8.vm T_27.heap a_3 := (Safe.keep K_27 (sfS Sf_17_a_3 (sfS Sf_17_q_6 sf0)) CH_17.1 Sf_17_a_3)
  have Sf_28_q_6 : Safe Z own_EL T_8.vm T_27.heap q_6 := (Safe.keep K_27 (sfS Sf_17_a_3 (sfS Sf_17_q_6 sf0)) CH_17.1 Sf_17_q_6)
  have CH_28 : CHr Z own_EL s.vm h0 T_8.vm T_27.heap := CH_17.trans (CHr.keep K_27 (sfS Sf_17_a_3 (sfS Sf_17_q_6 sf0)) CH_17.1)
  have W_27 : Arv Z T_27.heap q_6 kq_6 .byte (16 : Int32) (own_L8 c0 c1 c2 c3) (.int (0 : Int32)) := V_27
  have N_27 := Fr.app N_16 Nq_27
  have G_27 : Fld Z T_27.heap a_3 "java/lang/AbstractStringBuilder" "count" "I" (.int (15 : Int32)) := Fn_27
  show own_G _ _ _ _ (T_27.setTop (mkF m 37 #[.val (.ref d)] [(.ref a_3)]))
  obtain ⟨al_29, T_29, h_29, k_29, bl_29, kl_29, X_29, e_29, E_29, hS_29, hk_29, hZ_29, hown_29, Ex_29, Fc_29, Fv_29, Va_29, lta_29, ltb_29, Cr_29, -, hne_29, st_29⟩ := ldcCH X_27 hx hZ_8 hown_8 (own_w hw 196 rfl) hstr rfl hS_8 (Nat.le_trans hk_8 (Nat.le_trans K_16.1 K_27.1)) hEW (by simp [own_EL]) CH_28.1 (vs := ([(.int (39 : Int32))] : List Value)) (z := (1 : Int32)) (own_lit3) (by decide) (by decide) (g := (mkF m 37 #[.val (.ref d)] [(.ref a_3)])) rfl (hb hby d_prog717x_37) (n := 4) (by decide +kernel) (by decide) (by decide) (by decide)
  refine own_G.go st_29 ?_
  have Sf_30_a_3 : Safe Z own_EL T_29.vm h_29 a_3 := Cr_29.safe (Nat.lt_of_lt_of_le A_3.lt (Nat.le_trans (Nat.le_trans (Nat.le_trans K_6.1 E_8.1) K_16.1) K_27.1)) Sf_28_a_3
  have Sf_30_q_6 : Safe Z own_EL T_29.vm h_29 q_6 := Cr_29.safe (Nat.lt_of_lt_of_le V_6.lt (Nat.le_trans (Nat.le_trans E_8.1 K_16.1) K_27.1)) Sf_28_q_6
  have CH_30 : CHr Z own_EL s.vm h0 T_29.vm h_29 := CH_28.trans Cr_29
  show own_G _ _ _ _ (T_29.setTop (mkF m 39 #[.val (.ref d)] [(.ref al_29), (.ref a_3)]))
  have Es_27'_31 : Exa Z h_29 a_3 "java/lang/StringBuilder" := (Es_27.ext E_29)
  have Fv_27'_32 : Fld Z h_29 a_3 "java/lang/AbstractStringBuilder" "value" "[B" (.ref q_6) := (Fv_27.ext E_29)
  have Fc_27'_33 : Fld Z h_29 a_3 "java/lang/AbstractStringBuilder" "coder" "B" (.int (0 : Int32)) := (Fc_27.ext E_29)
  have G_27'_34 : Fld Z h_29 a_3 "java/lang/AbstractStringBuilder" "count" "I" (.int (15 : Int32)) := (G_27.ext E_29)
  have W_27'_35 : Arv Z h_29 q_6 kq_6 .byte (16 : Int32) (own_L8 c0 c1 c2 c3) (.int (0 : Int32)) := (W_27.ext E_29)
  have O_36d : Old Z n0 h_29 := ((O_26d.keep K_27 (allS g0_a_3 (allS g0_q_6 all0))).ext E_29)
  obtain ⟨cq_37, kq_37, q_37a, q_37b, q_37c⟩ := isOf hZ_29 e_29 Es_27'_31
  obtain ⟨_, T_37, L_37, Q_37, X_37, st_37⟩ := own_callV X_29 hx (z := (⟨"java/lang/StringBuilder", "append", "(Ljava/lang/String;)Ljava/lang/StringBuilder;"⟩ : MethodName)) hown_29 (mvT hZ_29 (own_w hw 148 rfl)) (mvT hZ_29 (own_w hw 149 rfl)) (notFace_of_selects (args := #[]) (mvT hZ_29 (own_w hw 151 rfl))) (mvT hZ_29 (own_w hw 151 rfl)) (mvT hZ_29 (own_w hw 150 rfl)) (by decide) (Q := (QapN Z a_3 q_6 kq_6 (16 : Int32) (15 : Int32) (1 : Int32) ([(.int (39 : Int32))] : List Value) (own_L8 c0 c1 c2 c3) h_29 n0)) (backOf (W := 0) (rm_asN l Z a0 hw [] a_3 al_29 bl_29 q_6 kl_29 kq_6 (16 : Int32) (15 : Int32) (1 : Int32) ([(.int (39 : Int32))] : List Value) (own_L8 c0 c1 c2 c3) zc h_29 n0 (Nat.le_trans Z0 (Nat.le_trans (Nat.le_trans (Nat.le_trans (Nat.le_trans (Nat.le_trans E_3.1 K_6.1) E_8.1) K_16.1) K_27.1) E_29.1)) Es_27'_31 Fv_27'_32 Fc_27'_33 G_27'_34 Ex_29 Fc_29 Fv_29 Va_29 W_27'_35 g0_q_6 (Nat.ne_of_lt (Nat.lt_of_lt_of_le A_3.lt lo_6)) (Nat.le_of_ble_eq_true rfl) (by decide) g0_a_3 rfl (by decide) (by decide) (by decide) O2 P5 O_36d) hZ_29 (own_w hw 152 rfl) (own_w hw 131 rfl) (by decide) (by decide)) q_37a q_37c (g := (mkF m 39 #[.val (.ref d)] [(.ref al_29), (.ref a_3)])) rfl (by rw [hml]; rfl) (argsL := [(.ref al_29)]) (rest := []) (lenOf pd_26 rfl) rfl (by show 2 * 0 + _ ≤ _; exact Nat.le_of_eq rfl) (hb hby d_prog717x_39) e_29 rfl (by decide) (by decide)
  obtain ⟨rfl, Nq_37, K_37, Es_37, Fv_37, Fc_37, Fn_37, V_37⟩ := Q_37
  refine own_G.via st_37 ?_
  have Sf_38_a_3 : Safe Z own_EL T_29.vm T_37.heap a_3 := (Safe.keep K_37 (sfS Sf_30_a_3 (sfS Sf_30_q_6 sf0)) CH_30.1 Sf_30_a_3)
  have Sf_38_q_6 : Safe Z own_EL T_29.vm T_37.heap q_6 := (Safe.keep K_37 (sfS Sf_30_a_3 (sfS Sf_30_q_6 sf0)) CH_30.1 Sf_30_q_6)
  have CH_38 : CHr Z own_EL s.vm h0 T_29.vm T_37.heap := CH_30.trans (CHr.keep K_37 (sfS Sf_30_a_3 (sfS Sf_30_q_6 sf0)) CH_30.1)
  have W_37 : Arv Z T_37.heap q_6 kq_6 .byte (16 : Int32) (own_L9 c0 c1 c2 c3) (.int (0 : Int32)) := V_37
  have N_37 := Fr.app N_27 Nq_37
  have G_37 : Fld Z T_37.heap a_3 "java/lang/AbstractStringBuilder" "count" "I" (.int (16 : Int32)) := Fn_37
  show own_G _ _ _ _ (T_37.setTop (mkF m 42 #[.val (.ref d)] [(.ref a_3)]))
  have Eb_6'_39 : Exa Z T_37.heap q_6 "[B" := (((((Eb_6.ext E_8).keep K_16).keep K_27).ext E_29).keep K_37)
  have O_40d : Old Z n0 T_37.heap := (O_36d.keep K_37 (allS g0_a_3 (allS g0_q_6 all0)))
  obtain ⟨cq_41, kq_41, q_41a, q_41b, q_41c⟩ := isOf hZ_29 rfl Es_37
  obtain ⟨_, T_41, L_41, Q_41, X_41, st_41⟩ := own_callV X_37 hx (z := (⟨"java/lang/StringBuilder", "toString", "()Ljava/lang/String;"⟩ : MethodName)) hown_29 (mvT hZ_29 (own_w hw 197 rfl)) (mvT hZ_29 (own_w hw 198 rfl)) (notFace_of_selects (args := #[]) (mvT hZ_29 (own_w hw 200 rfl))) (mvT hZ_29 (own_w hw 200 rfl)) (mvT hZ_29 (own_w hw 199 rfl)) (by decide) (Q := (Qts Z (16 : Int32) (own_L9 c0 c1 c2 c3) T_37.heap n0)) (backOf (W := 0) (rm_stsK l Z a0 hw [] a_3 q_6 kq_6 (own_L9 c0 c1 c2 c3) zc T_37.heap n0 (Nat.le_trans Z0 (Nat.le_trans (Nat.le_trans (Nat.le_trans (Nat.le_trans (Nat.le_trans (Nat.le_trans E_3.1 K_6.1) E_8.1) K_16.1) K_27.1) E_29.1) K_37.1)) Es_37 Fv_37 Fc_37 G_37 W_37 Eb_6'_39 O2 P5 O_40d) hZ_29 (own_w hw 201 rfl) (own_w hw 131 rfl) (by decide) (by decide)) q_41a q_41c (g := (mkF m 42 #[.val (.ref d)] [(.ref a_3)])) rfl (by rw [hml]; rfl) (argsL := []) (rest := []) (lenOf pd_27 rfl) rfl (by show 2 * 0 + _ ≤ _; exact Nat.le_of_eq rfl) (hb hby d_prog717x_42) rfl rfl (by decide) (by decide)
  obtain ⟨r_41, t_41, kt_41, rfl, Nq_41, K_41, lo_41, Ex_41, Fc_41, Fv_41, V_41⟩ := Q_41
  refine own_G.via st_41 ?_
  have Sf_42_a_3 : Safe Z own_EL T_29.vm T_41.heap a_3 := (Safe.keep K_41 sf0 CH_38.1 Sf_38_a_3)
  have Sf_42_q_6 : Safe Z own_EL T_29.vm T_41.heap q_6 := (Safe.keep K_41 sf0 CH_38.1 Sf_38_q_6)
  have CH_42 : CHr Z own_EL s.vm h0 T_29.vm T_41.heap := CH_38.trans (CHr.keep K_41 sf0 CH_38.1)
  have W_41 : Arv Z T_41.heap t_41 kt_41 .byte (Int32.ofNat (own_tx (2 : Int32) c0 c1 c2 c3).length) (((own_tx (2 : Int32) c0 c1 c2 c3).map (fun c => c.toInt8.toInt32)).map Value.int) (.int (0 : Int32)) := V_41
  have N_41 := Fr.app N_37 Nq_41
  show own_G _ _ _ _ (T_41.setTop (mkF m 45 #[.val (.ref d)] [(.ref r_41)]))
  exact own_G.endH X_41 hS_29 (Nat.le_trans hk_29 (Nat.le_trans K_37.1 K_41.1)) hZ_29 hEW (hh ▸ CH_42) hlk (v := (some (.ref r_41))) (fun h => by rw [hrt] at h; cases h) (fun fs hr => retOut X_41 hx hrt rfl (Or.inr (Or.inr (Or.inr (Or.inr ⟨rfl, rfl, rfl⟩)))) (hb hby d_prog717x_45) hr) rfl ⟨r_41, t_41, kt_41, rfl, N_41, (((((((((Keep.refl h0 []).ext E_3).trans K_6 (allS (Or.inr (Nat.le_of_eq g_3.symm)) all0)).ext E_8).trans K_16 (allS (Or.inr (Nat.le_of_eq g_3.symm)) (allS (Or.inr (Nat.le_trans E_3.1 lo_6)) all0))).trans K_27 (allS (Or.inr (Nat.le_of_eq g_3.symm)) (allS (Or.inr (Nat.le_trans E_3.1 lo_6)) all0))).ext E_29).trans K_37 (allS (Or.inr (Nat.le_of_eq g_3.symm)) (allS (Or.inr (Nat.le_trans E_3.1 lo_6)) all0))).trans K_41 all0), Ex_41, Fc_41, Fv_41, W_41⟩ (by decide) (by decide)
set_option maxRecDepth 65536 in
set_option maxHeartbeats 40000000 in
theorem rm_ts3 (l : Launch) (Z : State) (a0 : Array Value) (hw : ∀ d ∈ tables_1, d.before a0 Z = true) (ws : List Jvm.Cond) (c0 c1 c2 c3 : Int32) (d st r t : Addr) (kt : ClassId) (zc : Int32) (h0 : Heap) (n0 : Nat) (Z0 : n0 ≤ h0.size) (b0 : own_b c0) (b1 : own_b c1) (b2 : own_b c2) (b3 : own_b c3) (F0 : Fld Z h0 d "com/example/enlist/enlist/definition/TransactionDefinition" "settings" "Lcom/example/enlist/enlist/definition/TransactionDefinition$Settings;" (.ref st)) (F1 : Fld Z h0 st "com/example/enlist/enlist/definition/TransactionDefinition$Settings" "name" "Ljava/lang/String;" (.ref r)) (E0 : Exa Z h0 r "java/lang/String") (C0 : Fld Z h0 r "java/lang/String" "coder" "B" (.int (0 : Int32))) (V0 : Fld Z h0 r "java/lang/String" "value" "[B" (.ref t)) (K0 : Arv Z h0 t kt .byte (Int32.ofNat (own_cs (3 : Int32) c0 c1 c2 c3).length) (((own_cs (3 : Int32) c0 c1 c2 c3).map (fun c => c.toInt8.toInt32)).map Value.int) (.int (0 : Int32))) (O2 : Sta Z Z.heap "java/lang/String" "COMPACT_STRINGS" "Z" (.int zc)) (P5 : ¬ (zc = (0 : Int32))) (X00 : Old Z n0 h0) :
    MetFree l (⟨"com/example/enlist/enlist/definition/TransactionDefinition", "toString", "()Ljava/lang/String;"⟩ : MethodName) (head1 (Jvm.Cond.code (⟨"com/example/enlist/enlist/definition/TransactionDefinition", "toString", "()Ljava/lang/String;"⟩ : MethodName) prog_7_method_17_code 1 (some (.object "java/lang/String")) :: ws) ({ frames := 6, cells := 9, slots := 140, locals := 91 } : Room)) (fun a_ U => a_ = #[(.ref d)] ∧ Z.Warmed39 U.vm ∧ U.heap = h0 ∧ CHv Z own_EL U.vm h0) (fun _ _ _ _ _ => True) (fun _ U o U' => ∃ v L, o = .returned v ∧ Qt Z (3 : Int32) c0 c1 c2 c3 h0 n0 v U'.heap L ∧ CHr Z own_EL U.vm U.heap U'.vm U'.heap ∧ ReturnedEndW U o U' L ({ frames := 6, cells := 9, slots := 140, locals := 91 } : Room).cells ({ frames := 6, cells := 9, slots := 140, locals := 91 } : Room).slots) := by
  refine MetFree.of_bodySF (plainFor_of_name pn_10) hisR ?_
  intro p e s m args below meth c s₁ Bd hml0 hP hK
  obtain ⟨rfl, hZ, hh, hCH⟩ := hP
  have hx := Bd.exec
  have hby := Bd.bytes
  have hrt := Bd.returns
  have hlk : meth.locks = false := Bd.notSynchronized
  have hml : c.maxLocals = 1 := hml0
  have hown : s.vm.findClass "com/example/enlist/enlist/definition/TransactionDefinition" = some m.cls := findClass_of_methodNamed Bd.named
  have hnm := (name_of_methodNamed Bd.named Bd.method).1
  have X0 : Stand p l e ({ frames := 6, cells := 9, slots := 140, locals := 91 } : Room) (s.setVm s.vm) m #[(.ref d)] below meth c s₁ [] 0 0 := Stand.of_body Bd
  have e0 : s₁.heap = h0 := by rw [← hh, Bd.state]; rfl
  have N0 := Fr.nil n0
  have hS0 : s.Since s.vm 0 := own_since s 0
  have hstr : ∀ d ∈ Bundle.stringAtoms, d.before a0 Z = true := fun d hd => hw d ((by decide +kernel : ∀ d ∈ Bundle.stringAtoms, d ∈ tables_1) d hd)
  have hEW : EW Z a0 own_EL := own_EW hw
  have CH0 : CHr Z own_EL s.vm h0 s.vm h0 := CHr.refl hCH
  show own_G p.tables e below (fun o t => ∃ v L, o = .returned v ∧ Qt Z (3 : Int32) c0 c1 c2 c3 h0 n0 v t.heap L ∧ CHr Z own_EL s.vm s.heap t.vm t.heap ∧ ReturnedEndW s o t L ({ frames := 6, cells := 9, slots := 140, locals := 91 } : Room).cells ({ frames := 6, cells := 9, slots := 140, locals := 91 } : Room).slots) (s₁.setTop (entryFrame m #[(.ref d)] 1))
  refine own_G.cast (show entryFrame m #[(.ref d)] 1 = mkF m 0 #[.val (.ref d)] [] from by first | (simp [entryFrame, mkF, argsToLocals, Value.category]; done) | rfl) ?_
  have K1 : Arv Z h0 t kt .byte (3 : Int32) (own_L10 c0 c1 c2 c3) (.int (0 : Int32)) := K0
  refine own_G.go (fun _ k => XS.aloadN X0.here hx rfl (hb hby d_prog717x_0) rfl rfl k) ?_
  show own_G _ _ _ _ (s₁.setTop (mkF m 1 #[.val (.ref d)] [(.ref d)]))
  obtain ⟨T_1, X_1, e_1, st_1⟩ := getF X0 hx hZ hown (host := "") (Or.inl (own_w hw 32 rfl)) Via.refl e0 F0 (g := (mkF m 1 #[.val (.ref d)] [(.ref d)])) rfl rfl (hb hby d_prog717x_1)
  refine own_G.go st_1 ?_
  show own_G _ _ _ _ (T_1.setTop (mkF m 4 #[.val (.ref d)] [(.ref st)]))
  obtain ⟨T_2, X_2, e_2, st_2⟩ := own_getFR X_1 hx hZ hown (own_w hw 80 rfl) e_1 F1 (g := (mkF m 4 #[.val (.ref d)] [(.ref st)])) rfl rfl (hb hby d_prog717x_4)
  refine own_G.go st_2 ?_
  show own_G _ _ _ _ (T_2.setTop (mkF m 7 #[.val (.ref d)] [(.ref r)]))
  refine own_G.go (fun _ k => XS.ifnonnullYes X_2.here hx rfl (pc0 := 7) (pc' := 15) rfl (hb hby d_prog717x_7) rfl (by decide) (by decide) k) ?_
  show own_G _ _ _ _ (T_2.setTop (mkF m 15 #[.val (.ref d)] []))
  obtain ⟨T_3, h_3, X_3, e_3, E_3, A_3, D_3, -, st_3⟩ := newO X_2 hx hZ hown (own_w hw 129 rfl) (own_w hw 130 rfl) (own_w hw 131 rfl) e_2 (g := (mkF m 15 #[.val (.ref d)] [])) rfl (hb hby d_prog717x_15) (by decide) (by decide)
  obtain ⟨a_3, g_3⟩ : ∃ z, z = h0.size := ⟨_, rfl⟩
  rw [← g_3] at A_3 D_3 st_3
  refine own_G.go st_3 ?_
  have CH_4 : CHr Z own_EL s.vm h0 s.vm h_3 := CH0.trans (CHr.ext E_3 CH0.1)
  have F_3_value : Fld Z h_3 a_3 "java/lang/AbstractStringBuilder" "value" "[B" .null := D_3 (Or.inl (own_w hw 144 rfl)) (ty := (.array .byte)) (by decide)
  have F_3_coder : Fld Z h_3 a_3 "java/lang/AbstractStringBuilder" "coder" "B" (.int (0 : Int32)) := D_3 (Or.inl (own_w hw 146 rfl)) (ty := .byte) (by decide)
  have F_3_count : Fld Z h_3 a_3 "java/lang/AbstractStringBuilder" "count" "I" (.int (0 : Int32)) := D_3 (Or.inl (own_w hw 170 rfl)) (ty := .int) (by decide)
  show own_G _ _ _ _ (T_3.setTop (mkF m 18 #[.val (.ref d)] [(.ref a_3)]))
  refine own_G.go (fun _ k => XS.dup X_3.here hx rfl (hb hby d_prog717x_18) rfl rfl k) ?_
  show own_G _ _ _ _ (T_3.setTop (mkF m 19 #[.val (.ref d)] [(.ref a_3), (.ref a_3)]))
  have Ssb : Safe Z own_EL s.vm h_3 a_3 := (Safe.exa hZ.alike A_3 (by decide) (by decide))
  have g0_a_3 : n0 ≤ a_3 := Nat.le_trans Z0 (Nat.le_of_eq g_3.symm)
  have O_5d : Old Z n0 h_3 := (X00.ext E_3)
  obtain ⟨_, T_6, L_6, Q_6, X_6, st_6⟩ := own_callI X_3 hx rfl hown (mvT hZ (own_w hw 132 rfl)) (mvT hZ (own_w hw 133 rfl)) (mvT hZ (own_w hw 134 rfl)) (by decide) (Q := (Qsb Z a_3 h_3 n0)) (backOf (W := 1) (rm_sbi l Z a0 hw [] a_3 zc h_3 n0 (Nat.le_trans Z0 E_3.1) g0_a_3 A_3 F_3_value F_3_coder F_3_count O2 P5 O_5d) hZ (own_w hw 134 rfl) (own_w hw 131 rfl) (by decide) (by decide)) (a := a_3) (g := (mkF m 19 #[.val (.ref d)] [(.ref a_3), (.ref a_3)])) rfl (by rw [hml]; rfl) (argsL := []) (rest := [(.ref a_3)]) (lenOf pd_20 rfl) rfl (by show 2 * 0 + _ ≤ _; exact Nat.le_of_eq rfl) (hb hby d_prog717x_19) e_3 rfl (by decide) (by decide)
  obtain ⟨q_6, kq_6, rfl, Nq_6, K_6, lo_6, Es_6, Fv_6, Fc_6, Fn_6, Eb_6, V_6⟩ := Q_6
  refine own_G.via st_6 ?_
  have Sf_7_a_3 : Safe Z own_EL s.vm T_6.heap a_3 := (Safe.keep K_6 (sfS Ssb sf0) CH_4.1 Ssb)
  have CH_7 : CHr Z own_EL s.vm h0 s.vm T_6.heap := CH_4.trans (CHr.keep K_6 (sfS Ssb sf0) CH_4.1)
  have Sn_6 : Safe Z own_EL s.vm T_6.heap q_6 := Safe.keep K_6 (sfS Ssb sf0) CH_4.1 (Safe.new lo_6)
  have W_6 : Arv Z T_6.heap q_6 kq_6 .byte (16 : Int32) (own_L1 c0 c1 c2 c3) (.int (0 : Int32)) := V_6
  have N_6 := Fr.app N0 Nq_6
  show own_G _ _ _ _ (T_6.setTop (mkF m 22 #[.val (.ref d)] [(.ref a_3)]))
  obtain ⟨al_8, T_8, h_8, k_8, bl_8, kl_8, X_8, e_8, E_8, hS_8, hk_8, hZ_8, hown_8, Ex_8, Fc_8, Fv_8, Va_8, lta_8, ltb_8, Cr_8, -, hne_8, st_8⟩ := ldcCH X_6 hx hZ hown (own_w hw 147 rfl) hstr rfl hS0 (Nat.le_trans (Nat.zero_le _) (Nat.le_trans E_3.1 K_6.1)) hEW (by simp [own_EL]) CH_7.1 (vs := ([(.int (116 : Int32)), (.int (114 : Int32)), (.int (97 : Int32)), (.int (110 : Int32)), (.int (115 : Int32)), (.int (97 : Int32)), (.int (99 : Int32)), (.int (116 : Int32)), (.int (105 : Int32)), (.int (111 : Int32)), (.int (110 : Int32)), (.int (32 : Int32)), (.int (39 : Int32))] : List Value)) (z := (13 : Int32)) (own_lit2) (by decide) (by decide) (g := (mkF m 22 #[.val (.ref d)] [(.ref a_3)])) rfl (hb hby d_prog717x_22) (n := 52) (by decide +kernel) (by decide) (by decide) (by decide)
  refine own_G.go st_8 ?_
  have Sf_9_a_3 : Safe Z own_EL T_8.vm h_8 a_3 := Cr_8.safe (Nat.lt_of_lt_of_le A_3.lt K_6.1) Sf_7_a_3
  have Sf_9_q_6 : Safe Z own_EL T_8.vm h_8 q_6 := Cr_8.safe V_6.lt Sn_6
  have CH_9 : CHr Z own_EL s.vm h0 T_8.vm h_8 := CH_7.trans Cr_8
  show own_G _ _ _ _ (T_8.setTop (mkF m 24 #[.val (.ref d)] [(.ref al_8), (.ref a_3)]))
  have Es_6'_10 : Exa Z h_8 a_3 "java/lang/StringBuilder" := (Es_6.ext E_8)
  have Fv_6'_11 : Fld Z h_8 a_3 "java/lang/AbstractStringBuilder" "value" "[B" (.ref q_6) := (Fv_6.ext E_8)
  have Fc_6'_12 : Fld Z h_8 a_3 "java/lang/AbstractStringBuilder" "coder" "B" (.int (0 : Int32)) := (Fc_6.ext E_8)
  have Fn_6'_13 : Fld Z h_8 a_3 "java/lang/AbstractStringBuilder" "count" "I" (.int (0 : Int32)) := (Fn_6.ext E_8)
  have W_6'_14 : Arv Z h_8 q_6 kq_6 .byte (16 : Int32) (own_L1 c0 c1 c2 c3) (.int (0 : Int32)) := (W_6.ext E_8)
  have g0_q_6 : n0 ≤ q_6 := Nat.le_trans (Nat.le_trans Z0 E_3.1) lo_6
  have O_15d : Old Z n0 h_8 := ((O_5d.keep K_6 (allS g0_a_3 all0)).ext E_8)
  obtain ⟨cq_16, kq_16, q_16a, q_16b, q_16c⟩ := isOf hZ_8 e_8 Es_6'_10
  obtain ⟨_, T_16, L_16, Q_16, X_16, st_16⟩ := own_callV X_8 hx (z := (⟨"java/lang/StringBuilder", "append", "(Ljava/lang/String;)Ljava/lang/StringBuilder;"⟩ : MethodName)) hown_8 (mvT hZ_8 (own_w hw 148 rfl)) (mvT hZ_8 (own_w hw 149 rfl)) (notFace_of_selects (args := #[]) (mvT hZ_8 (own_w hw 151 rfl))) (mvT hZ_8 (own_w hw 151 rfl)) (mvT hZ_8 (own_w hw 150 rfl)) (by decide) (Q := (QapN Z a_3 q_6 kq_6 (16 : Int32) (0 : Int32) (13 : Int32) ([(.int (116 : Int32)), (.int (114 : Int32)), (.int (97 : Int32)), (.int (110 : Int32)), (.int (115 : Int32)), (.int (97 : Int32)), (.int (99 : Int32)), (.int (116 : Int32)), (.int (105 : Int32)), (.int (111 : Int32)), (.int (110 : Int32)), (.int (32 : Int32)), (.int (39 : Int32))] : List Value) (own_L1 c0 c1 c2 c3) h_8 n0)) (backOf (W := 0) (rm_asN l Z a0 hw [] a_3 al_8 bl_8 q_6 kl_8 kq_6 (16 : Int32) (0 : Int32) (13 : Int32) ([(.int (116 : Int32)), (.int (114 : Int32)), (.int (97 : Int32)), (.int (110 : Int32)), (.int (115 : Int32)), (.int (97 : Int32)), (.int (99 : Int32)), (.int (116 : Int32)), (.int (105 : Int32)), (.int (111 : Int32)), (.int (110 : Int32)), (.int (32 : Int32)), (.int (39 : Int32))] : List Value) (own_L1 c0 c1 c2 c3) zc h_8 n0 (Nat.le_trans Z0 (Nat.le_trans (Nat.le_trans E_3.1 K_6.1) E_8.1)) Es_6'_10 Fv_6'_11 Fc_6'_12 Fn_6'_13 Ex_8 Fc_8 Fv_8 Va_8 W_6'_14 g0_q_6 (Nat.ne_of_lt (Nat.lt_of_lt_of_le A_3.lt lo_6)) (Nat.le_of_ble_eq_true rfl) (by decide) g0_a_3 rfl (by decide) (by decide) (by decide) O2 P5 O_15d) hZ_8 (own_w hw 152 rfl) (own_w hw 131 rfl) (by decide) (by decide)) q_16a q_16c (g := (mkF m 24 #[.val (.ref d)] [(.ref al_8), (.ref a_3)])) rfl (by rw [hml]; rfl) (argsL := [(.ref al_8)]) (rest := []) (lenOf pd_26 rfl) rfl (by show 2 * 0 + _ ≤ _; exact Nat.le_of_eq rfl) (hb hby d_prog717x_24) e_8 rfl (by decide) (by decide)
  obtain ⟨rfl, Nq_16, K_16, Es_16, Fv_16, Fc_16, Fn_16, V_16⟩ := Q_16
  refine own_G.via st_16 ?_
  have Sf_17_a_3 : Safe Z own_EL T_8.vm T_16.heap a_3 := (Safe.keep K_16 (sfS Sf_9_a_3 (sfS Sf_9_q_6 sf0)) CH_9.1 Sf_9_a_3)
  have Sf_17_q_6 : Safe Z own_EL T_8.vm T_16.heap q_6 := (Safe.keep K_16 (sfS Sf_9_a_3 (sfS Sf_9_q_6 sf0)) CH_9.1 Sf_9_q_6)
  have CH_17 : CHr Z own_EL s.vm h0 T_8.vm T_16.heap := CH_9.trans (CHr.keep K_16 (sfS Sf_9_a_3 (sfS Sf_9_q_6 sf0)) CH_9.1)
  have W_16 : Arv Z T_16.heap q_6 kq_6 .byte (16 : Int32) (own_L2 c0 c1 c2 c3) (.int (0 : Int32)) := V_16
  have N_16 := Fr.app N_6 Nq_16
  have G_16 : Fld Z T_16.heap a_3 "java/lang/AbstractStringBuilder" "count" "I" (.int (13 : Int32)) := Fn_16
  show own_G _ _ _ _ (T_16.setTop (mkF m 27 #[.val (.ref d)] [(.ref a_3)]))
  refine own_G.go (fun _ k => XS.aloadN X_16.here hx rfl (hb hby d_prog717x_27) rfl rfl k) ?_
  show own_G _ _ _ _ (T_16.setTop (mkF m 28 #[.val (.ref d)] [(.ref d), (.ref a_3)]))
  have F0'_18 : Fld Z T_16.heap d "com/example/enlist/enlist/definition/TransactionDefinition" "settings" "Lcom/example/enlist/enlist/definition/TransactionDefinition$Settings;" (.ref st) := ((((F0.ext E_3).keep K_6 (ninS (Nat.ne_of_lt (Nat.lt_of_lt_of_le F0.lt (Nat.le_of_eq g_3.symm))) nin0)).ext E_8).keep K_16 (ninS (Nat.ne_of_lt (Nat.lt_of_lt_of_le F0.lt (Nat.le_of_eq g_3.symm))) (ninS (Nat.ne_of_lt (Nat.lt_of_lt_of_le (Nat.lt_of_lt_of_le F0.lt E_3.1) lo_6)) nin0)))
  obtain ⟨T_19, X_19, e_19, st_19⟩ := getF X_16 hx hZ_8 hown_8 (host := "") (Or.inl (own_w hw 32 rfl)) Via.refl rfl F0'_18 (g := (mkF m 28 #[.val (.ref d)] [(.ref d), (.ref a_3)])) rfl rfl (hb hby d_prog717x_28)
  refine own_G.go st_19 ?_
  show own_G _ _ _ _ (T_19.setTop (mkF m 31 #[.val (.ref d)] [(.ref st), (.ref a_3)]))
  have F1'_20 : Fld Z T_16.heap st "com/example/enlist/enlist/definition/TransactionDefinition$Settings" "name" "Ljava/lang/String;" (.ref r) := ((((F1.ext E_3).keep K_6 (ninS (Nat.ne_of_lt (Nat.lt_of_lt_of_le F1.lt (Nat.le_of_eq g_3.symm))) nin0)).ext E_8).keep K_16 (ninS (Nat.ne_of_lt (Nat.lt_of_lt_of_le F1.lt (Nat.le_of_eq g_3.symm))) (ninS (Nat.ne_of_lt (Nat.lt_of_lt_of_le (Nat.lt_of_lt_of_le F1.lt E_3.1) lo_6)) nin0)))
  obtain ⟨T_21, X_21, e_21, st_21⟩ := own_getFR X_19 hx hZ_8 hown_8 (own_w hw 80 rfl) e_19 F1'_20 (g := (mkF m 31 #[.val (.ref d)] [(.ref st), (.ref a_3)])) rfl rfl (hb hby d_prog717x_31)
  refine own_G.go st_21 ?_
  show own_G _ _ _ _ (T_21.setTop (mkF m 34 #[.val (.ref d)] [(.ref r), (.ref a_3)]))
  have E0'_22 : Exa Z T_16.heap r "java/lang/String" := ((((E0.ext E_3).keep K_6).ext E_8).keep K_16)
  have C0'_23 : Fld Z T_16.heap r "java/lang/String" "coder" "B" (.int (0 : Int32)) := ((((C0.ext E_3).keep K_6 (ninS (Nat.ne_of_lt (Nat.lt_of_lt_of_le E0.lt (Nat.le_of_eq g_3.symm))) nin0)).ext E_8).keep K_16 (ninS (Nat.ne_of_lt (Nat.lt_of_lt_of_le E0.lt (Nat.le_of_eq g_3.symm))) (ninS (Nat.ne_of_lt (Nat.lt_of_lt_of_le (Nat.lt_of_lt_of_le E0.lt E_3.1) lo_6)) nin0)))
  have V0'_24 : Fld Z T_16.heap r "java/lang/String" "value" "[B" (.ref t) := ((((V0.ext E_3).keep K_6 (ninS (Nat.ne_of_lt (Nat.lt_of_lt_of_le E0.lt (Nat.le_of_eq g_3.symm))) nin0)).ext E_8).keep K_16 (ninS (Nat.ne_of_lt (Nat.lt_of_lt_of_le E0.lt (Nat.le_of_eq g_3.symm))) (ninS (Nat.ne_of_lt (Nat.lt_of_lt_of_le (Nat.lt_of_lt_of_le E0.lt E_3.1) lo_6)) nin0)))
  have K1'_25 : Arv Z T_16.heap t kt .byte (3 : Int32) (own_L10 c0 c1 c2 c3) (.int (0 : Int32)) := ((((K1.ext E_3).keep K_6 (ninS (Nat.ne_of_lt (Nat.lt_of_lt_of_le K1.lt (Nat.le_of_eq g_3.symm))) nin0)).ext E_8).keep K_16 (ninS (Nat.ne_of_lt (Nat.lt_of_lt_of_le K1.lt (Nat.le_of_eq g_3.symm))) (ninS (Nat.ne_of_lt (Nat.lt_of_lt_of_le (Nat.lt_of_lt_of_le K1.lt E_3.1) lo_6)) nin0)))
  have O_26d : Old Z n0 T_16.heap := (O_15d.keep K_16 (allS g0_a_3 (allS g0_q_6 all0)))
  obtain ⟨cq_27, kq_27, q_27a, q_27b, q_27c⟩ := isOf hZ_8 e_21 Es_16
  obtain ⟨_, T_27, L_27, Q_27, X_27, st_27⟩ := own_callV X_21 hx (z := (⟨"java/lang/StringBuilder", "append", "(Ljava/lang/String;)Ljava/lang/StringBuilder;"⟩ : MethodName)) hown_8 (mvT hZ_8 (own_w hw 148 rfl)) (mvT hZ_8 (own_w hw 149 rfl)) (notFace_of_selects (args := #[]) (mvT hZ_8 (own_w hw 151 rfl))) (mvT hZ_8 (own_w hw 151 rfl)) (mvT hZ_8 (own_w hw 150 rfl)) (by decide) (Q := (QapN Z a_3 q_6 kq_6 (16 : Int32) (13 : Int32) (3 : Int32) (own_L10 c0 c1 c2 c3) (own_L2 c0 c1 c2 c3) T_16.heap n0)) (backOf (W := 0) (rm_asN l Z a0 hw [] a_3 r t q_6 kt kq_6 (16 : Int32) (13 : Int32) (3 : Int32) (own_L10 c0 c1 c2 c3) (own_L2 c0 c1 c2 c3) zc T_16.heap n0 (Nat.le_trans Z0 (Nat.le_trans (Nat.le_trans (Nat.le_trans E_3.1 K_6.1) E_8.1) K_16.1)) Es_16 Fv_16 Fc_16 G_16 E0'_22 C0'_23 V0'_24 K1'_25 W_16 g0_q_6 (Nat.ne_of_lt (Nat.lt_of_lt_of_le A_3.lt lo_6)) (Nat.le_of_ble_eq_true rfl) (by decide) g0_a_3 rfl (by decide) (by decide) (by decide) O2 P5 O_26d) hZ_8 (own_w hw 152 rfl) (own_w hw 131 rfl) (by decide) (by decide)) q_27a q_27c (g := (mkF m 34 #[.val (.ref d)] [(.ref r), (.ref a_3)])) rfl (by rw [hml]; rfl) (argsL := [(.ref r)]) (rest := []) (lenOf pd_26 rfl) rfl (by show 2 * 0 + _ ≤ _; exact Nat.le_of_eq rfl) (hb hby d_prog717x_34) e_21 rfl (by decide) (by decide)
  obtain ⟨rfl, Nq_27, K_27, Es_27, Fv_27, Fc_27, Fn_27, V_27⟩ := Q_27
  refine own_G.via st_27 ?_
  have Sf_28_a_3 : Safe Z own_EL T_8.vm T_27.heap a_3 := (Safe.keep K_27 (sfS Sf_17_a_3 (sfS Sf_17_q_6 sf0)) CH_17.1 Sf_17_a_3)
  have Sf_28_q_6 : Safe Z own_EL T_8.vm T_27.heap q_6 := (Safe.keep K_27 (sfS Sf_17_a_3 (sfS Sf_17_q_6 sf0)) CH_17.1 Sf_17_q_6)
  have CH_28 : CHr Z own_EL s.vm h0 T_8.vm T_27.heap := CH_17.trans (CHr.keep K_27 (sfS Sf_17_a_3 (sfS Sf_17_q_6 sf0)) CH_17.1)
  have W_27 : Arv Z T_27.heap q_6 kq_6 .byte (16 : Int32) (own_L11 c0 c1 c2 c3) (.int (0 : Int32)) := V_27
  have N_27 := Fr.app N_16 Nq_27
  have G_27 : Fld Z T_27.heap a_3 "java/lang/AbstractStringBuilder" "count" "I" (.int (16 : Int32)) := Fn_27
  show own_G _ _ _ _ (T_27.setTop (mkF m 37 #[.val (.ref d)] [(.ref a_3)]))
  obtain ⟨al_29, T_29, h_29, k_29, bl_29, kl_29, X_29, e_29, E_29, hS_29, hk_29, hZ_29, hown_29, Ex_29, Fc_29, Fv_29, Va_29, lta_29, ltb_29, Cr_29, -, hne_29, st_29⟩ := ldcCH X_27 hx hZ_8 hown_8 (own_w hw 196 rfl) hstr rfl hS_8 (Nat.le_trans hk_8 (Nat.le_trans K_16.1 K_27.1)) hEW (by simp [own_EL]) CH_28.1 (vs := ([(.int (39 : Int32))] : List Value)) (z := (1 : Int32)) (own_lit3) (by decide) (by decide) (g := (mkF m 37 #[.val (.ref d)] [(.ref a_3)])) rfl (hb hby d_prog717x_37) (n := 4) (by decide +kernel) (by decide) (by decide) (by decide)
  refine own_G.go st_29 ?_
  have Sf_30_a_3 : Safe Z own_EL T_29.vm h_29 a_3 := Cr_29.safe (Nat.lt_of_lt_of_le A_3.lt (Nat.le_trans (Nat.le_trans (Nat.le_trans K_6.1 E_8.1) K_16.1) K_27.1)) Sf_28_a_3
  have Sf_30_q_6 : Safe Z own_EL T_29.vm h_29 q_6 := Cr_29.safe (Nat.lt_of_lt_of_le V_6.lt (Nat.le_trans (Nat.le_trans E_8.1 K_16.1) K_27.1)) Sf_28_q_6
  have CH_30 : CHr Z own_EL s.vm h0 T_29.vm h_29 := CH_28.trans Cr_29
  show own_G _ _ _ _ (T_29.setTop (mkF m 39 #[.val (.ref d)] [(.ref al_29), (.ref a_3)]))
  have Es_27'_31 : Exa Z h_29 a_3 "java/lang/StringBuilder" := (Es_27.ext E_29)
  have Fv_27'_32 : Fld Z h_29 a_3 "java/lang/AbstractStringBuilder" "value" "[B" (.ref q_6) := (Fv_27.ext E_29)
  have Fc_27'_33 : Fld Z h_29 a_3 "java/lang/AbstractStringBuilder" "coder" "B" (.int (0 : Int32)) := (Fc_27.ext E_29)
  have G_27'_34 : Fld Z h_29 a_3 "java/lang/AbstractStringBuilder" "count" "I" (.int (16 : Int32)) := (G_27.ext E_29)
  have W_27'_35 : Arv Z h_29 q_6 kq_6 .byte (16 : Int32) (own_L11 c0 c1 c2 c3) (.int (0 : Int32)) := (W_27.ext E_29)
  have O_36d : Old Z n0 h_29 := ((O_26d.keep K_27 (allS g0_a_3 (allS g0_q_6 all0))).ext E_29)
  obtain ⟨cq_37, kq_37, q_37a, q_37b, q_37c⟩ := isOf hZ_29 e_29 Es_27'_31
  obtain ⟨_, T_37, L_37, Q_37, X_37, st_37⟩ := own_callV X_29 hx (z := (⟨"java/lang/StringBuilder", "append", "(Ljava/lang/String;)Ljava/lang/StringBuilder;"⟩ : MethodName)) hown_29 (mvT hZ_29 (own_w hw 148 rfl)) (mvT hZ_29 (own_w hw 149 rfl)) (notFace_of_selects (args := #[]) (mvT hZ_29 (own_w hw 151 rfl))) (mvT hZ_29 (own_w hw 151 rfl)) (mvT hZ_29 (own_w hw 150 rfl)) (by decide) (Q := (QapG Z a_3 (16 : Int32) (1 : Int32) ([(.int (39 : Int32))] : List Value) (own_L11 c0 c1 c2 c3) h_29 n0)) (backOf (W := 0) (rm_asG l Z a0 hw [] a_3 al_29 bl_29 q_6 kl_29 kq_6 (16 : Int32) (1 : Int32) ([(.int (39 : Int32))] : List Value) (own_L11 c0 c1 c2 c3) zc h_29 n0 (Nat.le_trans Z0 (Nat.le_trans (Nat.le_trans (Nat.le_trans (Nat.le_trans (Nat.le_trans E_3.1 K_6.1) E_8.1) K_16.1) K_27.1) E_29.1)) Es_27'_31 Fv_27'_32 Fc_27'_33 G_27'_34 Ex_29 Fc_29 Fv_29 Va_29 (Ne.symm (hne_29 a_3 Sf_30_a_3).1) (Ne.symm (hne_29 a_3 Sf_30_a_3).2) W_27'_35 rfl rfl (Nat.le_of_ble_eq_true rfl) g0_a_3 rfl (by decide) (by decide) (by decide) O2 P5 O_36d) hZ_29 (own_w hw 152 rfl) (own_w hw 131 rfl) (by decide) (by decide)) q_37a q_37c (g := (mkF m 39 #[.val (.ref d)] [(.ref al_29), (.ref a_3)])) rfl (by rw [hml]; rfl) (argsL := [(.ref al_29)]) (rest := []) (lenOf pd_26 rfl) rfl (by show 2 * 0 + _ ≤ _; exact Nat.le_of_eq rfl) (hb hby d_prog717x_39) e_29 rfl (by decide) (by decide)
  obtain ⟨q_37, kq_37, rfl, Nq_37, K_37, lo_37, Es_37, Fv_37, Fc_37, Fn_37, V_37⟩ := Q_37
  refine own_G.via st_37 ?_
  have Sf_38_a_3 : Safe Z own_EL T_29.vm T_37.heap a_3 := (Safe.keep K_37 (sfS Sf_30_a_3 sf0) CH_30.1 Sf_30_a_3)
  have Sf_38_q_6 : Safe Z own_EL T_29.vm T_37.heap q_6 := (Safe.keep K_37 (sfS Sf_30_a_3 sf0) CH_30.1 Sf_30_q_6)
  have CH_38 : CHr Z own_EL s.vm h0 T_29.vm T_37.heap := CH_30.trans (CHr.keep K_37 (sfS Sf_30_a_3 sf0) CH_30.1)
  have Sn_37 : Safe Z own_EL T_29.vm T_37.heap q_37 := Safe.keep K_37 (sfS Sf_30_a_3 sf0) CH_30.1 (Safe.new lo_37)
  have W_37 : Arv Z T_37.heap q_37 kq_37 .byte (34 : Int32) (own_L12 c0 c1 c2 c3) (.int (0 : Int32)) := V_37
  have N_37 := Fr.app N_27 Nq_37
  have G_37 : Fld Z T_37.heap a_3 "java/lang/AbstractStringBuilder" "count" "I" (.int (17 : Int32)) := Fn_37
  show own_G _ _ _ _ (T_37.setTop (mkF m 42 #[.val (.ref d)] [(.ref a_3)]))
  have O_39d : Old Z n0 T_37.heap := (O_36d.keep K_37 (allS g0_a_3 all0))
  obtain ⟨cq_40, kq_40, q_40a, q_40b, q_40c⟩ := isOf hZ_29 rfl Es_37
  obtain ⟨_, T_40, L_40, Q_40, X_40, st_40⟩ := own_callV X_37 hx (z := (⟨"java/lang/StringBuilder", "toString", "()Ljava/lang/String;"⟩ : MethodName)) hown_29 (mvT hZ_29 (own_w hw 197 rfl)) (mvT hZ_29 (own_w hw 198 rfl)) (notFace_of_selects (args := #[]) (mvT hZ_29 (own_w hw 200 rfl))) (mvT hZ_29 (own_w hw 200 rfl)) (mvT hZ_29 (own_w hw 199 rfl)) (by decide) (Q := (Qts Z (17 : Int32) (own_cr (own_L12 c0 c1 c2 c3) (17 : Int32)) T_37.heap n0)) (backOf (W := 0) (rm_stsC l Z a0 hw [] a_3 q_37 kq_37 (34 : Int32) (17 : Int32) (own_L12 c0 c1 c2 c3) zc T_37.heap n0 (Nat.le_trans Z0 (Nat.le_trans (Nat.le_trans (Nat.le_trans (Nat.le_trans (Nat.le_trans (Nat.le_trans E_3.1 K_6.1) E_8.1) K_16.1) K_27.1) E_29.1) K_37.1)) Es_37 Fv_37 Fc_37 G_37 W_37 (by decide) (by decide) (by decide) (by decide) (by decide) O2 P5 O_39d) hZ_29 (own_w hw 201 rfl) (own_w hw 131 rfl) (by decide) (by decide)) q_40a q_40c (g := (mkF m 42 #[.val (.ref d)] [(.ref a_3)])) rfl (by rw [hml]; rfl) (argsL := []) (rest := []) (lenOf pd_27 rfl) rfl (by show 2 * 0 + _ ≤ _; exact Nat.le_of_eq rfl) (hb hby d_prog717x_42) rfl rfl (by decide) (by decide)
  obtain ⟨r_40, t_40, kt_40, rfl, Nq_40, K_40, lo_40, Ex_40, Fc_40, Fv_40, V_40⟩ := Q_40
  refine own_G.via st_40 ?_
  have Sf_41_a_3 : Safe Z own_EL T_29.vm T_40.heap a_3 := (Safe.keep K_40 sf0 CH_38.1 Sf_38_a_3)
  have Sf_41_q_6 : Safe Z own_EL T_29.vm T_40.heap q_6 := (Safe.keep K_40 sf0 CH_38.1 Sf_38_q_6)
  have Sf_41_q_37 : Safe Z own_EL T_29.vm T_40.heap q_37 := (Safe.keep K_40 sf0 CH_38.1 Sn_37)
  have CH_41 : CHr Z own_EL s.vm h0 T_29.vm T_40.heap := CH_38.trans (CHr.keep K_40 sf0 CH_38.1)
  have W_40 : Arv Z T_40.heap t_40 kt_40 .byte (Int32.ofNat (own_tx (3 : Int32) c0 c1 c2 c3).length) (((own_tx (3 : Int32) c0 c1 c2 c3).map (fun c => c.toInt8.toInt32)).map Value.int) (.int (0 : Int32)) := V_40
  have N_40 := Fr.app N_37 Nq_40
  show own_G _ _ _ _ (T_40.setTop (mkF m 45 #[.val (.ref d)] [(.ref r_40)]))
  exact own_G.endH X_40 hS_29 (Nat.le_trans hk_29 (Nat.le_trans K_37.1 K_40.1)) hZ_29 hEW (hh ▸ CH_41) hlk (v := (some (.ref r_40))) (fun h => by rw [hrt] at h; cases h) (fun fs hr => retOut X_40 hx hrt rfl (Or.inr (Or.inr (Or.inr (Or.inr ⟨rfl, rfl, rfl⟩)))) (hb hby d_prog717x_45) hr) rfl ⟨r_40, t_40, kt_40, rfl, N_40, (((((((((Keep.refl h0 []).ext E_3).trans K_6 (allS (Or.inr (Nat.le_of_eq g_3.symm)) all0)).ext E_8).trans K_16 (allS (Or.inr (Nat.le_of_eq g_3.symm)) (allS (Or.inr (Nat.le_trans E_3.1 lo_6)) all0))).trans K_27 (allS (Or.inr (Nat.le_of_eq g_3.symm)) (allS (Or.inr (Nat.le_trans E_3.1 lo_6)) all0))).ext E_29).trans K_37 (allS (Or.inr (Nat.le_of_eq g_3.symm)) all0)).trans K_40 all0), Ex_40, Fc_40, Fv_40, W_40⟩ (by decide) (by decide)
set_option maxRecDepth 65536 in
set_option maxHeartbeats 40000000 in
theorem rm_ts4 (l : Launch) (Z : State) (a0 : Array Value) (hw : ∀ d ∈ tables_1, d.before a0 Z = true) (ws : List Jvm.Cond) (c0 c1 c2 c3 : Int32) (d st r t : Addr) (kt : ClassId) (zc : Int32) (h0 : Heap) (n0 : Nat) (Z0 : n0 ≤ h0.size) (b0 : own_b c0) (b1 : own_b c1) (b2 : own_b c2) (b3 : own_b c3) (F0 : Fld Z h0 d "com/example/enlist/enlist/definition/TransactionDefinition" "settings" "Lcom/example/enlist/enlist/definition/TransactionDefinition$Settings;" (.ref st)) (F1 : Fld Z h0 st "com/example/enlist/enlist/definition/TransactionDefinition$Settings" "name" "Ljava/lang/String;" (.ref r)) (E0 : Exa Z h0 r "java/lang/String") (C0 : Fld Z h0 r "java/lang/String" "coder" "B" (.int (0 : Int32))) (V0 : Fld Z h0 r "java/lang/String" "value" "[B" (.ref t)) (K0 : Arv Z h0 t kt .byte (Int32.ofNat (own_cs (4 : Int32) c0 c1 c2 c3).length) (((own_cs (4 : Int32) c0 c1 c2 c3).map (fun c => c.toInt8.toInt32)).map Value.int) (.int (0 : Int32))) (O2 : Sta Z Z.heap "java/lang/String" "COMPACT_STRINGS" "Z" (.int zc)) (P5 : ¬ (zc = (0 : Int32))) (X00 : Old Z n0 h0) :
    MetFree l (⟨"com/example/enlist/enlist/definition/TransactionDefinition", "toString", "()Ljava/lang/String;"⟩ : MethodName) (head1 (Jvm.Cond.code (⟨"com/example/enlist/enlist/definition/TransactionDefinition", "toString", "()Ljava/lang/String;"⟩ : MethodName) prog_7_method_17_code 1 (some (.object "java/lang/String")) :: ws) ({ frames := 6, cells := 9, slots := 140, locals := 91 } : Room)) (fun a_ U => a_ = #[(.ref d)] ∧ Z.Warmed39 U.vm ∧ U.heap = h0 ∧ CHv Z own_EL U.vm h0) (fun _ _ _ _ _ => True) (fun _ U o U' => ∃ v L, o = .returned v ∧ Qt Z (4 : Int32) c0 c1 c2 c3 h0 n0 v U'.heap L ∧ CHr Z own_EL U.vm U.heap U'.vm U'.heap ∧ ReturnedEndW U o U' L ({ frames := 6, cells := 9, slots := 140, locals := 91 } : Room).cells ({ frames := 6, cells := 9, slots := 140, locals := 91 } : Room).slots) := by
  refine MetFree.of_bodySF (plainFor_of_name pn_10) hisR ?_
  intro p e s m args below meth c s₁ Bd hml0 hP hK
  obtain ⟨rfl, hZ, hh, hCH⟩ := hP
  have hx := Bd.exec
  have hby := Bd.bytes
  have hrt := Bd.returns
  have hlk : meth.locks = false := Bd.notSynchronized
  have hml : c.maxLocals = 1 := hml0
  have hown : s.vm.findClass "com/example/enlist/enlist/definition/TransactionDefinition" = some m.cls := findClass_of_methodNamed Bd.named
  have hnm := (name_of_methodNamed Bd.named Bd.method).1
  have X0 : Stand p l e ({ frames := 6, cells := 9, slots := 140, locals := 91 } : Room) (s.setVm s.vm) m #[(.ref d)] below meth c s₁ [] 0 0 := Stand.of_body Bd
  have e0 : s₁.heap = h0 := by rw [← hh, Bd.state]; rfl
  have N0 := Fr.nil n0
  have hS0 : s.Since s.vm 0 := own_since s 0
  have hstr : ∀ d ∈ Bundle.stringAtoms, d.before a0 Z = true := fun d hd => hw d ((by decide +kernel : ∀ d ∈ Bundle.stringAtoms, d ∈ tables_1) d hd)
  have hEW : EW Z a0 own_EL := own_EW hw
  have CH0 : CHr Z own_EL s.vm h0 s.vm h0 := CHr.refl hCH
  show own_G p.tables e below (fun o t => ∃ v L, o = .returned v ∧ Qt Z (4 : Int32) c0 c1 c2 c3 h0 n0 v t.heap L ∧ CHr Z own_EL s.vm s.heap t.vm t.heap ∧ ReturnedEndW s o t L ({ frames := 6, cells := 9, slots := 140, locals := 91 } : Room).cells ({ frames := 6, cells := 9, slots := 140, locals := 91 } : Room).slots) (s₁.setTop (entryFrame m #[(.ref d)] 1))
  refine own_G.cast (show entryFrame m #[(.ref d)] 1 = mkF m 0 #[.val (.ref d)] [] from by first | (simp [entryFrame, mkF, argsToLocals, Value.category]; done) | rfl) ?_
  have K1 : Arv Z h0 t kt .byte (4 : Int32) (own_L13 c0 c1 c2 c3) (.int (0 : Int32)) := K0
  refine own_G.go (fun _ k => XS.aloadN X0.here hx rfl (hb hby d_prog717x_0) rfl rfl k) ?_
  show own_G _ _ _ _ (s₁.setTop (mkF m 1 #[.val (.ref d)] [(.ref d)]))
  obtain ⟨T_1, X_1, e_1, st_1⟩ := getF X0 hx hZ hown (host := "") (Or.inl (own_w hw 32 rfl)) Via.refl e0 F0 (g := (mkF m 1 #[.val (.ref d)] [(.ref d)])) rfl rfl (hb hby d_prog717x_1)
  refine own_G.go st_1 ?_
  show own_G _ _ _ _ (T_1.setTop (mkF m 4 #[.val (.ref d)] [(.ref st)]))
  obtain ⟨T_2, X_2, e_2, st_2⟩ := own_getFR X_1 hx hZ hown (own_w hw 80 rfl) e_1 F1 (g := (mkF m 4 #[.val (.ref d)] [(.ref st)])) rfl rfl (hb hby d_prog717x_4)
  refine own_G.go st_2 ?_
  show own_G _ _ _ _ (T_2.setTop (mkF m 7 #[.val (.ref d)] [(.ref r)]))
  refine own_G.go (fun _ k => XS.ifnonnullYes X_2.here hx rfl (pc0 := 7) (pc' := 15) rfl (hb hby d_prog717x_7) rfl (by decide) (by decide) k) ?_
  show own_G _ _ _ _ (T_2.setTop (mkF m 15 #[.val (.ref d)] []))
  obtain ⟨T_3, h_3, X_3, e_3, E_3, A_3, D_3, -, st_3⟩ := newO X_2 hx hZ hown (own_w hw 129 rfl) (own_w hw 130 rfl) (own_w hw 131 rfl) e_2 (g := (mkF m 15 #[.val (.ref d)] [])) rfl (hb hby d_prog717x_15) (by decide) (by decide)
  obtain ⟨a_3, g_3⟩ : ∃ z, z = h0.size := ⟨_, rfl⟩
  rw [← g_3] at A_3 D_3 st_3
  refine own_G.go st_3 ?_
  have CH_4 : CHr Z own_EL s.vm h0 s.vm h_3 := CH0.trans (CHr.ext E_3 CH0.1)
  have F_3_value : Fld Z h_3 a_3 "java/lang/AbstractStringBuilder" "value" "[B" .null := D_3 (Or.inl (own_w hw 144 rfl)) (ty := (.array .byte)) (by decide)
  have F_3_coder : Fld Z h_3 a_3 "java/lang/AbstractStringBuilder" "coder" "B" (.int (0 : Int32)) := D_3 (Or.inl (own_w hw 146 rfl)) (ty := .byte) (by decide)
  have F_3_count : Fld Z h_3 a_3 "java/lang/AbstractStringBuilder" "count" "I" (.int (0 : Int32)) := D_3 (Or.inl (own_w hw 170 rfl)) (ty := .int) (by decide)
  show own_G _ _ _ _ (T_3.setTop (mkF m 18 #[.val (.ref d)] [(.ref a_3)]))
  refine own_G.go (fun _ k => XS.dup X_3.here hx rfl (hb hby d_prog717x_18) rfl rfl k) ?_
  show own_G _ _ _ _ (T_3.setTop (mkF m 19 #[.val (.ref d)] [(.ref a_3), (.ref a_3)]))
  have Ssb : Safe Z own_EL s.vm h_3 a_3 := (Safe.exa hZ.alike A_3 (by decide) (by decide))
  have g0_a_3 : n0 ≤ a_3 := Nat.le_trans Z0 (Nat.le_of_eq g_3.symm)
  have O_5d : Old Z n0 h_3 := (X00.ext E_3)
  obtain ⟨_, T_6, L_6, Q_6, X_6, st_6⟩ := own_callI X_3 hx rfl hown (mvT hZ (own_w hw 132 rfl)) (mvT hZ (own_w hw 133 rfl)) (mvT hZ (own_w hw 134 rfl)) (by decide) (Q := (Qsb Z a_3 h_3 n0)) (backOf (W := 1) (rm_sbi l Z a0 hw [] a_3 zc h_3 n0 (Nat.le_trans Z0 E_3.1) g0_a_3 A_3 F_3_value F_3_coder F_3_count O2 P5 O_5d) hZ (own_w hw 134 rfl) (own_w hw 131 rfl) (by decide) (by decide)) (a := a_3) (g := (mkF m 19 #[.val (.ref d)] [(.ref a_3), (.ref a_3)])) rfl (by rw [hml]; rfl) (argsL := []) (rest := [(.ref a_3)]) (lenOf pd_20 rfl) rfl (by show 2 * 0 + _ ≤ _; exact Nat.le_of_eq rfl) (hb hby d_prog717x_19) e_3 rfl (by decide) (by decide)
  obtain ⟨q_6, kq_6, rfl, Nq_6, K_6, lo_6, Es_6, Fv_6, Fc_6, Fn_6, Eb_6, V_6⟩ := Q_6
  refine own_G.via st_6 ?_
  have Sf_7_a_3 : Safe Z own_EL s.vm T_6.heap a_3 := (Safe.keep K_6 (sfS Ssb sf0) CH_4.1 Ssb)
  have CH_7 : CHr Z own_EL s.vm h0 s.vm T_6.heap := CH_4.trans (CHr.keep K_6 (sfS Ssb sf0) CH_4.1)
  have Sn_6 : Safe Z own_EL s.vm T_6.heap q_6 := Safe.keep K_6 (sfS Ssb sf0) CH_4.1 (Safe.new lo_6)
  have W_6 : Arv Z T_6.heap q_6 kq_6 .byte (16 : Int32) (own_L1 c0 c1 c2 c3) (.int (0 : Int32)) := V_6
  have N_6 := Fr.app N0 Nq_6
  show own_G _ _ _ _ (T_6.setTop (mkF m 22 #[.val (.ref d)] [(.ref a_3)]))
  obtain ⟨al_8, T_8, h_8, k_8, bl_8, kl_8, X_8, e_8, E_8, hS_8, hk_8, hZ_8, hown_8, Ex_8, Fc_8, Fv_8, Va_8, lta_8, ltb_8, Cr_8, -, hne_8, st_8⟩ := ldcCH X_6 hx hZ hown (own_w hw 147 rfl) hstr rfl hS0 (Nat.le_trans (Nat.zero_le _) (Nat.le_trans E_3.1 K_6.1)) hEW (by simp [own_EL]) CH_7.1 (vs := ([(.int (116 : Int32)), (.int (114 : Int32)), (.int (97 : Int32)), (.int (110 : Int32)), (.int (115 : Int32)), (.int (97 : Int32)), (.int (99 : Int32)), (.int (116 : Int32)), (.int (105 : Int32)), (.int (111 : Int32)), (.int (110 : Int32)), (.int (32 : Int32)), (.int (39 : Int32))] : List Value)) (z := (13 : Int32)) (own_lit2) (by decide) (by decide) (g := (mkF m 22 #[.val (.ref d)] [(.ref a_3)])) rfl (hb hby d_prog717x_22) (n := 52) (by decide +kernel) (by decide) (by decide) (by decide)
  refine own_G.go st_8 ?_
  have Sf_9_a_3 : Safe Z own_EL T_8.vm h_8 a_3 := Cr_8.safe (Nat.lt_of_lt_of_le A_3.lt K_6.1) Sf_7_a_3
  have Sf_9_q_6 : Safe Z own_EL T_8.vm h_8 q_6 := Cr_8.safe V_6.lt Sn_6
  have CH_9 : CHr Z own_EL s.vm h0 T_8.vm h_8 := CH_7.trans Cr_8
  show own_G _ _ _ _ (T_8.setTop (mkF m 24 #[.val (.ref d)] [(.ref al_8), (.ref a_3)]))
  have Es_6'_10 : Exa Z h_8 a_3 "java/lang/StringBuilder" := (Es_6.ext E_8)
  have Fv_6'_11 : Fld Z h_8 a_3 "java/lang/AbstractStringBuilder" "value" "[B" (.ref q_6) := (Fv_6.ext E_8)
  have Fc_6'_12 : Fld Z h_8 a_3 "java/lang/AbstractStringBuilder" "coder" "B" (.int (0 : Int32)) := (Fc_6.ext E_8)
  have Fn_6'_13 : Fld Z h_8 a_3 "java/lang/AbstractStringBuilder" "count" "I" (.int (0 : Int32)) := (Fn_6.ext E_8)
  have W_6'_14 : Arv Z h_8 q_6 kq_6 .byte (16 : Int32) (own_L1 c0 c1 c2 c3) (.int (0 : Int32)) := (W_6.ext E_8)
  have g0_q_6 : n0 ≤ q_6 := Nat.le_trans (Nat.le_trans Z0 E_3.1) lo_6
  have O_15d : Old Z n0 h_8 := ((O_5d.keep K_6 (allS g0_a_3 all0)).ext E_8)
  obtain ⟨cq_16, kq_16, q_16a, q_16b, q_16c⟩ := isOf hZ_8 e_8 Es_6'_10
  obtain ⟨_, T_16, L_16, Q_16, X_16, st_16⟩ := own_callV X_8 hx (z := (⟨"java/lang/StringBuilder", "append", "(Ljava/lang/String;)Ljava/lang/StringBuilder;"⟩ : MethodName)) hown_8 (mvT hZ_8 (own_w hw 148 rfl)) (mvT hZ_8 (own_w hw 149 rfl)) (notFace_of_selects (args := #[]) (mvT hZ_8 (own_w hw 151 rfl))) (mvT hZ_8 (own_w hw 151 rfl)) (mvT hZ_8 (own_w hw 150 rfl)) (by decide) (Q := (QapN Z a_3 q_6 kq_6 (16 : Int32) (0 : Int32) (13 : Int32) ([(.int (116 : Int32)), (.int (114 : Int32)), (.int (97 : Int32)), (.int (110 : Int32)), (.int (115 : Int32)), (.int (97 : Int32)), (.int (99 : Int32)), (.int (116 : Int32)), (.int (105 : Int32)), (.int (111 : Int32)), (.int (110 : Int32)), (.int (32 : Int32)), (.int (39 : Int32))] : List Value) (own_L1 c0 c1 c2 c3) h_8 n0)) (backOf (W := 0) (rm_asN l Z a0 hw [] a_3 al_8 bl_8 q_6 kl_8 kq_6 (16 : Int32) (0 : Int32) (13 : Int32) ([(.int (116 : Int32)), (.int (114 : Int32)), (.int (97 : Int32)), (.int (110 : Int32)), (.int (115 : Int32)), (.int (97 : Int32)), (.int (99 : Int32)), (.int (116 : Int32)), (.int (105 : Int32)), (.int (111 : Int32)), (.int (110 : Int32)), (.int (32 : Int32)), (.int (39 : Int32))] : List Value) (own_L1 c0 c1 c2 c3) zc h_8 n0 (Nat.le_trans Z0 (Nat.le_trans (Nat.le_trans E_3.1 K_6.1) E_8.1)) Es_6'_10 Fv_6'_11 Fc_6'_12 Fn_6'_13 Ex_8 Fc_8 Fv_8 Va_8 W_6'_14 g0_q_6 (Nat.ne_of_lt (Nat.lt_of_lt_of_le A_3.lt lo_6)) (Nat.le_of_ble_eq_true rfl) (by decide) g0_a_3 rfl (by decide) (by decide) (by decide) O2 P5 O_15d) hZ_8 (own_w hw 152 rfl) (own_w hw 131 rfl) (by decide) (by decide)) q_16a q_16c (g := (mkF m 24 #[.val (.ref d)] [(.ref al_8), (.ref a_3)])) rfl (by rw [hml]; rfl) (argsL := [(.ref al_8)]) (rest := []) (lenOf pd_26 rfl) rfl (by show 2 * 0 + _ ≤ _; exact Nat.le_of_eq rfl) (hb hby d_prog717x_24) e_8 rfl (by decide) (by decide)
  obtain ⟨rfl, Nq_16, K_16, Es_16, Fv_16, Fc_16, Fn_16, V_16⟩ := Q_16
  refine own_G.via st_16 ?_
  have Sf_17_a_3 : Safe Z own_EL T_8.vm T_16.heap a_3 := (Safe.keep K_16 (sfS Sf_9_a_3 (sfS Sf_9_q_6 sf0)) CH_9.1 Sf_9_a_3)
  have Sf_17_q_6 : Safe Z own_EL T_8.vm T_16.heap q_6 := (Safe.keep K_16 (sfS Sf_9_a_3 (sfS Sf_9_q_6 sf0)) CH_9.1 Sf_9_q_6)
  have CH_17 : CHr Z own_EL s.vm h0 T_8.vm T_16.heap := CH_9.trans (CHr.keep K_16 (sfS Sf_9_a_3 (sfS Sf_9_q_6 sf0)) CH_9.1)
  have W_16 : Arv Z T_16.heap q_6 kq_6 .byte (16 : Int32) (own_L2 c0 c1 c2 c3) (.int (0 : Int32)) := V_16
  have N_16 := Fr.app N_6 Nq_16
  have G_16 : Fld Z T_16.heap a_3 "java/lang/AbstractStringBuilder" "count" "I" (.int (13 : Int32)) := Fn_16
  show own_G _ _ _ _ (T_16.setTop (mkF m 27 #[.val (.ref d)] [(.ref a_3)]))
  refine own_G.go (fun _ k => XS.aloadN X_16.here hx rfl (hb hby d_prog717x_27) rfl rfl k) ?_
  show own_G _ _ _ _ (T_16.setTop (mkF m 28 #[.val (.ref d)] [(.ref d), (.ref a_3)]))
  have F0'_18 : Fld Z T_16.heap d "com/example/enlist/enlist/definition/TransactionDefinition" "settings" "Lcom/example/enlist/enlist/definition/TransactionDefinition$Settings;" (.ref st) := ((((F0.ext E_3).keep K_6 (ninS (Nat.ne_of_lt (Nat.lt_of_lt_of_le F0.lt (Nat.le_of_eq g_3.symm))) nin0)).ext E_8).keep K_16 (ninS (Nat.ne_of_lt (Nat.lt_of_lt_of_le F0.lt (Nat.le_of_eq g_3.symm))) (ninS (Nat.ne_of_lt (Nat.lt_of_lt_of_le (Nat.lt_of_lt_of_le F0.lt E_3.1) lo_6)) nin0)))
  obtain ⟨T_19, X_19, e_19, st_19⟩ := getF X_16 hx hZ_8 hown_8 (host := "") (Or.inl (own_w hw 32 rfl)) Via.refl rfl F0'_18 (g := (mkF m 28 #[.val (.ref d)] [(.ref d), (.ref a_3)])) rfl rfl (hb hby d_prog717x_28)
  refine own_G.go st_19 ?_
  show own_G _ _ _ _ (T_19.setTop (mkF m 31 #[.val (.ref d)] [(.ref st), (.ref a_3)]))
  have F1'_20 : Fld Z T_16.heap st "com/example/enlist/enlist/definition/TransactionDefinition$Settings" "name" "Ljava/lang/String;" (.ref r) := ((((F1.ext E_3).keep K_6 (ninS (Nat.ne_of_lt (Nat.lt_of_lt_of_le F1.lt (Nat.le_of_eq g_3.symm))) nin0)).ext E_8).keep K_16 (ninS (Nat.ne_of_lt (Nat.lt_of_lt_of_le F1.lt (Nat.le_of_eq g_3.symm))) (ninS (Nat.ne_of_lt (Nat.lt_of_lt_of_le (Nat.lt_of_lt_of_le F1.lt E_3.1) lo_6)) nin0)))
  obtain ⟨T_21, X_21, e_21, st_21⟩ := own_getFR X_19 hx hZ_8 hown_8 (own_w hw 80 rfl) e_19 F1'_20 (g := (mkF m 31 #[.val (.ref d)] [(.ref st), (.ref a_3)])) rfl rfl (hb hby d_prog717x_31)
  refine own_G.go st_21 ?_
  show own_G _ _ _ _ (T_21.setTop (mkF m 34 #[.val (.ref d)] [(.ref r), (.ref a_3)]))
  have E0'_22 : Exa Z T_16.heap r "java/lang/String" := ((((E0.ext E_3).keep K_6).ext E_8).keep K_16)
  have C0'_23 : Fld Z T_16.heap r "java/lang/String" "coder" "B" (.int (0 : Int32)) := ((((C0.ext E_3).keep K_6 (ninS (Nat.ne_of_lt (Nat.lt_of_lt_of_le E0.lt (Nat.le_of_eq g_3.symm))) nin0)).ext E_8).keep K_16 (ninS (Nat.ne_of_lt (Nat.lt_of_lt_of_le E0.lt (Nat.le_of_eq g_3.symm))) (ninS (Nat.ne_of_lt (Nat.lt_of_lt_of_le (Nat.lt_of_lt_of_le E0.lt E_3.1) lo_6)) nin0)))
  have V0'_24 : Fld Z T_16.heap r "java/lang/String" "value" "[B" (.ref t) := ((((V0.ext E_3).keep K_6 (ninS (Nat.ne_of_lt (Nat.lt_of_lt_of_le E0.lt (Nat.le_of_eq g_3.symm))) nin0)).ext E_8).keep K_16 (ninS (Nat.ne_of_lt (Nat.lt_of_lt_of_le E0.lt (Nat.le_of_eq g_3.symm))) (ninS (Nat.ne_of_lt (Nat.lt_of_lt_of_le (Nat.lt_of_lt_of_le E0.lt E_3.1) lo_6)) nin0)))
  have K1'_25 : Arv Z T_16.heap t kt .byte (4 : Int32) (own_L13 c0 c1 c2 c3) (.int (0 : Int32)) := ((((K1.ext E_3).keep K_6 (ninS (Nat.ne_of_lt (Nat.lt_of_lt_of_le K1.lt (Nat.le_of_eq g_3.symm))) nin0)).ext E_8).keep K_16 (ninS (Nat.ne_of_lt (Nat.lt_of_lt_of_le K1.lt (Nat.le_of_eq g_3.symm))) (ninS (Nat.ne_of_lt (Nat.lt_of_lt_of_le (Nat.lt_of_lt_of_le K1.lt E_3.1) lo_6)) nin0)))
  have O_26d : Old Z n0 T_16.heap := (O_15d.keep K_16 (allS g0_a_3 (allS g0_q_6 all0)))
  obtain ⟨cq_27, kq_27, q_27a, q_27b, q_27c⟩ := isOf hZ_8 e_21 Es_16
  obtain ⟨_, T_27, L_27, Q_27, X_27, st_27⟩ := own_callV X_21 hx (z := (⟨"java/lang/StringBuilder", "append", "(Ljava/lang/String;)Ljava/lang/StringBuilder;"⟩ : MethodName)) hown_8 (mvT hZ_8 (own_w hw 148 rfl)) (mvT hZ_8 (own_w hw 149 rfl)) (notFace_of_selects (args := #[]) (mvT hZ_8 (own_w hw 151 rfl))) (mvT hZ_8 (own_w hw 151 rfl)) (mvT hZ_8 (own_w hw 150 rfl)) (by decide) (Q := (QapG Z a_3 (13 : Int32) (4 : Int32) (own_L13 c0 c1 c2 c3) (own_L2 c0 c1 c2 c3) T_16.heap n0)) (backOf (W := 0) (rm_asG l Z a0 hw [] a_3 r t q_6 kt kq_6 (13 : Int32) (4 : Int32) (own_L13 c0 c1 c2 c3) (own_L2 c0 c1 c2 c3) zc T_16.heap n0 (Nat.le_trans Z0 (Nat.le_trans (Nat.le_trans (Nat.le_trans E_3.1 K_6.1) E_8.1) K_16.1)) Es_16 Fv_16 Fc_16 G_16 E0'_22 C0'_23 V0'_24 K1'_25 (Nat.ne_of_lt (Nat.lt_of_lt_of_le E0.lt (Nat.le_of_eq g_3.symm))) (Nat.ne_of_lt (Nat.lt_of_lt_of_le K1.lt (Nat.le_of_eq g_3.symm))) W_16 rfl rfl (Nat.le_of_ble_eq_true rfl) g0_a_3 rfl (by decide) (by decide) (by decide) O2 P5 O_26d) hZ_8 (own_w hw 152 rfl) (own_w hw 131 rfl) (by decide) (by decide)) q_27a q_27c (g := (mkF m 34 #[.val (.ref d)] [(.ref r), (.ref a_3)])) rfl (by rw [hml]; rfl) (argsL := [(.ref r)]) (rest := []) (lenOf pd_26 rfl) rfl (by show 2 * 0 + _ ≤ _; exact Nat.le_of_eq rfl) (hb hby d_prog717x_34) e_21 rfl (by decide) (by decide)
  obtain ⟨q_27, kq_27, rfl, Nq_27, K_27, lo_27, Es_27, Fv_27, Fc_27, Fn_27, V_27⟩ := Q_27
  refine own_G.via st_27 ?_
  have Sf_28_a_3 : Safe Z own_EL T_8.vm T_27.heap a_3 := (Safe.keep K_27 (sfS Sf_17_a_3 sf0) CH_17.1 Sf_17_a_3)
  have Sf_28_q_6 : Safe Z own_EL T_8.vm T_27.heap q_6 := (Safe.keep K_27 (sfS Sf_17_a_3 sf0) CH_17.1 Sf_17_q_6)
  have CH_28 : CHr Z own_EL s.vm h0 T_8.vm T_27.heap := CH_17.trans (CHr.keep K_27 (sfS Sf_17_a_3 sf0) CH_17.1)
  have Sn_27 : Safe Z own_EL T_8.vm T_27.heap q_27 := Safe.keep K_27 (sfS Sf_17_a_3 sf0) CH_17.1 (Safe.new lo_27)
  have W_27 : Arv Z T_27.heap q_27 kq_27 .byte (34 : Int32) (own_L14 c0 c1 c2 c3) (.int (0 : Int32)) := V_27
  have N_27 := Fr.app N_16 Nq_27
  have G_27 : Fld Z T_27.heap a_3 "java/lang/AbstractStringBuilder" "count" "I" (.int (17 : Int32)) := Fn_27
  show own_G _ _ _ _ (T_27.setTop (mkF m 37 #[.val (.ref d)] [(.ref a_3)]))
  obtain ⟨al_29, T_29, h_29, k_29, bl_29, kl_29, X_29, e_29, E_29, hS_29, hk_29, hZ_29, hown_29, Ex_29, Fc_29, Fv_29, Va_29, lta_29, ltb_29, Cr_29, -, hne_29, st_29⟩ := ldcCH X_27 hx hZ_8 hown_8 (own_w hw 196 rfl) hstr rfl hS_8 (Nat.le_trans hk_8 (Nat.le_trans K_16.1 K_27.1)) hEW (by simp [own_EL]) CH_28.1 (vs := ([(.int (39 : Int32))] : List Value)) (z := (1 : Int32)) (own_lit3) (by decide) (by decide) (g := (mkF m 37 #[.val (.ref d)] [(.ref a_3)])) rfl (hb hby d_prog717x_37) (n := 4) (by decide +kernel) (by decide) (by decide) (by decide)
  refine own_G.go st_29 ?_
  have Sf_30_a_3 : Safe Z own_EL T_29.vm h_29 a_3 := Cr_29.safe (Nat.lt_of_lt_of_le A_3.lt (Nat.le_trans (Nat.le_trans (Nat.le_trans K_6.1 E_8.1) K_16.1) K_27.1)) Sf_28_a_3
  have Sf_30_q_6 : Safe Z own_EL T_29.vm h_29 q_6 := Cr_29.safe (Nat.lt_of_lt_of_le V_6.lt (Nat.le_trans (Nat.le_trans E_8.1 K_16.1) K_27.1)) Sf_28_q_6
  have Sf_30_q_27 : Safe Z own_EL T_29.vm h_29 q_27 := Cr_29.safe V_27.lt Sn_27
  have CH_30 : CHr Z own_EL s.vm h0 T_29.vm h_29 := CH_28.trans Cr_29
  show own_G _ _ _ _ (T_29.setTop (mkF m 39 #[.val (.ref d)] [(.ref al_29), (.ref a_3)]))
  have Es_27'_31 : Exa Z h_29 a_3 "java/lang/StringBuilder" := (Es_27.ext E_29)
  have Fv_27'_32 : Fld Z h_29 a_3 "java/lang/AbstractStringBuilder" "value" "[B" (.ref q_27) := (Fv_27.ext E_29)
  have Fc_27'_33 : Fld Z h_29 a_3 "java/lang/AbstractStringBuilder" "coder" "B" (.int (0 : Int32)) := (Fc_27.ext E_29)
  have G_27'_34 : Fld Z h_29 a_3 "java/lang/AbstractStringBuilder" "count" "I" (.int (17 : Int32)) := (G_27.ext E_29)
  have W_27'_35 : Arv Z h_29 q_27 kq_27 .byte (34 : Int32) (own_L14 c0 c1 c2 c3) (.int (0 : Int32)) := (W_27.ext E_29)
  have g0_q_27 : n0 ≤ q_27 := Nat.le_trans (Nat.le_trans Z0 (Nat.le_trans (Nat.le_trans (Nat.le_trans E_3.1 K_6.1) E_8.1) K_16.1)) lo_27
  have O_36d : Old Z n0 h_29 := ((O_26d.keep K_27 (allS g0_a_3 all0)).ext E_29)
  obtain ⟨cq_37, kq_37, q_37a, q_37b, q_37c⟩ := isOf hZ_29 e_29 Es_27'_31
  obtain ⟨_, T_37, L_37, Q_37, X_37, st_37⟩ := own_callV X_29 hx (z := (⟨"java/lang/StringBuilder", "append", "(Ljava/lang/String;)Ljava/lang/StringBuilder;"⟩ : MethodName)) hown_29 (mvT hZ_29 (own_w hw 148 rfl)) (mvT hZ_29 (own_w hw 149 rfl)) (notFace_of_selects (args := #[]) (mvT hZ_29 (own_w hw 151 rfl))) (mvT hZ_29 (own_w hw 151 rfl)) (mvT hZ_29 (own_w hw 150 rfl)) (by decide) (Q := (QapN Z a_3 q_27 kq_27 (34 : Int32) (17 : Int32) (1 : Int32) ([(.int (39 : Int32))] : List Value) (own_L14 c0 c1 c2 c3) h_29 n0)) (backOf (W := 0) (rm_asN l Z a0 hw [] a_3 al_29 bl_29 q_27 kl_29 kq_27 (34 : Int32) (17 : Int32) (1 : Int32) ([(.int (39 : Int32))] : List Value) (own_L14 c0 c1 c2 c3) zc h_29 n0 (Nat.le_trans Z0 (Nat.le_trans (Nat.le_trans (Nat.le_trans (Nat.le_trans (Nat.le_trans E_3.1 K_6.1) E_8.1) K_16.1) K_27.1) E_29.1)) Es_27'_31 Fv_27'_32 Fc_27'_33 G_27'_34 Ex_29 Fc_29 Fv_29 Va_29 W_27'_35 g0_q_27 (Nat.ne_of_lt (Nat.lt_of_lt_of_le (Nat.lt_of_lt_of_le A_3.lt (Nat.le_trans (Nat.le_trans K_6.1 E_8.1) K_16.1)) lo_27)) (Nat.le_of_ble_eq_true rfl) (by decide) g0_a_3 rfl (by decide) (by decide) (by decide) O2 P5 O_36d) hZ_29 (own_w hw 152 rfl) (own_w hw 131 rfl) (by decide) (by decide)) q_37a q_37c (g := (mkF m 39 #[.val (.ref d)] [(.ref al_29), (.ref a_3)])) rfl (by rw [hml]; rfl) (argsL := [(.ref al_29)]) (rest := []) (lenOf pd_26 rfl) rfl (by show 2 * 0 + _ ≤ _; exact Nat.le_of_eq rfl) (hb hby d_prog717x_39) e_29 rfl (by decide) (by decide)
  obtain ⟨rfl, Nq_37, K_37, Es_37, Fv_37, Fc_37, Fn_37, V_37⟩ := Q_37
  refine own_G.via st_37 ?_
  have Sf_38_a_3 : Safe Z own_EL T_29.vm T_37.heap a_3 := (Safe.keep K_37 (sfS Sf_30_a_3 (sfS Sf_30_q_27 sf0)) CH_30.1 Sf_30_a_3)
  have Sf_38_q_6 : Safe Z own_EL T_29.vm T_37.heap q_6 := (Safe.keep K_37 (sfS Sf_30_a_3 (sfS Sf_30_q_27 sf0)) CH_30.1 Sf_30_q_6)
  have Sf_38_q_27 : Safe Z own_EL T_29.vm T_37.heap q_27 := (Safe.keep K_37 (sfS Sf_30_a_3 (sfS Sf_30_q_27 sf0)) CH_30.1 Sf_30_q_27)
  have CH_38 : CHr Z own_EL s.vm h0 T_29.vm T_37.heap := CH_30.trans (CHr.keep K_37 (sfS Sf_30_a_3 (sfS Sf_30_q_27 sf0)) CH_30.1)
  have W_37 : Arv Z T_37.heap q_27 kq_27 .byte (34 : Int32) (own_L15 c0 c1 c2 c3) (.int (0 : Int32)) := V_37
  have N_37 := Fr.app N_27 Nq_37
  have G_37 : Fld Z T_37.heap a_3 "java/lang/AbstractStringBuilder" "count" "I" (.int (18 : Int32)) := Fn_37
  show own_G _ _ _ _ (T_37.setTop (mkF m 42 #[.val (.ref d)] [(.ref a_3)]))
  have O_39d : Old Z n0 T_37.heap := (O_36d.keep K_37 (allS g0_a_3 (allS g0_q_27 all0)))
  obtain ⟨cq_40, kq_40, q_40a, q_40b, q_40c⟩ := isOf hZ_29 rfl Es_37
  obtain ⟨_, T_40, L_40, Q_40, X_40, st_40⟩ := own_callV X_37 hx (z := (⟨"java/lang/StringBuilder", "toString", "()Ljava/lang/String;"⟩ : MethodName)) hown_29 (mvT hZ_29 (own_w hw 197 rfl)) (mvT hZ_29 (own_w hw 198 rfl)) (notFace_of_selects (args := #[]) (mvT hZ_29 (own_w hw 200 rfl))) (mvT hZ_29 (own_w hw 200 rfl)) (mvT hZ_29 (own_w hw 199 rfl)) (by decide) (Q := (Qts Z (18 : Int32) (own_cr (own_L15 c0 c1 c2 c3) (18 : Int32)) T_37.heap n0)) (backOf (W := 0) (rm_stsC l Z a0 hw [] a_3 q_27 kq_27 (34 : Int32) (18 : Int32) (own_L15 c0 c1 c2 c3) zc T_37.heap n0 (Nat.le_trans Z0 (Nat.le_trans (Nat.le_trans (Nat.le_trans (Nat.le_trans (Nat.le_trans (Nat.le_trans E_3.1 K_6.1) E_8.1) K_16.1) K_27.1) E_29.1) K_37.1)) Es_37 Fv_37 Fc_37 G_37 W_37 (by decide) (by decide) (by decide) (by decide) (by decide) O2 P5 O_39d) hZ_29 (own_w hw 201 rfl) (own_w hw 131 rfl) (by decide) (by decide)) q_40a q_40c (g := (mkF m 42 #[.val (.ref d)] [(.ref a_3)])) rfl (by rw [hml]; rfl) (argsL := []) (rest := []) (lenOf pd_27 rfl) rfl (by show 2 * 0 + _ ≤ _; exact Nat.le_of_eq rfl) (hb hby d_prog717x_42) rfl rfl (by decide) (by decide)
  obtain ⟨r_40, t_40, kt_40, rfl, Nq_40, K_40, lo_40, Ex_40, Fc_40, Fv_40, V_40⟩ := Q_40
  refine own_G.via st_40 ?_
  have Sf_41_a_3 : Safe Z own_EL T_29.vm T_40.heap a_3 := (Safe.keep K_40 sf0 CH_38.1 Sf_38_a_3)
  have Sf_41_q_6 : Safe Z own_EL T_29.vm T_40.heap q_6 := (Safe.keep K_40 sf0 CH_38.1 Sf_38_q_6)
  have Sf_41_q_27 : Safe Z own_EL T_29.vm T_40.heap q_27 := (Safe.keep K_40 sf0 CH_38.1 Sf_38_q_27)
  have CH_41 : CHr Z own_EL s.vm h0 T_29.vm T_40.heap := CH_38.trans (CHr.keep K_40 sf0 CH_38.1)
  have W_40 : Arv Z T_40.heap t_40 kt_40 .byte (Int32.ofNat (own_tx (4 : Int32) c0 c1 c2 c3).length) (((own_tx (4 : Int32) c0 c1 c2 c3).map (fun c => c.toInt8.toInt32)).map Value.int) (.int (0 : Int32)) := V_40
  have N_40 := Fr.app N_37 Nq_40
  show own_G _ _ _ _ (T_40.setTop (mkF m 45 #[.val (.ref d)] [(.ref r_40)]))
  exact own_G.endH X_40 hS_29 (Nat.le_trans hk_29 (Nat.le_trans K_37.1 K_40.1)) hZ_29 hEW (hh ▸ CH_41) hlk (v := (some (.ref r_40))) (fun h => by rw [hrt] at h; cases h) (fun fs hr => retOut X_40 hx hrt rfl (Or.inr (Or.inr (Or.inr (Or.inr ⟨rfl, rfl, rfl⟩)))) (hb hby d_prog717x_45) hr) rfl ⟨r_40, t_40, kt_40, rfl, N_40, (((((((((Keep.refl h0 []).ext E_3).trans K_6 (allS (Or.inr (Nat.le_of_eq g_3.symm)) all0)).ext E_8).trans K_16 (allS (Or.inr (Nat.le_of_eq g_3.symm)) (allS (Or.inr (Nat.le_trans E_3.1 lo_6)) all0))).trans K_27 (allS (Or.inr (Nat.le_of_eq g_3.symm)) all0)).ext E_29).trans K_37 (allS (Or.inr (Nat.le_of_eq g_3.symm)) (allS (Or.inr (Nat.le_trans (Nat.le_trans (Nat.le_trans (Nat.le_trans E_3.1 K_6.1) E_8.1) K_16.1) lo_27)) all0))).trans K_40 all0), Ex_40, Fc_40, Fv_40, W_40⟩ (by decide) (by decide)
theorem rm_ts (l : Launch) (Z : State) (a0 : Array Value) (hw : ∀ d ∈ tables_1, d.before a0 Z = true) (ws : List Jvm.Cond) (ln c0 c1 c2 c3 : Int32) (d st r t : Addr) (kt : ClassId) (zc : Int32) (h0 : Heap) (n0 : Nat) (Z0 : n0 ≤ h0.size) (hl : own_l ln) (b0 : own_b c0) (b1 : own_b c1) (b2 : own_b c2) (b3 : own_b c3) (F0 : Fld Z h0 d "com/example/enlist/enlist/definition/TransactionDefinition" "settings" "Lcom/example/enlist/enlist/definition/TransactionDefinition$Settings;" (.ref st)) (F1 : Fld Z h0 st "com/example/enlist/enlist/definition/TransactionDefinition$Settings" "name" "Ljava/lang/String;" (.ref r)) (E0 : Exa Z h0 r "java/lang/String") (C0 : Fld Z h0 r "java/lang/String" "coder" "B" (.int (0 : Int32))) (V0 : Fld Z h0 r "java/lang/String" "value" "[B" (.ref t)) (K0 : Arv Z h0 t kt .byte (Int32.ofNat (own_cs ln c0 c1 c2 c3).length) (((own_cs ln c0 c1 c2 c3).map (fun c => c.toInt8.toInt32)).map Value.int) (.int (0 : Int32))) (O2 : Sta Z Z.heap "java/lang/String" "COMPACT_STRINGS" "Z" (.int zc)) (P5 : ¬ (zc = (0 : Int32))) (X00 : Old Z n0 h0) :
    MetFree l (⟨"com/example/enlist/enlist/definition/TransactionDefinition", "toString", "()Ljava/lang/String;"⟩ : MethodName) (head1 (Jvm.Cond.code (⟨"com/example/enlist/enlist/definition/TransactionDefinition", "toString", "()Ljava/lang/String;"⟩ : MethodName) prog_7_method_17_code 1 (some (.object "java/lang/String")) :: ws) ({ frames := 6, cells := 9, slots := 140, locals := 91 } : Room)) (fun a_ U => a_ = #[(.ref d)] ∧ Z.Warmed39 U.vm ∧ U.heap = h0 ∧ CHv Z own_EL U.vm h0) (fun _ _ _ _ _ => True) (fun _ U o U' => ∃ v L, o = .returned v ∧ Qt Z ln c0 c1 c2 c3 h0 n0 v U'.heap L ∧ CHr Z own_EL U.vm U.heap U'.vm U'.heap ∧ ReturnedEndW U o U' L ({ frames := 6, cells := 9, slots := 140, locals := 91 } : Room).cells ({ frames := 6, cells := 9, slots := 140, locals := 91 } : Room).slots) := by
  rcases hl with rfl | rfl | rfl | rfl | rfl
  · exact rm_ts0 l Z a0 hw ws c0 c1 c2 c3 d st r t kt zc h0 n0 Z0 b0 b1 b2 b3 F0 F1 E0 C0 V0 K0 O2 P5 X00
  · exact rm_ts1 l Z a0 hw ws c0 c1 c2 c3 d st r t kt zc h0 n0 Z0 b0 b1 b2 b3 F0 F1 E0 C0 V0 K0 O2 P5 X00
  · exact rm_ts2 l Z a0 hw ws c0 c1 c2 c3 d st r t kt zc h0 n0 Z0 b0 b1 b2 b3 F0 F1 E0 C0 V0 K0 O2 P5 X00
  · exact rm_ts3 l Z a0 hw ws c0 c1 c2 c3 d st r t kt zc h0 n0 Z0 b0 b1 b2 b3 F0 F1 E0 C0 V0 K0 O2 P5 X00
  · exact rm_ts4 l Z a0 hw ws c0 c1 c2 c3 d st r t kt zc h0 n0 Z0 b0 b1 b2 b3 F0 F1 E0 C0 V0 K0 O2 P5 X00
def Qlaw (n0 : Nat) (v : Option Value) (h : Heap) (L : List Loc) : Prop := v = some (.int 1) ∧ Fr n0 L
theorem pd_28 : parseMethodDescriptor "(ICCCC)Ljava/lang/String;" = some ⟨[.int, .char, .char, .char, .char], some (.object "java/lang/String")⟩ := by decide +kernel
theorem pd_29 : parseMethodDescriptor "(Ljava/lang/String;)Lcom/example/enlist/enlist/definition/TransactionDefinition;" = some ⟨[(.object "java/lang/String")], some (.object "com/example/enlist/enlist/definition/TransactionDefinition")⟩ := by decide +kernel
theorem pd_30 : parseMethodDescriptor "(Ljava/lang/Object;)Z" = some ⟨[(.object "java/lang/Object")], some .boolean⟩ := by decide +kernel
theorem pd_31 : parseMethodDescriptor "()Lcom/example/enlist/enlist/definition/Propagation;" = some ⟨[], some (.object "com/example/enlist/enlist/definition/Propagation")⟩ := by decide +kernel
theorem pd_32 : parseMethodDescriptor "()Lcom/example/enlist/enlist/definition/Isolation;" = some ⟨[], some (.object "com/example/enlist/enlist/definition/Isolation")⟩ := by decide +kernel
theorem pd_33 : parseMethodDescriptor "(I)C" = some ⟨[.int], some .char⟩ := by decide +kernel
set_option maxRecDepth 65536 in
set_option maxHeartbeats 40000000 in
theorem rm_law (l : Launch) (Z : State) (a0 : Array Value) (hw : ∀ d ∈ tables_1, d.before a0 Z = true) (ws : List Jvm.Cond) (p0 p1 p2 p3 p4 : Int32) (zc : Int32) (fm : Value) (rq io em mp df ds : Addr) (h0 : Heap) (n0 : Nat) (Z0 : n0 ≤ h0.size) (OR : Sta Z Z.heap "com/example/enlist/enlist/definition/Propagation" "REQUIRED" "Lcom/example/enlist/enlist/definition/Propagation;" (.ref rq)) (OI : Sta Z Z.heap "com/example/enlist/enlist/definition/Isolation" "DEFAULT" "Lcom/example/enlist/enlist/definition/Isolation;" (.ref io)) (OE : Sta Z Z.heap "java/util/OptionalInt" "EMPTY" "Ljava/util/OptionalInt;" (.ref em)) (OM : Sta Z Z.heap "java/util/ImmutableCollections" "EMPTY_MAP" "Ljava/util/ImmutableCollections$MapN;" (.ref mp)) (OD : Sta Z Z.heap "com/example/enlist/enlist/definition/TransactionDefinition" "DEFAULT" "Lcom/example/enlist/enlist/definition/TransactionDefinition;" (.ref df)) (FD : Fld Z Z.heap df "com/example/enlist/enlist/definition/TransactionDefinition" "settings" "Lcom/example/enlist/enlist/definition/TransactionDefinition$Settings;" (.ref ds)) (ED0 : Exa Z Z.heap ds "com/example/enlist/enlist/definition/TransactionDefinition$Settings") (HD0 : Fld Z Z.heap ds "com/example/enlist/enlist/definition/TransactionDefinition$Settings" "name" "Ljava/lang/String;" .null) (HD1 : Fld Z Z.heap ds "com/example/enlist/enlist/definition/TransactionDefinition$Settings" "propagation" "Lcom/example/enlist/enlist/definition/Propagation;" (.ref rq)) (HD2 : Fld Z Z.heap ds "com/example/enlist/enlist/definition/TransactionDefinition$Settings" "isolation" "Lcom/example/enlist/enlist/definition/Isolation;" (.ref io)) (HD3 : Fld Z Z.heap ds "com/example/enlist/enlist/definition/TransactionDefinition$Settings" "readOnly" "Z" (.int (0 : Int32))) (HD4 : Fld Z Z.heap ds "com/example/enlist/enlist/definition/TransactionDefinition$Settings" "timeout" "Ljava/util/OptionalInt;" (.ref em)) (HD5 : Fld Z Z.heap ds "com/example/enlist/enlist/definition/TransactionDefinition$Settings" "rollbackRules" "Ljava/util/Map;" (.ref mp)) (EF : Exa Z Z.heap df "com/example/enlist/enlist/definition/TransactionDefinition") (O2 : Sta Z Z.heap "java/lang/String" "COMPACT_STRINGS" "Z" (.int zc)) (O4 : Sta Z Z.heap "jdk/internal/util/Preconditions" "SIOOBE_FORMATTER" "Ljava/util/function/BiFunction;" fm) (P5 : ¬ (zc = (0 : Int32))) (rfm : fm.isRef = true) (X00 : Old Z n0 h0) :
    MetFree l x (head1 (Jvm.Cond.code x code maxLocals ret :: ws) room_1) (fun a_ U => a_ = #[(.int p0), (.int p1), (.int p2), (.int p3), (.int p4)] ∧ Z.Warmed39 U.vm ∧ U.heap = h0 ∧ CHv Z own_EL U.vm h0) (fun _ _ _ _ _ => True) (fun _ U o U' => ∃ v L, o = .returned v ∧ Qlaw n0 v U'.heap L ∧ CHr Z own_EL U.vm U.heap U'.vm U'.heap ∧ ReturnedEndW U o U' L room_1.cells room_1.slots) := by
  refine MetFree.of_bodySF (plainFor_of_name pn_11) hisR ?_
  intro p e s m args below meth c s₁ Bd hml0 hP hK
  obtain ⟨rfl, hZ, hh, hCH⟩ := hP
  have hx := Bd.exec
  have hby := Bd.bytes
  have hrt := Bd.returns
  have hlk : meth.locks = false := Bd.notSynchronized
  have hml : c.maxLocals = 10 := hml0
  have hown : s.vm.findClass "com/example/enlist/enlist/definition/TransactionDefinitionNamedPinLaw" = some m.cls := findClass_of_methodNamed Bd.named
  have hnm := (name_of_methodNamed Bd.named Bd.method).1
  have X0 : Stand p l e room_1 (s.setVm s.vm) m #[(.int p0), (.int p1), (.int p2), (.int p3), (.int p4)] below meth c s₁ [] 0 0 := Stand.of_body Bd
  have e0 : s₁.heap = h0 := by rw [← hh, Bd.state]; rfl
  have N0 := Fr.nil n0
  have hS0 : s.Since s.vm 0 := own_since s 0
  have hstr : ∀ d ∈ Bundle.stringAtoms, d.before a0 Z = true := fun d hd => hw d ((by decide +kernel : ∀ d ∈ Bundle.stringAtoms, d ∈ tables_1) d hd)
  have hEW : EW Z a0 own_EL := own_EW hw
  have CH0 : CHr Z own_EL s.vm h0 s.vm h0 := CHr.refl hCH
  show own_G p.tables e below (fun o t => ∃ v L, o = .returned v ∧ Qlaw n0 v t.heap L ∧ CHr Z own_EL s.vm s.heap t.vm t.heap ∧ ReturnedEndW s o t L room_1.cells room_1.slots) (s₁.setTop (entryFrame m #[(.int p0), (.int p1), (.int p2), (.int p3), (.int p4)] maxLocals))
  refine own_G.cast (show entryFrame m #[(.int p0), (.int p1), (.int p2), (.int p3), (.int p4)] maxLocals = mkF m 0 #[.val (.int p0), .val (.int p1), .val (.int p2), .val (.int p3), .val (.int p4), .unset, .unset, .unset, .unset, .unset] [] from by first | (simp [entryFrame, mkF, argsToLocals, Value.category, maxLocals]; done) | rfl) ?_
  have J35 : ∀ (u c0 c1 c2 c3 : Int32) (hl : own_l u) (b0 : own_b c0) (b1 : own_b c1) (b2 : own_b c2) (b3 : own_b c3), own_G p.tables e below (fun o t => ∃ v L, o = .returned v ∧ Qlaw n0 v t.heap L ∧ CHr Z own_EL s.vm s.heap t.vm t.heap ∧ ReturnedEndW s o t L room_1.cells room_1.slots) (s₁.setTop (mkF m 35 #[.val (.int p0), .val (.int p1), .val (.int p2), .val (.int p3), .val (.int p4), .val (.int u), .unset, .unset, .unset, .unset] [(.int c3), (.int c2), (.int c1), (.int c0), (.int u)])) := by
    intro u c0 c1 c2 c3 hl b0 b1 b2 b3
    have FDF := FD.ext X00.2
    have ED := ED0.ext X00.2
    have GD0 := HD0.ext X00.2
    have GD1 := HD1.ext X00.2
    have GD2 := HD2.ext X00.2
    have GD3 := HD3.ext X00.2
    have GD4 := HD4.ext X00.2
    have GD5 := HD5.ext X00.2
    have EFD := EF.ext X00.2
    have hLen : ∀ d ∈ StrChars.Road.wordsLen, d.before a0 Z = true := fun d hd => hw d ((by decide +kernel : ∀ d ∈ StrChars.Road.wordsLen, d ∈ tables_1) d hd)
    have hChN : ∀ d ∈ StrChars.Road.wordsChN, d.before a0 Z = true := fun d hd => hw d ((by decide +kernel : ∀ d ∈ StrChars.Road.wordsChN, d ∈ tables_1) d hd)
    have hEmp : ∀ d ∈ StrChars.Road.wordsEmp, d.before a0 Z = true := fun d hd => hw d ((by decide +kernel : ∀ d ∈ StrChars.Road.wordsEmp, d ∈ tables_1) d hd)
    have hp := own_tx_b (n := u) b0 b1 b2 b3
    have hcd := StrChars.Road.codOf (cs := (own_tx u c0 c1 c2 c3)) (n := (own_tx u c0 c1 c2 c3).length) rfl (fun c hc => (hp c hc).2)
    have hbd := own_up _ hp
    obtain ⟨_, T_1, L_1, Q_1, X_1, hS_1, hZ_1, hown_1, st_1⟩ := own_callSW X0 hx hS0 (Nat.zero_le _) hZ hown (mvT hZ (own_w hw 0 rfl)) (mvT hZ (own_w hw 1 rfl)) (mvT hZ (own_w hw 2 rfl)) (mvT hZ (own_w hw 3 rfl)) (by decide) (Q := (fun v (U : State) L => Qs Z u c0 c1 c2 c3 h0 n0 v U.heap L ∧ CHr Z own_EL s.vm h0 U.vm U.heap)) (own_backSH (backOfSH (W := 0) (rm_mk l Z a0 hw [] u c0 c1 c2 c3 zc h0 n0 Z0 hl b0 b1 b2 b3 O2 P5 X00) hZ (own_w hw 3 rfl) (own_w hw 2 rfl) (by decide) (by decide) hEW CH0.1)) (g := (mkF m 35 #[.val (.int p0), .val (.int p1), .val (.int p2), .val (.int p3), .val (.int p4), .val (.int u), .unset, .unset, .unset, .unset] [(.int c3), (.int c2), (.int c1), (.int c0), (.int u)])) rfl (by rw [hml]; rfl) (argsL := [(.int u), (.int c0), (.int c1), (.int c2), (.int c3)]) (rest := []) (lenOf pd_28 rfl) rfl (by show 2 * 0 + _ ≤ _; exact Nat.le_of_eq rfl) (hb hby at_35) e0 rfl (by decide) (by decide)
    obtain ⟨⟨r_1, t_1, kb_1, rfl, Nq_1, K_1, lr_1, Ex_1, Fc_1, Fv_1, Kb_1⟩, Ch_1⟩ := Q_1
    refine own_G.via st_1 ?_
    have CH_2 : CHr Z own_EL s.vm h0 T_1.vm T_1.heap := CH0.trans Ch_1
    have N_1 := Fr.app N0 Nq_1
    show own_G _ _ _ _ (T_1.setTop (mkF m 38 #[.val (.int p0), .val (.int p1), .val (.int p2), .val (.int p3), .val (.int p4), .val (.int u), .unset, .unset, .unset, .unset] [(.ref r_1)]))
    refine own_G.go (fun _ k => XS.astore X_1.here hx rfl (hb hby at_38) rfl rfl (l' := #[.val (.int p0), .val (.int p1), .val (.int p2), .val (.int p3), .val (.int p4), .val (.int u), .val (.ref r_1), .unset, .unset, .unset]) rfl k) ?_
    show own_G _ _ _ _ (T_1.setTop (mkF m 40 #[.val (.int p0), .val (.int p1), .val (.int p2), .val (.int p3), .val (.int p4), .val (.int u), .val (.ref r_1), .unset, .unset, .unset] []))
    refine own_G.go (fun _ k => XS.aload X_1.here hx rfl (hb hby at_40) rfl rfl k) ?_
    show own_G _ _ _ _ (T_1.setTop (mkF m 42 #[.val (.int p0), .val (.int p1), .val (.int p2), .val (.int p3), .val (.int p4), .val (.int u), .val (.ref r_1), .unset, .unset, .unset] [(.ref r_1)]))
    have O_3d : Old Z n0 T_1.heap := (X00.keep K_1 all0)
    obtain ⟨_, T_4, L_4, Q_4, X_4, hS_4, hZ_4, hown_4, st_4⟩ := own_callSW X_1 hx hS_1 (Nat.le_refl _) hZ_1 hown_1 (mvT hZ_1 (own_w hw 26 rfl)) (mvT hZ_1 (own_w hw 27 rfl)) (mvT hZ_1 (own_w hw 28 rfl)) (mvT hZ_1 (own_w hw 29 rfl)) (by decide) (Q := (fun v (U : State) L => Qnm Z r_1 rq io em mp T_1.heap n0 v U.heap L ∧ CHr Z own_EL T_1.vm T_1.heap U.vm U.heap)) (own_backSH (backOfSH (W := 0) (rm_nmd l Z a0 hw [] r_1 rq io em mp df ds T_1.heap n0 (Nat.le_trans Z0 K_1.1) Ex_1 OR OI OE OM OD FD ED0 HD0 HD1 HD2 HD3 HD4 HD5 O_3d) hZ_1 (own_w hw 29 rfl) (own_w hw 28 rfl) (by decide) (by decide) hEW CH_2.1)) (g := (mkF m 42 #[.val (.int p0), .val (.int p1), .val (.int p2), .val (.int p3), .val (.int p4), .val (.int u), .val (.ref r_1), .unset, .unset, .unset] [(.ref r_1)])) rfl (by rw [hml]; rfl) (argsL := [(.ref r_1)]) (rest := []) (lenOf pd_29 rfl) rfl (by show 2 * 0 + _ ≤ _; exact Nat.le_of_eq rfl) (hb hby at_42) rfl rfl (by decide) (by decide)
    obtain ⟨⟨d_4, sg_4, rfl, Nq_4, K_4, Ex_4, Fs_4, F0_4, F1_4, F2_4, F3_4, F4_4, F5_4⟩, Ch_4⟩ := Q_4
    refine own_G.via st_4 ?_
    have CH_5 : CHr Z own_EL s.vm h0 T_4.vm T_4.heap := CH_2.trans Ch_4
    have N_4 := Fr.app N_1 Nq_4
    show own_G _ _ _ _ (T_4.setTop (mkF m 45 #[.val (.int p0), .val (.int p1), .val (.int p2), .val (.int p3), .val (.int p4), .val (.int u), .val (.ref r_1), .unset, .unset, .unset] [(.ref d_4)]))
    refine own_G.go (fun _ k => XS.astore X_4.here hx rfl (hb hby at_45) rfl rfl (l' := #[.val (.int p0), .val (.int p1), .val (.int p2), .val (.int p3), .val (.int p4), .val (.int u), .val (.ref r_1), .val (.ref d_4), .unset, .unset]) rfl k) ?_
    show own_G _ _ _ _ (T_4.setTop (mkF m 47 #[.val (.int p0), .val (.int p1), .val (.int p2), .val (.int p3), .val (.int p4), .val (.int u), .val (.ref r_1), .val (.ref d_4), .unset, .unset] []))
    refine own_G.go (fun _ k => XS.aload X_4.here hx rfl (hb hby at_47) rfl rfl k) ?_
    show own_G _ _ _ _ (T_4.setTop (mkF m 49 #[.val (.int p0), .val (.int p1), .val (.int p2), .val (.int p3), .val (.int p4), .val (.int u), .val (.ref r_1), .val (.ref d_4), .unset, .unset] [(.ref d_4)]))
    obtain ⟨cq_6, kq_6, q_6a, q_6b, q_6c⟩ := isOf hZ_4 rfl Ex_4
    obtain ⟨_, T_6, L_6, Q_6, X_6, st_6⟩ := own_callV X_4 hx (z := (⟨"com/example/enlist/enlist/definition/TransactionDefinition", "name", "()Ljava/lang/String;"⟩ : MethodName)) hown_4 (mvT hZ_4 (own_w hw 87 rfl)) (mvT hZ_4 (own_w hw 88 rfl)) (notFace_of_selects (args := #[]) (mvT hZ_4 (own_w hw 90 rfl))) (mvT hZ_4 (own_w hw 90 rfl)) (mvT hZ_4 (own_w hw 89 rfl)) (by decide) (Q := (Qp (.ref r_1) T_4.heap)) (backOf (W := 0) (rm_nm1 l Z a0 hw [] d_4 sg_4 r_1 T_4.heap n0 (Nat.le_trans Z0 (Nat.le_trans K_1.1 K_4.1)) Fs_4 F0_4) hZ_4 (own_w hw 91 rfl) (own_w hw 28 rfl) (by decide) (by decide)) q_6a q_6c (g := (mkF m 49 #[.val (.int p0), .val (.int p1), .val (.int p2), .val (.int p3), .val (.int p4), .val (.int u), .val (.ref r_1), .val (.ref d_4), .unset, .unset] [(.ref d_4)])) rfl (by rw [hml]; rfl) (argsL := []) (rest := []) (lenOf pd_27 rfl) rfl (by show 2 * 0 + _ ≤ _; exact Nat.le_of_eq rfl) (hb hby at_49) rfl rfl (by decide) (by decide)
    obtain ⟨rfl, rfl, eh_6⟩ := Q_6
    refine own_G.via st_6 ?_
    have N_6 := Fr.app N_4 (Fr.nil n0)
    show own_G _ _ _ _ (T_6.setTop (mkF m 52 #[.val (.int p0), .val (.int p1), .val (.int p2), .val (.int p3), .val (.int p4), .val (.int u), .val (.ref r_1), .val (.ref d_4), .unset, .unset] [(.ref r_1)]))
    refine own_G.go (fun _ k => XS.aload X_6.here hx rfl (hb hby at_52) rfl rfl k) ?_
    show own_G _ _ _ _ (T_6.setTop (mkF m 54 #[.val (.int p0), .val (.int p1), .val (.int p2), .val (.int p3), .val (.int p4), .val (.int u), .val (.ref r_1), .val (.ref d_4), .unset, .unset] [(.ref r_1), (.ref r_1)]))
    have Ex_1'_8 : Exa Z T_4.heap r_1 "java/lang/String" := (Ex_1.keep K_4)
    obtain ⟨cq_7, kq_7, q_7a, q_7b, q_7c⟩ := isOf hZ_4 eh_6 Ex_1'_8
    obtain ⟨_, T_7, L_7, Q_7, X_7, st_7⟩ := own_callV X_6 hx (z := (⟨"java/lang/String", "equals", "(Ljava/lang/Object;)Z"⟩ : MethodName)) hown_4 (mvT hZ_4 (own_w hw 92 rfl)) (mvT hZ_4 (own_w hw 93 rfl)) (notFace_of_selects (args := #[]) (mvT hZ_4 (own_w hw 95 rfl))) (mvT hZ_4 (own_w hw 95 rfl)) (mvT hZ_4 (own_w hw 94 rfl)) (by decide) (Q := (Qp (.int (1 : Int32)) T_4.heap)) (backOf (W := 0) (rm_eqI l Z a0 hw [] r_1 T_4.heap n0 (Nat.le_trans Z0 (Nat.le_trans K_1.1 K_4.1)) ) hZ_4 (own_w hw 96 rfl) (own_w hw 6 rfl) (by decide) (by decide)) q_7a q_7c (g := (mkF m 54 #[.val (.int p0), .val (.int p1), .val (.int p2), .val (.int p3), .val (.int p4), .val (.int u), .val (.ref r_1), .val (.ref d_4), .unset, .unset] [(.ref r_1), (.ref r_1)])) rfl (by rw [hml]; rfl) (argsL := [(.ref r_1)]) (rest := []) (lenOf pd_30 rfl) rfl (by show 2 * 0 + _ ≤ _; exact Nat.le_of_eq rfl) (hb hby at_54) eh_6 rfl (by decide) (by decide)
    obtain ⟨rfl, rfl, eh_7⟩ := Q_7
    refine own_G.via st_7 ?_
    have N_7 := Fr.app N_6 (Fr.nil n0)
    show own_G _ _ _ _ (T_7.setTop (mkF m 57 #[.val (.int p0), .val (.int p1), .val (.int p2), .val (.int p3), .val (.int p4), .val (.int u), .val (.ref r_1), .val (.ref d_4), .unset, .unset] [(.int (1 : Int32))]))
    refine own_G.go (fun _ k => XS.istore X_7.here hx rfl (hb hby at_57) rfl (l' := #[.val (.int p0), .val (.int p1), .val (.int p2), .val (.int p3), .val (.int p4), .val (.int u), .val (.ref r_1), .val (.ref d_4), .val (.int (1 : Int32)), .unset]) rfl k) ?_
    show own_G _ _ _ _ (T_7.setTop (mkF m 59 #[.val (.int p0), .val (.int p1), .val (.int p2), .val (.int p3), .val (.int p4), .val (.int u), .val (.ref r_1), .val (.ref d_4), .val (.int (1 : Int32)), .unset] []))
    refine own_G.go (fun _ k => XS.iload X_7.here hx rfl (hb hby at_59) rfl k) ?_
    show own_G _ _ _ _ (T_7.setTop (mkF m 61 #[.val (.int p0), .val (.int p1), .val (.int p2), .val (.int p3), .val (.int p4), .val (.int u), .val (.ref r_1), .val (.ref d_4), .val (.int (1 : Int32)), .unset] [(.int (1 : Int32))]))
    refine own_G.go (fun _ k => XS.ifNo X_7.here hx rfl (hb hby at_61) rfl ((if0 _ _).trans (feq (by decide : ¬ ((1 : Int32) = (0 : Int32)))).1) k) ?_
    show own_G _ _ _ _ (T_7.setTop (mkF m 64 #[.val (.int p0), .val (.int p1), .val (.int p2), .val (.int p3), .val (.int p4), .val (.int u), .val (.ref r_1), .val (.ref d_4), .val (.int (1 : Int32)), .unset] []))
    refine own_G.go (fun _ k => XS.aload X_7.here hx rfl (hb hby at_64) rfl rfl k) ?_
    show own_G _ _ _ _ (T_7.setTop (mkF m 66 #[.val (.int p0), .val (.int p1), .val (.int p2), .val (.int p3), .val (.int p4), .val (.int u), .val (.ref r_1), .val (.ref d_4), .val (.int (1 : Int32)), .unset] [(.ref d_4)]))
    obtain ⟨cq_9, kq_9, q_9a, q_9b, q_9c⟩ := isOf hZ_4 eh_7 Ex_4
    obtain ⟨_, T_9, L_9, Q_9, X_9, st_9⟩ := own_callV X_7 hx (z := (⟨"com/example/enlist/enlist/definition/TransactionDefinition", "propagation", "()Lcom/example/enlist/enlist/definition/Propagation;"⟩ : MethodName)) hown_4 (mvT hZ_4 (own_w hw 97 rfl)) (mvT hZ_4 (own_w hw 98 rfl)) (notFace_of_selects (args := #[]) (mvT hZ_4 (own_w hw 100 rfl))) (mvT hZ_4 (own_w hw 100 rfl)) (mvT hZ_4 (own_w hw 99 rfl)) (by decide) (Q := (Qp (.ref rq) T_4.heap)) (backOf (W := 0) (rm_pro l Z a0 hw [] d_4 sg_4 rq T_4.heap n0 (Nat.le_trans Z0 (Nat.le_trans K_1.1 K_4.1)) Fs_4 F1_4) hZ_4 (own_w hw 101 rfl) (own_w hw 28 rfl) (by decide) (by decide)) q_9a q_9c (g := (mkF m 66 #[.val (.int p0), .val (.int p1), .val (.int p2), .val (.int p3), .val (.int p4), .val (.int u), .val (.ref r_1), .val (.ref d_4), .val (.int (1 : Int32)), .unset] [(.ref d_4)])) rfl (by rw [hml]; rfl) (argsL := []) (rest := []) (lenOf pd_31 rfl) rfl (by show 2 * 0 + _ ≤ _; exact Nat.le_of_eq rfl) (hb hby at_66) eh_7 rfl (by decide) (by decide)
    obtain ⟨rfl, rfl, eh_9⟩ := Q_9
    refine own_G.via st_9 ?_
    have N_9 := Fr.app N_7 (Fr.nil n0)
    show own_G _ _ _ _ (T_9.setTop (mkF m 69 #[.val (.int p0), .val (.int p1), .val (.int p2), .val (.int p3), .val (.int p4), .val (.int u), .val (.ref r_1), .val (.ref d_4), .val (.int (1 : Int32)), .unset] [(.ref rq)]))
    have O_10d : Old Z n0 T_4.heap := (O_3d.keep K_4 all0)
    obtain ⟨T_11, X_11, e_11, st_11⟩ := getS2 X_9 hx hZ_4 hown_4 (host := "") (Or.inl (own_w hw 103 rfl)) Via.refl eh_9 (OR.ext O_10d.2) (g := (mkF m 69 #[.val (.int p0), .val (.int p1), .val (.int p2), .val (.int p3), .val (.int p4), .val (.int u), .val (.ref r_1), .val (.ref d_4), .val (.int (1 : Int32)), .unset] [(.ref rq)])) rfl (hb hby at_69)
    refine own_G.go st_11 ?_
    show own_G _ _ _ _ (T_11.setTop (mkF m 72 #[.val (.int p0), .val (.int p1), .val (.int p2), .val (.int p3), .val (.int p4), .val (.int u), .val (.ref r_1), .val (.ref d_4), .val (.int (1 : Int32)), .unset] [(.ref rq), (.ref rq)]))
    refine own_G.go (fun _ k => Jvm.RoadKit.acmp (g := (mkF m 72 #[.val (.int p0), .val (.int p1), .val (.int p2), .val (.int p3), .val (.int p4), .val (.int u), .val (.ref r_1), .val (.ref d_4), .val (.int (1 : Int32)), .unset] [(.ref rq), (.ref rq)])) X_11 hx rfl rfl rfl (pc0 := 72) (pc' := 75) (same := true) rfl (hb hby at_72) rfl (decide_eq_true (rfl : ((.ref rq) : Value) = (.ref rq))) (by decide) (by decide) k) ?_
    show own_G _ _ _ _ (T_11.setTop (mkF m 75 #[.val (.int p0), .val (.int p1), .val (.int p2), .val (.int p3), .val (.int p4), .val (.int u), .val (.ref r_1), .val (.ref d_4), .val (.int (1 : Int32)), .unset] []))
    refine own_G.go (fun _ k => XS.iconst X_11.here hx rfl (hb hby at_75) k) ?_
    show own_G _ _ _ _ (T_11.setTop (mkF m 76 #[.val (.int p0), .val (.int p1), .val (.int p2), .val (.int p3), .val (.int p4), .val (.int u), .val (.ref r_1), .val (.ref d_4), .val (.int (1 : Int32)), .unset] [(.int (1 : Int32))]))
    refine own_G.go (fun _ k => XS.goto X_11.here hx rfl (pc0 := 76) (pc' := 80) rfl (hb hby at_76) (by decide) (by decide) k) ?_
    show own_G _ _ _ _ (T_11.setTop (mkF m 80 #[.val (.int p0), .val (.int p1), .val (.int p2), .val (.int p3), .val (.int p4), .val (.int u), .val (.ref r_1), .val (.ref d_4), .val (.int (1 : Int32)), .unset] [(.int (1 : Int32))]))
    refine own_G.go (fun _ k => XS.istore X_11.here hx rfl (hb hby at_80) rfl (l' := #[.val (.int p0), .val (.int p1), .val (.int p2), .val (.int p3), .val (.int p4), .val (.int u), .val (.ref r_1), .val (.ref d_4), .val (.int (1 : Int32)), .unset]) rfl k) ?_
    show own_G _ _ _ _ (T_11.setTop (mkF m 82 #[.val (.int p0), .val (.int p1), .val (.int p2), .val (.int p3), .val (.int p4), .val (.int u), .val (.ref r_1), .val (.ref d_4), .val (.int (1 : Int32)), .unset] []))
    refine own_G.go (fun _ k => XS.iload X_11.here hx rfl (hb hby at_82) rfl k) ?_
    show own_G _ _ _ _ (T_11.setTop (mkF m 84 #[.val (.int p0), .val (.int p1), .val (.int p2), .val (.int p3), .val (.int p4), .val (.int u), .val (.ref r_1), .val (.ref d_4), .val (.int (1 : Int32)), .unset] [(.int (1 : Int32))]))
    refine own_G.go (fun _ k => XS.ifNo X_11.here hx rfl (hb hby at_84) rfl ((if0 _ _).trans (feq (by decide : ¬ ((1 : Int32) = (0 : Int32)))).1) k) ?_
    show own_G _ _ _ _ (T_11.setTop (mkF m 87 #[.val (.int p0), .val (.int p1), .val (.int p2), .val (.int p3), .val (.int p4), .val (.int u), .val (.ref r_1), .val (.ref d_4), .val (.int (1 : Int32)), .unset] []))
    refine own_G.go (fun _ k => XS.aload X_11.here hx rfl (hb hby at_87) rfl rfl k) ?_
    show own_G _ _ _ _ (T_11.setTop (mkF m 89 #[.val (.int p0), .val (.int p1), .val (.int p2), .val (.int p3), .val (.int p4), .val (.int u), .val (.ref r_1), .val (.ref d_4), .val (.int (1 : Int32)), .unset] [(.ref d_4)]))
    obtain ⟨cq_12, kq_12, q_12a, q_12b, q_12c⟩ := isOf hZ_4 e_11 Ex_4
    obtain ⟨_, T_12, L_12, Q_12, X_12, st_12⟩ := own_callV X_11 hx (z := (⟨"com/example/enlist/enlist/definition/TransactionDefinition", "isolation", "()Lcom/example/enlist/enlist/definition/Isolation;"⟩ : MethodName)) hown_4 (mvT hZ_4 (own_w hw 104 rfl)) (mvT hZ_4 (own_w hw 105 rfl)) (notFace_of_selects (args := #[]) (mvT hZ_4 (own_w hw 107 rfl))) (mvT hZ_4 (own_w hw 107 rfl)) (mvT hZ_4 (own_w hw 106 rfl)) (by decide) (Q := (Qp (.ref io) T_4.heap)) (backOf (W := 0) (rm_iso l Z a0 hw [] d_4 sg_4 io T_4.heap n0 (Nat.le_trans Z0 (Nat.le_trans K_1.1 K_4.1)) Fs_4 F2_4) hZ_4 (own_w hw 108 rfl) (own_w hw 28 rfl) (by decide) (by decide)) q_12a q_12c (g := (mkF m 89 #[.val (.int p0), .val (.int p1), .val (.int p2), .val (.int p3), .val (.int p4), .val (.int u), .val (.ref r_1), .val (.ref d_4), .val (.int (1 : Int32)), .unset] [(.ref d_4)])) rfl (by rw [hml]; rfl) (argsL := []) (rest := []) (lenOf pd_32 rfl) rfl (by show 2 * 0 + _ ≤ _; exact Nat.le_of_eq rfl) (hb hby at_89) e_11 rfl (by decide) (by decide)
    obtain ⟨rfl, rfl, eh_12⟩ := Q_12
    refine own_G.via st_12 ?_
    have N_12 := Fr.app N_9 (Fr.nil n0)
    show own_G _ _ _ _ (T_12.setTop (mkF m 92 #[.val (.int p0), .val (.int p1), .val (.int p2), .val (.int p3), .val (.int p4), .val (.int u), .val (.ref r_1), .val (.ref d_4), .val (.int (1 : Int32)), .unset] [(.ref io)]))
    obtain ⟨T_13, X_13, e_13, st_13⟩ := getS2 X_12 hx hZ_4 hown_4 (host := "") (Or.inl (own_w hw 110 rfl)) Via.refl eh_12 (OI.ext O_10d.2) (g := (mkF m 92 #[.val (.int p0), .val (.int p1), .val (.int p2), .val (.int p3), .val (.int p4), .val (.int u), .val (.ref r_1), .val (.ref d_4), .val (.int (1 : Int32)), .unset] [(.ref io)])) rfl (hb hby at_92)
    refine own_G.go st_13 ?_
    show own_G _ _ _ _ (T_13.setTop (mkF m 95 #[.val (.int p0), .val (.int p1), .val (.int p2), .val (.int p3), .val (.int p4), .val (.int u), .val (.ref r_1), .val (.ref d_4), .val (.int (1 : Int32)), .unset] [(.ref io), (.ref io)]))
    refine own_G.go (fun _ k => Jvm.RoadKit.acmp (g := (mkF m 95 #[.val (.int p0), .val (.int p1), .val (.int p2), .val (.int p3), .val (.int p4), .val (.int u), .val (.ref r_1), .val (.ref d_4), .val (.int (1 : Int32)), .unset] [(.ref io), (.ref io)])) X_13 hx rfl rfl rfl (pc0 := 95) (pc' := 98) (same := true) rfl (hb hby at_95) rfl (decide_eq_true (rfl : ((.ref io) : Value) = (.ref io))) (by decide) (by decide) k) ?_
    show own_G _ _ _ _ (T_13.setTop (mkF m 98 #[.val (.int p0), .val (.int p1), .val (.int p2), .val (.int p3), .val (.int p4), .val (.int u), .val (.ref r_1), .val (.ref d_4), .val (.int (1 : Int32)), .unset] []))
    refine own_G.go (fun _ k => XS.iconst X_13.here hx rfl (hb hby at_98) k) ?_
    show own_G _ _ _ _ (T_13.setTop (mkF m 99 #[.val (.int p0), .val (.int p1), .val (.int p2), .val (.int p3), .val (.int p4), .val (.int u), .val (.ref r_1), .val (.ref d_4), .val (.int (1 : Int32)), .unset] [(.int (1 : Int32))]))
    refine own_G.go (fun _ k => XS.goto X_13.here hx rfl (pc0 := 99) (pc' := 103) rfl (hb hby at_99) (by decide) (by decide) k) ?_
    show own_G _ _ _ _ (T_13.setTop (mkF m 103 #[.val (.int p0), .val (.int p1), .val (.int p2), .val (.int p3), .val (.int p4), .val (.int u), .val (.ref r_1), .val (.ref d_4), .val (.int (1 : Int32)), .unset] [(.int (1 : Int32))]))
    refine own_G.go (fun _ k => XS.istore X_13.here hx rfl (hb hby at_103) rfl (l' := #[.val (.int p0), .val (.int p1), .val (.int p2), .val (.int p3), .val (.int p4), .val (.int u), .val (.ref r_1), .val (.ref d_4), .val (.int (1 : Int32)), .unset]) rfl k) ?_
    show own_G _ _ _ _ (T_13.setTop (mkF m 105 #[.val (.int p0), .val (.int p1), .val (.int p2), .val (.int p3), .val (.int p4), .val (.int u), .val (.ref r_1), .val (.ref d_4), .val (.int (1 : Int32)), .unset] []))
    refine own_G.go (fun _ k => XS.iload X_13.here hx rfl (hb hby at_105) rfl k) ?_
    show own_G _ _ _ _ (T_13.setTop (mkF m 107 #[.val (.int p0), .val (.int p1), .val (.int p2), .val (.int p3), .val (.int p4), .val (.int u), .val (.ref r_1), .val (.ref d_4), .val (.int (1 : Int32)), .unset] [(.int (1 : Int32))]))
    refine own_G.go (fun _ k => XS.ifNo X_13.here hx rfl (hb hby at_107) rfl ((if0 _ _).trans (feq (by decide : ¬ ((1 : Int32) = (0 : Int32)))).1) k) ?_
    show own_G _ _ _ _ (T_13.setTop (mkF m 110 #[.val (.int p0), .val (.int p1), .val (.int p2), .val (.int p3), .val (.int p4), .val (.int u), .val (.ref r_1), .val (.ref d_4), .val (.int (1 : Int32)), .unset] []))
    refine own_G.go (fun _ k => XS.aload X_13.here hx rfl (hb hby at_110) rfl rfl k) ?_
    show own_G _ _ _ _ (T_13.setTop (mkF m 112 #[.val (.int p0), .val (.int p1), .val (.int p2), .val (.int p3), .val (.int p4), .val (.int u), .val (.ref r_1), .val (.ref d_4), .val (.int (1 : Int32)), .unset] [(.ref d_4)]))
    obtain ⟨cq_14, kq_14, q_14a, q_14b, q_14c⟩ := isOf hZ_4 e_13 Ex_4
    obtain ⟨_, T_14, L_14, Q_14, X_14, st_14⟩ := own_callV X_13 hx (z := (⟨"com/example/enlist/enlist/definition/TransactionDefinition", "readOnly", "()Z"⟩ : MethodName)) hown_4 (mvT hZ_4 (own_w hw 111 rfl)) (mvT hZ_4 (own_w hw 112 rfl)) (notFace_of_selects (args := #[]) (mvT hZ_4 (own_w hw 114 rfl))) (mvT hZ_4 (own_w hw 114 rfl)) (mvT hZ_4 (own_w hw 113 rfl)) (by decide) (Q := (Qp (.int (0 : Int32)) T_4.heap)) (backOf (W := 0) (rm_ro l Z a0 hw [] d_4 sg_4 T_4.heap n0 (Nat.le_trans Z0 (Nat.le_trans K_1.1 K_4.1)) Fs_4 F3_4) hZ_4 (own_w hw 115 rfl) (own_w hw 28 rfl) (by decide) (by decide)) q_14a q_14c (g := (mkF m 112 #[.val (.int p0), .val (.int p1), .val (.int p2), .val (.int p3), .val (.int p4), .val (.int u), .val (.ref r_1), .val (.ref d_4), .val (.int (1 : Int32)), .unset] [(.ref d_4)])) rfl (by rw [hml]; rfl) (argsL := []) (rest := []) (lenOf pd_15 rfl) rfl (by show 2 * 0 + _ ≤ _; exact Nat.le_of_eq rfl) (hb hby at_112) e_13 rfl (by decide) (by decide)
    obtain ⟨rfl, rfl, eh_14⟩ := Q_14
    refine own_G.via st_14 ?_
    have N_14 := Fr.app N_12 (Fr.nil n0)
    show own_G _ _ _ _ (T_14.setTop (mkF m 115 #[.val (.int p0), .val (.int p1), .val (.int p2), .val (.int p3), .val (.int p4), .val (.int u), .val (.ref r_1), .val (.ref d_4), .val (.int (1 : Int32)), .unset] [(.int (0 : Int32))]))
    refine own_G.go (fun _ k => XS.ifNo X_14.here hx rfl (hb hby at_115) rfl ((if0 _ _).trans (teq (by decide : (0 : Int32) = (0 : Int32))).2) k) ?_
    show own_G _ _ _ _ (T_14.setTop (mkF m 118 #[.val (.int p0), .val (.int p1), .val (.int p2), .val (.int p3), .val (.int p4), .val (.int u), .val (.ref r_1), .val (.ref d_4), .val (.int (1 : Int32)), .unset] []))
    refine own_G.go (fun _ k => XS.iconst X_14.here hx rfl (hb hby at_118) k) ?_
    show own_G _ _ _ _ (T_14.setTop (mkF m 119 #[.val (.int p0), .val (.int p1), .val (.int p2), .val (.int p3), .val (.int p4), .val (.int u), .val (.ref r_1), .val (.ref d_4), .val (.int (1 : Int32)), .unset] [(.int (1 : Int32))]))
    refine own_G.go (fun _ k => XS.goto X_14.here hx rfl (pc0 := 119) (pc' := 123) rfl (hb hby at_119) (by decide) (by decide) k) ?_
    show own_G _ _ _ _ (T_14.setTop (mkF m 123 #[.val (.int p0), .val (.int p1), .val (.int p2), .val (.int p3), .val (.int p4), .val (.int u), .val (.ref r_1), .val (.ref d_4), .val (.int (1 : Int32)), .unset] [(.int (1 : Int32))]))
    refine own_G.go (fun _ k => XS.istore X_14.here hx rfl (hb hby at_123) rfl (l' := #[.val (.int p0), .val (.int p1), .val (.int p2), .val (.int p3), .val (.int p4), .val (.int u), .val (.ref r_1), .val (.ref d_4), .val (.int (1 : Int32)), .unset]) rfl k) ?_
    show own_G _ _ _ _ (T_14.setTop (mkF m 125 #[.val (.int p0), .val (.int p1), .val (.int p2), .val (.int p3), .val (.int p4), .val (.int u), .val (.ref r_1), .val (.ref d_4), .val (.int (1 : Int32)), .unset] []))
    refine own_G.go (fun _ k => XS.iload X_14.here hx rfl (hb hby at_125) rfl k) ?_
    show own_G _ _ _ _ (T_14.setTop (mkF m 127 #[.val (.int p0), .val (.int p1), .val (.int p2), .val (.int p3), .val (.int p4), .val (.int u), .val (.ref r_1), .val (.ref d_4), .val (.int (1 : Int32)), .unset] [(.int (1 : Int32))]))
    refine own_G.go (fun _ k => XS.ifNo X_14.here hx rfl (hb hby at_127) rfl ((if0 _ _).trans (feq (by decide : ¬ ((1 : Int32) = (0 : Int32)))).1) k) ?_
    show own_G _ _ _ _ (T_14.setTop (mkF m 130 #[.val (.int p0), .val (.int p1), .val (.int p2), .val (.int p3), .val (.int p4), .val (.int u), .val (.ref r_1), .val (.ref d_4), .val (.int (1 : Int32)), .unset] []))
    refine own_G.go (fun _ k => XS.aload X_14.here hx rfl (hb hby at_130) rfl rfl k) ?_
    show own_G _ _ _ _ (T_14.setTop (mkF m 132 #[.val (.int p0), .val (.int p1), .val (.int p2), .val (.int p3), .val (.int p4), .val (.int u), .val (.ref r_1), .val (.ref d_4), .val (.int (1 : Int32)), .unset] [(.ref d_4)]))
    obtain ⟨cq_15, kq_15, q_15a, q_15b, q_15c⟩ := isOf hZ_4 eh_14 Ex_4
    obtain ⟨_, T_15, L_15, Q_15, X_15, st_15⟩ := own_callV X_14 hx (z := (⟨"com/example/enlist/enlist/definition/TransactionDefinition", "timeout", "()Ljava/util/OptionalInt;"⟩ : MethodName)) hown_4 (mvT hZ_4 (own_w hw 117 rfl)) (mvT hZ_4 (own_w hw 118 rfl)) (notFace_of_selects (args := #[]) (mvT hZ_4 (own_w hw 120 rfl))) (mvT hZ_4 (own_w hw 120 rfl)) (mvT hZ_4 (own_w hw 119 rfl)) (by decide) (Q := (Qp (.ref em) T_4.heap)) (backOf (W := 0) (rm_to l Z a0 hw [] d_4 sg_4 em T_4.heap n0 (Nat.le_trans Z0 (Nat.le_trans K_1.1 K_4.1)) Fs_4 F4_4) hZ_4 (own_w hw 121 rfl) (own_w hw 28 rfl) (by decide) (by decide)) q_15a q_15c (g := (mkF m 132 #[.val (.int p0), .val (.int p1), .val (.int p2), .val (.int p3), .val (.int p4), .val (.int u), .val (.ref r_1), .val (.ref d_4), .val (.int (1 : Int32)), .unset] [(.ref d_4)])) rfl (by rw [hml]; rfl) (argsL := []) (rest := []) (lenOf pd_18 rfl) rfl (by show 2 * 0 + _ ≤ _; exact Nat.le_of_eq rfl) (hb hby at_132) eh_14 rfl (by decide) (by decide)
    obtain ⟨rfl, rfl, eh_15⟩ := Q_15
    refine own_G.via st_15 ?_
    have N_15 := Fr.app N_14 (Fr.nil n0)
    show own_G _ _ _ _ (T_15.setTop (mkF m 135 #[.val (.int p0), .val (.int p1), .val (.int p2), .val (.int p3), .val (.int p4), .val (.int u), .val (.ref r_1), .val (.ref d_4), .val (.int (1 : Int32)), .unset] [(.ref em)]))
    obtain ⟨T_16, X_16, e_16, st_16⟩ := getS2 X_15 hx hZ_4 hown_4 (host := "") (Or.inl (own_w hw 123 rfl)) Via.refl eh_15 (OD.ext O_10d.2) (g := (mkF m 135 #[.val (.int p0), .val (.int p1), .val (.int p2), .val (.int p3), .val (.int p4), .val (.int u), .val (.ref r_1), .val (.ref d_4), .val (.int (1 : Int32)), .unset] [(.ref em)])) rfl (hb hby at_135)
    refine own_G.go st_16 ?_
    show own_G _ _ _ _ (T_16.setTop (mkF m 138 #[.val (.int p0), .val (.int p1), .val (.int p2), .val (.int p3), .val (.int p4), .val (.int u), .val (.ref r_1), .val (.ref d_4), .val (.int (1 : Int32)), .unset] [(.ref df), (.ref em)]))
    have FDF'_17 : Fld Z T_4.heap df "com/example/enlist/enlist/definition/TransactionDefinition" "settings" "Lcom/example/enlist/enlist/definition/TransactionDefinition$Settings;" (.ref ds) := ((FDF.keep K_1 nin0).keep K_4 nin0)
    have GD4'_18 : Fld Z T_4.heap ds "com/example/enlist/enlist/definition/TransactionDefinition$Settings" "timeout" "Ljava/util/OptionalInt;" (.ref em) := ((GD4.keep K_1 nin0).keep K_4 nin0)
    have EFD'_20 : Exa Z T_4.heap df "com/example/enlist/enlist/definition/TransactionDefinition" := ((EFD.keep K_1).keep K_4)
    obtain ⟨cq_19, kq_19, q_19a, q_19b, q_19c⟩ := isOf hZ_4 e_16 EFD'_20
    obtain ⟨_, T_19, L_19, Q_19, X_19, st_19⟩ := own_callV X_16 hx (z := (⟨"com/example/enlist/enlist/definition/TransactionDefinition", "timeout", "()Ljava/util/OptionalInt;"⟩ : MethodName)) hown_4 (mvT hZ_4 (own_w hw 117 rfl)) (mvT hZ_4 (own_w hw 118 rfl)) (notFace_of_selects (args := #[]) (mvT hZ_4 (own_w hw 120 rfl))) (mvT hZ_4 (own_w hw 120 rfl)) (mvT hZ_4 (own_w hw 119 rfl)) (by decide) (Q := (Qp (.ref em) T_4.heap)) (backOf (W := 1) (rm_to l Z a0 hw [] df ds em T_4.heap n0 (Nat.le_trans Z0 (Nat.le_trans K_1.1 K_4.1)) FDF'_17 GD4'_18) hZ_4 (own_w hw 121 rfl) (own_w hw 28 rfl) (by decide) (by decide)) q_19a q_19c (g := (mkF m 138 #[.val (.int p0), .val (.int p1), .val (.int p2), .val (.int p3), .val (.int p4), .val (.int u), .val (.ref r_1), .val (.ref d_4), .val (.int (1 : Int32)), .unset] [(.ref df), (.ref em)])) rfl (by rw [hml]; rfl) (argsL := []) (rest := [(.ref em)]) (lenOf pd_18 rfl) rfl (by show 2 * 0 + _ ≤ _; exact Nat.le_of_eq rfl) (hb hby at_138) e_16 rfl (by decide) (by decide)
    obtain ⟨rfl, rfl, eh_19⟩ := Q_19
    refine own_G.via st_19 ?_
    have N_19 := Fr.app N_15 (Fr.nil n0)
    show own_G _ _ _ _ (T_19.setTop (mkF m 141 #[.val (.int p0), .val (.int p1), .val (.int p2), .val (.int p3), .val (.int p4), .val (.int u), .val (.ref r_1), .val (.ref d_4), .val (.int (1 : Int32)), .unset] [(.ref em), (.ref em)]))
    refine own_G.go (fun _ k => Jvm.RoadKit.acmp (g := (mkF m 141 #[.val (.int p0), .val (.int p1), .val (.int p2), .val (.int p3), .val (.int p4), .val (.int u), .val (.ref r_1), .val (.ref d_4), .val (.int (1 : Int32)), .unset] [(.ref em), (.ref em)])) X_19 hx rfl rfl rfl (pc0 := 141) (pc' := 144) (same := true) rfl (hb hby at_141) rfl (decide_eq_true (rfl : ((.ref em) : Value) = (.ref em))) (by decide) (by decide) k) ?_
    show own_G _ _ _ _ (T_19.setTop (mkF m 144 #[.val (.int p0), .val (.int p1), .val (.int p2), .val (.int p3), .val (.int p4), .val (.int u), .val (.ref r_1), .val (.ref d_4), .val (.int (1 : Int32)), .unset] []))
    refine own_G.go (fun _ k => XS.iconst X_19.here hx rfl (hb hby at_144) k) ?_
    show own_G _ _ _ _ (T_19.setTop (mkF m 145 #[.val (.int p0), .val (.int p1), .val (.int p2), .val (.int p3), .val (.int p4), .val (.int u), .val (.ref r_1), .val (.ref d_4), .val (.int (1 : Int32)), .unset] [(.int (1 : Int32))]))
    refine own_G.go (fun _ k => XS.goto X_19.here hx rfl (pc0 := 145) (pc' := 149) rfl (hb hby at_145) (by decide) (by decide) k) ?_
    show own_G _ _ _ _ (T_19.setTop (mkF m 149 #[.val (.int p0), .val (.int p1), .val (.int p2), .val (.int p3), .val (.int p4), .val (.int u), .val (.ref r_1), .val (.ref d_4), .val (.int (1 : Int32)), .unset] [(.int (1 : Int32))]))
    refine own_G.go (fun _ k => XS.istore X_19.here hx rfl (hb hby at_149) rfl (l' := #[.val (.int p0), .val (.int p1), .val (.int p2), .val (.int p3), .val (.int p4), .val (.int u), .val (.ref r_1), .val (.ref d_4), .val (.int (1 : Int32)), .unset]) rfl k) ?_
    show own_G _ _ _ _ (T_19.setTop (mkF m 151 #[.val (.int p0), .val (.int p1), .val (.int p2), .val (.int p3), .val (.int p4), .val (.int u), .val (.ref r_1), .val (.ref d_4), .val (.int (1 : Int32)), .unset] []))
    refine own_G.go (fun _ k => XS.aload X_19.here hx rfl (hb hby at_151) rfl rfl k) ?_
    show own_G _ _ _ _ (T_19.setTop (mkF m 153 #[.val (.int p0), .val (.int p1), .val (.int p2), .val (.int p3), .val (.int p4), .val (.int u), .val (.ref r_1), .val (.ref d_4), .val (.int (1 : Int32)), .unset] [(.ref d_4)]))
    have Fc_1'_21 : Fld Z T_4.heap r_1 "java/lang/String" "coder" "B" (.int (0 : Int32)) := (Fc_1.keep K_4 nin0)
    have Fv_1'_22 : Fld Z T_4.heap r_1 "java/lang/String" "value" "[B" (.ref t_1) := (Fv_1.keep K_4 nin0)
    have Kb_1'_23 : Arv Z T_4.heap t_1 kb_1 .byte (Int32.ofNat (own_cs u c0 c1 c2 c3).length) (((own_cs u c0 c1 c2 c3).map (fun c => c.toInt8.toInt32)).map Value.int) (.int (0 : Int32)) := (Kb_1.keep K_4 nin0)
    obtain ⟨cq_24, kq_24, q_24a, q_24b, q_24c⟩ := isOf hZ_4 eh_19 Ex_4
    obtain ⟨_, T_24, L_24, Q_24, X_24, hS_24, hZ_24, hown_24, st_24⟩ := own_callVW X_19 hx hS_4 (Nat.le_refl _) hZ_4 (z := (⟨"com/example/enlist/enlist/definition/TransactionDefinition", "toString", "()Ljava/lang/String;"⟩ : MethodName)) hown_4 (mvT hZ_4 (own_w hw 124 rfl)) (mvT hZ_4 (own_w hw 125 rfl)) (notFace_of_selects (args := #[]) (mvT hZ_4 (own_w hw 127 rfl))) (mvT hZ_4 (own_w hw 127 rfl)) (mvT hZ_4 (own_w hw 126 rfl)) (by decide) (Q := (fun v (U : State) L => Qt Z u c0 c1 c2 c3 T_4.heap n0 v U.heap L ∧ CHr Z own_EL T_4.vm T_4.heap U.vm U.heap)) (own_backSH (backOfSH (W := 0) (rm_ts l Z a0 hw [] u c0 c1 c2 c3 d_4 sg_4 r_1 t_1 kb_1 zc T_4.heap n0 (Nat.le_trans Z0 (Nat.le_trans K_1.1 K_4.1)) hl b0 b1 b2 b3 Fs_4 F0_4 Ex_1'_8 Fc_1'_21 Fv_1'_22 Kb_1'_23 O2 P5 O_10d) hZ_4 (own_w hw 128 rfl) (own_w hw 28 rfl) (by decide) (by decide) hEW CH_5.1)) q_24a q_24c (g := (mkF m 153 #[.val (.int p0), .val (.int p1), .val (.int p2), .val (.int p3), .val (.int p4), .val (.int u), .val (.ref r_1), .val (.ref d_4), .val (.int (1 : Int32)), .unset] [(.ref d_4)])) rfl (by rw [hml]; rfl) (argsL := []) (rest := []) (lenOf pd_27 rfl) rfl (by show 2 * 0 + _ ≤ _; exact Nat.le_of_eq rfl) (hb hby at_153) eh_19 rfl (by decide) (by decide)
    obtain ⟨⟨r_24, t_24, kb_24, rfl, Nq_24, K_24, Ex_24, Fc_24, Fv_24, Kb_24⟩, Ch_24⟩ := Q_24
    refine own_G.via st_24 ?_
    have CH_25 : CHr Z own_EL s.vm h0 T_24.vm T_24.heap := CH_5.trans Ch_24
    have N_24 := Fr.app N_19 Nq_24
    show own_G _ _ _ _ (T_24.setTop (mkF m 156 #[.val (.int p0), .val (.int p1), .val (.int p2), .val (.int p3), .val (.int p4), .val (.int u), .val (.ref r_1), .val (.ref d_4), .val (.int (1 : Int32)), .unset] [(.ref r_24)]))
    refine own_G.go (fun _ k => XS.astore X_24.here hx rfl (hb hby at_156) rfl rfl (l' := #[.val (.int p0), .val (.int p1), .val (.int p2), .val (.int p3), .val (.int p4), .val (.int u), .val (.ref r_1), .val (.ref d_4), .val (.int (1 : Int32)), .val (.ref r_24)]) rfl k) ?_
    show own_G _ _ _ _ (T_24.setTop (mkF m 158 #[.val (.int p0), .val (.int p1), .val (.int p2), .val (.int p3), .val (.int p4), .val (.int u), .val (.ref r_1), .val (.ref d_4), .val (.int (1 : Int32)), .val (.ref r_24)] []))
    refine own_G.go (fun _ k => XS.iload X_24.here hx rfl (hb hby at_158) rfl k) ?_
    show own_G _ _ _ _ (T_24.setTop (mkF m 160 #[.val (.int p0), .val (.int p1), .val (.int p2), .val (.int p3), .val (.int p4), .val (.int u), .val (.ref r_1), .val (.ref d_4), .val (.int (1 : Int32)), .val (.ref r_24)] [(.int (1 : Int32))]))
    refine own_G.go (fun _ k => XS.ifNo X_24.here hx rfl (hb hby at_160) rfl ((if0 _ _).trans (feq (by decide : ¬ ((1 : Int32) = (0 : Int32)))).1) k) ?_
    show own_G _ _ _ _ (T_24.setTop (mkF m 163 #[.val (.int p0), .val (.int p1), .val (.int p2), .val (.int p3), .val (.int p4), .val (.int u), .val (.ref r_1), .val (.ref d_4), .val (.int (1 : Int32)), .val (.ref r_24)] []))
    refine own_G.go (fun _ k => XS.aload X_24.here hx rfl (hb hby at_163) rfl rfl k) ?_
    show own_G _ _ _ _ (T_24.setTop (mkF m 165 #[.val (.int p0), .val (.int p1), .val (.int p2), .val (.int p3), .val (.int p4), .val (.int u), .val (.ref r_1), .val (.ref d_4), .val (.int (1 : Int32)), .val (.ref r_24)] [(.ref r_24)]))
    have O_26d : Old Z n0 T_24.heap := (O_10d.keep K_24 all0)
    obtain ⟨cq_27, kq_27, q_27a, q_27b, q_27c⟩ := isOf hZ_24 rfl Ex_24
    obtain ⟨_, T_27, L_27, Q_27, X_27, st_27⟩ := own_callV X_24 hx (z := (⟨"java/lang/String", "length", "()I"⟩ : MethodName)) hown_24 (mvT hZ_24 (own_w hw 242 rfl)) (mvT hZ_24 (own_w hw 159 rfl)) (notFace_of_selects (args := #[]) (mvT hZ_24 (own_w hw 161 rfl))) (mvT hZ_24 (own_w hw 161 rfl)) (mvT hZ_24 (own_w hw 160 rfl)) (by decide) (Q := (fun v h' L => v = some (.int (Int32.ofNat (own_tx u c0 c1 c2 c3).length)) ∧ L = [] ∧ h' = T_24.heap)) (StrChars.Road.lenW (W := 0) hZ_24 hLen (kI := 4) (own_w hw 5 rfl) Ex_24 Fv_24 Fc_24 Kb_24 hcd hbd (O2.ext O_26d.2) P5 (own_tx_len hl).2.1 (by decide) (by decide)) q_27a q_27c (g := (mkF m 165 #[.val (.int p0), .val (.int p1), .val (.int p2), .val (.int p3), .val (.int p4), .val (.int u), .val (.ref r_1), .val (.ref d_4), .val (.int (1 : Int32)), .val (.ref r_24)] [(.ref r_24)])) rfl (by rw [hml]; rfl) (argsL := []) (rest := []) (lenOf pd_8 rfl) rfl (by show 2 * 0 + _ ≤ _; exact Nat.le_of_eq rfl) (hb hby at_165) rfl rfl (by decide) (by decide)
    obtain ⟨rfl, rfl, eh_27⟩ := Q_27
    refine own_G.via st_27 ?_
    have N_27 := Fr.app N_24 (Fr.nil n0)
    show own_G _ _ _ _ (T_27.setTop (mkF m 168 #[.val (.int p0), .val (.int p1), .val (.int p2), .val (.int p3), .val (.int p4), .val (.int u), .val (.ref r_1), .val (.ref d_4), .val (.int (1 : Int32)), .val (.ref r_24)] [(.int (Int32.ofNat (own_tx u c0 c1 c2 c3).length))]))
    refine own_G.go (fun _ k => XS.iload X_27.here hx rfl (hb hby at_168) rfl k) ?_
    show own_G _ _ _ _ (T_27.setTop (mkF m 170 #[.val (.int p0), .val (.int p1), .val (.int p2), .val (.int p3), .val (.int p4), .val (.int u), .val (.ref r_1), .val (.ref d_4), .val (.int (1 : Int32)), .val (.ref r_24)] [(.int u), (.int (Int32.ofNat (own_tx u c0 c1 c2 c3).length))]))
    refine own_G.go (fun _ k => XS.bipush X_27.here hx rfl (hb hby at_170) k) ?_
    show own_G _ _ _ _ (T_27.setTop (mkF m 172 #[.val (.int p0), .val (.int p1), .val (.int p2), .val (.int p3), .val (.int p4), .val (.int u), .val (.ref r_1), .val (.ref d_4), .val (.int (1 : Int32)), .val (.ref r_24)] [(.int (14 : Int32)), (.int u), (.int (Int32.ofNat (own_tx u c0 c1 c2 c3).length))]))
    refine own_G.go (fun _ k => XS.iadd X_27.here hx rfl (hb hby at_172) rfl k) ?_
    show own_G _ _ _ _ (T_27.setTop (mkF m 173 #[.val (.int p0), .val (.int p1), .val (.int p2), .val (.int p3), .val (.int p4), .val (.int u), .val (.ref r_1), .val (.ref d_4), .val (.int (1 : Int32)), .val (.ref r_24)] [(.int (u + (14 : Int32))), (.int (Int32.ofNat (own_tx u c0 c1 c2 c3).length))]))
    refine own_G.go (fun _ k => XS.icmpNo X_27.here hx rfl (hb hby at_173) rfl (teq ((own_tx_len hl).1 : (Int32.ofNat (own_tx u c0 c1 c2 c3).length) = (u + (14 : Int32)))).2 k) ?_
    show own_G _ _ _ _ (T_27.setTop (mkF m 176 #[.val (.int p0), .val (.int p1), .val (.int p2), .val (.int p3), .val (.int p4), .val (.int u), .val (.ref r_1), .val (.ref d_4), .val (.int (1 : Int32)), .val (.ref r_24)] []))
    refine own_G.go (fun _ k => XS.aload X_27.here hx rfl (hb hby at_176) rfl rfl k) ?_
    show own_G _ _ _ _ (T_27.setTop (mkF m 178 #[.val (.int p0), .val (.int p1), .val (.int p2), .val (.int p3), .val (.int p4), .val (.int u), .val (.ref r_1), .val (.ref d_4), .val (.int (1 : Int32)), .val (.ref r_24)] [(.ref r_24)]))
    refine own_G.go (fun _ k => XS.bipush X_27.here hx rfl (hb hby at_178) k) ?_
    show own_G _ _ _ _ (T_27.setTop (mkF m 180 #[.val (.int p0), .val (.int p1), .val (.int p2), .val (.int p3), .val (.int p4), .val (.int u), .val (.ref r_1), .val (.ref d_4), .val (.int (1 : Int32)), .val (.ref r_24)] [(.int (12 : Int32)), (.ref r_24)]))
    obtain ⟨cq_28, kq_28, q_28a, q_28b, q_28c⟩ := isOf hZ_24 eh_27 Ex_24
    obtain ⟨_, T_28, L_28, Q_28, X_28, st_28⟩ := own_callV X_27 hx (z := (⟨"java/lang/String", "charAt", "(I)C"⟩ : MethodName)) hown_24 (mvT hZ_24 (own_w hw 243 rfl)) (mvT hZ_24 (own_w hw 244 rfl)) (notFace_of_selects (args := #[]) (mvT hZ_24 (own_w hw 246 rfl))) (mvT hZ_24 (own_w hw 246 rfl)) (mvT hZ_24 (own_w hw 245 rfl)) (by decide) (Q := (fun v h' L => v = some (.int ((own_tx u c0 c1 c2 c3).getD 12 0)) ∧ L = [] ∧ h' = T_24.heap)) (StrChars.Road.chN (W := 0) hZ_24 hChN (kI := 4) (own_w hw 5 rfl) Ex_24 Fv_24 Fc_24 Kb_24 hcd hbd (O2.ext O_26d.2) P5 (O4.ext O_26d.2) rfm (own_tx_len hl).2.1 (i := 12) (own_tx_len hl).2.2.1 (j := (12 : Int32)) rfl (by decide) (by decide)) q_28a q_28c (g := (mkF m 180 #[.val (.int p0), .val (.int p1), .val (.int p2), .val (.int p3), .val (.int p4), .val (.int u), .val (.ref r_1), .val (.ref d_4), .val (.int (1 : Int32)), .val (.ref r_24)] [(.int (12 : Int32)), (.ref r_24)])) rfl (by rw [hml]; rfl) (argsL := [(.int (12 : Int32))]) (rest := []) (lenOf pd_33 rfl) rfl (by show 2 * 0 + _ ≤ _; exact Nat.le_of_eq rfl) (hb hby at_180) eh_27 rfl (by decide) (by decide)
    obtain ⟨rfl, rfl, eh_28⟩ := Q_28
    refine own_G.via st_28 ?_
    have N_28 := Fr.app N_27 (Fr.nil n0)
    show own_G _ _ _ _ (T_28.setTop (mkF m 183 #[.val (.int p0), .val (.int p1), .val (.int p2), .val (.int p3), .val (.int p4), .val (.int u), .val (.ref r_1), .val (.ref d_4), .val (.int (1 : Int32)), .val (.ref r_24)] [(.int ((own_tx u c0 c1 c2 c3).getD 12 0))]))
    refine own_G.go (fun _ k => XS.bipush X_28.here hx rfl (hb hby at_183) k) ?_
    show own_G _ _ _ _ (T_28.setTop (mkF m 185 #[.val (.int p0), .val (.int p1), .val (.int p2), .val (.int p3), .val (.int p4), .val (.int u), .val (.ref r_1), .val (.ref d_4), .val (.int (1 : Int32)), .val (.ref r_24)] [(.int (39 : Int32)), (.int ((own_tx u c0 c1 c2 c3).getD 12 0))]))
    refine own_G.go (fun _ k => XS.icmpNo X_28.here hx rfl (hb hby at_185) rfl (teq ((own_tx_len hl).2.2.2.1 : ((own_tx u c0 c1 c2 c3).getD 12 0) = (39 : Int32))).2 k) ?_
    show own_G _ _ _ _ (T_28.setTop (mkF m 188 #[.val (.int p0), .val (.int p1), .val (.int p2), .val (.int p3), .val (.int p4), .val (.int u), .val (.ref r_1), .val (.ref d_4), .val (.int (1 : Int32)), .val (.ref r_24)] []))
    refine own_G.go (fun _ k => XS.aload X_28.here hx rfl (hb hby at_188) rfl rfl k) ?_
    show own_G _ _ _ _ (T_28.setTop (mkF m 190 #[.val (.int p0), .val (.int p1), .val (.int p2), .val (.int p3), .val (.int p4), .val (.int u), .val (.ref r_1), .val (.ref d_4), .val (.int (1 : Int32)), .val (.ref r_24)] [(.ref r_24)]))
    refine own_G.go (fun _ k => XS.iload X_28.here hx rfl (hb hby at_190) rfl k) ?_
    show own_G _ _ _ _ (T_28.setTop (mkF m 192 #[.val (.int p0), .val (.int p1), .val (.int p2), .val (.int p3), .val (.int p4), .val (.int u), .val (.ref r_1), .val (.ref d_4), .val (.int (1 : Int32)), .val (.ref r_24)] [(.int u), (.ref r_24)]))
    refine own_G.go (fun _ k => XS.bipush X_28.here hx rfl (hb hby at_192) k) ?_
    show own_G _ _ _ _ (T_28.setTop (mkF m 194 #[.val (.int p0), .val (.int p1), .val (.int p2), .val (.int p3), .val (.int p4), .val (.int u), .val (.ref r_1), .val (.ref d_4), .val (.int (1 : Int32)), .val (.ref r_24)] [(.int (13 : Int32)), (.int u), (.ref r_24)]))
    refine own_G.go (fun _ k => XS.iadd X_28.here hx rfl (hb hby at_194) rfl k) ?_
    show own_G _ _ _ _ (T_28.setTop (mkF m 195 #[.val (.int p0), .val (.int p1), .val (.int p2), .val (.int p3), .val (.int p4), .val (.int u), .val (.ref r_1), .val (.ref d_4), .val (.int (1 : Int32)), .val (.ref r_24)] [(.int (u + (13 : Int32))), (.ref r_24)]))
    obtain ⟨cq_29, kq_29, q_29a, q_29b, q_29c⟩ := isOf hZ_24 eh_28 Ex_24
    obtain ⟨_, T_29, L_29, Q_29, X_29, st_29⟩ := own_callV X_28 hx (z := (⟨"java/lang/String", "charAt", "(I)C"⟩ : MethodName)) hown_24 (mvT hZ_24 (own_w hw 243 rfl)) (mvT hZ_24 (own_w hw 244 rfl)) (notFace_of_selects (args := #[]) (mvT hZ_24 (own_w hw 246 rfl))) (mvT hZ_24 (own_w hw 246 rfl)) (mvT hZ_24 (own_w hw 245 rfl)) (by decide) (Q := (fun v h' L => v = some (.int ((own_tx u c0 c1 c2 c3).getD (u + (13 : Int32)).toNatClampNeg 0)) ∧ L = [] ∧ h' = T_24.heap)) (StrChars.Road.chN (W := 0) hZ_24 hChN (kI := 4) (own_w hw 5 rfl) Ex_24 Fv_24 Fc_24 Kb_24 hcd hbd (O2.ext O_26d.2) P5 (O4.ext O_26d.2) rfm (own_tx_len hl).2.1 (i := (u + (13 : Int32)).toNatClampNeg) (own_tx_len hl).2.2.2.2.1 (j := (u + (13 : Int32))) (own_tx_len (a := c0) (b := c1) (c := c2) (d := c3) hl).2.2.2.2.2.2 (by decide) (by decide)) q_29a q_29c (g := (mkF m 195 #[.val (.int p0), .val (.int p1), .val (.int p2), .val (.int p3), .val (.int p4), .val (.int u), .val (.ref r_1), .val (.ref d_4), .val (.int (1 : Int32)), .val (.ref r_24)] [(.int (u + (13 : Int32))), (.ref r_24)])) rfl (by rw [hml]; rfl) (argsL := [(.int (u + (13 : Int32)))]) (rest := []) (lenOf pd_33 rfl) rfl (by show 2 * 0 + _ ≤ _; exact Nat.le_of_eq rfl) (hb hby at_195) eh_28 rfl (by decide) (by decide)
    obtain ⟨rfl, rfl, eh_29⟩ := Q_29
    refine own_G.via st_29 ?_
    have N_29 := Fr.app N_28 (Fr.nil n0)
    show own_G _ _ _ _ (T_29.setTop (mkF m 198 #[.val (.int p0), .val (.int p1), .val (.int p2), .val (.int p3), .val (.int p4), .val (.int u), .val (.ref r_1), .val (.ref d_4), .val (.int (1 : Int32)), .val (.ref r_24)] [(.int ((own_tx u c0 c1 c2 c3).getD (u + (13 : Int32)).toNatClampNeg 0))]))
    refine own_G.go (fun _ k => XS.bipush X_29.here hx rfl (hb hby at_198) k) ?_
    show own_G _ _ _ _ (T_29.setTop (mkF m 200 #[.val (.int p0), .val (.int p1), .val (.int p2), .val (.int p3), .val (.int p4), .val (.int u), .val (.ref r_1), .val (.ref d_4), .val (.int (1 : Int32)), .val (.ref r_24)] [(.int (39 : Int32)), (.int ((own_tx u c0 c1 c2 c3).getD (u + (13 : Int32)).toNatClampNeg 0))]))
    refine own_G.go (fun _ k => XS.icmpNo X_29.here hx rfl (hb hby at_200) rfl (teq ((own_tx_len hl).2.2.2.2.2.1 : ((own_tx u c0 c1 c2 c3).getD (u + (13 : Int32)).toNatClampNeg 0) = (39 : Int32))).2 k) ?_
    show own_G _ _ _ _ (T_29.setTop (mkF m 203 #[.val (.int p0), .val (.int p1), .val (.int p2), .val (.int p3), .val (.int p4), .val (.int u), .val (.ref r_1), .val (.ref d_4), .val (.int (1 : Int32)), .val (.ref r_24)] []))
    refine own_G.go (fun _ k => XS.iconst X_29.here hx rfl (hb hby at_203) k) ?_
    show own_G _ _ _ _ (T_29.setTop (mkF m 204 #[.val (.int p0), .val (.int p1), .val (.int p2), .val (.int p3), .val (.int p4), .val (.int u), .val (.ref r_1), .val (.ref d_4), .val (.int (1 : Int32)), .val (.ref r_24)] [(.int (1 : Int32))]))
    refine own_G.go (fun _ k => XS.goto X_29.here hx rfl (pc0 := 204) (pc' := 208) rfl (hb hby at_204) (by decide) (by decide) k) ?_
    show own_G _ _ _ _ (T_29.setTop (mkF m 208 #[.val (.int p0), .val (.int p1), .val (.int p2), .val (.int p3), .val (.int p4), .val (.int u), .val (.ref r_1), .val (.ref d_4), .val (.int (1 : Int32)), .val (.ref r_24)] [(.int (1 : Int32))]))
    refine own_G.go (fun _ k => XS.istore X_29.here hx rfl (hb hby at_208) rfl (l' := #[.val (.int p0), .val (.int p1), .val (.int p2), .val (.int p3), .val (.int p4), .val (.int u), .val (.ref r_1), .val (.ref d_4), .val (.int (1 : Int32)), .val (.ref r_24)]) rfl k) ?_
    show own_G _ _ _ _ (T_29.setTop (mkF m 210 #[.val (.int p0), .val (.int p1), .val (.int p2), .val (.int p3), .val (.int p4), .val (.int u), .val (.ref r_1), .val (.ref d_4), .val (.int (1 : Int32)), .val (.ref r_24)] []))
    refine own_G.go (fun _ k => XS.iload X_29.here hx rfl (hb hby at_210) rfl k) ?_
    show own_G _ _ _ _ (T_29.setTop (mkF m 212 #[.val (.int p0), .val (.int p1), .val (.int p2), .val (.int p3), .val (.int p4), .val (.int u), .val (.ref r_1), .val (.ref d_4), .val (.int (1 : Int32)), .val (.ref r_24)] [(.int (1 : Int32))]))
    refine own_G.go (fun _ k => XS.ifNo X_29.here hx rfl (hb hby at_212) rfl ((if0 _ _).trans (feq (by decide : ¬ ((1 : Int32) = (0 : Int32)))).1) k) ?_
    show own_G _ _ _ _ (T_29.setTop (mkF m 215 #[.val (.int p0), .val (.int p1), .val (.int p2), .val (.int p3), .val (.int p4), .val (.int u), .val (.ref r_1), .val (.ref d_4), .val (.int (1 : Int32)), .val (.ref r_24)] []))
    obtain ⟨T_30, X_30, e_30, st_30⟩ := getS2 X_29 hx hZ_24 hown_24 (host := "") (Or.inl (own_w hw 123 rfl)) Via.refl eh_29 (OD.ext O_26d.2) (g := (mkF m 215 #[.val (.int p0), .val (.int p1), .val (.int p2), .val (.int p3), .val (.int p4), .val (.int u), .val (.ref r_1), .val (.ref d_4), .val (.int (1 : Int32)), .val (.ref r_24)] [])) rfl (hb hby at_215)
    refine own_G.go st_30 ?_
    show own_G _ _ _ _ (T_30.setTop (mkF m 218 #[.val (.int p0), .val (.int p1), .val (.int p2), .val (.int p3), .val (.int p4), .val (.int u), .val (.ref r_1), .val (.ref d_4), .val (.int (1 : Int32)), .val (.ref r_24)] [(.ref df)]))
    have FDF'_31 : Fld Z T_24.heap df "com/example/enlist/enlist/definition/TransactionDefinition" "settings" "Lcom/example/enlist/enlist/definition/TransactionDefinition$Settings;" (.ref ds) := (FDF'_17.keep K_24 nin0)
    have GD0'_32 : Fld Z T_24.heap ds "com/example/enlist/enlist/definition/TransactionDefinition$Settings" "name" "Ljava/lang/String;" .null := (((GD0.keep K_1 nin0).keep K_4 nin0).keep K_24 nin0)
    have EFD'_34 : Exa Z T_24.heap df "com/example/enlist/enlist/definition/TransactionDefinition" := (EFD'_20.keep K_24)
    obtain ⟨cq_33, kq_33, q_33a, q_33b, q_33c⟩ := isOf hZ_24 e_30 EFD'_34
    obtain ⟨_, T_33, L_33, Q_33, X_33, hS_33, hZ_33, hown_33, st_33⟩ := own_callVW X_30 hx hS_24 (Nat.le_refl _) hZ_24 (z := (⟨"com/example/enlist/enlist/definition/TransactionDefinition", "name", "()Ljava/lang/String;"⟩ : MethodName)) hown_24 (mvT hZ_24 (own_w hw 87 rfl)) (mvT hZ_24 (own_w hw 88 rfl)) (notFace_of_selects (args := #[]) (mvT hZ_24 (own_w hw 90 rfl))) (mvT hZ_24 (own_w hw 90 rfl)) (mvT hZ_24 (own_w hw 89 rfl)) (by decide) (Q := (fun v (U : State) L => Qm0 Z T_24.heap n0 v U.heap L ∧ CHr Z own_EL T_24.vm T_24.heap U.vm U.heap)) (own_backSH (backOfSH (W := 0) (rm_nm0 l Z a0 hw [] df ds T_24.heap n0 (Nat.le_trans Z0 (Nat.le_trans (Nat.le_trans K_1.1 K_4.1) K_24.1)) FDF'_31 GD0'_32) hZ_24 (own_w hw 91 rfl) (own_w hw 28 rfl) (by decide) (by decide) hEW CH_25.1)) q_33a q_33c (g := (mkF m 218 #[.val (.int p0), .val (.int p1), .val (.int p2), .val (.int p3), .val (.int p4), .val (.int u), .val (.ref r_1), .val (.ref d_4), .val (.int (1 : Int32)), .val (.ref r_24)] [(.ref df)])) rfl (by rw [hml]; rfl) (argsL := []) (rest := []) (lenOf pd_27 rfl) rfl (by show 2 * 0 + _ ≤ _; exact Nat.le_of_eq rfl) (hb hby at_218) e_30 rfl (by decide) (by decide)
    obtain ⟨⟨r_33, t_33, kb_33, rfl, Nq_33, K_33, Ex_33, Fc_33, Fv_33, Kb_33⟩, Ch_33⟩ := Q_33
    refine own_G.via st_33 ?_
    have CH_35 : CHr Z own_EL s.vm h0 T_33.vm T_33.heap := CH_25.trans Ch_33
    have N_33 := Fr.app N_29 Nq_33
    show own_G _ _ _ _ (T_33.setTop (mkF m 221 #[.val (.int p0), .val (.int p1), .val (.int p2), .val (.int p3), .val (.int p4), .val (.int u), .val (.ref r_1), .val (.ref d_4), .val (.int (1 : Int32)), .val (.ref r_24)] [(.ref r_33)]))
    have hcd0 := StrChars.Road.codOf (cs := []) (n := 0) rfl (fun c hc => absurd hc List.not_mem_nil)
    obtain ⟨cq_36, kq_36, q_36a, q_36b, q_36c⟩ := isOf hZ_33 rfl Ex_33
    obtain ⟨_, T_36, L_36, Q_36, X_36, st_36⟩ := own_callV X_33 hx (z := (⟨"java/lang/String", "isEmpty", "()Z"⟩ : MethodName)) hown_33 (mvT hZ_33 (own_w hw 266 rfl)) (mvT hZ_33 (own_w hw 267 rfl)) (notFace_of_selects (args := #[]) (mvT hZ_33 (own_w hw 269 rfl))) (mvT hZ_33 (own_w hw 269 rfl)) (mvT hZ_33 (own_w hw 268 rfl)) (by decide) (Q := (fun v h' L => v = some (.int (if ([] : List Int32).length = 0 then 1 else 0)) ∧ L = [] ∧ h' = T_33.heap)) (StrChars.Road.empW (W := 0) hZ_33 hEmp (kI := 4) (own_w hw 5 rfl) Ex_33 Fv_33 Fc_33 Kb_33 hcd0 (fun c hc => absurd hc List.not_mem_nil) (by decide) (by decide) (by decide)) q_36a q_36c (g := (mkF m 221 #[.val (.int p0), .val (.int p1), .val (.int p2), .val (.int p3), .val (.int p4), .val (.int u), .val (.ref r_1), .val (.ref d_4), .val (.int (1 : Int32)), .val (.ref r_24)] [(.ref r_33)])) rfl (by rw [hml]; rfl) (argsL := []) (rest := []) (lenOf pd_15 rfl) rfl (by show 2 * 0 + _ ≤ _; exact Nat.le_of_eq rfl) (hb hby at_221) rfl rfl (by decide) (by decide)
    obtain ⟨rfl, rfl, eh_36⟩ := Q_36
    refine own_G.via st_36 ?_
    have N_36 := Fr.app N_33 (Fr.nil n0)
    show own_G _ _ _ _ (T_36.setTop (mkF m 224 #[.val (.int p0), .val (.int p1), .val (.int p2), .val (.int p3), .val (.int p4), .val (.int u), .val (.ref r_1), .val (.ref d_4), .val (.int (1 : Int32)), .val (.ref r_24)] [(.int (1 : Int32))]))
    refine own_G.go (fun _ k => XS.ifNo X_36.here hx rfl (hb hby at_224) rfl ((if0 _ _).trans (feq (by decide : ¬ ((1 : Int32) = (0 : Int32)))).1) k) ?_
    show own_G _ _ _ _ (T_36.setTop (mkF m 227 #[.val (.int p0), .val (.int p1), .val (.int p2), .val (.int p3), .val (.int p4), .val (.int u), .val (.ref r_1), .val (.ref d_4), .val (.int (1 : Int32)), .val (.ref r_24)] []))
    refine own_G.go (fun _ k => XS.iconst X_36.here hx rfl (hb hby at_227) k) ?_
    show own_G _ _ _ _ (T_36.setTop (mkF m 228 #[.val (.int p0), .val (.int p1), .val (.int p2), .val (.int p3), .val (.int p4), .val (.int u), .val (.ref r_1), .val (.ref d_4), .val (.int (1 : Int32)), .val (.ref r_24)] [(.int (1 : Int32))]))
    refine own_G.go (fun _ k => XS.goto X_36.here hx rfl (pc0 := 228) (pc' := 232) rfl (hb hby at_228) (by decide) (by decide) k) ?_
    show own_G _ _ _ _ (T_36.setTop (mkF m 232 #[.val (.int p0), .val (.int p1), .val (.int p2), .val (.int p3), .val (.int p4), .val (.int u), .val (.ref r_1), .val (.ref d_4), .val (.int (1 : Int32)), .val (.ref r_24)] [(.int (1 : Int32))]))
    refine own_G.go (fun _ k => XS.istore X_36.here hx rfl (hb hby at_232) rfl (l' := #[.val (.int p0), .val (.int p1), .val (.int p2), .val (.int p3), .val (.int p4), .val (.int u), .val (.ref r_1), .val (.ref d_4), .val (.int (1 : Int32)), .val (.ref r_24)]) rfl k) ?_
    show own_G _ _ _ _ (T_36.setTop (mkF m 234 #[.val (.int p0), .val (.int p1), .val (.int p2), .val (.int p3), .val (.int p4), .val (.int u), .val (.ref r_1), .val (.ref d_4), .val (.int (1 : Int32)), .val (.ref r_24)] []))
    refine own_G.go (fun _ k => XS.iload X_36.here hx rfl (hb hby at_234) rfl k) ?_
    show own_G _ _ _ _ (T_36.setTop (mkF m 236 #[.val (.int p0), .val (.int p1), .val (.int p2), .val (.int p3), .val (.int p4), .val (.int u), .val (.ref r_1), .val (.ref d_4), .val (.int (1 : Int32)), .val (.ref r_24)] [(.int (1 : Int32))]))
    exact own_G.endH X_36 hS_33 (Nat.le_refl _) hZ_33 hEW (hh ▸ CH_35) hlk (v := (some (.int (1 : Int32)))) (fun h => by rw [hrt] at h; cases h) (fun fs hr => retN X_36 hx (z := (1 : Int32)) (t := .boolean) hrt (by simp) (hb hby at_236) hr) eh_36 ⟨rfl, N_36⟩ (by decide) (by decide)
  refine own_G.go (fun _ k => XS.iloadN X0.here hx rfl (hb hby at_0) rfl k) ?_
  show own_G _ _ _ _ (s₁.setTop (mkF m 1 #[.val (.int p0), .val (.int p1), .val (.int p2), .val (.int p3), .val (.int p4), .unset, .unset, .unset, .unset, .unset] [(.int p0)]))
  refine own_G.go (fun _ k => XS.bipush X0.here hx rfl (hb hby at_1) k) ?_
  show own_G _ _ _ _ (s₁.setTop (mkF m 3 #[.val (.int p0), .val (.int p1), .val (.int p2), .val (.int p3), .val (.int p4), .unset, .unset, .unset, .unset, .unset] [(.int (7 : Int32)), (.int p0)]))
  refine own_G.go (fun _ k => XS.iand X0.here hx rfl (hb hby at_3) rfl k) ?_
  show own_G _ _ _ _ (s₁.setTop (mkF m 4 #[.val (.int p0), .val (.int p1), .val (.int p2), .val (.int p3), .val (.int p4), .unset, .unset, .unset, .unset, .unset] [(.int (p0 &&& (7 : Int32)))]))
  refine own_G.go (fun _ k => XS.iconst X0.here hx rfl (hb hby at_4) k) ?_
  show own_G _ _ _ _ (s₁.setTop (mkF m 5 #[.val (.int p0), .val (.int p1), .val (.int p2), .val (.int p3), .val (.int p4), .unset, .unset, .unset, .unset, .unset] [(.int (5 : Int32)), (.int (p0 &&& (7 : Int32)))]))
  refine own_G.go (fun _ k => iremM X0 hx rfl (hb hby at_5) rfl (by decide) k) ?_
  show own_G _ _ _ _ (s₁.setTop (mkF m 6 #[.val (.int p0), .val (.int p1), .val (.int p2), .val (.int p3), .val (.int p4), .unset, .unset, .unset, .unset, .unset] [(.int ((p0 &&& (7 : Int32)) % (5 : Int32)))]))
  refine own_G.go (fun _ k => XS.istore X0.here hx rfl (hb hby at_6) rfl (l' := #[.val (.int p0), .val (.int p1), .val (.int p2), .val (.int p3), .val (.int p4), .val (.int ((p0 &&& (7 : Int32)) % (5 : Int32))), .unset, .unset, .unset, .unset]) rfl k) ?_
  show own_G _ _ _ _ (s₁.setTop (mkF m 8 #[.val (.int p0), .val (.int p1), .val (.int p2), .val (.int p3), .val (.int p4), .val (.int ((p0 &&& (7 : Int32)) % (5 : Int32))), .unset, .unset, .unset, .unset] []))
  refine own_G.go (fun _ k => XS.iload X0.here hx rfl (hb hby at_8) rfl k) ?_
  show own_G _ _ _ _ (s₁.setTop (mkF m 10 #[.val (.int p0), .val (.int p1), .val (.int p2), .val (.int p3), .val (.int p4), .val (.int ((p0 &&& (7 : Int32)) % (5 : Int32))), .unset, .unset, .unset, .unset] [(.int ((p0 &&& (7 : Int32)) % (5 : Int32)))]))
  refine own_G.go (fun _ k => XS.iloadN X0.here hx rfl (hb hby at_10) rfl k) ?_
  show own_G _ _ _ _ (s₁.setTop (mkF m 11 #[.val (.int p0), .val (.int p1), .val (.int p2), .val (.int p3), .val (.int p4), .val (.int ((p0 &&& (7 : Int32)) % (5 : Int32))), .unset, .unset, .unset, .unset] [(.int p1), (.int ((p0 &&& (7 : Int32)) % (5 : Int32)))]))
  refine own_G.go (fun _ k => XS.sipush X0.here hx rfl (hb hby at_11) k) ?_
  show own_G _ _ _ _ (s₁.setTop (mkF m 14 #[.val (.int p0), .val (.int p1), .val (.int p2), .val (.int p3), .val (.int p4), .val (.int ((p0 &&& (7 : Int32)) % (5 : Int32))), .unset, .unset, .unset, .unset] [(.int (255 : Int32)), (.int p1), (.int ((p0 &&& (7 : Int32)) % (5 : Int32)))]))
  refine own_G.go (fun _ k => XS.iand X0.here hx rfl (hb hby at_14) rfl k) ?_
  show own_G _ _ _ _ (s₁.setTop (mkF m 15 #[.val (.int p0), .val (.int p1), .val (.int p2), .val (.int p3), .val (.int p4), .val (.int ((p0 &&& (7 : Int32)) % (5 : Int32))), .unset, .unset, .unset, .unset] [(.int (p1 &&& (255 : Int32))), (.int ((p0 &&& (7 : Int32)) % (5 : Int32)))]))
  refine own_G.go (fun _ k => XS.i2c X0.here hx rfl (hb hby at_15) rfl k) ?_
  show own_G _ _ _ _ (s₁.setTop (mkF m 16 #[.val (.int p0), .val (.int p1), .val (.int p2), .val (.int p3), .val (.int p4), .val (.int ((p0 &&& (7 : Int32)) % (5 : Int32))), .unset, .unset, .unset, .unset] [(.int (own_c (p1 &&& (255 : Int32)))), (.int ((p0 &&& (7 : Int32)) % (5 : Int32)))]))
  refine own_G.go (fun _ k => XS.iloadN X0.here hx rfl (hb hby at_16) rfl k) ?_
  show own_G _ _ _ _ (s₁.setTop (mkF m 17 #[.val (.int p0), .val (.int p1), .val (.int p2), .val (.int p3), .val (.int p4), .val (.int ((p0 &&& (7 : Int32)) % (5 : Int32))), .unset, .unset, .unset, .unset] [(.int p2), (.int (own_c (p1 &&& (255 : Int32)))), (.int ((p0 &&& (7 : Int32)) % (5 : Int32)))]))
  refine own_G.go (fun _ k => XS.sipush X0.here hx rfl (hb hby at_17) k) ?_
  show own_G _ _ _ _ (s₁.setTop (mkF m 20 #[.val (.int p0), .val (.int p1), .val (.int p2), .val (.int p3), .val (.int p4), .val (.int ((p0 &&& (7 : Int32)) % (5 : Int32))), .unset, .unset, .unset, .unset] [(.int (255 : Int32)), (.int p2), (.int (own_c (p1 &&& (255 : Int32)))), (.int ((p0 &&& (7 : Int32)) % (5 : Int32)))]))
  refine own_G.go (fun _ k => XS.iand X0.here hx rfl (hb hby at_20) rfl k) ?_
  show own_G _ _ _ _ (s₁.setTop (mkF m 21 #[.val (.int p0), .val (.int p1), .val (.int p2), .val (.int p3), .val (.int p4), .val (.int ((p0 &&& (7 : Int32)) % (5 : Int32))), .unset, .unset, .unset, .unset] [(.int (p2 &&& (255 : Int32))), (.int (own_c (p1 &&& (255 : Int32)))), (.int ((p0 &&& (7 : Int32)) % (5 : Int32)))]))
  refine own_G.go (fun _ k => XS.i2c X0.here hx rfl (hb hby at_21) rfl k) ?_
  show own_G _ _ _ _ (s₁.setTop (mkF m 22 #[.val (.int p0), .val (.int p1), .val (.int p2), .val (.int p3), .val (.int p4), .val (.int ((p0 &&& (7 : Int32)) % (5 : Int32))), .unset, .unset, .unset, .unset] [(.int (own_c (p2 &&& (255 : Int32)))), (.int (own_c (p1 &&& (255 : Int32)))), (.int ((p0 &&& (7 : Int32)) % (5 : Int32)))]))
  refine own_G.go (fun _ k => XS.iloadN X0.here hx rfl (hb hby at_22) rfl k) ?_
  show own_G _ _ _ _ (s₁.setTop (mkF m 23 #[.val (.int p0), .val (.int p1), .val (.int p2), .val (.int p3), .val (.int p4), .val (.int ((p0 &&& (7 : Int32)) % (5 : Int32))), .unset, .unset, .unset, .unset] [(.int p3), (.int (own_c (p2 &&& (255 : Int32)))), (.int (own_c (p1 &&& (255 : Int32)))), (.int ((p0 &&& (7 : Int32)) % (5 : Int32)))]))
  refine own_G.go (fun _ k => XS.sipush X0.here hx rfl (hb hby at_23) k) ?_
  show own_G _ _ _ _ (s₁.setTop (mkF m 26 #[.val (.int p0), .val (.int p1), .val (.int p2), .val (.int p3), .val (.int p4), .val (.int ((p0 &&& (7 : Int32)) % (5 : Int32))), .unset, .unset, .unset, .unset] [(.int (255 : Int32)), (.int p3), (.int (own_c (p2 &&& (255 : Int32)))), (.int (own_c (p1 &&& (255 : Int32)))), (.int ((p0 &&& (7 : Int32)) % (5 : Int32)))]))
  refine own_G.go (fun _ k => XS.iand X0.here hx rfl (hb hby at_26) rfl k) ?_
  show own_G _ _ _ _ (s₁.setTop (mkF m 27 #[.val (.int p0), .val (.int p1), .val (.int p2), .val (.int p3), .val (.int p4), .val (.int ((p0 &&& (7 : Int32)) % (5 : Int32))), .unset, .unset, .unset, .unset] [(.int (p3 &&& (255 : Int32))), (.int (own_c (p2 &&& (255 : Int32)))), (.int (own_c (p1 &&& (255 : Int32)))), (.int ((p0 &&& (7 : Int32)) % (5 : Int32)))]))
  refine own_G.go (fun _ k => XS.i2c X0.here hx rfl (hb hby at_27) rfl k) ?_
  show own_G _ _ _ _ (s₁.setTop (mkF m 28 #[.val (.int p0), .val (.int p1), .val (.int p2), .val (.int p3), .val (.int p4), .val (.int ((p0 &&& (7 : Int32)) % (5 : Int32))), .unset, .unset, .unset, .unset] [(.int (own_c (p3 &&& (255 : Int32)))), (.int (own_c (p2 &&& (255 : Int32)))), (.int (own_c (p1 &&& (255 : Int32)))), (.int ((p0 &&& (7 : Int32)) % (5 : Int32)))]))
  refine own_G.go (fun _ k => XS.iload X0.here hx rfl (hb hby at_28) rfl k) ?_
  show own_G _ _ _ _ (s₁.setTop (mkF m 30 #[.val (.int p0), .val (.int p1), .val (.int p2), .val (.int p3), .val (.int p4), .val (.int ((p0 &&& (7 : Int32)) % (5 : Int32))), .unset, .unset, .unset, .unset] [(.int p4), (.int (own_c (p3 &&& (255 : Int32)))), (.int (own_c (p2 &&& (255 : Int32)))), (.int (own_c (p1 &&& (255 : Int32)))), (.int ((p0 &&& (7 : Int32)) % (5 : Int32)))]))
  refine own_G.go (fun _ k => XS.sipush X0.here hx rfl (hb hby at_30) k) ?_
  show own_G _ _ _ _ (s₁.setTop (mkF m 33 #[.val (.int p0), .val (.int p1), .val (.int p2), .val (.int p3), .val (.int p4), .val (.int ((p0 &&& (7 : Int32)) % (5 : Int32))), .unset, .unset, .unset, .unset] [(.int (255 : Int32)), (.int p4), (.int (own_c (p3 &&& (255 : Int32)))), (.int (own_c (p2 &&& (255 : Int32)))), (.int (own_c (p1 &&& (255 : Int32)))), (.int ((p0 &&& (7 : Int32)) % (5 : Int32)))]))
  refine own_G.go (fun _ k => XS.iand X0.here hx rfl (hb hby at_33) rfl k) ?_
  show own_G _ _ _ _ (s₁.setTop (mkF m 34 #[.val (.int p0), .val (.int p1), .val (.int p2), .val (.int p3), .val (.int p4), .val (.int ((p0 &&& (7 : Int32)) % (5 : Int32))), .unset, .unset, .unset, .unset] [(.int (p4 &&& (255 : Int32))), (.int (own_c (p3 &&& (255 : Int32)))), (.int (own_c (p2 &&& (255 : Int32)))), (.int (own_c (p1 &&& (255 : Int32)))), (.int ((p0 &&& (7 : Int32)) % (5 : Int32)))]))
  refine own_G.go (fun _ k => XS.i2c X0.here hx rfl (hb hby at_34) rfl k) ?_
  show own_G _ _ _ _ (s₁.setTop (mkF m 35 #[.val (.int p0), .val (.int p1), .val (.int p2), .val (.int p3), .val (.int p4), .val (.int ((p0 &&& (7 : Int32)) % (5 : Int32))), .unset, .unset, .unset, .unset] [(.int (own_c (p4 &&& (255 : Int32)))), (.int (own_c (p3 &&& (255 : Int32)))), (.int (own_c (p2 &&& (255 : Int32)))), (.int (own_c (p1 &&& (255 : Int32)))), (.int ((p0 &&& (7 : Int32)) % (5 : Int32)))]))
  exact J35 _ _ _ _ _ (own_l5 _) (own_mask _) (own_mask _) (own_mask _) (own_mask _)
set_option maxRecDepth 65536 in
set_option maxHeartbeats 40000000 in
theorem comes_1 {Post : Tables → Env → Array Value → State → Outcome → State → Prop} (hpost : ∀ tb e args s v u, (limb_1_1.after args s (.returned v) u = true ∧ limb_1_2.after args s (.returned v) u = true ∧ True) → ReturnedEndW s (.returned v) u (Jvm.fieldLocs frame_1_writes args s ++ Jvm.arrayLocs frame_1_arrays args s ++ Jvm.staticLocs frame_1_statics s) 40 5440 → Post tb e args s (.returned v) u) :
    ArmFor flags0 classFile x code maxLocals ret World_1 tables_1 room_1 Calls_1 rest_1 Pre_1 Post := by
  intro l hfl _ _ p e ha hc hk s m args below hf hA hF happ hP
  obtain ⟨hcalls, hrest, hpre⟩ := hP
  obtain ⟨-, -, -, hnamed, -, -, -, hat⟩ := (Spec.applies_iff hf).mp happ
  obtain ⟨hg, hn⟩ := and_e (Cond.before_iff.mp (show (Jvm.Cond.and given_1 narrow_1).before args s = true from hpre))
  obtain ⟨hcnt, hr_0⟩ := and_e hg
  obtain ⟨ha_0, hr_1⟩ := and_e hr_0
  obtain ⟨ha_1, hr_2⟩ := and_e hr_1
  obtain ⟨ha_2, hr_3⟩ := and_e hr_2
  obtain ⟨ha_3, hr_4⟩ := and_e hr_3
  obtain ⟨w0, w1, w2, w3, w4, rfl⟩ : ∃ w0 w1 w2 w3 w4 : Value, args = #[w0, w1, w2, w3, w4] := by
    have hs : args.size = 5 := by simpa [Cond.value, given_1] using hcnt
    obtain ⟨L⟩ := args
    match L, hs with
    | [w0, w1, w2, w3, w4], _ => exact ⟨w0, w1, w2, w3, w4, rfl⟩
  have hw := fun d (hd : d ∈ tables_1) => atoms_spec (ws := Jvm.Cond.code x code maxLocals ret :: tables_1) hat d (List.mem_cons_of_mem _ hd)
  have hfit : Fit s := fun {y c} hc i hi => by
    obtain ⟨ha, rfl⟩ := Array.getElem?_eq_some_iff.mp hc
    have q := List.all_eq_true.mp ((Array.all_eq_true_iff_forall_mem.mp hF) _ (Array.getElem_mem ha)) i (List.mem_range.mpr hi)
    simpa [Array.getElem?_eq_getElem hi] using q
  obtain ⟨i0, ei0⟩ := is_v ha_0
  obtain rfl : w0 = (.int i0) := Option.some.inj ei0
  obtain ⟨i1, ei1⟩ := is_v ha_1
  obtain rfl : w1 = (.int i1) := Option.some.inj ei1
  obtain ⟨i2, ei2⟩ := is_v ha_2
  obtain rfl : w2 = (.int i2) := Option.some.inj ei2
  obtain ⟨i3, ei3⟩ := is_v ha_3
  obtain rfl : w3 = (.int i3) := Option.some.inj ei3
  obtain ⟨i4, ei4⟩ := is_v hr_4
  obtain rfl : w4 = (.int i4) := Option.some.inj ei4
  obtain ⟨hsets, hown0⟩ := atoms_of _ (rest_1_c_eq ▸ (show rest_1_c.before _ s = true from hrest))
  have n3 := not_v (Cond.before_iff.mp (hsets _ (List.mem_of_getElem? (i := 14) rfl)))
  obtain ⟨zc, ezc⟩ := is_v (Cond.before_iff.mp (hsets _ (List.mem_of_getElem? (i := 13) rfl)))
  have S2 : Sta s s.heap "java/lang/String" "COMPACT_STRINGS" "Z" (.int zc) := Sta.start ezc (Or.inl (hsets _ (List.mem_of_getElem? (i := 12) rfl)))
  obtain ⟨fm, efm, rfm⟩ := isR_v (Cond.before_iff.mp (hsets _ (List.mem_of_getElem? (i := 20) rfl)))
  have S4 : Sta s s.heap "jdk/internal/util/Preconditions" "SIOOBE_FORMATTER" "Ljava/util/function/BiFunction;" fm := Sta.start efm (Or.inl (hsets _ (List.mem_of_getElem? (i := 19) rfl)))
  have P5 : ¬ (zc = (0 : Int32)) := gotF (Cond.eq_ints ezc (Term.int_eval (0))) n3
  have hcw : Jvm.Lit.compactW.before _ s = true := hsets _ (List.mem_of_getElem? (i := 14) rfl)
  have hCH : CHv s own_EL s.vm s.heap := CHv.start (own_EW hw) (fun q hq => hcalls.1 q (by revert q; decide +kernel)) hcw (hw _ (List.mem_of_getElem? (i := 19) rfl)) (hw _ (List.mem_of_getElem? (i := 5) rfl))
  obtain ⟨q1, hn1⟩ := and_e hn
  obtain ⟨q2, hn2⟩ := and_e hn1
  obtain ⟨q3, hn3⟩ := and_e hn2
  obtain ⟨q4, hn4⟩ := and_e hn3
  obtain ⟨q5, hn5⟩ := and_e hn4
  obtain ⟨q6, hn6⟩ := and_e hn5
  obtain ⟨q7, hn7⟩ := and_e hn6
  obtain ⟨q8, hn8⟩ := and_e hn7
  obtain ⟨q9, hn9⟩ := and_e hn8
  obtain ⟨df, -, -, -, edf, -⟩ := Cond.exactly_spec (Cond.before_iff.mpr q1)
  have EF : Exa s s.heap df "com/example/enlist/enlist/definition/TransactionDefinition" := Exa.start edf q1
  have OD : Sta s s.heap "com/example/enlist/enlist/definition/TransactionDefinition" "DEFAULT" "Lcom/example/enlist/enlist/definition/TransactionDefinition;" (.ref df) := Sta.start edf (Or.inr ⟨(hw _ (List.mem_of_getElem? (i := 28) rfl)), (hw _ (List.mem_of_getElem? (i := 31) rfl))⟩)
  obtain ⟨ds, -, -, -, eds, -⟩ := Cond.exactly_spec (Cond.before_iff.mpr q2)
  have ED0 : Exa s s.heap ds "com/example/enlist/enlist/definition/TransactionDefinition$Settings" := Exa.start eds q2
  have FD : Fld s s.heap df "com/example/enlist/enlist/definition/TransactionDefinition" "settings" "Lcom/example/enlist/enlist/definition/TransactionDefinition$Settings;" (.ref ds) := Fld.start (own_fld eds edf)
  obtain ⟨rq, -, -, -, erq, -⟩ := Cond.exactly_spec (Cond.before_iff.mpr q3)
  have OR : Sta s s.heap "com/example/enlist/enlist/definition/Propagation" "REQUIRED" "Lcom/example/enlist/enlist/definition/Propagation;" (.ref rq) := Sta.start erq (Or.inr ⟨(hw _ (List.mem_of_getElem? (i := 46) rfl)), (hw _ (List.mem_of_getElem? (i := 47) rfl))⟩)
  obtain ⟨io, -, -, -, eio, -⟩ := Cond.exactly_spec (Cond.before_iff.mpr q4)
  have OI : Sta s s.heap "com/example/enlist/enlist/definition/Isolation" "DEFAULT" "Lcom/example/enlist/enlist/definition/Isolation;" (.ref io) := Sta.start eio (Or.inr ⟨(hw _ (List.mem_of_getElem? (i := 51) rfl)), (hw _ (List.mem_of_getElem? (i := 52) rfl))⟩)
  obtain ⟨em, -, -, -, eem, -⟩ := Cond.exactly_spec (hsets _ (List.mem_of_getElem? (i := 2) rfl))
  have OE : Sta s s.heap "java/util/OptionalInt" "EMPTY" "Ljava/util/OptionalInt;" (.ref em) := Sta.start eem (Or.inl (hsets _ (List.mem_of_getElem? (i := 1) rfl)))
  obtain ⟨mp, -, -, -, emp, -⟩ := Cond.exactly_spec (hsets _ (List.mem_of_getElem? (i := 7) rfl))
  have OM : Sta s s.heap "java/util/ImmutableCollections" "EMPTY_MAP" "Ljava/util/ImmutableCollections$MapN;" (.ref mp) := Sta.start emp (Or.inl (hsets _ (List.mem_of_getElem? (i := 6) rfl)))
  have HD0 : Fld s s.heap ds "com/example/enlist/enlist/definition/TransactionDefinition$Settings" "name" "Ljava/lang/String;" .null := Fld.start (own_fld (Cond.eq_refs (Cond.before_iff.mpr q5) rfl rfl) eds)
  have HD1 : Fld s s.heap ds "com/example/enlist/enlist/definition/TransactionDefinition$Settings" "propagation" "Lcom/example/enlist/enlist/definition/Propagation;" (.ref rq) := Fld.start (own_fld (Cond.eq_refs (Cond.before_iff.mpr q6) erq rfl) eds)
  have HD2 : Fld s s.heap ds "com/example/enlist/enlist/definition/TransactionDefinition$Settings" "isolation" "Lcom/example/enlist/enlist/definition/Isolation;" (.ref io) := Fld.start (own_fld (Cond.eq_refs (Cond.before_iff.mpr q7) eio rfl) eds)
  have HD3 : Fld s s.heap ds "com/example/enlist/enlist/definition/TransactionDefinition$Settings" "readOnly" "Z" (.int (0 : Int32)) := Fld.start (own_fld (Cond.eq_int (Cond.before_iff.mpr q8) rfl) eds)
  have HD4 : Fld s s.heap ds "com/example/enlist/enlist/definition/TransactionDefinition$Settings" "timeout" "Ljava/util/OptionalInt;" (.ref em) := Fld.start (own_fld (Cond.eq_refs (Cond.before_iff.mpr q9) eem rfl) eds)
  have HD5 : Fld s s.heap ds "com/example/enlist/enlist/definition/TransactionDefinition$Settings" "rollbackRules" "Ljava/util/Map;" (.ref mp) := Fld.start (own_fld (Cond.eq_refs (Cond.before_iff.mpr hn9) emp rfl) eds)
  obtain ⟨n, o, h1, h2, h3, _, L, rfl, ⟨rfl, N⟩, -, hq⟩ := rm_law l s _ hw tables_1 i0 i1 i2 i3 i4 zc fm rq io em mp df ds s.heap s.heap.size (Nat.le_refl _) OR OI OE OM OD FD ED0 HD0 HD1 HD2 HD3 HD4 HD5 EF S2 S4 P5 rfm (Old.start s) p e ha hc hk s m _ below hf ((Spec.applies_iff_loose hf).mp happ).1 ⟨rfl, State.Warmed39.refl s, rfl, hCH⟩ trivial
  refine ⟨n, _, h1, h2, h3, hpost _ _ _ _ _ _ ⟨Cond.after_iff.mpr rfl, Cond.after_iff.mpr (eq_i res_at (Term.int_eval (1)) rfl), trivial⟩ ⟨hq.1, hq.2.1, hq.2.2.1, (hq.2.2.2.sift fun y hy => Or.inr (N y hy)).mono (by decide) (by decide)⟩⟩
theorem main_1_1 : Claimed_1_1 := comes_1 fun _ _ _ _ _ _ h hF => ⟨h.1, hF⟩
theorem main_1_2 : Claimed_1_2 := comes_1 fun _ _ _ _ _ _ h hF => ⟨h.2.1, hF⟩
end Jvm.Pilot.@@N@@
namespace Jvm.Pilot.@@N@@
open Jvm Jvm.ClassFile Sem Op Lib Jvm.Free Jvm.Stand Jvm.Pilot.@@N@@.Jvm.D
/-! MADE BY PROGRAM (witnessworld.py) out of the Statement's table words and the real class files: 38 classes; the members and pool entries that the words name. The judged class is class 1, her method 2. -/
namespace start1
open Jvm.ClassFile
def u (s : String) : CpInfo := .utf8 (stringToUtf16 s)
/-- a pool by its gaps: so many unusable entries, then the entry; so many at the end -/
def gap : Nat → List CpInfo → List CpInfo
  | 0, r => r
  | n + 1, r => .unusable :: gap n r
def poolList (es : List (Nat × CpInfo)) (last : Nat) : List CpInfo := es.foldr (fun e r => gap e.1 (e.2 :: r)) (gap last [])
def pool (es : List (Nat × CpInfo)) (last : Nat) : Array CpInfo := ⟨poolList es last⟩
def fileOf (pool : Array CpInfo) (this : Nat) (attrs : Array Attribute := #[]) (ms : Array MethodInfo := #[]) (fl : Nat := 33) (sup : Nat := 0) (ifs : Array Nat := #[]) (fds : Array FieldInfo := #[]) : ClassFile where
  minorVersion := 0
  majorVersion := 65
  constantPool := pool
  accessFlags := fl
  thisClass := this
  superClass := sup
  interfaces := ifs
  fields := fds
  methods := ms
  attributes := attrs
def plain (name : String) (sup : Option ClassId) : Class where
  name := name
  kind := .ordinary
  loader := none
  accessFlags := 33
  super := sup
  interfaces := #[]
  cf := none
  fields := #[]
  methods := #[]
  instanceTypes := #[]
  staticTypes := #[]
  resolved := #[]
  callSites := []
  init := .initialized
  statics := none
  mirror := none

def pool0 : Array CpInfo := pool [(5, u "<init>"), (0, u "()V"), (1, .class_ 10), (1, u "java/lang/Object"), (85, u "clone"), (0, u "()Ljava/lang/Object;")] 26

def k0c0 : Code := { maxStack := 0, maxLocals := 1, code := object_method_1_code, exceptionTable := #[], attributes := #[] }
def k0m0 : Method := { name := "<init>", desc := "()V", sig := { parameters := [], returnType := none }, accessFlags := 1, code := some k0c0 }
def k0m1 : Method := { name := "clone", desc := "()Ljava/lang/Object;", sig := { parameters := [], returnType := some (.object "java/lang/Object") }, accessFlags := 260, code := none }
/-- java/lang/Object -/
def k0 : Class := { plain "java/lang/Object" none with
  accessFlags := 33
  interfaces := #[]
  cf := some (fileOf pool0 8 #[] #[{ accessFlags := 1, nameIndex := 5, descriptorIndex := 6, attributes := #[] }, { accessFlags := 260, nameIndex := 96, descriptorIndex := 97, attributes := #[] }] 33 0 #[] #[])
  fields := #[]
  methods := #[k0m0, k0m1]
  instanceTypes := #[]
  staticTypes := #[]
  resolved := Array.replicate 124 none
  statics := none }

def pool1 : Array CpInfo := pool [(2, .class_ 4), (1, u "java/lang/Object"), (0, u "<init>"), (0, u "()V"), (0, .class_ 8), (0, u "java/lang/String"), (0, .methodref 7 10), (0, .nameAndType 5 11), (0, u "([C)V"), (0, .methodref 13 14), (0, .class_ 15), (0, .nameAndType 16 17), (0, u "com/example/enlist/enlist/definition/TransactionDefinitionNamedPinLaw"), (0, u "make"), (0, u "(ICCCC)Ljava/lang/String;"), (0, .methodref 19 20), (0, .class_ 21), (0, .nameAndType 22 23), (0, u "com/example/enlist/enlist/definition/TransactionDefinition"), (0, u "named"), (0, u "(Ljava/lang/String;)Lcom/example/enlist/enlist/definition/TransactionDefinition;"), (0, .methodref 19 25), (0, .nameAndType 26 27), (0, u "name"), (0, u "()Ljava/lang/String;"), (0, .methodref 7 29), (0, .nameAndType 30 31), (0, u "equals"), (0, u "(Ljava/lang/Object;)Z"), (0, .methodref 19 33), (0, .nameAndType 34 35), (0, u "propagation"), (0, u "()Lcom/example/enlist/enlist/definition/Propagation;"), (0, .fieldref 37 38), (0, .class_ 39), (0, .nameAndType 40 41), (0, u "com/example/enlist/enlist/definition/Propagation"), (0, u "REQUIRED"), (0, u "Lcom/example/enlist/enlist/definition/Propagation;"), (0, .methodref 19 43), (0, .nameAndType 44 45), (0, u "isolation"), (0, u "()Lcom/example/enlist/enlist/definition/Isolation;"), (0, .fieldref 47 48), (0, .class_ 49), (0, .nameAndType 50 51), (0, u "com/example/enlist/enlist/definition/Isolation"), (0, u "DEFAULT"), (0, u "Lcom/example/enlist/enlist/definition/Isolation;"), (0, .methodref 19 53), (0, .nameAndType 54 55), (0, u "readOnly"), (0, u "()Z"), (0, .methodref 19 57), (0, .nameAndType 58 59), (0, u "timeout"), (0, u "()Ljava/util/OptionalInt;"), (0, .fieldref 19 61), (0, .nameAndType 50 62), (0, u "Lcom/example/enlist/enlist/definition/TransactionDefinition;"), (0, .methodref 19 64), (0, .nameAndType 65 27), (0, u "toString"), (0, .methodref 7 67), (0, .nameAndType 68 69), (0, u "length"), (0, u "()I"), (0, .methodref 7 71), (0, .nameAndType 72 73), (0, u "charAt"), (0, u "(I)C"), (0, .methodref 7 75), (0, .nameAndType 76 55), (0, u "isEmpty"), (3, u "law"), (0, u "(IIIII)Z")] 2

def k1m0 : Method := { name := "<init>", desc := "()V", sig := { parameters := [], returnType := none }, accessFlags := 2, code := none }
def k1c1 : Code := { maxStack := 6, maxLocals := 5, code := method_2_code, exceptionTable := #[], attributes := #[] }
def k1m1 : Method := { name := "make", desc := "(ICCCC)Ljava/lang/String;", sig := { parameters := [.int, .char, .char, .char, .char], returnType := some (.object "java/lang/String") }, accessFlags := 10, code := some k1c1 }
def k1c2 : Code := { maxStack := 6, maxLocals := 10, code := code, exceptionTable := #[], attributes := #[] }
def k1m2 : Method := { name := "law", desc := "(IIIII)Z", sig := { parameters := [.int, .int, .int, .int, .int], returnType := some .boolean }, accessFlags := 9, code := some k1c2 }
/-- com/example/enlist/enlist/definition/TransactionDefinitionNamedPinLaw -/
def k1 : Class := { plain "com/example/enlist/enlist/definition/TransactionDefinitionNamedPinLaw" (some 0) with
  accessFlags := 49
  interfaces := #[]
  cf := some (fileOf pool1 13 #[] #[{ accessFlags := 2, nameIndex := 5, descriptorIndex := 6, attributes := #[] }, { accessFlags := 10, nameIndex := 16, descriptorIndex := 17, attributes := #[] }, { accessFlags := 9, nameIndex := 80, descriptorIndex := 81, attributes := #[] }] 49 2 #[] #[])
  fields := #[]
  methods := #[k1m0, k1m1, k1m2]
  instanceTypes := #[]
  staticTypes := #[]
  resolved := Array.replicate 84 none
  statics := none }

def pool2 : Array CpInfo := pool [(1, .class_ 2), (0, u "java/io/Serializable"), (0, .class_ 4), (0, u "java/lang/Object")] 2

/-- java/io/Serializable -/
def k2 : Class := { plain "java/io/Serializable" (some 0) with
  accessFlags := 1537
  interfaces := #[]
  cf := some (fileOf pool2 1 #[] #[] 1537 3 #[] #[])
  fields := #[]
  methods := #[]
  instanceTypes := #[]
  staticTypes := #[]
  resolved := Array.replicate 7 none
  statics := none }

def pool3 : Array CpInfo := pool [(1, .class_ 2), (0, u "java/lang/Comparable"), (0, .class_ 4), (0, u "java/lang/Object")] 7

/-- java/lang/Comparable -/
def k3 : Class := { plain "java/lang/Comparable" (some 0) with
  accessFlags := 1537
  interfaces := #[]
  cf := some (fileOf pool3 1 #[] #[] 1537 3 #[] #[])
  fields := #[]
  methods := #[]
  instanceTypes := #[]
  staticTypes := #[]
  resolved := Array.replicate 12 none
  statics := none }

def pool4 : Array CpInfo := pool [(2, .class_ 4), (1, u "java/lang/CharSequence"), (42, .class_ 48), (0, u "java/lang/CharSequence$1CodePointIterator"), (10, .class_ 60), (0, u "java/lang/CharSequence$1CharIterator"), (5, .class_ 67), (0, u "java/lang/Object")] 63

/-- java/lang/CharSequence -/
def k4 : Class := { plain "java/lang/CharSequence" (some 0) with
  accessFlags := 1537
  interfaces := #[]
  cf := some (fileOf pool4 2 #[.nestMembers #[47, 59]] #[] 1537 66 #[] #[])
  fields := #[]
  methods := #[]
  instanceTypes := #[]
  staticTypes := #[]
  resolved := Array.replicate 131 none
  statics := none }

def pool5 : Array CpInfo := pool [(1, .class_ 2), (0, u "java/lang/constant/Constable"), (0, .class_ 4), (0, u "java/lang/Object")] 6

/-- java/lang/constant/Constable -/
def k5 : Class := { plain "java/lang/constant/Constable" (some 0) with
  accessFlags := 1537
  interfaces := #[]
  cf := some (fileOf pool5 1 #[] #[] 1537 3 #[] #[])
  fields := #[]
  methods := #[]
  instanceTypes := #[]
  staticTypes := #[]
  resolved := Array.replicate 11 none
  statics := none }

def pool6 : Array CpInfo := pool [(1, .class_ 2), (0, u "java/lang/constant/ConstantDesc"), (0, .class_ 4), (0, u "java/lang/Object")] 32

/-- java/lang/constant/ConstantDesc -/
def k6 : Class := { plain "java/lang/constant/ConstantDesc" (some 0) with
  accessFlags := 1537
  interfaces := #[]
  cf := some (fileOf pool6 1 #[] #[] 1537 3 #[] #[])
  fields := #[]
  methods := #[]
  instanceTypes := #[]
  staticTypes := #[]
  resolved := Array.replicate 37 none
  statics := none }

def pool7 : Array CpInfo := pool [(1, .methodref 2 3), (0, .class_ 4), (0, .nameAndType 5 6), (0, u "java/lang/Object"), (0, u "<init>"), (0, u "()V"), (0, .string 8), (0, u ""), (0, .fieldref 10 11), (0, .class_ 12), (0, .nameAndType 13 14), (0, u "java/lang/String"), (0, u "value"), (0, u "[B"), (0, .fieldref 10 16), (0, .nameAndType 17 18), (0, u "coder"), (0, u "B"), (2, u "hash"), (0, u "I"), (2, u "hashIsZero"), (0, u "Z"), (0, .methodref 10 28), (0, .nameAndType 5 29), (0, u "([CIILjava/lang/Void;)V"), (8, .fieldref 10 39), (0, .nameAndType 40 26), (0, u "COMPACT_STRINGS"), (1, .class_ 44), (1, u "java/lang/StringUTF16"), (0, u "compress"), (1, .methodref 42 48), (0, .nameAndType 49 50), (0, u "coderFromArrayLen"), (0, u "([BI)B"), (3, .methodref 55 56), (0, .class_ 57), (0, .nameAndType 58 59), (0, u "java/util/Arrays"), (0, u "copyOfRange"), (0, u "([BII)[B"), (47, .class_ 109), (1, u "java/lang/StringLatin1"), (32, u "()Z"), (34, .methodref 42 178), (0, .nameAndType 45 179), (0, u "([CII)[B"), (13, .class_ 195), (1, u "java/lang/System"), (16, .methodref 193 213), (0, .nameAndType 214 215), (0, u "arraycopy"), (0, u "(Ljava/lang/Object;ILjava/lang/Object;II)V"), (118, u "()I"), (0, .methodref 10 336), (0, .nameAndType 17 337), (0, u "()B"), (2, u "()[B"), (22, u "([BI)C"), (27, u "(II)V"), (35, u "(I)C"), (61, .methodref 10 490), (0, .nameAndType 5 491), (0, u "(Ljava/lang/AbstractStringBuilder;Ljava/lang/Void;)V"), (0, .methodref 10 493), (0, .nameAndType 494 142), (0, u "isLatin1"), (0, .methodref 107 496), (0, .nameAndType 497 363), (0, u "charAt"), (3, u "checkIndex"), (4, .nameAndType 507 334), (0, u "length"), (24, u "getBytes"), (10, u "equals"), (5, .methodref 550 506), (0, .class_ 551), (0, u "java/lang/AbstractStringBuilder"), (0, .methodref 550 553), (0, .nameAndType 554 340), (0, u "getValue"), (18, u "(Ljava/lang/Object;)Z"), (1, .class_ 576), (0, u "java/lang/CharSequence"), (22, u "CASE_INSENSITIVE_ORDER"), (0, u "Ljava/util/Comparator;"), (91, u "isEmpty"), (128, u "([BIB)V"), (188, u "([C)V"), (36, .methodref 550 493), (5, .fieldref 1054 1055), (0, .class_ 1056), (0, .nameAndType 1057 1058), (0, u "jdk/internal/util/Preconditions"), (0, u "SIOOBE_FORMATTER"), (0, u "Ljava/util/function/BiFunction;"), (0, .methodref 1054 1060), (0, .nameAndType 501 1061), (0, u "(IILjava/util/function/BiFunction;)I"), (39, u "serialPersistentFields"), (0, u "[Ljava/io/ObjectStreamField;"), (0, .class_ 1104), (0, u "java/lang/String$CaseInsensitiveComparator"), (1, .class_ 1107), (0, u "java/io/Serializable"), (0, .class_ 1109), (0, u "java/lang/Comparable"), (0, .class_ 1111), (0, u "java/lang/constant/Constable"), (0, .class_ 1113), (0, u "java/lang/constant/ConstantDesc"), (2, u "serialVersionUID"), (0, u "J"), (3, u "REPL"), (0, u "C"), (2, u "LATIN1"), (1, u "UTF16"), (105, u "(Ljava/lang/StringBuilder;)V")] 217

def k7m0 : Method := { name := "<init>", desc := "()V", sig := { parameters := [], returnType := none }, accessFlags := 1, code := none }
def k7c1 : Code := { maxStack := 5, maxLocals := 2, code := jdk_42_method_3_code, exceptionTable := #[], attributes := #[] }
def k7m1 : Method := { name := "<init>", desc := "([C)V", sig := { parameters := [(.array .char)], returnType := none }, accessFlags := 1, code := some k7c1 }
def k7c2 : Code := { maxStack := 3, maxLocals := 2, code := jdk_42_method_53_code, exceptionTable := #[], attributes := #[] }
def k7m2 : Method := { name := "<init>", desc := "(Ljava/lang/StringBuilder;)V", sig := { parameters := [(.object "java/lang/StringBuilder")], returnType := none }, accessFlags := 1, code := some k7c2 }
def k7c3 : Code := { maxStack := 2, maxLocals := 1, code := jdk_42_method_54_code, exceptionTable := #[], attributes := #[] }
def k7m3 : Method := { name := "length", desc := "()I", sig := { parameters := [], returnType := some .int }, accessFlags := 1, code := some k7c3 }
def k7c4 : Code := { maxStack := 1, maxLocals := 1, code := jdk_42_method_55_code, exceptionTable := #[], attributes := #[] }
def k7m4 : Method := { name := "isEmpty", desc := "()Z", sig := { parameters := [], returnType := some .boolean }, accessFlags := 1, code := some k7c4 }
def k7c5 : Code := { maxStack := 2, maxLocals := 2, code := jdk_42_method_56_code, exceptionTable := #[], attributes := #[] }
def k7m5 : Method := { name := "charAt", desc := "(I)C", sig := { parameters := [.int], returnType := some .char }, accessFlags := 1, code := some k7c5 }
def k7c6 : Code := { maxStack := 2, maxLocals := 3, code := jdk_42_method_66_code, exceptionTable := #[], attributes := #[] }
def k7m6 : Method := { name := "equals", desc := "(Ljava/lang/Object;)Z", sig := { parameters := [(.object "java/lang/Object")], returnType := some .boolean }, accessFlags := 1, code := some k7c6 }
def k7c7 : Code := { maxStack := 5, maxLocals := 4, code := jdk_42_method_147_code, exceptionTable := #[], attributes := #[] }
def k7m7 : Method := { name := "getBytes", desc := "([BIB)V", sig := { parameters := [(.array .byte), .int, .byte], returnType := none }, accessFlags := 0, code := some k7c7 }
def k7c8 : Code := { maxStack := 4, maxLocals := 6, code := jdk_42_method_149_code, exceptionTable := #[], attributes := #[] }
def k7m8 : Method := { name := "<init>", desc := "([CIILjava/lang/Void;)V", sig := { parameters := [(.array .char), .int, .int, (.object "java/lang/Void")], returnType := none }, accessFlags := 2, code := some k7c8 }
def k7c9 : Code := { maxStack := 5, maxLocals := 5, code := jdk_42_method_150_code, exceptionTable := #[], attributes := #[] }
def k7m9 : Method := { name := "<init>", desc := "(Ljava/lang/AbstractStringBuilder;Ljava/lang/Void;)V", sig := { parameters := [(.object "java/lang/AbstractStringBuilder"), (.object "java/lang/Void")], returnType := none }, accessFlags := 0, code := some k7c9 }
def k7c10 : Code := { maxStack := 1, maxLocals := 1, code := jdk_42_method_152_code, exceptionTable := #[], attributes := #[] }
def k7m10 : Method := { name := "coder", desc := "()B", sig := { parameters := [], returnType := some .byte }, accessFlags := 0, code := some k7c10 }
def k7c11 : Code := { maxStack := 1, maxLocals := 1, code := jdk_42_method_154_code, exceptionTable := #[], attributes := #[] }
def k7m11 : Method := { name := "isLatin1", desc := "()Z", sig := { parameters := [], returnType := some .boolean }, accessFlags := 0, code := some k7c11 }
def k7c12 : Code := { maxStack := 3, maxLocals := 2, code := jdk_42_method_155_code, exceptionTable := #[], attributes := #[] }
def k7m12 : Method := { name := "checkIndex", desc := "(II)V", sig := { parameters := [.int, .int], returnType := none }, accessFlags := 8, code := some k7c12 }
/-- java/lang/String -/
def k7 : Class := { plain "java/lang/String" (some 0) with
  accessFlags := 49
  interfaces := #[2, 3, 4, 5, 6]
  cf := some (fileOf pool7 10 #[.nestMembers #[1103]] #[{ accessFlags := 1, nameIndex := 5, descriptorIndex := 6, attributes := #[] }, { accessFlags := 1, nameIndex := 5, descriptorIndex := 1010, attributes := #[] }, { accessFlags := 1, nameIndex := 5, descriptorIndex := 1233, attributes := #[] }, { accessFlags := 1, nameIndex := 507, descriptorIndex := 334, attributes := #[] }, { accessFlags := 1, nameIndex := 692, descriptorIndex := 142, attributes := #[] }, { accessFlags := 1, nameIndex := 497, descriptorIndex := 427, attributes := #[] }, { accessFlags := 1, nameIndex := 543, descriptorIndex := 573, attributes := #[] }, { accessFlags := 0, nameIndex := 532, descriptorIndex := 821, attributes := #[] }, { accessFlags := 2, nameIndex := 5, descriptorIndex := 29, attributes := #[] }, { accessFlags := 0, nameIndex := 5, descriptorIndex := 491, attributes := #[] }, { accessFlags := 0, nameIndex := 17, descriptorIndex := 337, attributes := #[] }, { accessFlags := 0, nameIndex := 494, descriptorIndex := 142, attributes := #[] }, { accessFlags := 8, nameIndex := 501, descriptorIndex := 391, attributes := #[] }] 49 2 #[1106, 1108, 575, 1110, 1112] #[{ accessFlags := 18, nameIndex := 13, descriptorIndex := 14, attributes := #[] }, { accessFlags := 18, nameIndex := 17, descriptorIndex := 18, attributes := #[] }, { accessFlags := 2, nameIndex := 21, descriptorIndex := 22, attributes := #[] }, { accessFlags := 2, nameIndex := 25, descriptorIndex := 26, attributes := #[] }, { accessFlags := 26, nameIndex := 1116, descriptorIndex := 1117, attributes := #[] }, { accessFlags := 24, nameIndex := 40, descriptorIndex := 26, attributes := #[] }, { accessFlags := 26, nameIndex := 1101, descriptorIndex := 1102, attributes := #[] }, { accessFlags := 26, nameIndex := 1121, descriptorIndex := 1122, attributes := #[] }, { accessFlags := 25, nameIndex := 599, descriptorIndex := 600, attributes := #[] }, { accessFlags := 24, nameIndex := 1125, descriptorIndex := 18, attributes := #[] }, { accessFlags := 24, nameIndex := 1127, descriptorIndex := 18, attributes := #[] }])
  fields := #[{ name := "value", type := (.array .byte), accessFlags := 18, slot := 0, constantValue := 0 }, { name := "coder", type := .byte, accessFlags := 18, slot := 1, constantValue := 0 }, { name := "hash", type := .int, accessFlags := 2, slot := 2, constantValue := 0 }, { name := "hashIsZero", type := .boolean, accessFlags := 2, slot := 3, constantValue := 0 }, { name := "serialVersionUID", type := .long, accessFlags := 26, slot := 0, constantValue := 0 }, { name := "COMPACT_STRINGS", type := .boolean, accessFlags := 24, slot := 1, constantValue := 0 }, { name := "serialPersistentFields", type := (.array (.object "java/io/ObjectStreamField")), accessFlags := 26, slot := 2, constantValue := 0 }, { name := "REPL", type := .char, accessFlags := 26, slot := 3, constantValue := 0 }, { name := "CASE_INSENSITIVE_ORDER", type := (.object "java/util/Comparator"), accessFlags := 25, slot := 4, constantValue := 0 }, { name := "LATIN1", type := .byte, accessFlags := 24, slot := 5, constantValue := 0 }, { name := "UTF16", type := .byte, accessFlags := 24, slot := 6, constantValue := 0 }]
  methods := #[k7m0, k7m1, k7m2, k7m3, k7m4, k7m5, k7m6, k7m7, k7m8, k7m9, k7m10, k7m11, k7m12]
  instanceTypes := #[(.array .byte), .byte, .int, .boolean]
  staticTypes := #[.long, .boolean, (.array (.object "java/io/ObjectStreamField")), .char, (.object "java/util/Comparator"), .byte, .byte]
  resolved := Array.replicate 1451 none
  statics := some 0 }

def pool8 : Array CpInfo := pool [(1, .methodref 2 3), (0, .class_ 4), (0, .nameAndType 5 6), (0, u "java/lang/Object"), (0, u "<init>"), (0, u "()V"), (0, .fieldref 8 9), (0, .class_ 10), (0, .nameAndType 11 12), (0, u "com/example/enlist/enlist/definition/TransactionDefinition"), (0, u "settings"), (0, u "Lcom/example/enlist/enlist/definition/TransactionDefinition$Settings;"), (0, .fieldref 8 14), (0, .nameAndType 15 16), (0, u "DEFAULT"), (0, u "Lcom/example/enlist/enlist/definition/TransactionDefinition;"), (0, .methodref 18 19), (0, .class_ 20), (0, .nameAndType 21 22), (0, u "com/example/enlist/enlist/definition/TransactionDefinition$Settings"), (0, u "copy"), (0, u "()Lcom/example/enlist/enlist/definition/TransactionDefinition$Settings;"), (0, .string 24), (0, u "name"), (0, .methodref 26 27), (0, .class_ 28), (0, .nameAndType 29 30), (0, u "java/util/Objects"), (0, u "requireNonNull"), (0, u "(Ljava/lang/Object;Ljava/lang/String;)Ljava/lang/Object;"), (0, .class_ 32), (0, u "java/lang/String"), (0, .fieldref 18 34), (0, .nameAndType 24 35), (0, u "Ljava/lang/String;"), (0, .methodref 8 37), (0, .nameAndType 5 38), (0, u "(Lcom/example/enlist/enlist/definition/TransactionDefinition$Settings;)V"), (1, u "propagation"), (2, .fieldref 18 44), (0, .nameAndType 40 45), (0, u "Lcom/example/enlist/enlist/definition/Propagation;"), (1, u "isolation"), (2, .fieldref 18 51), (0, .nameAndType 47 52), (0, u "Lcom/example/enlist/enlist/definition/Isolation;"), (0, .fieldref 18 54), (0, .nameAndType 55 56), (0, u "readOnly"), (0, u "Z"), (2, .class_ 60), (0, u "java/lang/StringBuilder"), (0, .methodref 59 3), (2, .methodref 59 65), (0, .nameAndType 66 67), (0, u "append"), (0, u "(Ljava/lang/String;)Ljava/lang/StringBuilder;"), (10, .methodref 59 79), (0, .nameAndType 80 81), (0, u "toString"), (0, u "()Ljava/lang/String;"), (9, .fieldref 18 92), (0, .nameAndType 93 94), (0, u "timeout"), (0, u "Ljava/util/OptionalInt;"), (12, .string 108), (0, u ""), (27, u "()Z"), (9, .string 147), (0, u "transaction '"), (0, .string 149), (0, u "'"), (125, u "named"), (0, u "(Ljava/lang/String;)Lcom/example/enlist/enlist/definition/TransactionDefinition;"), (19, u "()Lcom/example/enlist/enlist/definition/Propagation;"), (0, u "()Lcom/example/enlist/enlist/definition/Isolation;"), (0, u "()Ljava/util/OptionalInt;")] 18

def k8c0 : Code := { maxStack := 2, maxLocals := 2, code := prog_7_method_1_code, exceptionTable := #[], attributes := #[] }
def k8m0 : Method := { name := "<init>", desc := "(Lcom/example/enlist/enlist/definition/TransactionDefinition$Settings;)V", sig := { parameters := [(.object "com/example/enlist/enlist/definition/TransactionDefinition$Settings")], returnType := none }, accessFlags := 2, code := some k8c0 }
def k8c1 : Code := { maxStack := 3, maxLocals := 2, code := prog_7_method_2_code, exceptionTable := #[], attributes := #[] }
def k8m1 : Method := { name := "named", desc := "(Ljava/lang/String;)Lcom/example/enlist/enlist/definition/TransactionDefinition;", sig := { parameters := [(.object "java/lang/String")], returnType := some (.object "com/example/enlist/enlist/definition/TransactionDefinition") }, accessFlags := 9, code := some k8c1 }
def k8c2 : Code := { maxStack := 1, maxLocals := 1, code := prog_7_method_11_code, exceptionTable := #[], attributes := #[] }
def k8m2 : Method := { name := "name", desc := "()Ljava/lang/String;", sig := { parameters := [], returnType := some (.object "java/lang/String") }, accessFlags := 1, code := some k8c2 }
def k8c3 : Code := { maxStack := 1, maxLocals := 1, code := prog_7_method_12_code, exceptionTable := #[], attributes := #[] }
def k8m3 : Method := { name := "propagation", desc := "()Lcom/example/enlist/enlist/definition/Propagation;", sig := { parameters := [], returnType := some (.object "com/example/enlist/enlist/definition/Propagation") }, accessFlags := 1, code := some k8c3 }
def k8c4 : Code := { maxStack := 1, maxLocals := 1, code := prog_7_method_13_code, exceptionTable := #[], attributes := #[] }
def k8m4 : Method := { name := "isolation", desc := "()Lcom/example/enlist/enlist/definition/Isolation;", sig := { parameters := [], returnType := some (.object "com/example/enlist/enlist/definition/Isolation") }, accessFlags := 1, code := some k8c4 }
def k8c5 : Code := { maxStack := 1, maxLocals := 1, code := prog_7_method_14_code, exceptionTable := #[], attributes := #[] }
def k8m5 : Method := { name := "readOnly", desc := "()Z", sig := { parameters := [], returnType := some .boolean }, accessFlags := 1, code := some k8c5 }
def k8c6 : Code := { maxStack := 1, maxLocals := 1, code := prog_7_method_15_code, exceptionTable := #[], attributes := #[] }
def k8m6 : Method := { name := "timeout", desc := "()Ljava/util/OptionalInt;", sig := { parameters := [], returnType := some (.object "java/util/OptionalInt") }, accessFlags := 1, code := some k8c6 }
def k8c7 : Code := { maxStack := 2, maxLocals := 1, code := prog_7_method_17_code, exceptionTable := #[], attributes := #[] }
def k8m7 : Method := { name := "toString", desc := "()Ljava/lang/String;", sig := { parameters := [], returnType := some (.object "java/lang/String") }, accessFlags := 1, code := some k8c7 }
/-- com/example/enlist/enlist/definition/TransactionDefinition -/
def k8 : Class := { plain "com/example/enlist/enlist/definition/TransactionDefinition" (some 0) with
  accessFlags := 33
  interfaces := #[]
  cf := some (fileOf pool8 8 #[.nestMembers #[18]] #[{ accessFlags := 2, nameIndex := 5, descriptorIndex := 38, attributes := #[] }, { accessFlags := 9, nameIndex := 275, descriptorIndex := 276, attributes := #[] }, { accessFlags := 1, nameIndex := 24, descriptorIndex := 81, attributes := #[] }, { accessFlags := 1, nameIndex := 40, descriptorIndex := 296, attributes := #[] }, { accessFlags := 1, nameIndex := 47, descriptorIndex := 297, attributes := #[] }, { accessFlags := 1, nameIndex := 55, descriptorIndex := 136, attributes := #[] }, { accessFlags := 1, nameIndex := 93, descriptorIndex := 298, attributes := #[] }, { accessFlags := 1, nameIndex := 80, descriptorIndex := 81, attributes := #[] }] 33 2 #[] #[{ accessFlags := 25, nameIndex := 15, descriptorIndex := 16, attributes := #[] }, { accessFlags := 18, nameIndex := 11, descriptorIndex := 12, attributes := #[] }])
  fields := #[{ name := "DEFAULT", type := (.object "com/example/enlist/enlist/definition/TransactionDefinition"), accessFlags := 25, slot := 0, constantValue := 0 }, { name := "settings", type := (.object "com/example/enlist/enlist/definition/TransactionDefinition$Settings"), accessFlags := 18, slot := 0, constantValue := 0 }]
  methods := #[k8m0, k8m1, k8m2, k8m3, k8m4, k8m5, k8m6, k8m7]
  instanceTypes := #[(.object "com/example/enlist/enlist/definition/TransactionDefinition$Settings")]
  staticTypes := #[(.object "com/example/enlist/enlist/definition/TransactionDefinition")]
  resolved := ⟨((((((((List.replicate 317 none).set 17 (some (.method ⟨9, 1⟩))).set 18 (some (.cls 9))).set 33 (some (.field 9 0))).set 43 (some (.field 9 1))).set 50 (some (.field 9 2))).set 53 (some (.field 9 3))).set 91 (some (.field 9 4)))⟩
  statics := some 1 }

def pool9 : Array CpInfo := pool [(1, .methodref 2 3), (0, .class_ 4), (0, .nameAndType 5 6), (0, u "java/lang/Object"), (0, u "<init>"), (0, u "()V"), (0, .fieldref 8 9), (0, .class_ 10), (0, .nameAndType 11 12), (0, u "com/example/enlist/enlist/definition/Propagation"), (0, u "REQUIRED"), (0, u "Lcom/example/enlist/enlist/definition/Propagation;"), (0, .fieldref 14 15), (0, .class_ 16), (0, .nameAndType 17 12), (0, u "com/example/enlist/enlist/definition/TransactionDefinition$Settings"), (0, u "propagation"), (0, .fieldref 19 20), (0, .class_ 21), (0, .nameAndType 22 23), (0, u "com/example/enlist/enlist/definition/Isolation"), (0, u "DEFAULT"), (0, u "Lcom/example/enlist/enlist/definition/Isolation;"), (0, .fieldref 14 25), (0, .nameAndType 26 23), (0, u "isolation"), (0, .methodref 28 29), (0, .class_ 30), (0, .nameAndType 31 32), (0, u "java/util/OptionalInt"), (0, u "empty"), (0, u "()Ljava/util/OptionalInt;"), (0, .fieldref 14 34), (0, .nameAndType 35 36), (0, u "timeout"), (0, u "Ljava/util/OptionalInt;"), (0, .interfaceMethodref 38 39), (0, .class_ 40), (0, .nameAndType 41 42), (0, u "java/util/Map"), (0, u "of"), (0, u "()Ljava/util/Map;"), (0, .fieldref 14 44), (0, .nameAndType 45 46), (0, u "rollbackRules"), (0, u "Ljava/util/Map;"), (0, .methodref 14 3), (0, .fieldref 14 49), (0, .nameAndType 50 51), (0, u "name"), (0, u "Ljava/lang/String;"), (0, .fieldref 14 53), (0, .nameAndType 54 55), (0, u "readOnly"), (0, u "Z"), (4, u "copy"), (0, u "()Lcom/example/enlist/enlist/definition/TransactionDefinition$Settings;"), (3, .class_ 66), (0, u "com/example/enlist/enlist/definition/TransactionDefinition")] 2

def k9c0 : Code := { maxStack := 2, maxLocals := 1, code := prog_8_method_1_code, exceptionTable := #[], attributes := #[] }
def k9m0 : Method := { name := "<init>", desc := "()V", sig := { parameters := [], returnType := none }, accessFlags := 2, code := some k9c0 }
def k9c1 : Code := { maxStack := 2, maxLocals := 2, code := prog_8_method_2_code, exceptionTable := #[], attributes := #[] }
def k9m1 : Method := { name := "copy", desc := "()Lcom/example/enlist/enlist/definition/TransactionDefinition$Settings;", sig := { parameters := [], returnType := some (.object "com/example/enlist/enlist/definition/TransactionDefinition$Settings") }, accessFlags := 2, code := some k9c1 }
/-- com/example/enlist/enlist/definition/TransactionDefinition$Settings -/
def k9 : Class := { plain "com/example/enlist/enlist/definition/TransactionDefinition$Settings" (some 0) with
  accessFlags := 32
  interfaces := #[]
  cf := some (fileOf pool9 14 #[.nestHost 65] #[{ accessFlags := 2, nameIndex := 5, descriptorIndex := 6, attributes := #[] }, { accessFlags := 2, nameIndex := 60, descriptorIndex := 61, attributes := #[] }] 32 2 #[] #[{ accessFlags := 2, nameIndex := 50, descriptorIndex := 51, attributes := #[] }, { accessFlags := 2, nameIndex := 17, descriptorIndex := 12, attributes := #[] }, { accessFlags := 2, nameIndex := 26, descriptorIndex := 23, attributes := #[] }, { accessFlags := 2, nameIndex := 54, descriptorIndex := 55, attributes := #[] }, { accessFlags := 2, nameIndex := 35, descriptorIndex := 36, attributes := #[] }, { accessFlags := 2, nameIndex := 45, descriptorIndex := 46, attributes := #[] }])
  fields := #[{ name := "name", type := (.object "java/lang/String"), accessFlags := 2, slot := 0, constantValue := 0 }, { name := "propagation", type := (.object "com/example/enlist/enlist/definition/Propagation"), accessFlags := 2, slot := 1, constantValue := 0 }, { name := "isolation", type := (.object "com/example/enlist/enlist/definition/Isolation"), accessFlags := 2, slot := 2, constantValue := 0 }, { name := "readOnly", type := .boolean, accessFlags := 2, slot := 3, constantValue := 0 }, { name := "timeout", type := (.object "java/util/OptionalInt"), accessFlags := 2, slot := 4, constantValue := 0 }, { name := "rollbackRules", type := (.object "java/util/Map"), accessFlags := 2, slot := 5, constantValue := 0 }]
  methods := #[k9m0, k9m1]
  instanceTypes := #[(.object "java/lang/String"), (.object "com/example/enlist/enlist/definition/Propagation"), (.object "com/example/enlist/enlist/definition/Isolation"), .boolean, (.object "java/util/OptionalInt"), (.object "java/util/Map")]
  staticTypes := #[]
  resolved := Array.replicate 69 none
  statics := none }

def pool10 : Array CpInfo := pool [(2, .class_ 4), (1, u "java/lang/Enum"), (0, u "name"), (0, u "Ljava/lang/String;"), (2, u "ordinal"), (0, u "I"), (1, .class_ 14), (1, u "java/lang/Object"), (4, u "hash"), (86, .class_ 108), (1, u "java/lang/Enum$EnumDesc"), (2, .class_ 112), (0, u "java/lang/constant/Constable"), (0, .class_ 114), (0, u "java/lang/Comparable"), (0, .class_ 116), (0, u "java/io/Serializable")] 87

/-- java/lang/Enum -/
def k10 : Class := { plain "java/lang/Enum" (some 0) with
  accessFlags := 1057
  interfaces := #[5, 3, 2]
  cf := some (fileOf pool10 2 #[.nestMembers #[106]] #[] 1057 12 #[111, 113, 115] #[{ accessFlags := 18, nameIndex := 5, descriptorIndex := 6, attributes := #[] }, { accessFlags := 18, nameIndex := 9, descriptorIndex := 10, attributes := #[] }, { accessFlags := 2, nameIndex := 19, descriptorIndex := 10, attributes := #[] }])
  fields := #[{ name := "name", type := (.object "java/lang/String"), accessFlags := 18, slot := 0, constantValue := 0 }, { name := "ordinal", type := .int, accessFlags := 18, slot := 1, constantValue := 0 }, { name := "hash", type := .int, accessFlags := 2, slot := 2, constantValue := 0 }]
  methods := #[]
  instanceTypes := #[(.object "java/lang/String"), .int, .int]
  staticTypes := #[]
  resolved := Array.replicate 204 none
  statics := none }

def pool11 : Array CpInfo := pool [(1, .class_ 2), (0, u "com/example/enlist/enlist/definition/Propagation"), (2, u "REQUIRED"), (0, u "Lcom/example/enlist/enlist/definition/Propagation;"), (2, u "SUPPORTS"), (2, u "MANDATORY"), (2, u "REQUIRES_NEW"), (2, u "NOT_SUPPORTED"), (2, u "NEVER"), (2, u "NESTED"), (2, u "$VALUES"), (0, u "[Lcom/example/enlist/enlist/definition/Propagation;"), (6, .class_ 37), (1, u "java/lang/Enum")] 29

/-- com/example/enlist/enlist/definition/Propagation -/
def k11 : Class := { plain "com/example/enlist/enlist/definition/Propagation" (some 10) with
  accessFlags := 16433
  interfaces := #[]
  cf := some (fileOf pool11 1 #[] #[] 16433 35 #[] #[{ accessFlags := 16409, nameIndex := 5, descriptorIndex := 6, attributes := #[] }, { accessFlags := 16409, nameIndex := 9, descriptorIndex := 6, attributes := #[] }, { accessFlags := 16409, nameIndex := 12, descriptorIndex := 6, attributes := #[] }, { accessFlags := 16409, nameIndex := 15, descriptorIndex := 6, attributes := #[] }, { accessFlags := 16409, nameIndex := 18, descriptorIndex := 6, attributes := #[] }, { accessFlags := 16409, nameIndex := 21, descriptorIndex := 6, attributes := #[] }, { accessFlags := 16409, nameIndex := 24, descriptorIndex := 6, attributes := #[] }, { accessFlags := 4122, nameIndex := 27, descriptorIndex := 28, attributes := #[] }])
  fields := #[{ name := "REQUIRED", type := (.object "com/example/enlist/enlist/definition/Propagation"), accessFlags := 16409, slot := 0, constantValue := 0 }, { name := "SUPPORTS", type := (.object "com/example/enlist/enlist/definition/Propagation"), accessFlags := 16409, slot := 1, constantValue := 0 }, { name := "MANDATORY", type := (.object "com/example/enlist/enlist/definition/Propagation"), accessFlags := 16409, slot := 2, constantValue := 0 }, { name := "REQUIRES_NEW", type := (.object "com/example/enlist/enlist/definition/Propagation"), accessFlags := 16409, slot := 3, constantValue := 0 }, { name := "NOT_SUPPORTED", type := (.object "com/example/enlist/enlist/definition/Propagation"), accessFlags := 16409, slot := 4, constantValue := 0 }, { name := "NEVER", type := (.object "com/example/enlist/enlist/definition/Propagation"), accessFlags := 16409, slot := 5, constantValue := 0 }, { name := "NESTED", type := (.object "com/example/enlist/enlist/definition/Propagation"), accessFlags := 16409, slot := 6, constantValue := 0 }, { name := "$VALUES", type := (.array (.object "com/example/enlist/enlist/definition/Propagation")), accessFlags := 4122, slot := 7, constantValue := 0 }]
  methods := #[]
  instanceTypes := #[(.object "java/lang/String"), .int, .int]
  staticTypes := #[(.object "com/example/enlist/enlist/definition/Propagation"), (.object "com/example/enlist/enlist/definition/Propagation"), (.object "com/example/enlist/enlist/definition/Propagation"), (.object "com/example/enlist/enlist/definition/Propagation"), (.object "com/example/enlist/enlist/definition/Propagation"), (.object "com/example/enlist/enlist/definition/Propagation"), (.object "com/example/enlist/enlist/definition/Propagation"), (.array (.object "com/example/enlist/enlist/definition/Propagation"))]
  resolved := Array.replicate 67 none
  statics := some 2 }

def pool12 : Array CpInfo := pool [(1, .class_ 2), (0, u "com/example/enlist/enlist/definition/Isolation"), (2, u "DEFAULT"), (0, u "Lcom/example/enlist/enlist/definition/Isolation;"), (2, u "READ_UNCOMMITTED"), (2, u "READ_COMMITTED"), (2, u "REPEATABLE_READ"), (2, u "SERIALIZABLE"), (2, u "$VALUES"), (0, u "[Lcom/example/enlist/enlist/definition/Isolation;"), (6, .class_ 31), (1, u "java/lang/Enum"), (14, u "jdbcLevel"), (0, u "Ljava/util/OptionalInt;")] 31

/-- com/example/enlist/enlist/definition/Isolation -/
def k12 : Class := { plain "com/example/enlist/enlist/definition/Isolation" (some 10) with
  accessFlags := 16433
  interfaces := #[]
  cf := some (fileOf pool12 1 #[] #[] 16433 29 #[] #[{ accessFlags := 16409, nameIndex := 5, descriptorIndex := 6, attributes := #[] }, { accessFlags := 16409, nameIndex := 9, descriptorIndex := 6, attributes := #[] }, { accessFlags := 16409, nameIndex := 12, descriptorIndex := 6, attributes := #[] }, { accessFlags := 16409, nameIndex := 15, descriptorIndex := 6, attributes := #[] }, { accessFlags := 16409, nameIndex := 18, descriptorIndex := 6, attributes := #[] }, { accessFlags := 18, nameIndex := 46, descriptorIndex := 47, attributes := #[] }, { accessFlags := 4122, nameIndex := 21, descriptorIndex := 22, attributes := #[] }])
  fields := #[{ name := "DEFAULT", type := (.object "com/example/enlist/enlist/definition/Isolation"), accessFlags := 16409, slot := 0, constantValue := 0 }, { name := "READ_UNCOMMITTED", type := (.object "com/example/enlist/enlist/definition/Isolation"), accessFlags := 16409, slot := 1, constantValue := 0 }, { name := "READ_COMMITTED", type := (.object "com/example/enlist/enlist/definition/Isolation"), accessFlags := 16409, slot := 2, constantValue := 0 }, { name := "REPEATABLE_READ", type := (.object "com/example/enlist/enlist/definition/Isolation"), accessFlags := 16409, slot := 3, constantValue := 0 }, { name := "SERIALIZABLE", type := (.object "com/example/enlist/enlist/definition/Isolation"), accessFlags := 16409, slot := 4, constantValue := 0 }, { name := "jdbcLevel", type := (.object "java/util/OptionalInt"), accessFlags := 18, slot := 3, constantValue := 0 }, { name := "$VALUES", type := (.array (.object "com/example/enlist/enlist/definition/Isolation")), accessFlags := 4122, slot := 5, constantValue := 0 }]
  methods := #[]
  instanceTypes := #[(.object "java/lang/String"), .int, .int, (.object "java/util/OptionalInt")]
  staticTypes := #[(.object "com/example/enlist/enlist/definition/Isolation"), (.object "com/example/enlist/enlist/definition/Isolation"), (.object "com/example/enlist/enlist/definition/Isolation"), (.object "com/example/enlist/enlist/definition/Isolation"), (.object "com/example/enlist/enlist/definition/Isolation"), (.array (.object "com/example/enlist/enlist/definition/Isolation"))]
  resolved := Array.replicate 79 none
  statics := some 3 }

def pool13 : Array CpInfo := pool [(2, .class_ 4), (1, u "java/lang/Object"), (0, u "<init>"), (0, u "()V"), (1, .class_ 10), (1, u "java/util/OptionalInt"), (0, u "isPresent"), (0, u "Z"), (2, u "value"), (0, u "I"), (0, .fieldref 8 18), (0, .nameAndType 19 20), (0, u "EMPTY"), (0, u "Ljava/util/OptionalInt;"), (28, u "empty"), (46, u "()Ljava/util/OptionalInt;")] 39

def k13m0 : Method := { name := "<init>", desc := "()V", sig := { parameters := [], returnType := none }, accessFlags := 2, code := none }
def k13c1 : Code := { maxStack := 1, maxLocals := 0, code := jdk_2649_method_2_code, exceptionTable := #[], attributes := #[] }
def k13m1 : Method := { name := "empty", desc := "()Ljava/util/OptionalInt;", sig := { parameters := [], returnType := some (.object "java/util/OptionalInt") }, accessFlags := 9, code := some k13c1 }
/-- java/util/OptionalInt -/
def k13 : Class := { plain "java/util/OptionalInt" (some 0) with
  accessFlags := 49
  interfaces := #[]
  cf := some (fileOf pool13 8 #[] #[{ accessFlags := 2, nameIndex := 5, descriptorIndex := 6, attributes := #[] }, { accessFlags := 9, nameIndex := 49, descriptorIndex := 96, attributes := #[] }] 49 2 #[] #[{ accessFlags := 26, nameIndex := 19, descriptorIndex := 20, attributes := #[] }, { accessFlags := 18, nameIndex := 11, descriptorIndex := 12, attributes := #[] }, { accessFlags := 18, nameIndex := 15, descriptorIndex := 16, attributes := #[] }])
  fields := #[{ name := "EMPTY", type := (.object "java/util/OptionalInt"), accessFlags := 26, slot := 0, constantValue := 0 }, { name := "isPresent", type := .boolean, accessFlags := 18, slot := 0, constantValue := 0 }, { name := "value", type := .int, accessFlags := 18, slot := 1, constantValue := 0 }]
  methods := #[k13m0, k13m1]
  instanceTypes := #[.boolean, .int]
  staticTypes := #[(.object "java/util/OptionalInt")]
  resolved := Array.replicate 136 none
  statics := some 4 }

def pool14 : Array CpInfo := pool [(2, .class_ 4), (1, u "java/util/Map"), (31, .class_ 37), (0, u "java/util/Map$Entry"), (43, .fieldref 82 83), (0, .class_ 84), (0, .nameAndType 85 86), (0, u "java/util/ImmutableCollections"), (0, u "EMPTY_MAP"), (0, u "Ljava/util/ImmutableCollections$MapN;"), (6, .class_ 94), (0, u "java/lang/Object"), (13, u "of"), (0, u "()Ljava/util/Map;")] 153

def k14c0 : Code := { maxStack := 1, maxLocals := 0, code := jdk_72_method_26_code, exceptionTable := #[], attributes := #[] }
def k14m0 : Method := { name := "of", desc := "()Ljava/util/Map;", sig := { parameters := [], returnType := some (.object "java/util/Map") }, accessFlags := 9, code := some k14c0 }
/-- java/util/Map -/
def k14 : Class := { plain "java/util/Map" (some 0) with
  accessFlags := 1537
  interfaces := #[]
  cf := some (fileOf pool14 2 #[.nestMembers #[36]] #[{ accessFlags := 9, nameIndex := 108, descriptorIndex := 109, attributes := #[] }] 1537 93 #[] #[])
  fields := #[]
  methods := #[k14m0]
  instanceTypes := #[]
  staticTypes := #[]
  resolved := Array.replicate 263 none
  statics := none }

def pool15 : Array CpInfo := pool [(2, .class_ 4), (1, u "java/lang/Object"), (0, u "<init>"), (0, u "()V"), (3, .class_ 11), (0, u "java/util/ImmutableCollections$List12"), (0, .class_ 13), (0, u "java/util/ImmutableCollections$ListN"), (3, u "Z"), (29, .class_ 49), (1, u "java/util/ImmutableCollections"), (0, u "$assertionsDisabled"), (5, u "[Ljava/lang/Object;"), (5, u "EMPTY_LIST"), (0, u "Ljava/util/ImmutableCollections$ListN;"), (8, u "EMPTY_LIST_NULLS"), (22, u "SALT32L"), (0, u "J"), (2, u "REVERSE"), (6, u "archivedObjects"), (2, u "EMPTY"), (0, u "Ljava/lang/Object;"), (0, .class_ 112), (0, u "java/util/ImmutableCollections$SetN"), (5, u "EMPTY_SET"), (0, u "Ljava/util/ImmutableCollections$SetN;"), (0, .class_ 121), (0, u "java/util/ImmutableCollections$MapN"), (3, u "EMPTY_MAP"), (0, u "Ljava/util/ImmutableCollections$MapN;"), (4, u "EXPAND_FACTOR"), (0, u "I"), (36, .class_ 170), (0, u "java/util/ImmutableCollections$MapN$MapNIterator"), (0, .class_ 172), (0, u "java/util/ImmutableCollections$MapN$1"), (0, .class_ 174), (0, u "java/util/ImmutableCollections$Map1"), (0, .class_ 176), (0, u "java/util/ImmutableCollections$AbstractImmutableMap"), (0, .class_ 178), (0, u "java/util/ImmutableCollections$SetN$SetNIterator"), (0, .class_ 180), (0, u "java/util/ImmutableCollections$Set12"), (0, .class_ 182), (0, u "java/util/ImmutableCollections$Set12$1"), (0, .class_ 184), (0, u "java/util/ImmutableCollections$AbstractImmutableSet"), (0, .class_ 186), (0, u "java/util/ImmutableCollections$SubList"), (0, .class_ 188), (0, u "java/util/ImmutableCollections$ListItr"), (0, .class_ 190), (0, u "java/util/ImmutableCollections$AbstractImmutableList"), (0, .class_ 192), (0, u "java/util/ImmutableCollections$AbstractImmutableCollection"), (0, .class_ 194), (0, u "java/util/ImmutableCollections$Access"), (0, .class_ 196), (0, u "java/util/ImmutableCollections$Access$1")] 16

def k15m0 : Method := { name := "<init>", desc := "()V", sig := { parameters := [], returnType := none }, accessFlags := 2, code := none }
/-- java/util/ImmutableCollections -/
def k15 : Class := { plain "java/util/ImmutableCollections" (some 0) with
  accessFlags := 32
  interfaces := #[]
  cf := some (fileOf pool15 47 #[.nestMembers #[120, 169, 171, 173, 175, 111, 177, 179, 181, 183, 12, 10, 185, 187, 189, 191, 193, 195]] #[{ accessFlags := 2, nameIndex := 5, descriptorIndex := 6, attributes := #[] }] 32 2 #[] #[{ accessFlags := 26, nameIndex := 95, descriptorIndex := 96, attributes := #[] }, { accessFlags := 26, nameIndex := 99, descriptorIndex := 17, attributes := #[] }, { accessFlags := 10, nameIndex := 106, descriptorIndex := 56, attributes := #[] }, { accessFlags := 26, nameIndex := 109, descriptorIndex := 110, attributes := #[] }, { accessFlags := 24, nameIndex := 62, descriptorIndex := 63, attributes := #[] }, { accessFlags := 24, nameIndex := 72, descriptorIndex := 63, attributes := #[] }, { accessFlags := 24, nameIndex := 118, descriptorIndex := 119, attributes := #[] }, { accessFlags := 24, nameIndex := 125, descriptorIndex := 126, attributes := #[] }, { accessFlags := 24, nameIndex := 131, descriptorIndex := 132, attributes := #[] }, { accessFlags := 4120, nameIndex := 50, descriptorIndex := 17, attributes := #[] }])
  fields := #[{ name := "SALT32L", type := .long, accessFlags := 26, slot := 0, constantValue := 0 }, { name := "REVERSE", type := .boolean, accessFlags := 26, slot := 1, constantValue := 0 }, { name := "archivedObjects", type := (.array (.object "java/lang/Object")), accessFlags := 10, slot := 2, constantValue := 0 }, { name := "EMPTY", type := (.object "java/lang/Object"), accessFlags := 26, slot := 3, constantValue := 0 }, { name := "EMPTY_LIST", type := (.object "java/util/ImmutableCollections$ListN"), accessFlags := 24, slot := 4, constantValue := 0 }, { name := "EMPTY_LIST_NULLS", type := (.object "java/util/ImmutableCollections$ListN"), accessFlags := 24, slot := 5, constantValue := 0 }, { name := "EMPTY_SET", type := (.object "java/util/ImmutableCollections$SetN"), accessFlags := 24, slot := 6, constantValue := 0 }, { name := "EMPTY_MAP", type := (.object "java/util/ImmutableCollections$MapN"), accessFlags := 24, slot := 7, constantValue := 0 }, { name := "EXPAND_FACTOR", type := .int, accessFlags := 24, slot := 8, constantValue := 0 }, { name := "$assertionsDisabled", type := .boolean, accessFlags := 4120, slot := 9, constantValue := 0 }]
  methods := #[k15m0]
  instanceTypes := #[]
  staticTypes := #[.long, .boolean, (.array (.object "java/lang/Object")), (.object "java/lang/Object"), (.object "java/util/ImmutableCollections$ListN"), (.object "java/util/ImmutableCollections$ListN"), (.object "java/util/ImmutableCollections$SetN"), (.object "java/util/ImmutableCollections$MapN"), .int, .boolean]
  resolved := Array.replicate 213 none
  statics := some 5 }

def pool16 : Array CpInfo := pool [(2, .class_ 4), (1, u "java/lang/Object"), (0, u "<init>"), (0, u "()V"), (35, .class_ 44), (1, u "java/util/Objects"), (0, u "requireNonNull"), (48, u "(Ljava/lang/Object;Ljava/lang/String;)Ljava/lang/Object;")] 89

def k16m0 : Method := { name := "<init>", desc := "()V", sig := { parameters := [], returnType := none }, accessFlags := 2, code := none }
def k16c1 : Code := { maxStack := 3, maxLocals := 2, code := jdk_31_method_11_code, exceptionTable := #[], attributes := #[] }
def k16m1 : Method := { name := "requireNonNull", desc := "(Ljava/lang/Object;Ljava/lang/String;)Ljava/lang/Object;", sig := { parameters := [(.object "java/lang/Object"), (.object "java/lang/String")], returnType := some (.object "java/lang/Object") }, accessFlags := 9, code := some k16c1 }
/-- java/util/Objects -/
def k16 : Class := { plain "java/util/Objects" (some 0) with
  accessFlags := 49
  interfaces := #[]
  cf := some (fileOf pool16 42 #[] #[{ accessFlags := 2, nameIndex := 5, descriptorIndex := 6, attributes := #[] }, { accessFlags := 9, nameIndex := 45, descriptorIndex := 94, attributes := #[] }] 49 2 #[] #[])
  fields := #[]
  methods := #[k16m0, k16m1]
  instanceTypes := #[]
  staticTypes := #[]
  resolved := Array.replicate 184 none
  statics := none }

def pool17 : Array CpInfo := pool [(1, .class_ 2), (0, u "java/lang/Appendable"), (0, .class_ 4), (0, u "java/lang/Object")] 9

/-- java/lang/Appendable -/
def k17 : Class := { plain "java/lang/Appendable" (some 0) with
  accessFlags := 1537
  interfaces := #[]
  cf := some (fileOf pool17 1 #[] #[] 1537 3 #[] #[])
  fields := #[]
  methods := #[]
  instanceTypes := #[]
  staticTypes := #[]
  resolved := Array.replicate 14 none
  statics := none }

def pool18 : Array CpInfo := pool [(1, .class_ 2), (0, u "java/lang/String"), (0, .methodref 4 5), (0, .class_ 6), (0, .nameAndType 7 8), (0, u "java/lang/Object"), (0, u "<init>"), (0, u "()V"), (1, .class_ 12), (1, u "java/lang/AbstractStringBuilder"), (0, u "EMPTYVALUE"), (0, u "[B"), (0, .fieldref 10 16), (0, .nameAndType 17 14), (0, u "value"), (0, .fieldref 1 19), (0, .nameAndType 20 21), (0, u "COMPACT_STRINGS"), (0, u "Z"), (0, .fieldref 10 23), (0, .nameAndType 24 25), (0, u "coder"), (0, u "B"), (6, .methodref 1 33), (0, .nameAndType 34 35), (0, u "length"), (0, u "()I"), (3, .integer 2147483647), (0, .methodref 1 41), (0, .nameAndType 24 42), (0, u "()B"), (2, u "append"), (0, u "(Ljava/lang/String;)Ljava/lang/AbstractStringBuilder;"), (1, .class_ 49), (0, u "java/lang/CharSequence"), (19, u "(Ljava/lang/String;)V"), (5, u "maybeLatin1"), (3, .fieldref 10 80), (0, .nameAndType 81 82), (0, u "count"), (0, u "I"), (2, u "isLatin1"), (0, u "()Z"), (13, .methodref 10 101), (0, .nameAndType 102 103), (0, u "ensureCapacityInternal"), (0, u "(I)V"), (0, .methodref 10 105), (0, .nameAndType 106 107), (0, u "newCapacity"), (0, u "(I)I"), (0, .methodref 109 110), (0, .class_ 111), (0, .nameAndType 112 113), (0, u "java/util/Arrays"), (0, u "copyOf"), (0, u "([BI)[B"), (0, .methodref 115 116), (0, .class_ 117), (0, .nameAndType 118 119), (0, u "jdk/internal/util/ArraysSupport"), (0, u "newLength"), (0, u "(III)I"), (88, .methodref 10 209), (0, .nameAndType 210 211), (0, u "putStringAt"), (0, u "(ILjava/lang/String;)V"), (5, u "inflateIfNeededFor"), (2, .nameAndType 221 222), (0, u "getBytes"), (0, u "([BIB)V"), (174, .methodref 10 398), (0, .nameAndType 217 69), (0, .methodref 1 220), (3, u "()[B"), (40, .class_ 445), (0, u "java/lang/Appendable"), (106, u "getValue")] 56

def k18m0 : Method := { name := "<init>", desc := "()V", sig := { parameters := [], returnType := none }, accessFlags := 0, code := none }
def k18c1 : Code := { maxStack := 2, maxLocals := 2, code := jdk_68_method_2_code, exceptionTable := #[], attributes := #[] }
def k18m1 : Method := { name := "<init>", desc := "(I)V", sig := { parameters := [.int], returnType := none }, accessFlags := 0, code := some k18c1 }
def k18c2 : Code := { maxStack := 1, maxLocals := 1, code := jdk_68_method_6_code, exceptionTable := #[], attributes := #[] }
def k18m2 : Method := { name := "length", desc := "()I", sig := { parameters := [], returnType := some .int }, accessFlags := 1, code := some k18c2 }
def k18c3 : Code := { maxStack := 4, maxLocals := 3, code := jdk_68_method_9_code, exceptionTable := #[], attributes := #[] }
def k18m3 : Method := { name := "ensureCapacityInternal", desc := "(I)V", sig := { parameters := [.int], returnType := none }, accessFlags := 2, code := some k18c3 }
def k18c4 : Code := { maxStack := 5, maxLocals := 6, code := jdk_68_method_10_code, exceptionTable := #[], attributes := #[] }
def k18m4 : Method := { name := "newCapacity", desc := "(I)I", sig := { parameters := [.int], returnType := some .int }, accessFlags := 2, code := some k18c4 }
def k18c5 : Code := { maxStack := 3, maxLocals := 3, code := jdk_68_method_22_code, exceptionTable := #[], attributes := #[] }
def k18m5 : Method := { name := "append", desc := "(Ljava/lang/String;)Ljava/lang/AbstractStringBuilder;", sig := { parameters := [(.object "java/lang/String")], returnType := some (.object "java/lang/AbstractStringBuilder") }, accessFlags := 1, code := some k18c5 }
def k18c6 : Code := { maxStack := 1, maxLocals := 1, code := jdk_68_method_64_code, exceptionTable := #[], attributes := #[] }
def k18m6 : Method := { name := "getValue", desc := "()[B", sig := { parameters := [], returnType := some (.array .byte) }, accessFlags := 16, code := some k18c6 }
def k18c7 : Code := { maxStack := 1, maxLocals := 1, code := jdk_68_method_68_code, exceptionTable := #[], attributes := #[] }
def k18m7 : Method := { name := "isLatin1", desc := "()Z", sig := { parameters := [], returnType := some .boolean }, accessFlags := 16, code := some k18c7 }
def k18c8 : Code := { maxStack := 2, maxLocals := 2, code := jdk_68_method_71_code, exceptionTable := #[], attributes := #[] }
def k18m8 : Method := { name := "inflateIfNeededFor", desc := "(Ljava/lang/String;)V", sig := { parameters := [(.object "java/lang/String")], returnType := none }, accessFlags := 2, code := some k18c8 }
def k18c9 : Code := { maxStack := 4, maxLocals := 3, code := jdk_68_method_73_code, exceptionTable := #[], attributes := #[] }
def k18m9 : Method := { name := "putStringAt", desc := "(ILjava/lang/String;)V", sig := { parameters := [.int, (.object "java/lang/String")], returnType := none }, accessFlags := 2, code := some k18c9 }
/-- java/lang/AbstractStringBuilder -/
def k18 : Class := { plain "java/lang/AbstractStringBuilder" (some 0) with
  accessFlags := 1056
  interfaces := #[17, 4]
  cf := some (fileOf pool18 10 #[] #[{ accessFlags := 0, nameIndex := 7, descriptorIndex := 8, attributes := #[] }, { accessFlags := 0, nameIndex := 7, descriptorIndex := 103, attributes := #[] }, { accessFlags := 1, nameIndex := 34, descriptorIndex := 35, attributes := #[] }, { accessFlags := 2, nameIndex := 102, descriptorIndex := 103, attributes := #[] }, { accessFlags := 2, nameIndex := 106, descriptorIndex := 107, attributes := #[] }, { accessFlags := 1, nameIndex := 45, descriptorIndex := 46, attributes := #[] }, { accessFlags := 16, nameIndex := 552, descriptorIndex := 403, attributes := #[] }, { accessFlags := 16, nameIndex := 85, descriptorIndex := 86, attributes := #[] }, { accessFlags := 2, nameIndex := 217, descriptorIndex := 69, attributes := #[] }, { accessFlags := 2, nameIndex := 210, descriptorIndex := 211, attributes := #[] }] 1056 4 #[444, 48] #[{ accessFlags := 0, nameIndex := 17, descriptorIndex := 14, attributes := #[] }, { accessFlags := 0, nameIndex := 24, descriptorIndex := 25, attributes := #[] }, { accessFlags := 0, nameIndex := 75, descriptorIndex := 21, attributes := #[] }, { accessFlags := 0, nameIndex := 81, descriptorIndex := 82, attributes := #[] }, { accessFlags := 26, nameIndex := 13, descriptorIndex := 14, attributes := #[] }])
  fields := #[{ name := "value", type := (.array .byte), accessFlags := 0, slot := 0, constantValue := 0 }, { name := "coder", type := .byte, accessFlags := 0, slot := 1, constantValue := 0 }, { name := "maybeLatin1", type := .boolean, accessFlags := 0, slot := 2, constantValue := 0 }, { name := "count", type := .int, accessFlags := 0, slot := 3, constantValue := 0 }, { name := "EMPTYVALUE", type := (.array .byte), accessFlags := 26, slot := 0, constantValue := 0 }]
  methods := #[k18m0, k18m1, k18m2, k18m3, k18m4, k18m5, k18m6, k18m7, k18m8, k18m9]
  instanceTypes := #[(.array .byte), .byte, .boolean, .int]
  staticTypes := #[(.array .byte)]
  resolved := Array.replicate 609 none
  statics := none }

def pool19 : Array CpInfo := pool [(1, .methodref 2 3), (0, .class_ 4), (0, .nameAndType 5 6), (0, u "java/lang/AbstractStringBuilder"), (0, u "<init>"), (0, u "(I)V"), (11, .class_ 20), (1, u "java/lang/String"), (3, .class_ 26), (1, u "java/lang/StringBuilder"), (0, u "append"), (0, u "(Ljava/lang/String;)Ljava/lang/StringBuilder;"), (0, .methodref 2 30), (0, .nameAndType 27 31), (0, u "(Ljava/lang/String;)Ljava/lang/AbstractStringBuilder;"), (105, .methodref 18 138), (0, .nameAndType 5 139), (0, u "(Ljava/lang/StringBuilder;)V"), (5, u "()V"), (10, u "()I"), (186, .methodref 2 344), (0, .nameAndType 345 156), (0, u "length"), (3, .class_ 350), (0, u "java/lang/Appendable"), (0, .class_ 352), (0, u "java/io/Serializable"), (0, .class_ 354), (0, u "java/lang/Comparable"), (0, .class_ 356), (0, u "java/lang/CharSequence"), (0, u "serialVersionUID"), (0, u "J"), (40, u "toString"), (0, u "()Ljava/lang/String;")] 21

def k19c0 : Code := { maxStack := 2, maxLocals := 1, code := jdk_67_method_1_code, exceptionTable := #[], attributes := #[] }
def k19m0 : Method := { name := "<init>", desc := "()V", sig := { parameters := [], returnType := none }, accessFlags := 1, code := some k19c0 }
def k19c1 : Code := { maxStack := 2, maxLocals := 2, code := jdk_67_method_7_code, exceptionTable := #[], attributes := #[] }
def k19m1 : Method := { name := "append", desc := "(Ljava/lang/String;)Ljava/lang/StringBuilder;", sig := { parameters := [(.object "java/lang/String")], returnType := some (.object "java/lang/StringBuilder") }, accessFlags := 1, code := some k19c1 }
def k19c2 : Code := { maxStack := 3, maxLocals := 1, code := jdk_67_method_42_code, exceptionTable := #[], attributes := #[] }
def k19m2 : Method := { name := "toString", desc := "()Ljava/lang/String;", sig := { parameters := [], returnType := some (.object "java/lang/String") }, accessFlags := 1, code := some k19c2 }
def k19c3 : Code := { maxStack := 1, maxLocals := 1, code := jdk_67_method_93_code, exceptionTable := #[], attributes := #[] }
def k19m3 : Method := { name := "length", desc := "()I", sig := { parameters := [], returnType := some .int }, accessFlags := 4161, code := some k19c3 }
/-- java/lang/StringBuilder -/
def k19 : Class := { plain "java/lang/StringBuilder" (some 18) with
  accessFlags := 49
  interfaces := #[17, 2, 3, 4]
  cf := some (fileOf pool19 24 #[] #[{ accessFlags := 1, nameIndex := 5, descriptorIndex := 145, attributes := #[] }, { accessFlags := 1, nameIndex := 27, descriptorIndex := 28, attributes := #[] }, { accessFlags := 1, nameIndex := 399, descriptorIndex := 400, attributes := #[] }, { accessFlags := 4161, nameIndex := 345, descriptorIndex := 156, attributes := #[] }] 49 2 #[349, 351, 353, 355] #[{ accessFlags := 24, nameIndex := 357, descriptorIndex := 358, attributes := #[] }])
  fields := #[{ name := "serialVersionUID", type := .long, accessFlags := 24, slot := 0, constantValue := 0 }]
  methods := #[k19m0, k19m1, k19m2, k19m3]
  instanceTypes := #[(.array .byte), .byte, .boolean, .int]
  staticTypes := #[.long]
  resolved := Array.replicate 422 none
  statics := none }

def pool20 : Array CpInfo := pool [(2, .class_ 4), (1, u "java/lang/Object"), (0, u "<init>"), (0, u "()V"), (1, .class_ 10), (1, u "java/lang/System"), (0, u "allowSecurityManager"), (0, u "I"), (16, u "cons"), (0, u "Ljava/io/Console;"), (77, .class_ 110), (1, u "java/lang/System$CallersHolder"), (43, u "initialErrStream"), (0, u "Ljava/io/PrintStream;"), (19, u "security"), (0, u "Ljava/lang/SecurityManager;"), (31, .class_ 209), (0, u "java/lang/System$1"), (7, u "props"), (0, u "Ljava/util/Properties;"), (2, u "lineSeparator"), (0, u "Ljava/lang/String;"), (96, .class_ 321), (1, u "java/lang/System$LoggerFinder"), (5, .class_ 328), (0, u "java/lang/System$Logger"), (67, u "err"), (2, u "out"), (91, u "notSupportedJnuEncoding"), (15, u "in"), (17, u "initialIn"), (0, u "Ljava/io/InputStream;"), (35, u "bootLayer"), (0, u "Ljava/lang/ModuleLayer;"), (99, .class_ 664), (0, u "java/lang/System$2"), (9, u "NEVER"), (2, u "MAYBE"), (49, u "arraycopy"), (0, u "(Ljava/lang/Object;ILjava/lang/Object;II)V"), (72, .class_ 802), (0, u "java/lang/System$Logger$Level")] 31

def k20m0 : Method := { name := "<init>", desc := "()V", sig := { parameters := [], returnType := none }, accessFlags := 2, code := none }
def k20m1 : Method := { name := "arraycopy", desc := "(Ljava/lang/Object;ILjava/lang/Object;II)V", sig := { parameters := [(.object "java/lang/Object"), .int, (.object "java/lang/Object"), .int, .int], returnType := none }, accessFlags := 265, code := none }
/-- java/lang/System -/
def k20 : Class := { plain "java/lang/System" (some 0) with
  accessFlags := 49
  interfaces := #[]
  cf := some (fileOf pool20 8 #[.nestMembers #[319, 327, 801, 108, 663, 208]] #[{ accessFlags := 2, nameIndex := 5, descriptorIndex := 6, attributes := #[] }, { accessFlags := 265, nameIndex := 727, descriptorIndex := 728, attributes := #[] }] 49 2 #[] #[{ accessFlags := 25, nameIndex := 507, descriptorIndex := 526, attributes := #[] }, { accessFlags := 25, nameIndex := 399, descriptorIndex := 155, attributes := #[] }, { accessFlags := 25, nameIndex := 396, descriptorIndex := 155, attributes := #[] }, { accessFlags := 10, nameIndex := 525, descriptorIndex := 526, attributes := #[] }, { accessFlags := 26, nameIndex := 674, descriptorIndex := 12, attributes := #[] }, { accessFlags := 26, nameIndex := 677, descriptorIndex := 12, attributes := #[] }, { accessFlags := 10, nameIndex := 11, descriptorIndex := 12, attributes := #[] }, { accessFlags := 74, nameIndex := 175, descriptorIndex := 176, attributes := #[] }, { accessFlags := 10, nameIndex := 491, descriptorIndex := 222, attributes := #[] }, { accessFlags := 74, nameIndex := 29, descriptorIndex := 30, attributes := #[] }, { accessFlags := 74, nameIndex := 154, descriptorIndex := 155, attributes := #[] }, { accessFlags := 10, nameIndex := 217, descriptorIndex := 218, attributes := #[] }, { accessFlags := 10, nameIndex := 221, descriptorIndex := 222, attributes := #[] }, { accessFlags := 8, nameIndex := 562, descriptorIndex := 563, attributes := #[] }])
  fields := #[{ name := "in", type := (.object "java/io/InputStream"), accessFlags := 25, slot := 0, constantValue := 0 }, { name := "out", type := (.object "java/io/PrintStream"), accessFlags := 25, slot := 1, constantValue := 0 }, { name := "err", type := (.object "java/io/PrintStream"), accessFlags := 25, slot := 2, constantValue := 0 }, { name := "initialIn", type := (.object "java/io/InputStream"), accessFlags := 10, slot := 3, constantValue := 0 }, { name := "NEVER", type := .int, accessFlags := 26, slot := 4, constantValue := 0 }, { name := "MAYBE", type := .int, accessFlags := 26, slot := 5, constantValue := 0 }, { name := "allowSecurityManager", type := .int, accessFlags := 10, slot := 6, constantValue := 0 }, { name := "security", type := (.object "java/lang/SecurityManager"), accessFlags := 74, slot := 7, constantValue := 0 }, { name := "notSupportedJnuEncoding", type := (.object "java/lang/String"), accessFlags := 10, slot := 8, constantValue := 0 }, { name := "cons", type := (.object "java/io/Console"), accessFlags := 74, slot := 9, constantValue := 0 }, { name := "initialErrStream", type := (.object "java/io/PrintStream"), accessFlags := 74, slot := 10, constantValue := 0 }, { name := "props", type := (.object "java/util/Properties"), accessFlags := 10, slot := 11, constantValue := 0 }, { name := "lineSeparator", type := (.object "java/lang/String"), accessFlags := 10, slot := 12, constantValue := 0 }, { name := "bootLayer", type := (.object "java/lang/ModuleLayer"), accessFlags := 8, slot := 13, constantValue := 0 }]
  methods := #[k20m0, k20m1]
  instanceTypes := #[]
  staticTypes := #[(.object "java/io/InputStream"), (.object "java/io/PrintStream"), (.object "java/io/PrintStream"), (.object "java/io/InputStream"), .int, .int, .int, (.object "java/lang/SecurityManager"), (.object "java/lang/String"), (.object "java/io/Console"), (.object "java/io/PrintStream"), (.object "java/util/Properties"), (.object "java/lang/String"), (.object "java/lang/ModuleLayer")]
  resolved := Array.replicate 834 none
  statics := none }

def pool21 : Array CpInfo := pool [(2, .class_ 4), (1, u "java/lang/Object"), (0, u "<init>"), (0, u "()V"), (7, .class_ 16), (1, u "java/util/Arrays"), (57, .class_ 76), (1, u "java/util/Arrays$NaturalOrder"), (32, u "()Ljava/lang/Object;"), (3, .class_ 115), (1, u "java/util/Arrays$LegacyMergeSort"), (1, u "Z"), (10, .nameAndType 129 109), (0, u "clone"), (9, u "copyOfRange"), (10, .methodref 151 152), (0, .class_ 153), (0, .nameAndType 154 155), (0, u "java/lang/System"), (0, u "arraycopy"), (0, u "(Ljava/lang/Object;ILjava/lang/Object;II)V"), (146, u "copyOf"), (1, .methodref 305 306), (0, .class_ 307), (0, .nameAndType 308 309), (0, u "java/lang/Math"), (0, u "min"), (0, u "(II)I"), (0, .methodref 311 128), (0, .class_ 312), (0, u "[B"), (26, .methodref 14 340), (0, .nameAndType 341 342), (0, u "copyOfRangeByte"), (0, u "([BII)[B"), (0, .methodref 14 344), (0, .nameAndType 345 346), (0, u "checkLength"), (0, u "(II)V"), (28, .class_ 376), (0, u "java/util/Arrays$ArrayList"), (68, u "$assertionsDisabled"), (269, u "MIN_ARRAY_SORT_GRAN"), (0, u "I"), (2, u "INSERTIONSORT_THRESHOLD"), (149, u "([BI)[B"), (105, .class_ 976), (0, u "java/util/Arrays$ArrayItr")] 52

def k21m0 : Method := { name := "<init>", desc := "()V", sig := { parameters := [], returnType := none }, accessFlags := 2, code := none }
def k21c1 : Code := { maxStack := 6, maxLocals := 3, code := jdk_65_method_121_code, exceptionTable := #[], attributes := #[] }
def k21m1 : Method := { name := "copyOf", desc := "([BI)[B", sig := { parameters := [(.array .byte), .int], returnType := some (.array .byte) }, accessFlags := 9, code := some k21c1 }
def k21c2 : Code := { maxStack := 4, maxLocals := 2, code := jdk_65_method_131_code, exceptionTable := #[], attributes := #[] }
def k21m2 : Method := { name := "checkLength", desc := "(II)V", sig := { parameters := [.int, .int], returnType := none }, accessFlags := 10, code := some k21c2 }
def k21c3 : Code := { maxStack := 3, maxLocals := 3, code := jdk_65_method_132_code, exceptionTable := #[], attributes := #[] }
def k21m3 : Method := { name := "copyOfRange", desc := "([BII)[B", sig := { parameters := [(.array .byte), .int, .int], returnType := some (.array .byte) }, accessFlags := 9, code := some k21c3 }
def k21c4 : Code := { maxStack := 6, maxLocals := 5, code := jdk_65_method_133_code, exceptionTable := #[], attributes := #[] }
def k21m4 : Method := { name := "copyOfRangeByte", desc := "([BII)[B", sig := { parameters := [(.array .byte), .int, .int], returnType := some (.array .byte) }, accessFlags := 10, code := some k21c4 }
/-- java/util/Arrays -/
def k21 : Class := { plain "java/util/Arrays" (some 0) with
  accessFlags := 49
  interfaces := #[]
  cf := some (fileOf pool21 14 #[.nestMembers #[975, 375, 113, 74]] #[{ accessFlags := 2, nameIndex := 5, descriptorIndex := 6, attributes := #[] }, { accessFlags := 9, nameIndex := 302, descriptorIndex := 869, attributes := #[] }, { accessFlags := 10, nameIndex := 345, descriptorIndex := 346, attributes := #[] }, { accessFlags := 9, nameIndex := 139, descriptorIndex := 342, attributes := #[] }, { accessFlags := 10, nameIndex := 341, descriptorIndex := 342, attributes := #[] }] 49 2 #[] #[{ accessFlags := 26, nameIndex := 715, descriptorIndex := 716, attributes := #[] }, { accessFlags := 26, nameIndex := 719, descriptorIndex := 716, attributes := #[] }, { accessFlags := 4120, nameIndex := 445, descriptorIndex := 117, attributes := #[] }])
  fields := #[{ name := "MIN_ARRAY_SORT_GRAN", type := .int, accessFlags := 26, slot := 0, constantValue := 0 }, { name := "INSERTIONSORT_THRESHOLD", type := .int, accessFlags := 26, slot := 1, constantValue := 0 }, { name := "$assertionsDisabled", type := .boolean, accessFlags := 4120, slot := 2, constantValue := 0 }]
  methods := #[k21m0, k21m1, k21m2, k21m3, k21m4]
  instanceTypes := #[]
  staticTypes := #[.int, .int, .boolean]
  resolved := Array.replicate 1029 none
  statics := none }

def pool22 : Array CpInfo := pool [(1, .class_ 2), (0, u "java/lang/Math"), (1, .class_ 6), (1, u "java/lang/Object"), (0, u "<init>"), (0, u "()V"), (89, .class_ 100), (1, u "java/lang/Math$RandomNumberGeneratorHolder"), (71, u "negativeZeroFloatBits"), (0, u "J"), (2, u "negativeZeroDoubleBits"), (21, u "max"), (2, u "min"), (43, u "$assertionsDisabled"), (0, u "Z"), (88, u "(II)I"), (2, u "twoToTheDoubleScaleDown"), (0, u "D"), (4, u "twoToTheDoubleScaleUp"), (9, u "E"), (3, u "PI"), (2, u "TAU"), (2, u "DEGREES_TO_RADIANS"), (0, u "RADIANS_TO_DEGREES")] 94

def k22m0 : Method := { name := "<init>", desc := "()V", sig := { parameters := [], returnType := none }, accessFlags := 2, code := none }
def k22c1 : Code := { maxStack := 2, maxLocals := 2, code := jdk_29_method_65_code, exceptionTable := #[], attributes := #[] }
def k22m1 : Method := { name := "max", desc := "(II)I", sig := { parameters := [.int, .int], returnType := some .int }, accessFlags := 9, code := some k22c1 }
def k22c2 : Code := { maxStack := 2, maxLocals := 2, code := jdk_29_method_69_code, exceptionTable := #[], attributes := #[] }
def k22m2 : Method := { name := "min", desc := "(II)I", sig := { parameters := [.int, .int], returnType := some .int }, accessFlags := 9, code := some k22c2 }
/-- java/lang/Math -/
def k22 : Class := { plain "java/lang/Math" (some 0) with
  accessFlags := 49
  interfaces := #[]
  cf := some (fileOf pool22 1 #[.nestMembers #[98]] #[{ accessFlags := 2, nameIndex := 7, descriptorIndex := 8, attributes := #[] }, { accessFlags := 9, nameIndex := 198, descriptorIndex := 335, attributes := #[] }, { accessFlags := 9, nameIndex := 201, descriptorIndex := 335, attributes := #[] }] 49 4 #[] #[{ accessFlags := 25, nameIndex := 354, descriptorIndex := 339, attributes := #[] }, { accessFlags := 25, nameIndex := 358, descriptorIndex := 339, attributes := #[] }, { accessFlags := 25, nameIndex := 361, descriptorIndex := 339, attributes := #[] }, { accessFlags := 26, nameIndex := 364, descriptorIndex := 339, attributes := #[] }, { accessFlags := 26, nameIndex := 365, descriptorIndex := 339, attributes := #[] }, { accessFlags := 26, nameIndex := 172, descriptorIndex := 173, attributes := #[] }, { accessFlags := 26, nameIndex := 176, descriptorIndex := 173, attributes := #[] }, { accessFlags := 8, nameIndex := 344, descriptorIndex := 339, attributes := #[] }, { accessFlags := 8, nameIndex := 338, descriptorIndex := 339, attributes := #[] }, { accessFlags := 4120, nameIndex := 245, descriptorIndex := 246, attributes := #[] }])
  fields := #[{ name := "E", type := .double, accessFlags := 25, slot := 0, constantValue := 0 }, { name := "PI", type := .double, accessFlags := 25, slot := 1, constantValue := 0 }, { name := "TAU", type := .double, accessFlags := 25, slot := 2, constantValue := 0 }, { name := "DEGREES_TO_RADIANS", type := .double, accessFlags := 26, slot := 3, constantValue := 0 }, { name := "RADIANS_TO_DEGREES", type := .double, accessFlags := 26, slot := 4, constantValue := 0 }, { name := "negativeZeroFloatBits", type := .long, accessFlags := 26, slot := 5, constantValue := 0 }, { name := "negativeZeroDoubleBits", type := .long, accessFlags := 26, slot := 6, constantValue := 0 }, { name := "twoToTheDoubleScaleUp", type := .double, accessFlags := 8, slot := 7, constantValue := 0 }, { name := "twoToTheDoubleScaleDown", type := .double, accessFlags := 8, slot := 8, constantValue := 0 }, { name := "$assertionsDisabled", type := .boolean, accessFlags := 4120, slot := 9, constantValue := 0 }]
  methods := #[k22m0, k22m1, k22m2]
  instanceTypes := #[]
  staticTypes := #[.double, .double, .double, .double, .double, .long, .long, .double, .double, .boolean]
  resolved := Array.replicate 460 none
  statics := none }

def pool23 : Array CpInfo := pool [(1, .class_ 2), (0, u "java/lang/String"), (1, .class_ 6), (1, u "java/lang/Object"), (0, u "<init>"), (0, u "()V"), (0, .methodref 1 10), (0, .nameAndType 11 12), (0, u "checkIndex"), (0, u "(II)V"), (1, .class_ 16), (1, u "java/lang/StringLatin1"), (36, u "([BI)C"), (67, u "$assertionsDisabled"), (0, u "Z"), (98, .class_ 223), (1, u "java/lang/StringLatin1$LinesSpliterator"), (28, u "charAt"), (137, .class_ 391), (0, u "java/lang/StringLatin1$CharsSpliterator")] 3

def k23m0 : Method := { name := "<init>", desc := "()V", sig := { parameters := [], returnType := none }, accessFlags := 0, code := none }
def k23c1 : Code := { maxStack := 2, maxLocals := 2, code := jdk_43_method_2_code, exceptionTable := #[], attributes := #[] }
def k23m1 : Method := { name := "charAt", desc := "([BI)C", sig := { parameters := [(.array .byte), .int], returnType := some .char }, accessFlags := 9, code := some k23c1 }
/-- java/lang/StringLatin1 -/
def k23 : Class := { plain "java/lang/StringLatin1" (some 0) with
  accessFlags := 48
  interfaces := #[]
  cf := some (fileOf pool23 14 #[.nestMembers #[390, 221]] #[{ accessFlags := 0, nameIndex := 7, descriptorIndex := 8, attributes := #[] }, { accessFlags := 9, nameIndex := 252, descriptorIndex := 53, attributes := #[] }] 48 4 #[] #[{ accessFlags := 4120, nameIndex := 121, descriptorIndex := 122, attributes := #[] }])
  fields := #[{ name := "$assertionsDisabled", type := .boolean, accessFlags := 4120, slot := 0, constantValue := 0 }]
  methods := #[k23m0, k23m1]
  instanceTypes := #[]
  staticTypes := #[.boolean]
  resolved := Array.replicate 395 none
  statics := none }

def pool24 : Array CpInfo := pool [(2, .class_ 4), (1, u "java/lang/Object"), (0, u "<init>"), (0, u "()V"), (17, .class_ 26), (1, u "jdk/internal/util/Preconditions"), (6, u "checkIndex"), (21, .class_ 56), (0, u "jdk/internal/util/Preconditions$4"), (57, .class_ 115), (0, u "jdk/internal/util/Preconditions$1"), (7, u "SIOOBE_FORMATTER"), (0, u "Ljava/util/function/BiFunction;"), (0, .class_ 126), (0, u "jdk/internal/util/Preconditions$2"), (3, u "AIOOBE_FORMATTER"), (0, .class_ 132), (0, u "jdk/internal/util/Preconditions$3"), (3, u "IOOBE_FORMATTER"), (41, u "(IILjava/util/function/BiFunction;)I")] 15

def k24m0 : Method := { name := "<init>", desc := "()V", sig := { parameters := [], returnType := none }, accessFlags := 1, code := none }
def k24c1 : Code := { maxStack := 3, maxLocals := 3, code := jdk_41_method_11_code, exceptionTable := #[], attributes := #[] }
def k24m1 : Method := { name := "checkIndex", desc := "(IILjava/util/function/BiFunction;)I", sig := { parameters := [.int, .int, (.object "java/util/function/BiFunction")], returnType := some .int }, accessFlags := 9, code := some k24c1 }
/-- jdk/internal/util/Preconditions -/
def k24 : Class := { plain "jdk/internal/util/Preconditions" (some 0) with
  accessFlags := 33
  interfaces := #[]
  cf := some (fileOf pool24 24 #[.nestMembers #[55, 131, 125, 114]] #[{ accessFlags := 1, nameIndex := 5, descriptorIndex := 6, attributes := #[] }, { accessFlags := 9, nameIndex := 33, descriptorIndex := 178, attributes := #[] }] 33 2 #[] #[{ accessFlags := 25, nameIndex := 123, descriptorIndex := 124, attributes := #[] }, { accessFlags := 25, nameIndex := 130, descriptorIndex := 124, attributes := #[] }, { accessFlags := 25, nameIndex := 136, descriptorIndex := 124, attributes := #[] }])
  fields := #[{ name := "SIOOBE_FORMATTER", type := (.object "java/util/function/BiFunction"), accessFlags := 25, slot := 0, constantValue := 0 }, { name := "AIOOBE_FORMATTER", type := (.object "java/util/function/BiFunction"), accessFlags := 25, slot := 1, constantValue := 0 }, { name := "IOOBE_FORMATTER", type := (.object "java/util/function/BiFunction"), accessFlags := 25, slot := 2, constantValue := 0 }]
  methods := #[k24m0, k24m1]
  instanceTypes := #[]
  staticTypes := #[(.object "java/util/function/BiFunction"), (.object "java/util/function/BiFunction"), (.object "java/util/function/BiFunction")]
  resolved := Array.replicate 194 none
  statics := some 6 }

def pool25 : Array CpInfo := pool [(6, .class_ 8), (1, u "java/lang/Object"), (0, u "<init>"), (0, u "()V"), (1, .class_ 14), (1, u "java/lang/StringUTF16"), (31, u "$assertionsDisabled"), (0, u "Z"), (13, u "HI_BYTE_SHIFT"), (0, u "I"), (2, u "LO_BYTE_SHIFT"), (49, .methodref 12 116), (0, .nameAndType 117 118), (0, u "compress"), (0, u "([CI[BII)I"), (3, u "([CII)[B"), (138, u "coderFromArrayLen"), (0, u "([BI)B"), (106, .class_ 371), (1, u "java/lang/StringUTF16$LinesSpliterator"), (58, u "MAX_LENGTH"), (196, .class_ 628), (0, u "java/lang/StringUTF16$CodePointsSpliterator"), (0, .class_ 630), (0, u "java/lang/StringUTF16$CharsSpliterator")] 4

def k25m0 : Method := { name := "<init>", desc := "()V", sig := { parameters := [], returnType := none }, accessFlags := 0, code := none }
def k25c1 : Code := { maxStack := 2, maxLocals := 2, code := jdk_52_method_15_code, exceptionTable := #[], attributes := #[] }
def k25m1 : Method := { name := "coderFromArrayLen", desc := "([BI)B", sig := { parameters := [(.array .byte), .int], returnType := some .byte }, accessFlags := 8, code := some k25c1 }
def k25c2 : Code := { maxStack := 5, maxLocals := 6, code := jdk_52_method_16_code, exceptionTable := #[], attributes := #[] }
def k25m2 : Method := { name := "compress", desc := "([CII)[B", sig := { parameters := [(.array .char), .int, .int], returnType := some (.array .byte) }, accessFlags := 9, code := some k25c2 }
def k25c3 : Code := { maxStack := 3, maxLocals := 7, code := jdk_52_method_21_code, exceptionTable := #[], attributes := #[] }
def k25m3 : Method := { name := "compress", desc := "([CI[BII)I", sig := { parameters := [(.array .char), .int, (.array .byte), .int, .int], returnType := some .int }, accessFlags := 9, code := some k25c3 }
/-- java/lang/StringUTF16 -/
def k25 : Class := { plain "java/lang/StringUTF16" (some 0) with
  accessFlags := 48
  interfaces := #[]
  cf := some (fileOf pool25 12 #[.nestMembers #[627, 629, 369]] #[{ accessFlags := 0, nameIndex := 9, descriptorIndex := 10, attributes := #[] }, { accessFlags := 8, nameIndex := 261, descriptorIndex := 262, attributes := #[] }, { accessFlags := 9, nameIndex := 117, descriptorIndex := 122, attributes := #[] }, { accessFlags := 9, nameIndex := 117, descriptorIndex := 118, attributes := #[] }] 48 6 #[] #[{ accessFlags := 26, nameIndex := 61, descriptorIndex := 62, attributes := #[] }, { accessFlags := 26, nameIndex := 65, descriptorIndex := 62, attributes := #[] }, { accessFlags := 24, nameIndex := 430, descriptorIndex := 62, attributes := #[] }, { accessFlags := 4120, nameIndex := 46, descriptorIndex := 47, attributes := #[] }])
  fields := #[{ name := "HI_BYTE_SHIFT", type := .int, accessFlags := 26, slot := 0, constantValue := 0 }, { name := "LO_BYTE_SHIFT", type := .int, accessFlags := 26, slot := 1, constantValue := 0 }, { name := "MAX_LENGTH", type := .int, accessFlags := 24, slot := 2, constantValue := 0 }, { name := "$assertionsDisabled", type := .boolean, accessFlags := 4120, slot := 3, constantValue := 0 }]
  methods := #[k25m0, k25m1, k25m2, k25m3]
  instanceTypes := #[]
  staticTypes := #[.int, .int, .int, .boolean]
  resolved := Array.replicate 635 none
  statics := none }

def pool26 : Array CpInfo := pool [(9, u "<init>"), (6, .class_ 18), (1, u "java/lang/Object"), (0, u "()V"), (1, .class_ 23), (1, u "jdk/internal/util/ArraysSupport"), (0, u "LOG2_ARRAY_LONG_INDEX_SCALE"), (0, u "I"), (2, u "U"), (0, u "Ljdk/internal/misc/Unsafe;"), (8, u "BIG_ENDIAN"), (0, u "Z"), (8, u "LOG2_BYTE_BIT_SIZE"), (4, u "LOG2_ARRAY_INT_INDEX_SCALE"), (54, u "JLA"), (0, u "Ljdk/internal/access/JavaLangAccess;"), (11, u "LOG2_ARRAY_BOOLEAN_INDEX_SCALE"), (9, u "LOG2_ARRAY_BYTE_INDEX_SCALE"), (5, u "LOG2_ARRAY_CHAR_INDEX_SCALE"), (5, u "LOG2_ARRAY_SHORT_INDEX_SCALE"), (18, u "LOG2_ARRAY_FLOAT_INDEX_SCALE"), (24, u "LOG2_ARRAY_DOUBLE_INDEX_SCALE"), (6, .methodref 195 196), (0, .class_ 197), (0, .nameAndType 198 199), (0, u "java/lang/Math"), (0, u "max"), (0, u "(II)I"), (0, .integer 2147483639), (76, u "T_BOOLEAN"), (2, u "T_CHAR"), (1, u "T_FLOAT"), (1, u "T_DOUBLE"), (1, u "T_BYTE"), (1, u "T_SHORT"), (1, u "T_INT"), (1, u "T_LONG"), (1, u "SOFT_MAX_ARRAY_LENGTH"), (56, u "newLength"), (0, u "(III)I")] 25

def k26m0 : Method := { name := "<init>", desc := "()V", sig := { parameters := [], returnType := none }, accessFlags := 2, code := none }
def k26c1 : Code := { maxStack := 3, maxLocals := 4, code := jdk_48_method_27_code, exceptionTable := #[], attributes := #[] }
def k26m1 : Method := { name := "newLength", desc := "(III)I", sig := { parameters := [.int, .int, .int], returnType := some .int }, accessFlags := 9, code := some k26c1 }
/-- jdk/internal/util/ArraysSupport -/
def k26 : Class := { plain "jdk/internal/util/ArraysSupport" (some 0) with
  accessFlags := 33
  interfaces := #[]
  cf := some (fileOf pool26 21 #[] #[{ accessFlags := 2, nameIndex := 9, descriptorIndex := 19, attributes := #[] }, { accessFlags := 9, nameIndex := 351, descriptorIndex := 352, attributes := #[] }] 33 16 #[] #[{ accessFlags := 24, nameIndex := 28, descriptorIndex := 29, attributes := #[] }, { accessFlags := 26, nameIndex := 38, descriptorIndex := 39, attributes := #[] }, { accessFlags := 25, nameIndex := 121, descriptorIndex := 25, attributes := #[] }, { accessFlags := 25, nameIndex := 131, descriptorIndex := 25, attributes := #[] }, { accessFlags := 25, nameIndex := 137, descriptorIndex := 25, attributes := #[] }, { accessFlags := 25, nameIndex := 143, descriptorIndex := 25, attributes := #[] }, { accessFlags := 25, nameIndex := 53, descriptorIndex := 25, attributes := #[] }, { accessFlags := 25, nameIndex := 24, descriptorIndex := 25, attributes := #[] }, { accessFlags := 25, nameIndex := 162, descriptorIndex := 25, attributes := #[] }, { accessFlags := 25, nameIndex := 187, descriptorIndex := 25, attributes := #[] }, { accessFlags := 26, nameIndex := 48, descriptorIndex := 25, attributes := #[] }, { accessFlags := 25, nameIndex := 277, descriptorIndex := 25, attributes := #[] }, { accessFlags := 25, nameIndex := 280, descriptorIndex := 25, attributes := #[] }, { accessFlags := 25, nameIndex := 282, descriptorIndex := 25, attributes := #[] }, { accessFlags := 25, nameIndex := 284, descriptorIndex := 25, attributes := #[] }, { accessFlags := 25, nameIndex := 286, descriptorIndex := 25, attributes := #[] }, { accessFlags := 25, nameIndex := 288, descriptorIndex := 25, attributes := #[] }, { accessFlags := 25, nameIndex := 290, descriptorIndex := 25, attributes := #[] }, { accessFlags := 25, nameIndex := 292, descriptorIndex := 25, attributes := #[] }, { accessFlags := 26, nameIndex := 108, descriptorIndex := 109, attributes := #[] }, { accessFlags := 25, nameIndex := 294, descriptorIndex := 25, attributes := #[] }])
  fields := #[{ name := "U", type := (.object "jdk/internal/misc/Unsafe"), accessFlags := 24, slot := 0, constantValue := 0 }, { name := "BIG_ENDIAN", type := .boolean, accessFlags := 26, slot := 1, constantValue := 0 }, { name := "LOG2_ARRAY_BOOLEAN_INDEX_SCALE", type := .int, accessFlags := 25, slot := 2, constantValue := 0 }, { name := "LOG2_ARRAY_BYTE_INDEX_SCALE", type := .int, accessFlags := 25, slot := 3, constantValue := 0 }, { name := "LOG2_ARRAY_CHAR_INDEX_SCALE", type := .int, accessFlags := 25, slot := 4, constantValue := 0 }, { name := "LOG2_ARRAY_SHORT_INDEX_SCALE", type := .int, accessFlags := 25, slot := 5, constantValue := 0 }, { name := "LOG2_ARRAY_INT_INDEX_SCALE", type := .int, accessFlags := 25, slot := 6, constantValue := 0 }, { name := "LOG2_ARRAY_LONG_INDEX_SCALE", type := .int, accessFlags := 25, slot := 7, constantValue := 0 }, { name := "LOG2_ARRAY_FLOAT_INDEX_SCALE", type := .int, accessFlags := 25, slot := 8, constantValue := 0 }, { name := "LOG2_ARRAY_DOUBLE_INDEX_SCALE", type := .int, accessFlags := 25, slot := 9, constantValue := 0 }, { name := "LOG2_BYTE_BIT_SIZE", type := .int, accessFlags := 26, slot := 10, constantValue := 0 }, { name := "T_BOOLEAN", type := .int, accessFlags := 25, slot := 11, constantValue := 0 }, { name := "T_CHAR", type := .int, accessFlags := 25, slot := 12, constantValue := 0 }, { name := "T_FLOAT", type := .int, accessFlags := 25, slot := 13, constantValue := 0 }, { name := "T_DOUBLE", type := .int, accessFlags := 25, slot := 14, constantValue := 0 }, { name := "T_BYTE", type := .int, accessFlags := 25, slot := 15, constantValue := 0 }, { name := "T_SHORT", type := .int, accessFlags := 25, slot := 16, constantValue := 0 }, { name := "T_INT", type := .int, accessFlags := 25, slot := 17, constantValue := 0 }, { name := "T_LONG", type := .int, accessFlags := 25, slot := 18, constantValue := 0 }, { name := "JLA", type := (.object "jdk/internal/access/JavaLangAccess"), accessFlags := 26, slot := 19, constantValue := 0 }, { name := "SOFT_MAX_ARRAY_LENGTH", type := .int, accessFlags := 25, slot := 20, constantValue := 0 }]
  methods := #[k26m0, k26m1]
  instanceTypes := #[]
  staticTypes := #[(.object "jdk/internal/misc/Unsafe"), .boolean, .int, .int, .int, .int, .int, .int, .int, .int, .int, .int, .int, .int, .int, .int, .int, .int, .int, (.object "jdk/internal/access/JavaLangAccess"), .int]
  resolved := Array.replicate 378 none
  statics := none }

def pool27 : Array CpInfo := pool [(1, .class_ 2), (0, u "java/lang/Cloneable"), (0, .class_ 4), (0, u "java/lang/Object")] 2

/-- java/lang/Cloneable -/
def k27 : Class := { plain "java/lang/Cloneable" (some 0) with
  accessFlags := 1537
  interfaces := #[]
  cf := some (fileOf pool27 1 #[] #[] 1537 3 #[] #[])
  fields := #[]
  methods := #[]
  instanceTypes := #[]
  staticTypes := #[]
  resolved := Array.replicate 7 none
  statics := none }

def pool28 : Array CpInfo := pool [(2, .class_ 4), (1, u "java/lang/Object"), (0, u "<init>"), (0, u "()V"), (1, .class_ 10), (1, u "java/util/AbstractMap"), (42, .class_ 54), (0, u "java/util/Map"), (9, u "keySet"), (0, u "Ljava/util/Set;"), (0, .class_ 67), (0, u "java/util/AbstractMap$1"), (5, u "values"), (0, u "Ljava/util/Collection;"), (0, .class_ 76), (0, u "java/util/AbstractMap$2"), (104, .class_ 182), (0, u "java/util/AbstractMap$ViewCollection"), (0, .class_ 184), (0, u "java/util/AbstractMap$SimpleImmutableEntry"), (0, .class_ 186), (0, u "java/util/AbstractMap$SimpleEntry"), (0, .class_ 188), (0, u "java/util/AbstractMap$2$1"), (0, .class_ 190), (0, u "java/util/AbstractMap$1$1")] 5

def k28m0 : Method := { name := "<init>", desc := "()V", sig := { parameters := [], returnType := none }, accessFlags := 4, code := none }
/-- java/util/AbstractMap -/
def k28 : Class := { plain "java/util/AbstractMap" (some 0) with
  accessFlags := 1057
  interfaces := #[14]
  cf := some (fileOf pool28 8 #[.nestMembers #[181, 183, 185, 75, 187, 66, 189]] #[{ accessFlags := 4, nameIndex := 5, descriptorIndex := 6, attributes := #[] }] 1057 2 #[53] #[{ accessFlags := 128, nameIndex := 64, descriptorIndex := 65, attributes := #[] }, { accessFlags := 128, nameIndex := 73, descriptorIndex := 74, attributes := #[] }])
  fields := #[{ name := "keySet", type := (.object "java/util/Set"), accessFlags := 128, slot := 0, constantValue := 0 }, { name := "values", type := (.object "java/util/Collection"), accessFlags := 128, slot := 1, constantValue := 0 }]
  methods := #[k28m0]
  instanceTypes := #[(.object "java/util/Set"), (.object "java/util/Collection")]
  staticTypes := #[]
  resolved := Array.replicate 196 none
  statics := none }

def pool29 : Array CpInfo := pool [(2, .class_ 4), (1, u "java/util/AbstractMap"), (0, u "<init>"), (0, u "()V"), (1, .class_ 10), (1, u "java/util/ImmutableCollections"), (3, .class_ 16), (1, u "java/util/ImmutableCollections$AbstractImmutableMap"), (2, .class_ 20), (0, u "java/io/Serializable")] 66

def k29m0 : Method := { name := "<init>", desc := "()V", sig := { parameters := [], returnType := none }, accessFlags := 0, code := none }
/-- java/util/ImmutableCollections$AbstractImmutableMap -/
def k29 : Class := { plain "java/util/ImmutableCollections$AbstractImmutableMap" (some 28) with
  accessFlags := 1056
  interfaces := #[2]
  cf := some (fileOf pool29 14 #[.nestHost 8] #[{ accessFlags := 0, nameIndex := 5, descriptorIndex := 6, attributes := #[] }] 1056 2 #[19] #[])
  fields := #[]
  methods := #[k29m0]
  instanceTypes := #[(.object "java/util/Set"), (.object "java/util/Collection")]
  staticTypes := #[]
  resolved := Array.replicate 87 none
  statics := none }

def pool30 : Array CpInfo := pool [(1, .class_ 2), (0, u "java/util/ImmutableCollections"), (1, .class_ 6), (1, u "java/util/ImmutableCollections$AbstractImmutableMap"), (10, .class_ 19), (1, u "java/util/ImmutableCollections$MapN"), (0, u "size"), (0, u "I"), (4, u "table"), (0, u "[Ljava/lang/Object;")] 121

/-- java/util/ImmutableCollections$MapN -/
def k30 : Class := { plain "java/util/ImmutableCollections$MapN" (some 29) with
  accessFlags := 48
  interfaces := #[]
  cf := some (fileOf pool30 17 #[.nestHost 1] #[] 48 4 #[] #[{ accessFlags := 16, nameIndex := 26, descriptorIndex := 27, attributes := #[] }, { accessFlags := 16, nameIndex := 20, descriptorIndex := 21, attributes := #[] }])
  fields := #[{ name := "table", type := (.array (.object "java/lang/Object")), accessFlags := 16, slot := 2, constantValue := 0 }, { name := "size", type := .int, accessFlags := 16, slot := 3, constantValue := 0 }]
  methods := #[]
  instanceTypes := #[(.object "java/util/Set"), (.object "java/util/Collection"), (.array (.object "java/lang/Object")), .int]
  staticTypes := #[]
  resolved := Array.replicate 149 none
  statics := none }

/-- the primitive byte -/
def k31 : Class := { plain "byte" none with kind := .primitive 'B', accessFlags := 0x411 }
/-- [B -/
def k32 : Class := { plain "[B" (some 0) with kind := .array 31 .byte, interfaces := #[27, 2], accessFlags := 1041 }

/-- the primitive char -/
def k33 : Class := { plain "char" none with kind := .primitive 'C', accessFlags := 0x411 }
/-- [C -/
def k34 : Class := { plain "[C" (some 0) with kind := .array 33 .char, interfaces := #[27, 2], accessFlags := 1041 }

/-- the primitive int -/
def k35 : Class := { plain "int" none with kind := .primitive 'I', accessFlags := 0x411 }
/-- [I -/
def k36 : Class := { plain "[I" (some 0) with kind := .array 35 .int, interfaces := #[27, 2], accessFlags := 1041 }

/-- [Ljava/lang/Object; -/
def k37 : Class := { plain "[Ljava/lang/Object;" (some 0) with kind := .array 0 (.object "java/lang/Object"), interfaces := #[27, 2], accessFlags := 1041 }

def heap : Heap := #[{ cls := 7, slots := #[.long 0, .int 1, .null, .int 0, .null, .int 0, .int 0], vm := .statics 7 },
  { cls := 8, slots := #[.ref 13], vm := .statics 8 },
  { cls := 11, slots := #[.ref 10, .null, .null, .null, .null, .null, .null, .null], vm := .statics 11 },
  { cls := 12, slots := #[.ref 11, .null, .null, .null, .null, .null], vm := .statics 12 },
  { cls := 13, slots := #[.ref 8], vm := .statics 13 },
  { cls := 15, slots := #[.long 0, .int 0, .null, .null, .null, .null, .null, .ref 9, .int 0, .int 0], vm := .statics 15 },
  { cls := 24, slots := #[.null, .null, .null], vm := .statics 24 },
  { cls := 37, slots := #[], vm := .none },
  { cls := 13, slots := #[.int 0, .int 0], vm := .none },
  { cls := 30, slots := #[.null, .null, .ref 7, .int 0], vm := .none },
  { cls := 11, slots := #[.null, .int 0, .int 0], vm := .none },
  { cls := 12, slots := #[.null, .int 0, .int 0, .ref 8], vm := .none },
  { cls := 9, slots := #[.null, .ref 10, .ref 11, .int 0, .ref 8, .ref 9], vm := .none },
  { cls := 8, slots := #[.ref 12], vm := .none }]
def classes : Array Class := #[k0, k1, k2, k3, k4, k5, k6, k7, k8, k9, k10, k11, k12, k13, k14, k15, k16, k17, k18, k19, k20, k21, k22, k23, k24, k25, k26, k27, k28, k29, k30, k31, k32, k33, k34, k35, k36, k37]
def interned : List (Array UInt16 × Addr) := []
def slotsUsed : Nat := 56
def theMethod : MethodId := ⟨1, 2⟩
def args0 : Array Value := #[.int 3, .int 65, .int 66, .int 67, .int 68]
def aboutOver (below : List Frame) : State where
  vm := { classes := classes, interned := interned.toArray }
  heap := heap
  slotsUsed := slotsUsed
  threads := #[{ frames := .invoking theMethod args0 :: below }]
def below0 : List Frame := [.native { method := ⟨0, 0⟩, args := #[] }]
def about1 : State := aboutOver below0
def p0 : Program := .bare "" "" ""
def e0 : Env := launch0.env 0 0 0
theorem w_frames : about1.frames = Frame.invoking theMethod args0 :: below0 := rfl
set_option maxRecDepth 65536 in
theorem w_args : argsFit about1.vm theMethod args0 = true := by decide +kernel
set_option maxRecDepth 65536 in
theorem w_heap : heapFits about1 = true := by decide +kernel
set_option maxRecDepth 65536 in
theorem w_runnable : about1.curStatus? = some .runnable := by decide +kernel
set_option maxRecDepth 65536 in
theorem w_alone : about1.alone = true := by decide +kernel
set_option maxRecDepth 65536 in
theorem w_named : about1.methodNamed? x = some theMethod := by decide +kernel
set_option maxRecDepth 65536 in
theorem w_hears : about1.hears theMethod below0 = true := by decide +kernel
set_option maxRecDepth 65536 in
theorem w_ripe : about1.ripe theMethod args0 below0 = true := by decide +kernel
theorem w_running : about1.status = .running := rfl
set_option maxRecDepth 65536 in
theorem w_room : about1.hasRoom e0.platform room_1 = true :=
  launch0.hasRoom_least _ room_1 (by decide +kernel) (by decide +kernel) (by decide +kernel) (by decide +kernel) (by decide +kernel) (by decide +kernel)
theorem allAtoms_all (ts : List Jvm.Cond) (a : Array Jvm.Value) (st : Jvm.State) : (allAtoms ts).before a st = ts.all (fun c => c.before a st) := by
  induction ts with
  | nil => rfl
  | cons c t ih =>
    show (Jvm.Cond.and c (allAtoms t)).before a st = _
    rw [Jvm.Cond.before_and, ih, List.all_cons]
def words1 : List Jvm.Cond := Jvm.Cond.code x code maxLocals ret :: tables_1
/-- a 'code' word, met by the world's own term for the bytes: nothing is compared byte by byte -/
theorem code_word {y : MethodName} {bytes : ByteArray} {mx : Nat} {rt : Option FieldType} {a : Array Value} {s : State} {m : MethodId} {meth : Method} {c : Code} (h1 : s.methodNamed? y = some m) (h2 : s.vm.method? m = some meth) (h3 : meth.code = some c) (h4 : c.code = bytes)
    (h5 : (c.maxLocals == mx && c.exceptionTable.isEmpty && decide (c.maxStack ≤ mostOperands) && decide (meth.sig.returnType = rt) && !meth.locks && decide (parseMethodDescriptor y.desc = some meth.sig)) = true) : (Jvm.Cond.code y bytes mx rt).before a s = true := by
  simp only [Bool.and_eq_true, beq_iff_eq, Bool.not_eq_true', decide_eq_true_eq] at h5
  obtain ⟨⟨⟨⟨⟨g1, g2⟩, g3⟩, g4⟩, g5⟩, g6⟩ := h5
  simp [Cond.before, Cond.holds, Cond.value, h1, h2, h3, h4, g1, g2, g3, g4, g5, g6]
def isCode : Jvm.Cond → Bool
  | .code _ _ _ _ => true
  | _ => false
theorem all_split {L : List Jvm.Cond} {P : Jvm.Cond → Bool} (h1 : L.all (fun c => isCode c || P c) = true) (h2 : ∀ c ∈ L.filter isCode, P c = true) : L.all P = true := by
  refine List.all_eq_true.mpr fun c hc => ?_
  have h := List.all_eq_true.mp h1 c hc
  rcases Bool.eq_false_or_eq_true (isCode c) with hi | hi
  · exact h2 c (List.mem_filter.mpr ⟨hc, hi⟩)
  · simpa [hi] using h
set_option maxRecDepth 65536 in
theorem w_c0 : (Jvm.Cond.code x code maxLocals ret).before args0 about1 = true := code_word (m := ⟨1, 2⟩) (meth := k1m2) (c := k1c2) (by decide +kernel) rfl rfl rfl (by decide +kernel)
set_option maxRecDepth 65536 in
theorem w_c1 : (Jvm.Cond.code ({ cls := "com/example/enlist/enlist/definition/TransactionDefinitionNamedPinLaw", name := "make", desc := "(ICCCC)Ljava/lang/String;" } : Jvm.MethodName) method_2_code (5 : Nat) (Option.some (Jvm.ClassFile.FieldType.object "java/lang/String"))).before args0 about1 = true := code_word (m := ⟨1, 1⟩) (meth := k1m1) (c := k1c1) (by decide +kernel) rfl rfl rfl (by decide +kernel)
set_option maxRecDepth 65536 in
theorem w_c2 : (Jvm.Cond.code ({ cls := "java/lang/String", name := "<init>", desc := "([C)V" } : Jvm.MethodName) jdk_42_method_3_code (2 : Nat) (Option.none : Option Jvm.ClassFile.FieldType)).before args0 about1 = true := code_word (m := ⟨7, 1⟩) (meth := k7m1) (c := k7c1) (by decide +kernel) rfl rfl rfl (by decide +kernel)
set_option maxRecDepth 65536 in
theorem w_c3 : (Jvm.Cond.code ({ cls := "java/lang/String", name := "<init>", desc := "([CIILjava/lang/Void;)V" } : Jvm.MethodName) jdk_42_method_149_code (6 : Nat) (Option.none : Option Jvm.ClassFile.FieldType)).before args0 about1 = true := code_word (m := ⟨7, 8⟩) (meth := k7m8) (c := k7c8) (by decide +kernel) rfl rfl rfl (by decide +kernel)
set_option maxRecDepth 65536 in
theorem w_c4 : (Jvm.Cond.code ({ cls := "java/lang/Object", name := "<init>", desc := "()V" } : Jvm.MethodName) object_method_1_code (1 : Nat) (Option.none : Option Jvm.ClassFile.FieldType)).before args0 about1 = true := code_word (m := ⟨0, 0⟩) (meth := k0m0) (c := k0c0) (by decide +kernel) rfl rfl rfl (by decide +kernel)
set_option maxRecDepth 65536 in
theorem w_c5 : (Jvm.Cond.code ({ cls := "com/example/enlist/enlist/definition/TransactionDefinition", name := "named", desc := "(Ljava/lang/String;)Lcom/example/enlist/enlist/definition/TransactionDefinition;" } : Jvm.MethodName) prog_7_method_2_code (2 : Nat) (Option.some (Jvm.ClassFile.FieldType.object "com/example/enlist/enlist/definition/TransactionDefinition"))).before args0 about1 = true := code_word (m := ⟨8, 1⟩) (meth := k8m1) (c := k8c1) (by decide +kernel) rfl rfl rfl (by decide +kernel)
set_option maxRecDepth 65536 in
theorem w_c6 : (Jvm.Cond.code ({ cls := "com/example/enlist/enlist/definition/TransactionDefinition$Settings", name := "copy", desc := "()Lcom/example/enlist/enlist/definition/TransactionDefinition$Settings;" } : Jvm.MethodName) prog_8_method_2_code (2 : Nat) (Option.some (Jvm.ClassFile.FieldType.object "com/example/enlist/enlist/definition/TransactionDefinition$Settings"))).before args0 about1 = true := code_word (m := ⟨9, 1⟩) (meth := k9m1) (c := k9c1) (by decide +kernel) rfl rfl rfl (by decide +kernel)
set_option maxRecDepth 65536 in
theorem w_c7 : (Jvm.Cond.code ({ cls := "com/example/enlist/enlist/definition/TransactionDefinition$Settings", name := "<init>", desc := "()V" } : Jvm.MethodName) prog_8_method_1_code (1 : Nat) (Option.none : Option Jvm.ClassFile.FieldType)).before args0 about1 = true := code_word (m := ⟨9, 0⟩) (meth := k9m0) (c := k9c0) (by decide +kernel) rfl rfl rfl (by decide +kernel)
set_option maxRecDepth 65536 in
theorem w_c8 : (Jvm.Cond.code ({ cls := "java/util/OptionalInt", name := "empty", desc := "()Ljava/util/OptionalInt;" } : Jvm.MethodName) jdk_2649_method_2_code (0 : Nat) (Option.some (Jvm.ClassFile.FieldType.object "java/util/OptionalInt"))).before args0 about1 = true := code_word (m := ⟨13, 1⟩) (meth := k13m1) (c := k13c1) (by decide +kernel) rfl rfl rfl (by decide +kernel)
set_option maxRecDepth 65536 in
theorem w_c9 : (Jvm.Cond.code ({ cls := "java/util/Map", name := "of", desc := "()Ljava/util/Map;" } : Jvm.MethodName) jdk_72_method_26_code (0 : Nat) (Option.some (Jvm.ClassFile.FieldType.object "java/util/Map"))).before args0 about1 = true := code_word (m := ⟨14, 0⟩) (meth := k14m0) (c := k14c0) (by decide +kernel) rfl rfl rfl (by decide +kernel)
set_option maxRecDepth 65536 in
theorem w_c10 : (Jvm.Cond.code ({ cls := "java/util/Objects", name := "requireNonNull", desc := "(Ljava/lang/Object;Ljava/lang/String;)Ljava/lang/Object;" } : Jvm.MethodName) jdk_31_method_11_code (2 : Nat) (Option.some (Jvm.ClassFile.FieldType.object "java/lang/Object"))).before args0 about1 = true := code_word (m := ⟨16, 1⟩) (meth := k16m1) (c := k16c1) (by decide +kernel) rfl rfl rfl (by decide +kernel)
set_option maxRecDepth 65536 in
theorem w_c11 : (Jvm.Cond.code ({ cls := "com/example/enlist/enlist/definition/TransactionDefinition", name := "<init>", desc := "(Lcom/example/enlist/enlist/definition/TransactionDefinition$Settings;)V" } : Jvm.MethodName) prog_7_method_1_code (2 : Nat) (Option.none : Option Jvm.ClassFile.FieldType)).before args0 about1 = true := code_word (m := ⟨8, 0⟩) (meth := k8m0) (c := k8c0) (by decide +kernel) rfl rfl rfl (by decide +kernel)
set_option maxRecDepth 65536 in
theorem w_c12 : (Jvm.Cond.code ({ cls := "com/example/enlist/enlist/definition/TransactionDefinition", name := "name", desc := "()Ljava/lang/String;" } : Jvm.MethodName) prog_7_method_11_code (1 : Nat) (Option.some (Jvm.ClassFile.FieldType.object "java/lang/String"))).before args0 about1 = true := code_word (m := ⟨8, 2⟩) (meth := k8m2) (c := k8c2) (by decide +kernel) rfl rfl rfl (by decide +kernel)
set_option maxRecDepth 65536 in
theorem w_c13 : (Jvm.Cond.code ({ cls := "java/lang/String", name := "equals", desc := "(Ljava/lang/Object;)Z" } : Jvm.MethodName) jdk_42_method_66_code (3 : Nat) (Option.some Jvm.ClassFile.FieldType.boolean)).before args0 about1 = true := code_word (m := ⟨7, 6⟩) (meth := k7m6) (c := k7c6) (by decide +kernel) rfl rfl rfl (by decide +kernel)
set_option maxRecDepth 65536 in
theorem w_c14 : (Jvm.Cond.code ({ cls := "com/example/enlist/enlist/definition/TransactionDefinition", name := "propagation", desc := "()Lcom/example/enlist/enlist/definition/Propagation;" } : Jvm.MethodName) prog_7_method_12_code (1 : Nat) (Option.some (Jvm.ClassFile.FieldType.object "com/example/enlist/enlist/definition/Propagation"))).before args0 about1 = true := code_word (m := ⟨8, 3⟩) (meth := k8m3) (c := k8c3) (by decide +kernel) rfl rfl rfl (by decide +kernel)
set_option maxRecDepth 65536 in
theorem w_c15 : (Jvm.Cond.code ({ cls := "com/example/enlist/enlist/definition/TransactionDefinition", name := "isolation", desc := "()Lcom/example/enlist/enlist/definition/Isolation;" } : Jvm.MethodName) prog_7_method_13_code (1 : Nat) (Option.some (Jvm.ClassFile.FieldType.object "com/example/enlist/enlist/definition/Isolation"))).before args0 about1 = true := code_word (m := ⟨8, 4⟩) (meth := k8m4) (c := k8c4) (by decide +kernel) rfl rfl rfl (by decide +kernel)
set_option maxRecDepth 65536 in
theorem w_c16 : (Jvm.Cond.code ({ cls := "com/example/enlist/enlist/definition/TransactionDefinition", name := "readOnly", desc := "()Z" } : Jvm.MethodName) prog_7_method_14_code (1 : Nat) (Option.some Jvm.ClassFile.FieldType.boolean)).before args0 about1 = true := code_word (m := ⟨8, 5⟩) (meth := k8m5) (c := k8c5) (by decide +kernel) rfl rfl rfl (by decide +kernel)
set_option maxRecDepth 65536 in
theorem w_c17 : (Jvm.Cond.code ({ cls := "com/example/enlist/enlist/definition/TransactionDefinition", name := "timeout", desc := "()Ljava/util/OptionalInt;" } : Jvm.MethodName) prog_7_method_15_code (1 : Nat) (Option.some (Jvm.ClassFile.FieldType.object "java/util/OptionalInt"))).before args0 about1 = true := code_word (m := ⟨8, 6⟩) (meth := k8m6) (c := k8c6) (by decide +kernel) rfl rfl rfl (by decide +kernel)
set_option maxRecDepth 65536 in
theorem w_c18 : (Jvm.Cond.code ({ cls := "com/example/enlist/enlist/definition/TransactionDefinition", name := "toString", desc := "()Ljava/lang/String;" } : Jvm.MethodName) prog_7_method_17_code (1 : Nat) (Option.some (Jvm.ClassFile.FieldType.object "java/lang/String"))).before args0 about1 = true := code_word (m := ⟨8, 7⟩) (meth := k8m7) (c := k8c7) (by decide +kernel) rfl rfl rfl (by decide +kernel)
set_option maxRecDepth 65536 in
theorem w_c19 : (Jvm.Cond.code ({ cls := "java/lang/StringBuilder", name := "<init>", desc := "()V" } : Jvm.MethodName) jdk_67_method_1_code (1 : Nat) (Option.none : Option Jvm.ClassFile.FieldType)).before args0 about1 = true := code_word (m := ⟨19, 0⟩) (meth := k19m0) (c := k19c0) (by decide +kernel) rfl rfl rfl (by decide +kernel)
set_option maxRecDepth 65536 in
theorem w_c20 : (Jvm.Cond.code ({ cls := "java/lang/AbstractStringBuilder", name := "<init>", desc := "(I)V" } : Jvm.MethodName) jdk_68_method_2_code (2 : Nat) (Option.none : Option Jvm.ClassFile.FieldType)).before args0 about1 = true := code_word (m := ⟨18, 1⟩) (meth := k18m1) (c := k18c1) (by decide +kernel) rfl rfl rfl (by decide +kernel)
set_option maxRecDepth 65536 in
theorem w_c21 : (Jvm.Cond.code ({ cls := "java/lang/StringBuilder", name := "append", desc := "(Ljava/lang/String;)Ljava/lang/StringBuilder;" } : Jvm.MethodName) jdk_67_method_7_code (2 : Nat) (Option.some (Jvm.ClassFile.FieldType.object "java/lang/StringBuilder"))).before args0 about1 = true := code_word (m := ⟨19, 1⟩) (meth := k19m1) (c := k19c1) (by decide +kernel) rfl rfl rfl (by decide +kernel)
set_option maxRecDepth 65536 in
theorem w_c22 : (Jvm.Cond.code ({ cls := "java/lang/AbstractStringBuilder", name := "append", desc := "(Ljava/lang/String;)Ljava/lang/AbstractStringBuilder;" } : Jvm.MethodName) jdk_68_method_22_code (3 : Nat) (Option.some (Jvm.ClassFile.FieldType.object "java/lang/AbstractStringBuilder"))).before args0 about1 = true := code_word (m := ⟨18, 5⟩) (meth := k18m5) (c := k18c5) (by decide +kernel) rfl rfl rfl (by decide +kernel)
set_option maxRecDepth 65536 in
theorem w_c23 : (Jvm.Cond.code ({ cls := "java/lang/String", name := "length", desc := "()I" } : Jvm.MethodName) jdk_42_method_54_code (1 : Nat) (Option.some Jvm.ClassFile.FieldType.int)).before args0 about1 = true := code_word (m := ⟨7, 3⟩) (meth := k7m3) (c := k7c3) (by decide +kernel) rfl rfl rfl (by decide +kernel)
set_option maxRecDepth 65536 in
theorem w_c24 : (Jvm.Cond.code ({ cls := "java/lang/String", name := "coder", desc := "()B" } : Jvm.MethodName) jdk_42_method_152_code (1 : Nat) (Option.some Jvm.ClassFile.FieldType.byte)).before args0 about1 = true := code_word (m := ⟨7, 10⟩) (meth := k7m10) (c := k7c10) (by decide +kernel) rfl rfl rfl (by decide +kernel)
set_option maxRecDepth 65536 in
theorem w_c25 : (Jvm.Cond.code ({ cls := "java/lang/AbstractStringBuilder", name := "ensureCapacityInternal", desc := "(I)V" } : Jvm.MethodName) jdk_68_method_9_code (3 : Nat) (Option.none : Option Jvm.ClassFile.FieldType)).before args0 about1 = true := code_word (m := ⟨18, 3⟩) (meth := k18m3) (c := k18c3) (by decide +kernel) rfl rfl rfl (by decide +kernel)
set_option maxRecDepth 65536 in
theorem w_c26 : (Jvm.Cond.code ({ cls := "java/lang/AbstractStringBuilder", name := "putStringAt", desc := "(ILjava/lang/String;)V" } : Jvm.MethodName) jdk_68_method_73_code (3 : Nat) (Option.none : Option Jvm.ClassFile.FieldType)).before args0 about1 = true := code_word (m := ⟨18, 9⟩) (meth := k18m9) (c := k18c9) (by decide +kernel) rfl rfl rfl (by decide +kernel)
set_option maxRecDepth 65536 in
theorem w_c27 : (Jvm.Cond.code ({ cls := "java/lang/AbstractStringBuilder", name := "inflateIfNeededFor", desc := "(Ljava/lang/String;)V" } : Jvm.MethodName) jdk_68_method_71_code (2 : Nat) (Option.none : Option Jvm.ClassFile.FieldType)).before args0 about1 = true := code_word (m := ⟨18, 8⟩) (meth := k18m8) (c := k18c8) (by decide +kernel) rfl rfl rfl (by decide +kernel)
set_option maxRecDepth 65536 in
theorem w_c28 : (Jvm.Cond.code ({ cls := "java/lang/String", name := "getBytes", desc := "([BIB)V" } : Jvm.MethodName) jdk_42_method_147_code (4 : Nat) (Option.none : Option Jvm.ClassFile.FieldType)).before args0 about1 = true := code_word (m := ⟨7, 7⟩) (meth := k7m7) (c := k7c7) (by decide +kernel) rfl rfl rfl (by decide +kernel)
set_option maxRecDepth 65536 in
theorem w_c29 : (Jvm.Cond.code ({ cls := "java/lang/StringBuilder", name := "toString", desc := "()Ljava/lang/String;" } : Jvm.MethodName) jdk_67_method_42_code (1 : Nat) (Option.some (Jvm.ClassFile.FieldType.object "java/lang/String"))).before args0 about1 = true := code_word (m := ⟨19, 2⟩) (meth := k19m2) (c := k19c2) (by decide +kernel) rfl rfl rfl (by decide +kernel)
set_option maxRecDepth 65536 in
theorem w_c30 : (Jvm.Cond.code ({ cls := "java/lang/String", name := "<init>", desc := "(Ljava/lang/StringBuilder;)V" } : Jvm.MethodName) jdk_42_method_53_code (2 : Nat) (Option.none : Option Jvm.ClassFile.FieldType)).before args0 about1 = true := code_word (m := ⟨7, 2⟩) (meth := k7m2) (c := k7c2) (by decide +kernel) rfl rfl rfl (by decide +kernel)
set_option maxRecDepth 65536 in
theorem w_c31 : (Jvm.Cond.code ({ cls := "java/lang/String", name := "<init>", desc := "(Ljava/lang/AbstractStringBuilder;Ljava/lang/Void;)V" } : Jvm.MethodName) jdk_42_method_150_code (5 : Nat) (Option.none : Option Jvm.ClassFile.FieldType)).before args0 about1 = true := code_word (m := ⟨7, 9⟩) (meth := k7m9) (c := k7c9) (by decide +kernel) rfl rfl rfl (by decide +kernel)
set_option maxRecDepth 65536 in
theorem w_c32 : (Jvm.Cond.code ({ cls := "java/lang/AbstractStringBuilder", name := "getValue", desc := "()[B" } : Jvm.MethodName) jdk_68_method_64_code (1 : Nat) (Option.some (Jvm.ClassFile.FieldType.array Jvm.ClassFile.FieldType.byte))).before args0 about1 = true := code_word (m := ⟨18, 6⟩) (meth := k18m6) (c := k18c6) (by decide +kernel) rfl rfl rfl (by decide +kernel)
set_option maxRecDepth 65536 in
theorem w_c33 : (Jvm.Cond.code ({ cls := "java/lang/StringBuilder", name := "length", desc := "()I" } : Jvm.MethodName) jdk_67_method_93_code (1 : Nat) (Option.some Jvm.ClassFile.FieldType.int)).before args0 about1 = true := code_word (m := ⟨19, 3⟩) (meth := k19m3) (c := k19c3) (by decide +kernel) rfl rfl rfl (by decide +kernel)
set_option maxRecDepth 65536 in
theorem w_c34 : (Jvm.Cond.code ({ cls := "java/lang/AbstractStringBuilder", name := "length", desc := "()I" } : Jvm.MethodName) jdk_68_method_6_code (1 : Nat) (Option.some Jvm.ClassFile.FieldType.int)).before args0 about1 = true := code_word (m := ⟨18, 2⟩) (meth := k18m2) (c := k18c2) (by decide +kernel) rfl rfl rfl (by decide +kernel)
set_option maxRecDepth 65536 in
theorem w_c35 : (Jvm.Cond.code ({ cls := "java/lang/AbstractStringBuilder", name := "isLatin1", desc := "()Z" } : Jvm.MethodName) jdk_68_method_68_code (1 : Nat) (Option.some Jvm.ClassFile.FieldType.boolean)).before args0 about1 = true := code_word (m := ⟨18, 7⟩) (meth := k18m7) (c := k18c7) (by decide +kernel) rfl rfl rfl (by decide +kernel)
set_option maxRecDepth 65536 in
theorem w_c36 : (Jvm.Cond.code ({ cls := "java/util/Arrays", name := "copyOfRange", desc := "([BII)[B" } : Jvm.MethodName) jdk_65_method_132_code (3 : Nat) (Option.some (Jvm.ClassFile.FieldType.array Jvm.ClassFile.FieldType.byte))).before args0 about1 = true := code_word (m := ⟨21, 3⟩) (meth := k21m3) (c := k21c3) (by decide +kernel) rfl rfl rfl (by decide +kernel)
set_option maxRecDepth 65536 in
theorem w_c37 : (Jvm.Cond.code ({ cls := "java/util/Arrays", name := "copyOfRangeByte", desc := "([BII)[B" } : Jvm.MethodName) jdk_65_method_133_code (5 : Nat) (Option.some (Jvm.ClassFile.FieldType.array Jvm.ClassFile.FieldType.byte))).before args0 about1 = true := code_word (m := ⟨21, 4⟩) (meth := k21m4) (c := k21c4) (by decide +kernel) rfl rfl rfl (by decide +kernel)
set_option maxRecDepth 65536 in
theorem w_c38 : (Jvm.Cond.code ({ cls := "java/util/Arrays", name := "checkLength", desc := "(II)V" } : Jvm.MethodName) jdk_65_method_131_code (2 : Nat) (Option.none : Option Jvm.ClassFile.FieldType)).before args0 about1 = true := code_word (m := ⟨21, 2⟩) (meth := k21m2) (c := k21c2) (by decide +kernel) rfl rfl rfl (by decide +kernel)
set_option maxRecDepth 65536 in
theorem w_c39 : (Jvm.Cond.code ({ cls := "java/lang/Math", name := "min", desc := "(II)I" } : Jvm.MethodName) jdk_29_method_69_code (2 : Nat) (Option.some Jvm.ClassFile.FieldType.int)).before args0 about1 = true := code_word (m := ⟨22, 2⟩) (meth := k22m2) (c := k22c2) (by decide +kernel) rfl rfl rfl (by decide +kernel)
set_option maxRecDepth 65536 in
theorem w_c40 : (Jvm.Cond.code ({ cls := "java/lang/String", name := "charAt", desc := "(I)C" } : Jvm.MethodName) jdk_42_method_56_code (2 : Nat) (Option.some Jvm.ClassFile.FieldType.char)).before args0 about1 = true := code_word (m := ⟨7, 5⟩) (meth := k7m5) (c := k7c5) (by decide +kernel) rfl rfl rfl (by decide +kernel)
set_option maxRecDepth 65536 in
theorem w_c41 : (Jvm.Cond.code ({ cls := "java/lang/String", name := "isLatin1", desc := "()Z" } : Jvm.MethodName) jdk_42_method_154_code (1 : Nat) (Option.some Jvm.ClassFile.FieldType.boolean)).before args0 about1 = true := code_word (m := ⟨7, 11⟩) (meth := k7m11) (c := k7c11) (by decide +kernel) rfl rfl rfl (by decide +kernel)
set_option maxRecDepth 65536 in
theorem w_c42 : (Jvm.Cond.code ({ cls := "java/lang/StringLatin1", name := "charAt", desc := "([BI)C" } : Jvm.MethodName) jdk_43_method_2_code (2 : Nat) (Option.some Jvm.ClassFile.FieldType.char)).before args0 about1 = true := code_word (m := ⟨23, 1⟩) (meth := k23m1) (c := k23c1) (by decide +kernel) rfl rfl rfl (by decide +kernel)
set_option maxRecDepth 65536 in
theorem w_c43 : (Jvm.Cond.code ({ cls := "java/lang/String", name := "checkIndex", desc := "(II)V" } : Jvm.MethodName) jdk_42_method_155_code (2 : Nat) (Option.none : Option Jvm.ClassFile.FieldType)).before args0 about1 = true := code_word (m := ⟨7, 12⟩) (meth := k7m12) (c := k7c12) (by decide +kernel) rfl rfl rfl (by decide +kernel)
set_option maxRecDepth 65536 in
theorem w_c44 : (Jvm.Cond.code ({ cls := "jdk/internal/util/Preconditions", name := "checkIndex", desc := "(IILjava/util/function/BiFunction;)I" } : Jvm.MethodName) jdk_41_method_11_code (3 : Nat) (Option.some Jvm.ClassFile.FieldType.int)).before args0 about1 = true := code_word (m := ⟨24, 1⟩) (meth := k24m1) (c := k24c1) (by decide +kernel) rfl rfl rfl (by decide +kernel)
set_option maxRecDepth 65536 in
theorem w_c45 : (Jvm.Cond.code ({ cls := "java/lang/String", name := "isEmpty", desc := "()Z" } : Jvm.MethodName) jdk_42_method_55_code (1 : Nat) (Option.some Jvm.ClassFile.FieldType.boolean)).before args0 about1 = true := code_word (m := ⟨7, 4⟩) (meth := k7m4) (c := k7c4) (by decide +kernel) rfl rfl rfl (by decide +kernel)
set_option maxRecDepth 65536 in
theorem w_c46 : (Jvm.Cond.code ({ cls := "java/lang/StringUTF16", name := "compress", desc := "([CII)[B" } : Jvm.MethodName) jdk_52_method_16_code (6 : Nat) (Option.some (Jvm.ClassFile.FieldType.array Jvm.ClassFile.FieldType.byte))).before args0 about1 = true := code_word (m := ⟨25, 2⟩) (meth := k25m2) (c := k25c2) (by decide +kernel) rfl rfl rfl (by decide +kernel)
set_option maxRecDepth 65536 in
theorem w_c47 : (Jvm.Cond.code ({ cls := "java/lang/StringUTF16", name := "compress", desc := "([CI[BII)I" } : Jvm.MethodName) jdk_52_method_21_code (7 : Nat) (Option.some Jvm.ClassFile.FieldType.int)).before args0 about1 = true := code_word (m := ⟨25, 3⟩) (meth := k25m3) (c := k25c3) (by decide +kernel) rfl rfl rfl (by decide +kernel)
set_option maxRecDepth 65536 in
theorem w_c48 : (Jvm.Cond.code ({ cls := "java/lang/StringUTF16", name := "coderFromArrayLen", desc := "([BI)B" } : Jvm.MethodName) jdk_52_method_15_code (2 : Nat) (Option.some Jvm.ClassFile.FieldType.byte)).before args0 about1 = true := code_word (m := ⟨25, 1⟩) (meth := k25m1) (c := k25c1) (by decide +kernel) rfl rfl rfl (by decide +kernel)
set_option maxRecDepth 65536 in
theorem w_c49 : (Jvm.Cond.code ({ cls := "java/lang/AbstractStringBuilder", name := "newCapacity", desc := "(I)I" } : Jvm.MethodName) jdk_68_method_10_code (6 : Nat) (Option.some Jvm.ClassFile.FieldType.int)).before args0 about1 = true := code_word (m := ⟨18, 4⟩) (meth := k18m4) (c := k18c4) (by decide +kernel) rfl rfl rfl (by decide +kernel)
set_option maxRecDepth 65536 in
theorem w_c50 : (Jvm.Cond.code ({ cls := "jdk/internal/util/ArraysSupport", name := "newLength", desc := "(III)I" } : Jvm.MethodName) jdk_48_method_27_code (4 : Nat) (Option.some Jvm.ClassFile.FieldType.int)).before args0 about1 = true := code_word (m := ⟨26, 1⟩) (meth := k26m1) (c := k26c1) (by decide +kernel) rfl rfl rfl (by decide +kernel)
set_option maxRecDepth 65536 in
theorem w_c51 : (Jvm.Cond.code ({ cls := "java/lang/Math", name := "max", desc := "(II)I" } : Jvm.MethodName) jdk_29_method_65_code (2 : Nat) (Option.some Jvm.ClassFile.FieldType.int)).before args0 about1 = true := code_word (m := ⟨22, 1⟩) (meth := k22m1) (c := k22c1) (by decide +kernel) rfl rfl rfl (by decide +kernel)
set_option maxRecDepth 65536 in
theorem w_c52 : (Jvm.Cond.code ({ cls := "java/util/Arrays", name := "copyOf", desc := "([BI)[B" } : Jvm.MethodName) jdk_65_method_121_code (3 : Nat) (Option.some (Jvm.ClassFile.FieldType.array Jvm.ClassFile.FieldType.byte))).before args0 about1 = true := code_word (m := ⟨21, 1⟩) (meth := k21m1) (c := k21c1) (by decide +kernel) rfl rfl rfl (by decide +kernel)
def codes1 : List Jvm.Cond := [Jvm.Cond.code x code maxLocals ret, Jvm.Cond.code ({ cls := "com/example/enlist/enlist/definition/TransactionDefinitionNamedPinLaw", name := "make", desc := "(ICCCC)Ljava/lang/String;" } : Jvm.MethodName) method_2_code (5 : Nat) (Option.some (Jvm.ClassFile.FieldType.object "java/lang/String")), Jvm.Cond.code ({ cls := "java/lang/String", name := "<init>", desc := "([C)V" } : Jvm.MethodName) jdk_42_method_3_code (2 : Nat) (Option.none : Option Jvm.ClassFile.FieldType), Jvm.Cond.code ({ cls := "java/lang/String", name := "<init>", desc := "([CIILjava/lang/Void;)V" } : Jvm.MethodName) jdk_42_method_149_code (6 : Nat) (Option.none : Option Jvm.ClassFile.FieldType), Jvm.Cond.code ({ cls := "java/lang/Object", name := "<init>", desc := "()V" } : Jvm.MethodName) object_method_1_code (1 : Nat) (Option.none : Option Jvm.ClassFile.FieldType), Jvm.Cond.code ({ cls := "com/example/enlist/enlist/definition/TransactionDefinition", name := "named", desc := "(Ljava/lang/String;)Lcom/example/enlist/enlist/definition/TransactionDefinition;" } : Jvm.MethodName) prog_7_method_2_code (2 : Nat) (Option.some (Jvm.ClassFile.FieldType.object "com/example/enlist/enlist/definition/TransactionDefinition")), Jvm.Cond.code ({ cls := "com/example/enlist/enlist/definition/TransactionDefinition$Settings", name := "copy", desc := "()Lcom/example/enlist/enlist/definition/TransactionDefinition$Settings;" } : Jvm.MethodName) prog_8_method_2_code (2 : Nat) (Option.some (Jvm.ClassFile.FieldType.object "com/example/enlist/enlist/definition/TransactionDefinition$Settings")), Jvm.Cond.code ({ cls := "com/example/enlist/enlist/definition/TransactionDefinition$Settings", name := "<init>", desc := "()V" } : Jvm.MethodName) prog_8_method_1_code (1 : Nat) (Option.none : Option Jvm.ClassFile.FieldType), Jvm.Cond.code ({ cls := "java/util/OptionalInt", name := "empty", desc := "()Ljava/util/OptionalInt;" } : Jvm.MethodName) jdk_2649_method_2_code (0 : Nat) (Option.some (Jvm.ClassFile.FieldType.object "java/util/OptionalInt")), Jvm.Cond.code ({ cls := "java/util/Map", name := "of", desc := "()Ljava/util/Map;" } : Jvm.MethodName) jdk_72_method_26_code (0 : Nat) (Option.some (Jvm.ClassFile.FieldType.object "java/util/Map")), Jvm.Cond.code ({ cls := "java/util/Objects", name := "requireNonNull", desc := "(Ljava/lang/Object;Ljava/lang/String;)Ljava/lang/Object;" } : Jvm.MethodName) jdk_31_method_11_code (2 : Nat) (Option.some (Jvm.ClassFile.FieldType.object "java/lang/Object")), Jvm.Cond.code ({ cls := "com/example/enlist/enlist/definition/TransactionDefinition", name := "<init>", desc := "(Lcom/example/enlist/enlist/definition/TransactionDefinition$Settings;)V" } : Jvm.MethodName) prog_7_method_1_code (2 : Nat) (Option.none : Option Jvm.ClassFile.FieldType), Jvm.Cond.code ({ cls := "com/example/enlist/enlist/definition/TransactionDefinition", name := "name", desc := "()Ljava/lang/String;" } : Jvm.MethodName) prog_7_method_11_code (1 : Nat) (Option.some (Jvm.ClassFile.FieldType.object "java/lang/String")), Jvm.Cond.code ({ cls := "java/lang/String", name := "equals", desc := "(Ljava/lang/Object;)Z" } : Jvm.MethodName) jdk_42_method_66_code (3 : Nat) (Option.some Jvm.ClassFile.FieldType.boolean), Jvm.Cond.code ({ cls := "com/example/enlist/enlist/definition/TransactionDefinition", name := "propagation", desc := "()Lcom/example/enlist/enlist/definition/Propagation;" } : Jvm.MethodName) prog_7_method_12_code (1 : Nat) (Option.some (Jvm.ClassFile.FieldType.object "com/example/enlist/enlist/definition/Propagation")), Jvm.Cond.code ({ cls := "com/example/enlist/enlist/definition/TransactionDefinition", name := "isolation", desc := "()Lcom/example/enlist/enlist/definition/Isolation;" } : Jvm.MethodName) prog_7_method_13_code (1 : Nat) (Option.some (Jvm.ClassFile.FieldType.object "com/example/enlist/enlist/definition/Isolation")), Jvm.Cond.code ({ cls := "com/example/enlist/enlist/definition/TransactionDefinition", name := "readOnly", desc := "()Z" } : Jvm.MethodName) prog_7_method_14_code (1 : Nat) (Option.some Jvm.ClassFile.FieldType.boolean), Jvm.Cond.code ({ cls := "com/example/enlist/enlist/definition/TransactionDefinition", name := "timeout", desc := "()Ljava/util/OptionalInt;" } : Jvm.MethodName) prog_7_method_15_code (1 : Nat) (Option.some (Jvm.ClassFile.FieldType.object "java/util/OptionalInt")), Jvm.Cond.code ({ cls := "com/example/enlist/enlist/definition/TransactionDefinition", name := "toString", desc := "()Ljava/lang/String;" } : Jvm.MethodName) prog_7_method_17_code (1 : Nat) (Option.some (Jvm.ClassFile.FieldType.object "java/lang/String")), Jvm.Cond.code ({ cls := "java/lang/StringBuilder", name := "<init>", desc := "()V" } : Jvm.MethodName) jdk_67_method_1_code (1 : Nat) (Option.none : Option Jvm.ClassFile.FieldType), Jvm.Cond.code ({ cls := "java/lang/AbstractStringBuilder", name := "<init>", desc := "(I)V" } : Jvm.MethodName) jdk_68_method_2_code (2 : Nat) (Option.none : Option Jvm.ClassFile.FieldType), Jvm.Cond.code ({ cls := "java/lang/StringBuilder", name := "append", desc := "(Ljava/lang/String;)Ljava/lang/StringBuilder;" } : Jvm.MethodName) jdk_67_method_7_code (2 : Nat) (Option.some (Jvm.ClassFile.FieldType.object "java/lang/StringBuilder")), Jvm.Cond.code ({ cls := "java/lang/AbstractStringBuilder", name := "append", desc := "(Ljava/lang/String;)Ljava/lang/AbstractStringBuilder;" } : Jvm.MethodName) jdk_68_method_22_code (3 : Nat) (Option.some (Jvm.ClassFile.FieldType.object "java/lang/AbstractStringBuilder")), Jvm.Cond.code ({ cls := "java/lang/String", name := "length", desc := "()I" } : Jvm.MethodName) jdk_42_method_54_code (1 : Nat) (Option.some Jvm.ClassFile.FieldType.int), Jvm.Cond.code ({ cls := "java/lang/String", name := "coder", desc := "()B" } : Jvm.MethodName) jdk_42_method_152_code (1 : Nat) (Option.some Jvm.ClassFile.FieldType.byte), Jvm.Cond.code ({ cls := "java/lang/AbstractStringBuilder", name := "ensureCapacityInternal", desc := "(I)V" } : Jvm.MethodName) jdk_68_method_9_code (3 : Nat) (Option.none : Option Jvm.ClassFile.FieldType), Jvm.Cond.code ({ cls := "java/lang/AbstractStringBuilder", name := "putStringAt", desc := "(ILjava/lang/String;)V" } : Jvm.MethodName) jdk_68_method_73_code (3 : Nat) (Option.none : Option Jvm.ClassFile.FieldType), Jvm.Cond.code ({ cls := "java/lang/AbstractStringBuilder", name := "inflateIfNeededFor", desc := "(Ljava/lang/String;)V" } : Jvm.MethodName) jdk_68_method_71_code (2 : Nat) (Option.none : Option Jvm.ClassFile.FieldType), Jvm.Cond.code ({ cls := "java/lang/String", name := "getBytes", desc := "([BIB)V" } : Jvm.MethodName) jdk_42_method_147_code (4 : Nat) (Option.none : Option Jvm.ClassFile.FieldType), Jvm.Cond.code ({ cls := "java/lang/StringBuilder", name := "toString", desc := "()Ljava/lang/String;" } : Jvm.MethodName) jdk_67_method_42_code (1 : Nat) (Option.some (Jvm.ClassFile.FieldType.object "java/lang/String")), Jvm.Cond.code ({ cls := "java/lang/String", name := "<init>", desc := "(Ljava/lang/StringBuilder;)V" } : Jvm.MethodName) jdk_42_method_53_code (2 : Nat) (Option.none : Option Jvm.ClassFile.FieldType), Jvm.Cond.code ({ cls := "java/lang/String", name := "<init>", desc := "(Ljava/lang/AbstractStringBuilder;Ljava/lang/Void;)V" } : Jvm.MethodName) jdk_42_method_150_code (5 : Nat) (Option.none : Option Jvm.ClassFile.FieldType), Jvm.Cond.code ({ cls := "java/lang/AbstractStringBuilder", name := "getValue", desc := "()[B" } : Jvm.MethodName) jdk_68_method_64_code (1 : Nat) (Option.some (Jvm.ClassFile.FieldType.array Jvm.ClassFile.FieldType.byte)), Jvm.Cond.code ({ cls := "java/lang/StringBuilder", name := "length", desc := "()I" } : Jvm.MethodName) jdk_67_method_93_code (1 : Nat) (Option.some Jvm.ClassFile.FieldType.int), Jvm.Cond.code ({ cls := "java/lang/AbstractStringBuilder", name := "length", desc := "()I" } : Jvm.MethodName) jdk_68_method_6_code (1 : Nat) (Option.some Jvm.ClassFile.FieldType.int), Jvm.Cond.code ({ cls := "java/lang/AbstractStringBuilder", name := "isLatin1", desc := "()Z" } : Jvm.MethodName) jdk_68_method_68_code (1 : Nat) (Option.some Jvm.ClassFile.FieldType.boolean), Jvm.Cond.code ({ cls := "java/util/Arrays", name := "copyOfRange", desc := "([BII)[B" } : Jvm.MethodName) jdk_65_method_132_code (3 : Nat) (Option.some (Jvm.ClassFile.FieldType.array Jvm.ClassFile.FieldType.byte)), Jvm.Cond.code ({ cls := "java/util/Arrays", name := "copyOfRangeByte", desc := "([BII)[B" } : Jvm.MethodName) jdk_65_method_133_code (5 : Nat) (Option.some (Jvm.ClassFile.FieldType.array Jvm.ClassFile.FieldType.byte)), Jvm.Cond.code ({ cls := "java/util/Arrays", name := "checkLength", desc := "(II)V" } : Jvm.MethodName) jdk_65_method_131_code (2 : Nat) (Option.none : Option Jvm.ClassFile.FieldType), Jvm.Cond.code ({ cls := "java/lang/Math", name := "min", desc := "(II)I" } : Jvm.MethodName) jdk_29_method_69_code (2 : Nat) (Option.some Jvm.ClassFile.FieldType.int), Jvm.Cond.code ({ cls := "java/lang/String", name := "charAt", desc := "(I)C" } : Jvm.MethodName) jdk_42_method_56_code (2 : Nat) (Option.some Jvm.ClassFile.FieldType.char), Jvm.Cond.code ({ cls := "java/lang/String", name := "isLatin1", desc := "()Z" } : Jvm.MethodName) jdk_42_method_154_code (1 : Nat) (Option.some Jvm.ClassFile.FieldType.boolean), Jvm.Cond.code ({ cls := "java/lang/StringLatin1", name := "charAt", desc := "([BI)C" } : Jvm.MethodName) jdk_43_method_2_code (2 : Nat) (Option.some Jvm.ClassFile.FieldType.char), Jvm.Cond.code ({ cls := "java/lang/String", name := "checkIndex", desc := "(II)V" } : Jvm.MethodName) jdk_42_method_155_code (2 : Nat) (Option.none : Option Jvm.ClassFile.FieldType), Jvm.Cond.code ({ cls := "jdk/internal/util/Preconditions", name := "checkIndex", desc := "(IILjava/util/function/BiFunction;)I" } : Jvm.MethodName) jdk_41_method_11_code (3 : Nat) (Option.some Jvm.ClassFile.FieldType.int), Jvm.Cond.code ({ cls := "java/lang/String", name := "isEmpty", desc := "()Z" } : Jvm.MethodName) jdk_42_method_55_code (1 : Nat) (Option.some Jvm.ClassFile.FieldType.boolean), Jvm.Cond.code ({ cls := "java/lang/StringUTF16", name := "compress", desc := "([CII)[B" } : Jvm.MethodName) jdk_52_method_16_code (6 : Nat) (Option.some (Jvm.ClassFile.FieldType.array Jvm.ClassFile.FieldType.byte)), Jvm.Cond.code ({ cls := "java/lang/StringUTF16", name := "compress", desc := "([CI[BII)I" } : Jvm.MethodName) jdk_52_method_21_code (7 : Nat) (Option.some Jvm.ClassFile.FieldType.int), Jvm.Cond.code ({ cls := "java/lang/StringUTF16", name := "coderFromArrayLen", desc := "([BI)B" } : Jvm.MethodName) jdk_52_method_15_code (2 : Nat) (Option.some Jvm.ClassFile.FieldType.byte), Jvm.Cond.code ({ cls := "java/lang/AbstractStringBuilder", name := "newCapacity", desc := "(I)I" } : Jvm.MethodName) jdk_68_method_10_code (6 : Nat) (Option.some Jvm.ClassFile.FieldType.int), Jvm.Cond.code ({ cls := "jdk/internal/util/ArraysSupport", name := "newLength", desc := "(III)I" } : Jvm.MethodName) jdk_48_method_27_code (4 : Nat) (Option.some Jvm.ClassFile.FieldType.int), Jvm.Cond.code ({ cls := "java/lang/Math", name := "max", desc := "(II)I" } : Jvm.MethodName) jdk_29_method_65_code (2 : Nat) (Option.some Jvm.ClassFile.FieldType.int), Jvm.Cond.code ({ cls := "java/util/Arrays", name := "copyOf", desc := "([BI)[B" } : Jvm.MethodName) jdk_65_method_121_code (3 : Nat) (Option.some (Jvm.ClassFile.FieldType.array Jvm.ClassFile.FieldType.byte))]
set_option maxRecDepth 65536 in
theorem codes_eq : words1.filter isCode = codes1 := rfl
theorem w_codes : ∀ c ∈ words1.filter isCode, c.before args0 about1 = true := by
  rw [codes_eq]
  intro c hc
  simp only [codes1, List.mem_cons, List.not_mem_nil, or_false] at hc
  rcases hc with rfl | rfl | rfl | rfl | rfl | rfl | rfl | rfl | rfl | rfl | rfl | rfl | rfl | rfl | rfl | rfl | rfl | rfl | rfl | rfl | rfl | rfl | rfl | rfl | rfl | rfl | rfl | rfl | rfl | rfl | rfl | rfl | rfl | rfl | rfl | rfl | rfl | rfl | rfl | rfl | rfl | rfl | rfl | rfl | rfl | rfl | rfl | rfl | rfl | rfl | rfl | rfl | rfl
  · exact w_c0
  · exact w_c1
  · exact w_c2
  · exact w_c3
  · exact w_c4
  · exact w_c5
  · exact w_c6
  · exact w_c7
  · exact w_c8
  · exact w_c9
  · exact w_c10
  · exact w_c11
  · exact w_c12
  · exact w_c13
  · exact w_c14
  · exact w_c15
  · exact w_c16
  · exact w_c17
  · exact w_c18
  · exact w_c19
  · exact w_c20
  · exact w_c21
  · exact w_c22
  · exact w_c23
  · exact w_c24
  · exact w_c25
  · exact w_c26
  · exact w_c27
  · exact w_c28
  · exact w_c29
  · exact w_c30
  · exact w_c31
  · exact w_c32
  · exact w_c33
  · exact w_c34
  · exact w_c35
  · exact w_c36
  · exact w_c37
  · exact w_c38
  · exact w_c39
  · exact w_c40
  · exact w_c41
  · exact w_c42
  · exact w_c43
  · exact w_c44
  · exact w_c45
  · exact w_c46
  · exact w_c47
  · exact w_c48
  · exact w_c49
  · exact w_c50
  · exact w_c51
  · exact w_c52
set_option maxRecDepth 65536 in
theorem w_t1 : (words1.take 24).all (fun c => isCode c || c.before args0 about1) = true := by decide +kernel
set_option maxRecDepth 65536 in
theorem w_t2 : ((words1.drop 24).take 24).all (fun c => isCode c || c.before args0 about1) = true := by decide +kernel
set_option maxRecDepth 65536 in
theorem w_t3 : (((words1.drop 24).drop 24).take 24).all (fun c => isCode c || c.before args0 about1) = true := by decide +kernel
set_option maxRecDepth 65536 in
theorem w_t4 : ((((words1.drop 24).drop 24).drop 24).take 24).all (fun c => isCode c || c.before args0 about1) = true := by decide +kernel
set_option maxRecDepth 65536 in
theorem w_t5 : (((((words1.drop 24).drop 24).drop 24).drop 24).take 24).all (fun c => isCode c || c.before args0 about1) = true := by decide +kernel
set_option maxRecDepth 65536 in
theorem w_t6 : ((((((words1.drop 24).drop 24).drop 24).drop 24).drop 24).take 24).all (fun c => isCode c || c.before args0 about1) = true := by decide +kernel
set_option maxRecDepth 65536 in
theorem w_t7 : (((((((words1.drop 24).drop 24).drop 24).drop 24).drop 24).drop 24).take 24).all (fun c => isCode c || c.before args0 about1) = true := by decide +kernel
set_option maxRecDepth 65536 in
theorem w_t8 : ((((((((words1.drop 24).drop 24).drop 24).drop 24).drop 24).drop 24).drop 24).take 24).all (fun c => isCode c || c.before args0 about1) = true := by decide +kernel
set_option maxRecDepth 65536 in
theorem w_t9 : (((((((((words1.drop 24).drop 24).drop 24).drop 24).drop 24).drop 24).drop 24).drop 24).take 24).all (fun c => isCode c || c.before args0 about1) = true := by decide +kernel
set_option maxRecDepth 65536 in
theorem w_t10 : ((((((((((words1.drop 24).drop 24).drop 24).drop 24).drop 24).drop 24).drop 24).drop 24).drop 24).take 24).all (fun c => isCode c || c.before args0 about1) = true := by decide +kernel
set_option maxRecDepth 65536 in
theorem w_t11 : (((((((((((words1.drop 24).drop 24).drop 24).drop 24).drop 24).drop 24).drop 24).drop 24).drop 24).drop 24).take 24).all (fun c => isCode c || c.before args0 about1) = true := by decide +kernel
set_option maxRecDepth 65536 in
theorem w_t12 : ((((((((((((words1.drop 24).drop 24).drop 24).drop 24).drop 24).drop 24).drop 24).drop 24).drop 24).drop 24).drop 24).take 24).all (fun c => isCode c || c.before args0 about1) = true := by decide +kernel
set_option maxRecDepth 65536 in
theorem w_t13 : ((((((((((((words1.drop 24).drop 24).drop 24).drop 24).drop 24).drop 24).drop 24).drop 24).drop 24).drop 24).drop 24).drop 24).all (fun c => isCode c || c.before args0 about1) = true := by decide +kernel
theorem w_tables : (allAtoms (Jvm.Cond.code x code maxLocals ret :: tables_1)).before args0 about1 = true := by
  rw [allAtoms_all]
  show words1.all (fun c => c.before args0 about1) = true
  refine all_split ?_ w_codes
  rw [← List.take_append_drop 24 words1, List.all_append, w_t1, ← List.take_append_drop 24 (words1.drop 24), List.all_append, w_t2, ← List.take_append_drop 24 ((words1.drop 24).drop 24), List.all_append, w_t3, ← List.take_append_drop 24 (((words1.drop 24).drop 24).drop 24), List.all_append, w_t4, ← List.take_append_drop 24 ((((words1.drop 24).drop 24).drop 24).drop 24), List.all_append, w_t5, ← List.take_append_drop 24 (((((words1.drop 24).drop 24).drop 24).drop 24).drop 24), List.all_append, w_t6, ← List.take_append_drop 24 ((((((words1.drop 24).drop 24).drop 24).drop 24).drop 24).drop 24), List.all_append, w_t7, ← List.take_append_drop 24 (((((((words1.drop 24).drop 24).drop 24).drop 24).drop 24).drop 24).drop 24), List.all_append, w_t8, ← List.take_append_drop 24 ((((((((words1.drop 24).drop 24).drop 24).drop 24).drop 24).drop 24).drop 24).drop 24), List.all_append, w_t9, ← List.take_append_drop 24 (((((((((words1.drop 24).drop 24).drop 24).drop 24).drop 24).drop 24).drop 24).drop 24).drop 24), List.all_append, w_t10, ← List.take_append_drop 24 ((((((((((words1.drop 24).drop 24).drop 24).drop 24).drop 24).drop 24).drop 24).drop 24).drop 24).drop 24), List.all_append, w_t11, ← List.take_append_drop 24 (((((((((((words1.drop 24).drop 24).drop 24).drop 24).drop 24).drop 24).drop 24).drop 24).drop 24).drop 24).drop 24), List.all_append, w_t12, w_t13]
  rfl
set_option maxRecDepth 65536 in
theorem w_rest : rest_1_c.before args0 about1 = true := by decide +kernel
set_option maxRecDepth 65536 in
theorem w_case : (Jvm.Cond.and given_1 narrow_1).before args0 about1 = true := by decide +kernel
set_option maxRecDepth 65536 in
theorem w_consts : constsHeld consts_1 about1 := Jvm.Lit.constsHeldB_iff.mp (by decide +kernel)
theorem w_applies : (headSpec (Jvm.Cond.code x code maxLocals ret :: tables_1) room_1).applies x e0.platform about1 = true :=
  (Spec.applies_iff w_frames).mpr ⟨w_running, w_runnable, w_alone, w_named, w_hears, w_ripe, w_room, w_tables⟩
theorem atStart : AtStart classFile x code maxLocals ret World_1 tables_1 room_1 Calls_1 rest_1 Pre_1 launch0 p0 e0 about1 theMethod args0 below0 :=
  ⟨lists_1, trivial, launch0.admits_env _ _ _, launch0.least_env, fairChoices_fair.cas, fairChoices_fair.clock, w_frames, w_args, w_heap, w_applies, ⟨w_consts, trivial⟩, w_rest, w_case⟩
end start1
theorem witness_1 : WitnessClaimed_1 := ⟨start1.p0, start1.e0, start1.about1, start1.theMethod, start1.args0, start1.below0, start1.atStart⟩
end Jvm.Pilot.@@N@@
