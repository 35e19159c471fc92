import JvmDerived
import JvmDerived.Pilot.@@N@@Statement
import JvmDerived.Pilot.@@N@@Code
set_option linter.unusedVariables false
set_option linter.unusedSimpArgs false
/- laws to paste: Road.backV, Road.eqW, Road.codOf (cut by pick.py; bodies as the Statement names them) -/
namespace Jvm.Pilot.@@N@@
namespace StrChars
open Jvm Sem ClassFile Op Lib Jvm.Stand Jvm.Free.XT Jvm.Free.ALB Jvm.Free.JM Jvm.Free
open Jvm.Lib.Cold (StaticIs)
/-- a char array whose places are chars -/
def Ch (a : Addr) (A : Cell) (U : State) : Prop := Arr .char a A U ∧ Typed .char A
theorem Ch.mv {a : Addr} {A : Cell} {U U' : State} (h : Ch a A U) (hal : U.vm.Alike U'.vm) (hh : U'.heap = U.heap) : Ch a A U' := ⟨h.1.mv hal hh, h.2⟩
theorem Ch.keep {a : Addr} {A : Cell} {U U' : State} (h : Ch a A U) (hal : U.vm.Alike U'.vm) (hk : U'.heap[a]? = some A) : Ch a A U' := ⟨h.1.keep hal hk, h.2⟩
/-- what place i of a char[]'s cell holds -/
def cv (A : Cell) (i : Nat) : Int32 := match A.slots[i]? with | some (.int x) => x | _ => 0
theorem Ch.get {a : Addr} {A : Cell} {U : State} (h : Ch a A U) {i : Nat} (hi : i < A.slots.size) : A.slots[i]? = some (.int (cv A i)) := by
  have e := Array.getElem?_eq_getElem hi
  have f := h.2 i _ e
  unfold cv; rw [e]
  generalize A.slots[i] = v at f
  cases v <;> simp [fits] at f ⊢
/-- the byte that i2b leaves of a char -/
def lo8 (x : Int32) : Int32 := x.toInt8.toInt32
theorem fits_lo8 (y : Int32) : fits .byte (.int (lo8 y)) = true := by
  have h1 := y.toInt8.le_toInt
  have h2 := y.toInt8.toInt_lt
  simp only [lo8, fits, Bool.and_eq_true, decide_eq_true_eq, Int32.le_iff_toInt_le, Int8.toInt_toInt32, show (-128 : Int32).toInt = -128 from by decide, show (127 : Int32).toInt = 127 from by decide]
  omega
/-- A' is A but that each place j of lo .. hi - 1 holds f j -/
def Laid (A A' : Cell) (lo hi : Nat) (f : Nat → Value) : Prop := A'.cls = A.cls ∧ A'.vm = A.vm ∧ A'.slots.size = A.slots.size ∧ ∀ i, A'.slots[i]? = if lo ≤ i ∧ i < hi then some (f i) else A.slots[i]?
theorem Laid.zero (A : Cell) (lo : Nat) (f : Nat → Value) : Laid A A lo (lo + 0) f := ⟨rfl, rfl, rfl, fun i => by rw [if_neg (by omega)]⟩
theorem Laid.step {A Ak : Cell} {lo k : Nat} {f : Nat → Value} {v : Value} (h : Laid A Ak lo k f) (hlo : lo ≤ k) (hk : k < Ak.slots.size) (hv : v = f k) : Laid A (Ak.setSlot k v) lo (k + 1) f := by
  refine ⟨h.1, h.2.1, by simpa [Cell.setSlot] using h.2.2.1, fun i => ?_⟩
  by_cases e : k = i
  · subst e; rw [Cell.slots_setSlot_self v hk, if_pos (by omega), hv]
  · rw [Cell.slots_setSlot_ne v e, h.2.2.2 i]
    by_cases q : lo ≤ i ∧ i < k
    · rw [if_pos q, if_pos (by omega)]
    · rw [if_neg q, if_neg (by omega)]
def U16 : String := "java/lang/StringUTF16"
namespace Cmp5
def yN : MethodName := ⟨"java/lang/StringUTF16", "compress", "([CI[BII)I"⟩
abbrev yB : ByteArray := jdk_52_method_21_code
theorem d0 : decode yB 0 = .ok (.iconst 0, 1) := by decide +kernel
theorem d1 : decode yB 1 = .ok (.istore 5, 2) := by decide +kernel
theorem d3 : decode yB 3 = .ok (.iload 5, 2) := by decide +kernel
theorem d5 : decode yB 5 = .ok (.iload 4, 2) := by decide +kernel
theorem d7 : decode yB 7 = .ok (.if_icmp (.ge) 37, 3) := by decide +kernel
theorem d10 : decode yB 10 = .ok (.aload_n 0, 1) := by decide +kernel
theorem d11 : decode yB 11 = .ok (.iload_n 1, 1) := by decide +kernel
theorem d12 : decode yB 12 = .ok (.caload, 1) := by decide +kernel
theorem d13 : decode yB 13 = .ok (.istore 6, 2) := by decide +kernel
theorem d15 : decode yB 15 = .ok (.iload 6, 2) := by decide +kernel
theorem d17 : decode yB 17 = .ok (.sipush 255, 3) := by decide +kernel
theorem d20 : decode yB 20 = .ok (.if_icmp (.le) 6, 3) := by decide +kernel
theorem d26 : decode yB 26 = .ok (.aload_n 2, 1) := by decide +kernel
theorem d27 : decode yB 27 = .ok (.iload_n 3, 1) := by decide +kernel
theorem d28 : decode yB 28 = .ok (.iload 6, 2) := by decide +kernel
theorem d30 : decode yB 30 = .ok (.i2b, 1) := by decide +kernel
theorem d31 : decode yB 31 = .ok (.bastore, 1) := by decide +kernel
theorem d32 : decode yB 32 = .ok (.iinc 1 1, 3) := by decide +kernel
theorem d35 : decode yB 35 = .ok (.iinc 3 1, 3) := by decide +kernel
theorem d38 : decode yB 38 = .ok (.iinc 5 1, 3) := by decide +kernel
theorem d41 : decode yB 41 = .ok (.goto (-38), 3) := by decide +kernel
theorem d44 : decode yB 44 = .ok (.iload 4, 2) := by decide +kernel
theorem d46 : decode yB 46 = .ok (.ireturn, 1) := by decide +kernel
def site : List Cond := []
def tab : Cond := tabOf yN yB 7 (some .int) site
def P (b : Addr) (A : Cell) (d : Addr) (B : Cell) (o q len : Nat) (args : Array Value) (s : State) : Prop := args = #[.ref b, .int (Int32.ofNat o), .ref d, .int (Int32.ofNat q), .int (Int32.ofNat len)] ∧ Ch b A s ∧ Arr .byte d B s ∧ b ≠ d ∧ o + len ≤ A.slots.size ∧ q + len ≤ B.slots.size ∧ ∀ i, i < len → ¬ 255 < cv A (o + i)
def E (b : Addr) (A : Cell) (d : Addr) (B : Cell) (o q len : Nat) (r : Option Value) (s u : State) : Prop := r = some (.int (Int32.ofNat len)) ∧ ∃ B', Put d B' s u ∧ Laid B B' q (q + len) (fun j => Value.int (lo8 (cv A (o + (j - q)))))
/-- no char of the range above 255: len; the places written hold each char's low byte -/
theorem law (l : Launch) (b : Addr) (A : Cell) (d : Addr) (B : Cell) (o q len : Nat) : Law l yN 5 5 0 0 yB 7 (some .int) site (P b A d B o q len) (E b A d B o q len) (copyLocs d q len) 0 0 := by
  refine Law.of_walk (plainFor_of_name (by decide +kernel)) (by decide +kernel) (by decide +kernel) (by decide) (fun _ _ h => by rw [h.1]; rfl) (fun _ U U' hal hh h => ⟨h.1, h.2.1.mv hal hh, h.2.2.1.mv hal hh, h.2.2.2⟩) (fun r U U' V V' h1 hal h2 h => ⟨h.1, h.2.elim fun B' q => ⟨B', q.1.mv h1 h2, q.2⟩⟩) ?_
  intro p e s m args below meth c s₁ X0 hexec hbytes hml hret hlk hnm hown hh0 W hP
  obtain ⟨rfl, hA, hB, hne, l1, l2, hp⟩ := hP
  have c1 : Steps p.tables e below (s₁.setTop (entryFrame m #[.ref b, .int (Int32.ofNat o), .ref d, .int (Int32.ofNat q), .int (Int32.ofNat len)] 7)) (s₁.setTop (mkF m 0 #[.val (.ref b), .val (.int (Int32.ofNat o)), .val (.ref d), .val (.int (Int32.ofNat q)), .val (.int (Int32.ofNat len)), .unset, .unset] [])) := entry rfl
  have hA0 := hA.1.mv X0.warmed.alike hh0
  have hB0 := hB.mv X0.warmed.alike hh0
  have a31 := hA.1.2.2.2
  have c2 : Steps p.tables e below (s₁.setTop (entryFrame m #[.ref b, .int (Int32.ofNat o), .ref d, .int (Int32.ofNat q), .int (Int32.ofNat len)] 7)) (s₁.setTop (mkF m 3 #[.val (.ref b), .val (.int (Int32.ofNat o)), .val (.ref d), .val (.int (Int32.ofNat q)), .val (.int (Int32.ofNat len)), .val (.int 0), .unset] [])) := c1.trans (by
    refine iconstV X0.here hexec rfl 0 (hb hbytes d0) (by decide) ?_
    refine XS.istore X0.here hexec rfl (hb hbytes d1) rfl rfl ?_
    exact Steps.refl _)
  have loop : ∀ (r i : Nat), i + r = len → ∀ (z : Slot), (z = .unset ∨ ∃ w, z = .val w ∧ w.category = 1) → ∀ (Tl : State) (Bk : Cell), Stand p l e { frames := 0, locals := 0, cells := 0, slots := 0 } s m #[.ref b, .int (Int32.ofNat o), .ref d, .int (Int32.ofNat q), .int (Int32.ofNat len)] below meth c Tl ([] ++ copyLocs d q i) 0 0 → Put d Bk s₁ Tl → Laid B Bk q (q + i) (fun j => Value.int (lo8 (cv A (o + (j - q))))) →
      Steps p.tables e below (s₁.setTop (entryFrame m #[.ref b, .int (Int32.ofNat o), .ref d, .int (Int32.ofNat q), .int (Int32.ofNat len)] 7)) (Tl.setTop (mkF m 3 #[.val (.ref b), .val (.int (Int32.ofNat (o + i))), .val (.ref d), .val (.int (Int32.ofNat (q + i))), .val (.int (Int32.ofNat len)), .val (.int (Int32.ofNat i)), z] [])) → ∃ (T' : State) (B' : Cell) (z' : Slot), Stand p l e { frames := 0, locals := 0, cells := 0, slots := 0 } s m #[.ref b, .int (Int32.ofNat o), .ref d, .int (Int32.ofNat q), .int (Int32.ofNat len)] below meth c T' ([] ++ copyLocs d q len) 0 0 ∧ Put d B' s₁ T' ∧ Laid B B' q (q + len) (fun j => Value.int (lo8 (cv A (o + (j - q))))) ∧
      Steps p.tables e below (s₁.setTop (entryFrame m #[.ref b, .int (Int32.ofNat o), .ref d, .int (Int32.ofNat q), .int (Int32.ofNat len)] 7)) (T'.setTop (mkF m 3 #[.val (.ref b), .val (.int (Int32.ofNat (o + len))), .val (.ref d), .val (.int (Int32.ofNat (q + len))), .val (.int (Int32.ofNat len)), .val (.int (Int32.ofNat len)), z'] [])) := by
    intro r
    induction r with
    | zero =>
      intro i hi z hz Tl Bk Xl pl fl cl
      have hil : i = len := by omega
      rw [hil] at Xl fl cl
      exact ⟨Tl, Bk, z, Xl, pl, fl, cl⟩
    | succ r ih =>
      intro i hi z hz Tl Bk Xl pl fl cl
      have all := X0.warmed.alike.symm.trans Xl.warmed.alike
      have hAl := hA0.keep all (pl.other hne hA0.1)
      have hBk := hB0.like all pl.1 fl.1 fl.2.1 fl.2.2.1
      have hlt : q + i < Bk.slots.size := by rw [fl.2.2.1]; omega
      have c3 : Steps p.tables e below (s₁.setTop (entryFrame m #[.ref b, .int (Int32.ofNat o), .ref d, .int (Int32.ofNat q), .int (Int32.ofNat len)] 7)) (Tl.setTop (mkF m 12 #[.val (.ref b), .val (.int (Int32.ofNat (o + i))), .val (.ref d), .val (.int (Int32.ofNat (q + i))), .val (.int (Int32.ofNat len)), .val (.int (Int32.ofNat i)), z] [.int (Int32.ofNat (o + i)), .ref b])) := cl.trans (by
        refine XS.iload Xl.here hexec rfl (hb hbytes d3) rfl ?_
        refine XS.iload Xl.here hexec rfl (hb hbytes d5) rfl ?_
        refine XS.icmpNo Xl.here hexec rfl (hb hbytes d7) rfl (ii_ge_f (lt32 (by omega) (by omega))) ?_
        refine XS.aloadN Xl.here hexec rfl (hb hbytes d10) rfl rfl ?_
        refine XS.iloadN Xl.here hexec rfl (hb hbytes d11) rfl ?_
        exact Steps.refl _)
      have c4 : Steps p.tables e below (s₁.setTop (entryFrame m #[.ref b, .int (Int32.ofNat o), .ref d, .int (Int32.ofNat q), .int (Int32.ofNat len)] 7)) (Tl.setTop (mkF m 13 #[.val (.ref b), .val (.int (Int32.ofNat (o + i))), .val (.ref d), .val (.int (Int32.ofNat (q + i))), .val (.int (Int32.ofNat len)), .val (.int (Int32.ofNat i)), z] [.int (cv A (o + i))])) := c3.trans (by
        refine Xl.aget hexec hAl rfl (hA.get (i := o + i) (by omega)) rfl rfl (hb hbytes d12) ?_
        exact Steps.refl _)
      have c5 : Steps p.tables e below (s₁.setTop (entryFrame m #[.ref b, .int (Int32.ofNat o), .ref d, .int (Int32.ofNat q), .int (Int32.ofNat len)] 7)) (Tl.setTop (mkF m 15 #[.val (.ref b), .val (.int (Int32.ofNat (o + i))), .val (.ref d), .val (.int (Int32.ofNat (q + i))), .val (.int (Int32.ofNat len)), .val (.int (Int32.ofNat i)), .val (.int (cv A (o + i)))] [])) := c4.trans (by
        refine XS.istoreS Xl.here hexec rfl (hb hbytes d13) rfl rfl hz ?_
        exact Steps.refl _)
      have c6 : Steps p.tables e below (s₁.setTop (entryFrame m #[.ref b, .int (Int32.ofNat o), .ref d, .int (Int32.ofNat q), .int (Int32.ofNat len)] 7)) (Tl.setTop (mkF m 31 #[.val (.ref b), .val (.int (Int32.ofNat (o + i))), .val (.ref d), .val (.int (Int32.ofNat (q + i))), .val (.int (Int32.ofNat len)), .val (.int (Int32.ofNat i)), .val (.int (cv A (o + i)))] [.int (lo8 (cv A (o + i))), .int (Int32.ofNat (q + i)), .ref d])) := c5.trans (by
        refine XS.iload Xl.here hexec rfl (hb hbytes d15) rfl ?_
        refine sipushV Xl.here hexec rfl 255 (hb hbytes d17) (by decide) ?_
        refine XS.icmpYes Xl.here hexec rfl (pc0 := 20) rfl (hb hbytes d20) rfl (ii_le_t (hp i (by omega))) (by decide) rfl ?_
        refine XS.aloadN Xl.here hexec rfl (hb hbytes d26) rfl rfl ?_
        refine XS.iloadN Xl.here hexec rfl (hb hbytes d27) rfl ?_
        refine XS.iload Xl.here hexec rfl (hb hbytes d28) rfl ?_
        refine i2b Xl.here hexec rfl (hb hbytes d30) rfl ?_
        exact Steps.refl _)
      obtain ⟨T7, X7, p7, st7⟩ := Xl.aput hexec hBk rfl hlt rfl (fits_lo8 (cv A (o + i))) (g := (mkF m 31 #[.val (.ref b), .val (.int (Int32.ofNat (o + i))), .val (.ref d), .val (.int (Int32.ofNat (q + i))), .val (.int (Int32.ofNat len)), .val (.int (Int32.ofNat i)), .val (.int (cv A (o + i)))] [.int (lo8 (cv A (o + i))), .int (Int32.ofNat (q + i)), .ref d])) rfl (rest := []) rfl (hb hbytes d31)
      have c8 : Steps p.tables e below (s₁.setTop (entryFrame m #[.ref b, .int (Int32.ofNat o), .ref d, .int (Int32.ofNat q), .int (Int32.ofNat len)] 7)) (T7.setTop (mkF m 32 #[.val (.ref b), .val (.int (Int32.ofNat (o + i))), .val (.ref d), .val (.int (Int32.ofNat (q + i))), .val (.int (Int32.ofNat len)), .val (.int (Int32.ofNat i)), .val (.int (cv A (o + i)))] [])) := c6.trans (st7 _ (Steps.refl _))
      have c9 : Steps p.tables e below (s₁.setTop (entryFrame m #[.ref b, .int (Int32.ofNat o), .ref d, .int (Int32.ofNat q), .int (Int32.ofNat len)] 7)) (T7.setTop (mkF m 3 #[.val (.ref b), .val (.int (Int32.ofNat (o + i) + 1)), .val (.ref d), .val (.int (Int32.ofNat (q + i) + 1)), .val (.int (Int32.ofNat len)), .val (.int (Int32.ofNat i + 1)), .val (.int (cv A (o + i)))] [])) := c8.trans (by
        refine iincV X7.here hexec rfl 1 (hb hbytes d32) (by decide) rfl rfl ?_
        refine iincV X7.here hexec rfl 1 (hb hbytes d35) (by decide) rfl rfl ?_
        refine iincV X7.here hexec rfl 1 (hb hbytes d38) (by decide) rfl rfl ?_
        refine XS.goto X7.here hexec rfl (pc0 := 41) rfl (hb hbytes d41) (by decide) rfl ?_
        exact Steps.refl _)
      have c10 : Steps p.tables e below (s₁.setTop (entryFrame m #[.ref b, .int (Int32.ofNat o), .ref d, .int (Int32.ofNat q), .int (Int32.ofNat len)] 7)) (T7.setTop (mkF m 3 #[.val (.ref b), .val (.int (Int32.ofNat (o + (i + 1)))), .val (.ref d), .val (.int (Int32.ofNat (q + (i + 1)))), .val (.int (Int32.ofNat len)), .val (.int (Int32.ofNat (i + 1))), .val (.int (cv A (o + i)))] [])) := by
        have := c9
        rw [succ32, succ32, succ32] at this
        exact this
      exact ih (i + 1) (by omega) _ (Or.inr ⟨_, rfl, rfl⟩) T7 _ (by rw [copyLocs_step, ← List.append_assoc]; exact X7) (pl.trans p7) (fl.step (by omega) hlt (by simp)) c10
  obtain ⟨T9, B9, z9, X9, p9, f9, g9⟩ := loop len 0 (by omega) .unset (Or.inl rfl) s₁ B (by simpa [copyLocs] using X0) ⟨hB0.1, fun _ _ => rfl, rfl⟩ (Laid.zero _ _ _) c2
  have c11 : Steps p.tables e below (s₁.setTop (entryFrame m #[.ref b, .int (Int32.ofNat o), .ref d, .int (Int32.ofNat q), .int (Int32.ofNat len)] 7)) (T9.setTop (mkF m 46 #[.val (.ref b), .val (.int (Int32.ofNat (o + len))), .val (.ref d), .val (.int (Int32.ofNat (q + len))), .val (.int (Int32.ofNat len)), .val (.int (Int32.ofNat len)), z9] [.int (Int32.ofNat len)])) := g9.trans (by
    refine XS.iload X9.here hexec rfl (hb hbytes d3) rfl ?_
    refine XS.iload X9.here hexec rfl (hb hbytes d5) rfl ?_
    refine XS.icmpYes X9.here hexec rfl (pc0 := 7) rfl (hb hbytes d7) rfl (ii_ge_t (nlt32 (by omega) (Nat.le_refl _))) (by decide) rfl ?_
    refine XS.iload X9.here hexec rfl (hb hbytes d44) rfl ?_
    exact Steps.refl _)
  exact ⟨T9, some (.int (Int32.ofNat len)), _, _, _, X9, by simp, rfl, rfl, (fun h => by cases h), ⟨rfl, B9, p9.from hh0, f9⟩, fun fs hl => c11.trans (X9.ireturnOut hexec hret rfl (Or.inl rfl) (hb hbytes d46) hl)⟩
end Cmp5
namespace Cmp3
def yN : MethodName := ⟨"java/lang/StringUTF16", "compress", "([CII)[B"⟩
abbrev yB : ByteArray := jdk_52_method_16_code
theorem d0 : decode yB 0 = .ok (.iload_n 2, 1) := by decide +kernel
theorem d1 : decode yB 1 = .ok (.newarray .byte, 2) := by decide +kernel
theorem d3 : decode yB 3 = .ok (.astore_n 3, 1) := by decide +kernel
theorem d4 : decode yB 4 = .ok (.aload_n 0, 1) := by decide +kernel
theorem d5 : decode yB 5 = .ok (.iload_n 1, 1) := by decide +kernel
theorem d6 : decode yB 6 = .ok (.aload_n 3, 1) := by decide +kernel
theorem d7 : decode yB 7 = .ok (.iconst 0, 1) := by decide +kernel
theorem d8 : decode yB 8 = .ok (.iload_n 2, 1) := by decide +kernel
theorem d9 : decode yB 9 = .ok (.invokestatic 115, 3) := by decide +kernel
theorem d12 : decode yB 12 = .ok (.istore 4, 2) := by decide +kernel
theorem d14 : decode yB 14 = .ok (.iload 4, 2) := by decide +kernel
theorem d16 : decode yB 16 = .ok (.iload_n 2, 1) := by decide +kernel
theorem d17 : decode yB 17 = .ok (.if_icmp (.eq) 40, 3) := by decide +kernel
theorem d57 : decode yB 57 = .ok (.aload_n 3, 1) := by decide +kernel
theorem d58 : decode yB 58 = .ok (.areturn, 1) := by decide +kernel
def site : List Cond := [.arrayClass .byte, Cmp5.tab] ++ staticW U16 115 Cmp5.yN
def tab : Cond := tabOf yN yB 6 (some (.array .byte)) site
def P (b : Addr) (A : Cell) (o len : Nat) (args : Array Value) (s : State) : Prop := args = #[.ref b, .int (Int32.ofNat o), .int (Int32.ofNat len)] ∧ Ch b A s ∧ o + len ≤ A.slots.size ∧ len ≤ 536870912 ∧ ∀ i, i < len → ¬ 255 < cv A (o + i)
def E (b : Addr) (A : Cell) (o len : Nat) (r : Option Value) (s u : State) : Prop := NewArr .byte "[B" len (fun j => .int (lo8 (cv A (o + j)))) r s u ∧ u.heap.size = s.heap.size + 1
/-- no char of the range above 255: a new byte[] of their low bytes -/
theorem law (l : Launch) (b : Addr) (A : Cell) (o len : Nat) : Law l yN 3 3 1 18 yB 6 (some (.array .byte)) site (P b A o len) (E b A o len) [] 1 len := by
  refine Law.of_walk (plainFor_of_name (by decide +kernel)) (by decide +kernel) (by decide +kernel) (by decide) (fun _ _ h => by rw [h.1]; rfl) (fun _ U U' hal hh h => ⟨h.1, h.2.1.mv hal hh, h.2.2⟩) (fun r U U' V V' h1 hal h2 h => ⟨NewArr.mv r U U' V V' h1 hal h2 h.1, by rw [h1, h2]; exact h.2⟩) ?_
  intro p e s m args below meth c s₁ X0 hexec hbytes hml hret hlk hnm hown hh0 W hP
  obtain ⟨rfl, hA, l1, l2, hp⟩ := hP
  have a31 := hA.1.2.2.2
  have c1 : Steps p.tables e below (s₁.setTop (entryFrame m #[.ref b, .int (Int32.ofNat o), .int (Int32.ofNat len)] 6)) (s₁.setTop (mkF m 0 #[.val (.ref b), .val (.int (Int32.ofNat o)), .val (.int (Int32.ofNat len)), .unset, .unset, .unset] [])) := entry rfl
  have c2 : Steps p.tables e below (s₁.setTop (entryFrame m #[.ref b, .int (Int32.ofNat o), .int (Int32.ofNat len)] 6)) (s₁.setTop (mkF m 1 #[.val (.ref b), .val (.int (Int32.ofNat o)), .val (.int (Int32.ofNat len)), .unset, .unset, .unset] [.int (Int32.ofNat len)])) := c1.trans (by
    refine XS.iloadN X0.here hexec rfl (hb hbytes d0) rfl ?_
    exact Steps.refl _)
  obtain ⟨T3, B3, X3, ba3, bs3, bv3, bh3, bf3, st3⟩ := X0.anew hexec (atype := .byte) (wk W (.arrayClass .byte)) rfl (by show len * 1 ≤ _; omega) (by omega) (g := (mkF m 1 #[.val (.ref b), .val (.int (Int32.ofNat o)), .val (.int (Int32.ofNat len)), .unset, .unset, .unset] [.int (Int32.ofNat len)])) rfl (hb hbytes d1) (rest := []) rfl (Nat.le_refl _) (by show 0 + len ≤ len; omega)
  rw [hh0] at ba3 st3
  have kp3 : XT.Kept s T3 := (XT.Kept.of_eq hh0).push bh3
  have hA3 := hA.keep X3.warmed.alike (kp3 _ _ hA.1.1)
  have hne : b ≠ s.heap.size := hA.1.ne
  have c4 : Steps p.tables e below (s₁.setTop (entryFrame m #[.ref b, .int (Int32.ofNat o), .int (Int32.ofNat len)] 6)) (T3.setTop (mkF m 3 #[.val (.ref b), .val (.int (Int32.ofNat o)), .val (.int (Int32.ofNat len)), .unset, .unset, .unset] [.ref s.heap.size])) := c2.trans (st3 _ (Steps.refl _))
  have c5 : Steps p.tables e below (s₁.setTop (entryFrame m #[.ref b, .int (Int32.ofNat o), .int (Int32.ofNat len)] 6)) (T3.setTop (mkF m 9 #[.val (.ref b), .val (.int (Int32.ofNat o)), .val (.int (Int32.ofNat len)), .val (.ref s.heap.size), .unset, .unset] [.int (Int32.ofNat len), .int 0, .ref s.heap.size, .int (Int32.ofNat o), .ref b])) := c4.trans (by
    refine XS.astoreN X3.here hexec rfl (hb hbytes d3) rfl rfl rfl ?_
    refine XS.aloadN X3.here hexec rfl (hb hbytes d4) rfl rfl ?_
    refine XS.iloadN X3.here hexec rfl (hb hbytes d5) rfl ?_
    refine XS.aloadN X3.here hexec rfl (hb hbytes d6) rfl rfl ?_
    refine iconstV X3.here hexec rfl 0 (hb hbytes d7) (by decide) ?_
    refine XS.iloadN X3.here hexec rfl (hb hbytes d8) rfl ?_
    exact Steps.refl _)
  obtain ⟨v6, T6, X6, E6, g6⟩ := X3.callS hexec (Cmp5.law l b A s.heap.size B3 o 0 len) hown (wks W (staticW U16 115 Cmp5.yN)) (wk W Cmp5.tab) (W := 0) (Nat.le_of_ble_eq_true rfl) (Nat.le_of_ble_eq_true rfl) (Nat.le_refl _) (by show 0 + len + 0 ≤ len; omega) (g := (mkF m 9 #[.val (.ref b), .val (.int (Int32.ofNat o)), .val (.int (Int32.ofNat len)), .val (.ref s.heap.size), .unset, .unset] [.int (Int32.ofNat len), .int (Int32.ofNat 0), .ref s.heap.size, .int (Int32.ofNat o), .ref b])) rfl (by rw [hml]; rfl) c5 (argsL := [.ref b, .int (Int32.ofNat o), .ref s.heap.size, .int (Int32.ofNat 0), .int (Int32.ofNat len)]) (rest := []) rfl rfl (by show 2 * 0 + 0 ≤ _; decide) (hb hbytes d9) (⟨rfl, hA3, ba3, hne, l1, by rw [bs3]; simp, hp⟩)
  obtain ⟨rfl, B6, p6, f6⟩ := E6
  have c7 : Steps p.tables e below (s₁.setTop (entryFrame m #[.ref b, .int (Int32.ofNat o), .int (Int32.ofNat len)] 6)) (T6.setTop (mkF m 12 #[.val (.ref b), .val (.int (Int32.ofNat o)), .val (.int (Int32.ofNat len)), .val (.ref s.heap.size), .unset, .unset] [.int (Int32.ofNat len)])) := g6
  have c8 : Steps p.tables e below (s₁.setTop (entryFrame m #[.ref b, .int (Int32.ofNat o), .int (Int32.ofNat len)] 6)) (T6.setTop (mkF m 58 #[.val (.ref b), .val (.int (Int32.ofNat o)), .val (.int (Int32.ofNat len)), .val (.ref s.heap.size), .val (.int (Int32.ofNat len)), .unset] [.ref s.heap.size])) := c7.trans (by
    refine XS.istore X6.here hexec rfl (hb hbytes d12) rfl rfl ?_
    refine XS.iload X6.here hexec rfl (hb hbytes d14) rfl ?_
    refine XS.iloadN X6.here hexec rfl (hb hbytes d16) rfl ?_
    refine XS.icmpYes X6.here hexec rfl (pc0 := 17) rfl (hb hbytes d17) rfl (ii_eq_t rfl) (by decide) rfl ?_
    refine XS.aloadN X6.here hexec rfl (hb hbytes d57) rfl rfl ?_
    exact Steps.refl _)
  have X8 := X6.wide (L' := []) (cells' := 1) (slots' := len) (fun x hx hlt => by
    simp only [List.nil_append, copyLocs, List.mem_map, List.mem_range] at hx
    obtain ⟨i, -, rfl⟩ := hx
    exact absurd hlt (Nat.lt_irrefl _)) (Nat.le_refl _) (by omega)
  exact ⟨T6, some (.ref s.heap.size), _, _, _, X8, rfl, rfl, rfl, (fun h => by cases h), ⟨⟨rfl, B6, ba3.like (X3.warmed.alike.symm.trans X6.warmed.alike) p6.1 f6.1 f6.2.1 f6.2.2.1, f6.2.1.trans bv3, by rw [X6.warmed.alike.findClass, f6.1]; exact bf3, by rw [f6.2.2.1, bs3]; simp, fun j hj => by rw [f6.2.2.2 j, if_pos (by omega)]; rfl, kp3.put p6 (Nat.le_refl _)⟩, by rw [p6.2.2, bh3, hh0]; simp⟩, fun fs hl => c8.trans (X8.areturnOut hexec rfl hret rfl (hb hbytes d58) hl)⟩
end Cmp3
namespace CodL
def yN : MethodName := ⟨"java/lang/StringUTF16", "coderFromArrayLen", "([BI)B"⟩
abbrev yB : ByteArray := jdk_52_method_15_code
theorem d0 : decode yB 0 = .ok (.iload_n 1, 1) := by decide +kernel
theorem d1 : decode yB 1 = .ok (.aload_n 0, 1) := by decide +kernel
theorem d2 : decode yB 2 = .ok (.arraylength, 1) := by decide +kernel
theorem d3 : decode yB 3 = .ok (.isub, 1) := by decide +kernel
theorem d4 : decode yB 4 = .ok (.bipush 31, 2) := by decide +kernel
theorem d6 : decode yB 6 = .ok (.iushr, 1) := by decide +kernel
theorem d7 : decode yB 7 = .ok (.i2b, 1) := by decide +kernel
theorem d8 : decode yB 8 = .ok (.ireturn, 1) := by decide +kernel
def site : List Cond := []
def tab : Cond := tabOf yN yB 2 (some .byte) site
def P (d : Addr) (B : Cell) (args : Array Value) (s : State) : Prop := args = #[.ref d, .int (Int32.ofNat B.slots.size)] ∧ Arr .byte d B s
def E (r : Option Value) (s u : State) : Prop := XT.PureE (some (.int 0)) r s u
/-- an array as long as the number of chars: LATIN1 -/
theorem law (l : Launch) (d : Addr) (B : Cell) : Law l yN 2 2 0 0 yB 2 (some .byte) site (P d B) E [] 0 0 := by
  refine Law.of_walk (plainFor_of_name (by decide +kernel)) (by decide +kernel) (by decide +kernel) (by decide) (fun _ _ h => by rw [h.1]; rfl) (fun _ U U' hal hh h => ⟨h.1, h.2.mv hal hh⟩) (fun r U U' V V' h1 hal h2 h => XT.PureE.mv r U U' V V' h1 hal h2 h) ?_
  intro p e s m args below meth c s₁ X0 hexec hbytes hml hret hlk hnm hown hh0 W hP
  obtain ⟨rfl, hB⟩ := hP
  have hB0 := hB.mv X0.warmed.alike hh0
  have c1 : Steps p.tables e below (s₁.setTop (entryFrame m #[.ref d, .int (Int32.ofNat B.slots.size)] 2)) (s₁.setTop (mkF m 0 #[.val (.ref d), .val (.int (Int32.ofNat B.slots.size))] [])) := entry rfl
  have c2 : Steps p.tables e below (s₁.setTop (entryFrame m #[.ref d, .int (Int32.ofNat B.slots.size)] 2)) (s₁.setTop (mkF m 2 #[.val (.ref d), .val (.int (Int32.ofNat B.slots.size))] [.ref d, .int (Int32.ofNat B.slots.size)])) := c1.trans (by
    refine XS.iloadN X0.here hexec rfl (hb hbytes d0) rfl ?_
    refine XS.aloadN X0.here hexec rfl (hb hbytes d1) rfl rfl ?_
    exact Steps.refl _)
  have c3 : Steps p.tables e below (s₁.setTop (entryFrame m #[.ref d, .int (Int32.ofNat B.slots.size)] 2)) (s₁.setTop (mkF m 8 #[.val (.ref d), .val (.int (Int32.ofNat B.slots.size))] [.int (lo8 (ushr (Int32.ofNat B.slots.size - Int32.ofNat B.slots.size) 31))])) := c2.trans (by
    refine X0.alen hexec hB0 rfl rfl (hb hbytes d2) ?_
    refine XS.isub X0.here hexec rfl (hb hbytes d3) rfl ?_
    refine bipushV X0.here hexec rfl 31 (hb hbytes d4) (by decide) ?_
    refine iushr X0.here hexec rfl (hb hbytes d6) rfl ?_
    refine i2b X0.here hexec rfl (hb hbytes d7) rfl ?_
    exact Steps.refl _)
  have e0 : lo8 (ushr (Int32.ofNat B.slots.size - Int32.ofNat B.slots.size) 31) = 0 := by rw [Int32.sub_self]; decide
  rw [e0] at c3
  exact ⟨s₁, some (.int 0), _, _, _, X0, rfl, rfl, rfl, (fun h => by cases h), ⟨rfl, hh0⟩, fun fs hl => c3.trans (X0.ireturnOut hexec hret rfl (Or.inr (Or.inr (Or.inl rfl))) (hb hbytes d8) hl)⟩
end CodL
/-- the String at a is Latin-1 over a new byte[] (the heap's one new cell): the low bytes of the len chars of A from o on; every cell but a is kept -/
def Got (a : Addr) (D : Cell) (fV fC : Field) (A : Cell) (o len : Nat) (r : Option Value) (s u : State) : Prop := r = none ∧ ∃ D' V : Cell, Blank "java/lang/String" a D' u ∧ Same D D' [fV.slot, fC.slot] ∧ D'.slots[fV.slot]? = some (.ref s.heap.size) ∧ D'.slots[fC.slot]? = some (.int 0) ∧ Arr .byte s.heap.size V u ∧ V.vm = .none ∧ u.vm.findClass "[B" = some V.cls ∧ V.slots.size = len ∧ (∀ j, j < len → V.slots[j]? = some (.int (lo8 (cv A (o + j))))) ∧ (∀ (y : Addr) (c : Cell), y ≠ a → s.heap[y]? = some c → u.heap[y]? = some c) ∧ u.heap.size = s.heap.size + 1
theorem Got.mv {a : Addr} {D A : Cell} {fV fC : Field} {o len : Nat} : ∀ r (U U' V V' : State), U'.heap = U.heap → V.vm.Alike V'.vm → V'.heap = V.heap → Got a D fV fC A o len r U V → Got a D fV fC A o len r U' V' :=
  fun r U U' V V' h1 hal h2 ⟨e0, D', X, a1, a2, a3, a4, a5, a6, a7, a8, a9, a10, a11⟩ => ⟨e0, D', X, a1.mv hal h2, a2, by rw [h1]; exact a3, a4, by rw [h1]; exact a5.mv hal h2, a6, by rw [hal.findClass]; exact a7, a8, a9, by rw [h1, h2]; exact a10, by rw [h1, h2]; exact a11⟩
namespace New4
def yN : MethodName := ⟨"java/lang/String", "<init>", "([CIILjava/lang/Void;)V"⟩
abbrev yB : ByteArray := jdk_42_method_149_code
theorem d0 : decode yB 0 = .ok (.aload_n 0, 1) := by decide +kernel
theorem d1 : decode yB 1 = .ok (.invokespecial 1, 3) := by decide +kernel
theorem d4 : decode yB 4 = .ok (.iload_n 3, 1) := by decide +kernel
theorem d5 : decode yB 5 = .ok (.ifCond (.ne) 22, 3) := by decide +kernel
theorem d27 : decode yB 27 = .ok (.getstatic 38, 3) := by decide +kernel
theorem d30 : decode yB 30 = .ok (.ifCond (.eq) 28, 3) := by decide +kernel
theorem d33 : decode yB 33 = .ok (.aload_n 1, 1) := by decide +kernel
theorem d34 : decode yB 34 = .ok (.iload_n 2, 1) := by decide +kernel
theorem d35 : decode yB 35 = .ok (.iload_n 3, 1) := by decide +kernel
theorem d36 : decode yB 36 = .ok (.invokestatic 177, 3) := by decide +kernel
theorem d39 : decode yB 39 = .ok (.astore 5, 2) := by decide +kernel
theorem d41 : decode yB 41 = .ok (.aload_n 0, 1) := by decide +kernel
theorem d42 : decode yB 42 = .ok (.aload 5, 2) := by decide +kernel
theorem d44 : decode yB 44 = .ok (.iload_n 3, 1) := by decide +kernel
theorem d45 : decode yB 45 = .ok (.invokestatic 47, 3) := by decide +kernel
theorem d48 : decode yB 48 = .ok (.putfield 15, 3) := by decide +kernel
theorem d51 : decode yB 51 = .ok (.aload_n 0, 1) := by decide +kernel
theorem d52 : decode yB 52 = .ok (.aload 5, 2) := by decide +kernel
theorem d54 : decode yB 54 = .ok (.putfield 9, 3) := by decide +kernel
theorem d57 : decode yB 57 = .ok (.return_, 1) := by decide +kernel
def site : List Cond := [.fieldLink "java/lang/String" 38 "java/lang/String" "COMPACT_STRINGS" "Z", Cmp3.tab, CodL.tab, .laysFinal "java/lang/String" "java/lang/String" "value" "[B", .fieldLink "java/lang/String" 9 "java/lang/String" "value" "[B", .laysFinal "java/lang/String" "java/lang/String" "coder" "B", .fieldLink "java/lang/String" 15 "java/lang/String" "coder" "B"] ++ objW "java/lang/String" 1 ++ staticW "java/lang/String" 177 Cmp3.yN ++ staticW "java/lang/String" 47 CodL.yN
def tab : Cond := tabOf yN yB 6 none site
def P (a : Addr) (D : Cell) (fV fC : Field) (b : Addr) (A : Cell) (z : Int32) (o len : Nat) (args : Array Value) (s : State) : Prop := args = #[.ref a, .ref b, .int (Int32.ofNat o), .int (Int32.ofNat len), .null] ∧ Blank "java/lang/String" a D s ∧ Found "java/lang/String" "value" "[B" fV s ∧ Found "java/lang/String" "coder" "B" fC s ∧ Ch b A s ∧ StaticIs s "java/lang/String" "COMPACT_STRINGS" "Z" (.int z) ∧ ¬ z = 0 ∧ 0 < len ∧ o + len ≤ A.slots.size ∧ len ≤ 536870912 ∧ ∀ i, i < len → ¬ 255 < cv A (o + i)
def E (a : Addr) (D : Cell) (fV fC : Field) (A : Cell) (o len : Nat) (r : Option Value) (s u : State) : Prop := Got a D fV fC A o len r s u
/-- len > 0, no char of the range above 255: a Latin-1 String of their low bytes -/
theorem law (l : Launch) (a : Addr) (D : Cell) (fV fC : Field) (b : Addr) (A : Cell) (z : Int32) (o len : Nat) : Law l yN 5 4 2 35 yB 6 none site (P a D fV fC b A z o len) (E a D fV fC A o len) [⟨a, fC.slot⟩, ⟨a, fV.slot⟩] 1 len := by
  refine Law.of_walk (plainFor_of_name (by decide +kernel)) (by decide +kernel) (by decide +kernel) (by decide) (fun _ _ h => by rw [h.1]; rfl) (fun _ U U' hal hh h => ⟨h.1, h.2.1.mv hal hh, h.2.2.1.al hal, h.2.2.2.1.al hal, h.2.2.2.2.1.mv hal hh, h.2.2.2.2.2.1.there hal hh, h.2.2.2.2.2.2⟩) (fun r U U' V V' h1 hal h2 h => Got.mv r U U' V V' h1 hal h2 h) ?_
  intro p e s m args below meth c s₁ X0 hexec hbytes hml hret hlk hnm hown hh0 W hP
  obtain ⟨rfl, hB, f1, f2, hA, s1, hz, l0, l1, l2, hp⟩ := hP
  have a31 := hA.1.2.2.2
  have c1 : Steps p.tables e below (s₁.setTop (entryFrame m #[.ref a, .ref b, .int (Int32.ofNat o), .int (Int32.ofNat len), .null] 6)) (s₁.setTop (mkF m 0 #[.val (.ref a), .val (.ref b), .val (.int (Int32.ofNat o)), .val (.int (Int32.ofNat len)), .val .null, .unset] [])) := entry rfl
  have c2 : Steps p.tables e below (s₁.setTop (entryFrame m #[.ref a, .ref b, .int (Int32.ofNat o), .int (Int32.ofNat len), .null] 6)) (s₁.setTop (mkF m 1 #[.val (.ref a), .val (.ref b), .val (.int (Int32.ofNat o)), .val (.int (Int32.ofNat len)), .val .null, .unset] [.ref a])) := c1.trans (by
    refine XS.aloadN X0.here hexec rfl (hb hbytes d0) rfl rfl ?_
    exact Steps.refl _)
  obtain ⟨T3, X3, q3, st3⟩ := X0.oinit hexec hown (wks W (objW "java/lang/String" 1)) (g := (mkF m 1 #[.val (.ref a), .val (.ref b), .val (.int (Int32.ofNat o)), .val (.int (Int32.ofNat len)), .val .null, .unset] [.ref a])) rfl (by rw [hml]; rfl) (rest := []) rfl (hb hbytes d1) (W := 0) (by show 2 * 0 + 0 ≤ _; decide) (Nat.le_of_ble_eq_true rfl) (Nat.le_of_ble_eq_true rfl)
  have hh3 := q3.trans hh0
  have c4 : Steps p.tables e below (s₁.setTop (entryFrame m #[.ref a, .ref b, .int (Int32.ofNat o), .int (Int32.ofNat len), .null] 6)) (T3.setTop (mkF m 27 #[.val (.ref a), .val (.ref b), .val (.int (Int32.ofNat o)), .val (.int (Int32.ofNat len)), .val .null, .unset] [])) := (c2.trans (st3 _ (Steps.refl _))).trans (by
    refine XS.iloadN X3.here hexec rfl (hb hbytes d4) rfl ?_
    refine XS.ifYes X3.here hexec rfl (pc0 := 5) rfl (hb hbytes d5) rfl (i0_ne_t (nz32 (by omega) l0)) (by decide) rfl ?_
    exact Steps.refl _)
  obtain ⟨T5, X5, q5, st5⟩ := X3.sget hexec hown (wk W (.fieldLink "java/lang/String" 38 "java/lang/String" "COMPACT_STRINGS" "Z")) s1 (fun _ _ h => by rw [hh3]; exact h) (g := (mkF m 27 #[.val (.ref a), .val (.ref b), .val (.int (Int32.ofNat o)), .val (.int (Int32.ofNat len)), .val .null, .unset] [])) rfl (hb hbytes d27)
  have hh5 := q5.trans hh3
  have c6 : Steps p.tables e below (s₁.setTop (entryFrame m #[.ref a, .ref b, .int (Int32.ofNat o), .int (Int32.ofNat len), .null] 6)) (T5.setTop (mkF m 30 #[.val (.ref a), .val (.ref b), .val (.int (Int32.ofNat o)), .val (.int (Int32.ofNat len)), .val .null, .unset] [.int z])) := c4.trans (st5 _ (Steps.refl _))
  have c7 : Steps p.tables e below (s₁.setTop (entryFrame m #[.ref a, .ref b, .int (Int32.ofNat o), .int (Int32.ofNat len), .null] 6)) (T5.setTop (mkF m 36 #[.val (.ref a), .val (.ref b), .val (.int (Int32.ofNat o)), .val (.int (Int32.ofNat len)), .val .null, .unset] [.int (Int32.ofNat len), .int (Int32.ofNat o), .ref b])) := c6.trans (by
    refine XS.ifNo X5.here hexec rfl (hb hbytes d30) rfl (i0_eq_f hz) ?_
    refine XS.aloadN X5.here hexec rfl (hb hbytes d33) rfl rfl ?_
    refine XS.iloadN X5.here hexec rfl (hb hbytes d34) rfl ?_
    refine XS.iloadN X5.here hexec rfl (hb hbytes d35) rfl ?_
    exact Steps.refl _)
  obtain ⟨v8, T8, X8, E8, g8⟩ := X5.callS hexec (Cmp3.law l b A o len) hown (wks W (staticW "java/lang/String" 177 Cmp3.yN)) (wk W Cmp3.tab) (W := 0) (Nat.le_of_ble_eq_true rfl) (Nat.le_of_ble_eq_true rfl) (Nat.le_refl _) (by show 0 + len ≤ len; omega) (g := (mkF m 36 #[.val (.ref a), .val (.ref b), .val (.int (Int32.ofNat o)), .val (.int (Int32.ofNat len)), .val .null, .unset] [.int (Int32.ofNat len), .int (Int32.ofNat o), .ref b])) rfl (by rw [hml]; rfl) c7 (argsL := [.ref b, .int (Int32.ofNat o), .int (Int32.ofNat len)]) (rest := []) rfl rfl (by show 2 * 0 + 0 ≤ _; decide) (hb hbytes d36) (⟨rfl, hA.mv X5.warmed.alike hh5, l1, l2, hp⟩)
  obtain ⟨e8, z8⟩ := E8
  obtain ⟨rfl, N, n1, n2, n3, n4, n5, n6⟩ := NewArr.mv _ T5 s _ _ hh5.symm (Vm.Alike.refl _) rfl e8
  rw [hh5] at z8
  have hB1 := hB.keep X8.warmed.alike (n6 _ _ hB.1)
  have hne : s.heap.size ≠ a := (Nat.ne_of_lt (Array.getElem?_eq_some_iff.mp hB.1).1).symm
  have c9 : Steps p.tables e below (s₁.setTop (entryFrame m #[.ref a, .ref b, .int (Int32.ofNat o), .int (Int32.ofNat len), .null] 6)) (T8.setTop (mkF m 39 #[.val (.ref a), .val (.ref b), .val (.int (Int32.ofNat o)), .val (.int (Int32.ofNat len)), .val .null, .unset] [.ref s.heap.size])) := g8
  have c10 : Steps p.tables e below (s₁.setTop (entryFrame m #[.ref a, .ref b, .int (Int32.ofNat o), .int (Int32.ofNat len), .null] 6)) (T8.setTop (mkF m 45 #[.val (.ref a), .val (.ref b), .val (.int (Int32.ofNat o)), .val (.int (Int32.ofNat len)), .val .null, .val (.ref s.heap.size)] [.int (Int32.ofNat N.slots.size), .ref s.heap.size, .ref a])) := by
    have hc : Steps p.tables e below (s₁.setTop (entryFrame m #[.ref a, .ref b, .int (Int32.ofNat o), .int (Int32.ofNat len), .null] 6)) (T8.setTop (mkF m 45 #[.val (.ref a), .val (.ref b), .val (.int (Int32.ofNat o)), .val (.int (Int32.ofNat len)), .val .null, .val (.ref s.heap.size)] [.int (Int32.ofNat len), .ref s.heap.size, .ref a])) := c9.trans (by
      refine XS.astore X8.here hexec rfl (hb hbytes d39) rfl rfl rfl ?_
      refine XS.aloadN X8.here hexec rfl (hb hbytes d41) rfl rfl ?_
      refine XS.aload X8.here hexec rfl (hb hbytes d42) rfl rfl ?_
      refine XS.iloadN X8.here hexec rfl (hb hbytes d44) rfl ?_
      exact Steps.refl _)
    rw [n4]; exact hc
  obtain ⟨v11, T11, X11, E11, g11⟩ := X8.callS hexec (CodL.law l s.heap.size N) hown (wks W (staticW "java/lang/String" 47 CodL.yN)) (wk W CodL.tab) (W := 1) (Nat.le_of_ble_eq_true rfl) (Nat.le_of_ble_eq_true rfl) (Nat.le_refl _) (by show 0 + len + 0 ≤ len; omega) (g := (mkF m 45 #[.val (.ref a), .val (.ref b), .val (.int (Int32.ofNat o)), .val (.int (Int32.ofNat len)), .val .null, .val (.ref s.heap.size)] [.int (Int32.ofNat N.slots.size), .ref s.heap.size, .ref a])) rfl (by rw [hml]; rfl) c10 (argsL := [.ref s.heap.size, .int (Int32.ofNat N.slots.size)]) (rest := [.ref a]) rfl rfl (by show 2 * 0 + (1 + 0) ≤ _; decide) (hb hbytes d45) (⟨rfl, n1⟩)
  obtain ⟨rfl, q11⟩ := E11
  have hB11 := hB1.mv (X8.warmed.alike.symm.trans X11.warmed.alike) q11
  have c12 : Steps p.tables e below (s₁.setTop (entryFrame m #[.ref a, .ref b, .int (Int32.ofNat o), .int (Int32.ofNat len), .null] 6)) (T11.setTop (mkF m 48 #[.val (.ref a), .val (.ref b), .val (.int (Int32.ofNat o)), .val (.int (Int32.ofNat len)), .val .null, .val (.ref s.heap.size)] [.int 0, .ref a])) := g11
  obtain ⟨T13, X13, p13, bl13, sl13, st13⟩ := X11.finit hexec hown (wk W (.fieldLink "java/lang/String" 15 "java/lang/String" "coder" "B")) (Or.inr ⟨_, (wk W (.laysFinal "java/lang/String" "java/lang/String" "coder" "B"))⟩) (Or.inl ⟨rfl, hnm⟩) f2 (Or.inl rfl) hB11 (t := .byte) (by decide +kernel) rfl (g := (mkF m 48 #[.val (.ref a), .val (.ref b), .val (.int (Int32.ofNat o)), .val (.int (Int32.ofNat len)), .val .null, .val (.ref s.heap.size)] [.int 0, .ref a])) rfl (rest := []) rfl (hb hbytes d48)
  have c14 : Steps p.tables e below (s₁.setTop (entryFrame m #[.ref a, .ref b, .int (Int32.ofNat o), .int (Int32.ofNat len), .null] 6)) (T13.setTop (mkF m 54 #[.val (.ref a), .val (.ref b), .val (.int (Int32.ofNat o)), .val (.int (Int32.ofNat len)), .val .null, .val (.ref s.heap.size)] [.ref s.heap.size, .ref a])) := (c12.trans (st13 _ (Steps.refl _))).trans (by
    refine XS.aloadN X13.here hexec rfl (hb hbytes d51) rfl rfl ?_
    refine XS.aload X13.here hexec rfl (hb hbytes d52) rfl rfl ?_
    exact Steps.refl _)
  obtain ⟨T15, X15, p15, bl15, sl15, st15⟩ := X13.finit hexec hown (wk W (.fieldLink "java/lang/String" 9 "java/lang/String" "value" "[B")) (Or.inr ⟨_, (wk W (.laysFinal "java/lang/String" "java/lang/String" "value" "[B"))⟩) (Or.inl ⟨rfl, hnm⟩) f1 (Or.inl rfl) bl13 (t := (.array .byte)) (by decide +kernel) rfl (g := (mkF m 54 #[.val (.ref a), .val (.ref b), .val (.int (Int32.ofNat o)), .val (.int (Int32.ofNat len)), .val .null, .val (.ref s.heap.size)] [.ref s.heap.size, .ref a])) rfl (rest := []) rfl (hb hbytes d54)
  have c16 : Steps p.tables e below (s₁.setTop (entryFrame m #[.ref a, .ref b, .int (Int32.ofNat o), .int (Int32.ofNat len), .null] 6)) (T15.setTop (mkF m 57 #[.val (.ref a), .val (.ref b), .val (.int (Int32.ofNat o)), .val (.int (Int32.ofNat len)), .val .null, .val (.ref s.heap.size)] [])) := c14.trans (st15 _ (Steps.refl _))
  have ap := apart (Or.inr ⟨_, (wk W (.laysFinal "java/lang/String" "java/lang/String" "value" "[B"))⟩) (Or.inr ⟨_, (wk W (.laysFinal "java/lang/String" "java/lang/String" "coder" "B"))⟩) f1 f2 (t₁ := .array .byte) (t₂ := .byte) (by decide +kernel) (by decide +kernel) (by decide)
  have al := X8.warmed.alike.symm.trans X15.warmed.alike
  have n7 : T11.heap[s.heap.size]? = some N := by rw [q11]; exact n1.1
  exact ⟨T15, none, _, _, _, X15, by simp, rfl, by omega, (fun _ => rfl), ⟨rfl, _, N, bl15, ((Same.refl D _).set _ (by simp)).set _ (by simp), sl15, (Cell.slots_setSlot_ne _ ap).trans sl13, n1.keep al (p15.other hne (p13.other hne n7)), n2, by rw [al.findClass]; exact n3, n4, n5, fun y c h1 h2 => p15.other h1 (p13.other h1 (by rw [q11]; exact n6 y c h2)), by rw [p15.2.2, p13.2.2, q11]; exact z8⟩, fun fs hl => c16.trans (X15.returnOut hexec hret (hb hbytes d57) hl)⟩
end New4
namespace New1
def yN : MethodName := ⟨"java/lang/String", "<init>", "([C)V"⟩
abbrev yB : ByteArray := jdk_42_method_3_code
theorem d0 : decode yB 0 = .ok (.aload_n 0, 1) := by decide +kernel
theorem d1 : decode yB 1 = .ok (.aload_n 1, 1) := by decide +kernel
theorem d2 : decode yB 2 = .ok (.iconst 0, 1) := by decide +kernel
theorem d3 : decode yB 3 = .ok (.aload_n 1, 1) := by decide +kernel
theorem d4 : decode yB 4 = .ok (.arraylength, 1) := by decide +kernel
theorem d5 : decode yB 5 = .ok (.aconst_null, 1) := by decide +kernel
theorem d6 : decode yB 6 = .ok (.invokespecial 27, 3) := by decide +kernel
theorem d9 : decode yB 9 = .ok (.return_, 1) := by decide +kernel
def site : List Cond := [New4.tab] ++ initW "java/lang/String" 27 New4.yN
def tab : Cond := tabOf yN yB 2 none site
def P (a : Addr) (D : Cell) (fV fC : Field) (b : Addr) (A : Cell) (z : Int32) (args : Array Value) (s : State) : Prop := args = #[.ref a, .ref b] ∧ Blank "java/lang/String" a D s ∧ Found "java/lang/String" "value" "[B" fV s ∧ Found "java/lang/String" "coder" "B" fC s ∧ Ch b A s ∧ StaticIs s "java/lang/String" "COMPACT_STRINGS" "Z" (.int z) ∧ ¬ z = 0 ∧ 0 < A.slots.size ∧ A.slots.size ≤ 536870912 ∧ ∀ i, i < A.slots.size → ¬ 255 < cv A i
def E (a : Addr) (D : Cell) (fV fC : Field) (A : Cell) (r : Option Value) (s u : State) : Prop := Got a D fV fC A 0 A.slots.size r s u
/-- new String(chars), not empty, no char above 255: a Latin-1 String of their low bytes -/
theorem law (l : Launch) (a : Addr) (D : Cell) (fV fC : Field) (b : Addr) (A : Cell) (z : Int32) : Law l yN 2 1 3 52 yB 2 none site (P a D fV fC b A z) (E a D fV fC A) [⟨a, fC.slot⟩, ⟨a, fV.slot⟩] 1 A.slots.size := by
  refine Law.of_walk (plainFor_of_name (by decide +kernel)) (by decide +kernel) (by decide +kernel) (by decide) (fun _ _ h => by rw [h.1]; rfl) (fun _ U U' hal hh h => ⟨h.1, h.2.1.mv hal hh, h.2.2.1.al hal, h.2.2.2.1.al hal, h.2.2.2.2.1.mv hal hh, h.2.2.2.2.2.1.there hal hh, h.2.2.2.2.2.2⟩) (fun r U U' V V' h1 hal h2 h => Got.mv r U U' V V' h1 hal h2 h) ?_
  intro p e s m args below meth c s₁ X0 hexec hbytes hml hret hlk hnm hown hh0 W hP
  obtain ⟨rfl, hB, f1, f2, hA, s1, hz, l0, l2, hp⟩ := hP
  have c1 : Steps p.tables e below (s₁.setTop (entryFrame m #[.ref a, .ref b] 2)) (s₁.setTop (mkF m 0 #[.val (.ref a), .val (.ref b)] [])) := entry rfl
  have c2 : Steps p.tables e below (s₁.setTop (entryFrame m #[.ref a, .ref b] 2)) (s₁.setTop (mkF m 6 #[.val (.ref a), .val (.ref b)] [.null, .int (Int32.ofNat A.slots.size), .int 0, .ref b, .ref a])) := c1.trans (by
    refine XS.aloadN X0.here hexec rfl (hb hbytes d0) rfl rfl ?_
    refine XS.aloadN X0.here hexec rfl (hb hbytes d1) rfl rfl ?_
    refine iconstV X0.here hexec rfl 0 (hb hbytes d2) (by decide) ?_
    refine XS.aloadN X0.here hexec rfl (hb hbytes d3) rfl rfl ?_
    refine X0.alen hexec (hA.1.mv X0.warmed.alike hh0) rfl rfl (hb hbytes d4) ?_
    refine XS.aconstNull X0.here hexec rfl (hb hbytes d5) ?_
    exact Steps.refl _)
  obtain ⟨v3, T3, X3, E3, g3⟩ := X0.callN hexec (New4.law l a D fV fC b A z 0 A.slots.size) rfl hown (wks W (initW "java/lang/String" 27 New4.yN)) (W New4.tab (by simp only [site, List.mem_cons, List.mem_append, true_or, or_true])) (W := 0) (Nat.le_of_ble_eq_true rfl) (Nat.le_of_ble_eq_true rfl) (Nat.le_refl _) (by show 0 + A.slots.size ≤ A.slots.size; omega) (g := (mkF m 6 #[.val (.ref a), .val (.ref b)] [.null, .int (Int32.ofNat A.slots.size), .int (Int32.ofNat 0), .ref b, .ref a])) rfl (by rw [hml]; rfl) c2 (argsL := [.ref b, .int (Int32.ofNat 0), .int (Int32.ofNat A.slots.size), .null]) (rest := []) rfl rfl (by show 2 * 0 + 0 ≤ _; decide) (hb hbytes d6) (⟨rfl, hB.mv X0.warmed.alike hh0, f1.al X0.warmed.alike, f2.al X0.warmed.alike, hA.mv X0.warmed.alike hh0, s1.there X0.warmed.alike hh0, hz, l0, by omega, l2, fun i hi => by rw [Nat.zero_add]; exact hp i hi⟩)
  have e0 := Got.mv _ s₁ s _ _ hh0.symm (Vm.Alike.refl _) rfl E3
  obtain rfl := e0.1
  have c4 : Steps p.tables e below (s₁.setTop (entryFrame m #[.ref a, .ref b] 2)) (T3.setTop (mkF m 9 #[.val (.ref a), .val (.ref b)] [])) := g3
  exact ⟨T3, none, _, _, _, X3, by simp, rfl, by omega, (fun _ => rfl), e0, fun fs hl => c4.trans (X3.returnOut hexec hret (hb hbytes d9) hl)⟩
theorem pays {l : Launch} {R : Room} {p : Program} {e : Env} {below : List Frame} {s : State} {sargs : Array Value} {len W : Nat} (a : Addr) (D : Cell) (fV fC : Field) (b : Addr) (A : Cell) (z : Int32) (htab : tab.before sargs s = true) (hfr : 4 ≤ R.frames) (hlo : W + 65 ≤ R.locals) :
    Back l R p e below s sargs yN len W (fun A₁ a₁ => A₁.cells + 1 ≤ R.cells ∧ A₁.slots + A.slots.size ≤ R.slots ∧ P a D fV fC b A z a₁ A₁.U) (fun A₁ _ v₁ B₁ => E a D fV fC A v₁ A₁.U B₁.U ∧ B₁.locs = A₁.locs ++ [⟨a, fC.slot⟩, ⟨a, fV.slot⟩] ∧ B₁.cells = A₁.cells + 1 ∧ B₁.slots = A₁.slots + A.slots.size) :=
  (law l a D fV fC b A z).pays htab hfr (by omega)
end New1
/-- the byte, read back as charAt reads it, is the char -/
theorem lo8_mask {x : Int32} (h0 : ¬ x < 0) (h1 : ¬ 255 < x) : lo8 x &&& 255 = x := by
  have t : ∀ k : Fin 256, lo8 (Int32.ofNat k.val) &&& 255 = Int32.ofNat k.val := by decide +kernel
  rw [Int32.lt_iff_toInt_lt] at h0 h1
  have e0 : (0 : Int32).toInt = 0 := rfl
  have e1 : (255 : Int32).toInt = 255 := rfl
  obtain ⟨k, hk⟩ : ∃ k : Nat, x.toInt = k := ⟨x.toInt.toNat, by omega⟩
  have hx : x = Int32.ofNat k := Int32.toInt_inj.mp (by rw [hk, Int32.toInt_ofNat_small (by omega)])
  rw [hx]
  exact t ⟨k, by omega⟩
end StrChars
namespace StrChars.Road
open Jvm Sem ClassFile Op Lib Jvm.Stand Jvm.Free Jvm.Free.XT
open Jvm.Lib.Cold (StaticIs)
abbrev ST : String := "java/lang/String"
/-- every table word that New1's law asks, flat -/
abbrev words : List Jvm.Cond := [.code New1.yN New1.yB 2 none, .initialized ST, .methodLink ST 27 New4.yN, .instanceMethod New4.yN,
  .code New4.yN New4.yB 6 none, .fieldLink ST 38 ST "COMPACT_STRINGS" "Z", .laysFinal ST ST "value" "[B", .fieldLink ST 9 ST "value" "[B", .laysFinal ST ST "coder" "B", .fieldLink ST 15 ST "coder" "B",
  .methodLink ST 1 Lib.objectInit, .instanceMethod Lib.objectInit, .code Lib.objectInit ⟨#[0xb1]⟩ 1 none, .methodLink ST 177 Cmp3.yN, .static Cmp3.yN, .methodLink ST 47 CodL.yN, .static CodL.yN,
  .code Cmp3.yN Cmp3.yB 6 (some (.array .byte)), .initialized U16, .arrayClass .byte, .methodLink U16 115 Cmp5.yN, .static Cmp5.yN, .code Cmp5.yN Cmp5.yB 7 (some .int), .code CodL.yN CodL.yB 2 (some .byte)]
theorem tab_of {a : Array Value} {s : State} (h : ∀ w ∈ words, w.before a s = true) : New1.tab.before a s = true := by
  have h5 : Cmp5.tab.before a s = true := unparts (wk h (.code Cmp5.yN Cmp5.yB 7 (some .int))) (wks h (.initialized Cmp5.yN.cls :: Cmp5.site))
  have hc : CodL.tab.before a s = true := unparts (wk h (.code CodL.yN CodL.yB 2 (some .byte))) (wks h (.initialized CodL.yN.cls :: CodL.site))
  have q5 : ∀ w ∈ Cmp5.tab :: words, w.before a s = true := fun w hw => (List.mem_cons.mp hw).elim (fun e => e ▸ h5) (h w)
  have h3 : Cmp3.tab.before a s = true := unparts (wk q5 (.code Cmp3.yN Cmp3.yB 6 (some (.array .byte)))) (wks q5 (.initialized Cmp3.yN.cls :: Cmp3.site))
  have q3 : ∀ w ∈ Cmp3.tab :: CodL.tab :: words, w.before a s = true := fun w hw => (List.mem_cons.mp hw).elim (fun e => e ▸ h3) fun hw => (List.mem_cons.mp hw).elim (fun e => e ▸ hc) (h w)
  have h4 : New4.tab.before a s = true := unparts (wk q3 (.code New4.yN New4.yB 6 none)) (wks q3 (.initialized New4.yN.cls :: New4.site))
  have q4 : ∀ w ∈ New4.tab :: words, w.before a s = true := fun w hw => (List.mem_cons.mp hw).elim (fun e => e ▸ h4) (h w)
  exact unparts (wk q4 (.code New1.yN New1.yB 2 none)) (wks q4 (.initialized New1.yN.cls :: New1.site))
/-- the words ride from the start Z to the walk's own state -/
theorem moved {Z s : State} {a0 args : Array Value} (hZ : Z.Warmed39 s.vm) (hw : ∀ d ∈ words, d.before a0 Z = true) : ∀ d ∈ words, d.before args s = true := fun d hd => by
  have q := hw d hd
  have t : ∀ d ∈ words, d = .arrayClass .byte ∨ (d.onTables && d.keepsFace) = true := by decide +kernel
  rcases t d hd with rfl | t
  · exact RoadKit.mvA hZ q
  · exact RoadKit.mv hZ q t
/-- WHAT COMES BACK, over the tables of the start Z: h the heap at the call, h' behind it -/
def Q (Z : State) (x : Addr) (A : Cell) (h : Heap) (v : Option Value) (h' : Heap) (L : List Loc) : Prop := v = none ∧ (∀ y ∈ L, y.base = x) ∧ RoadKit.Keep h h' [x] ∧ h'.size = h.size + 1 ∧ RoadKit.Exa Z h' x ST ∧ RoadKit.Fld Z h' x ST "value" "[B" (.ref h.size) ∧ RoadKit.Fld Z h' x ST "coder" "B" (.int 0) ∧
  (∃ V : Cell, RoadKit.Arr Z h' h.size V .byte ∧ V.vm = .none ∧ Z.vm.findClass "[B" = some V.cls ∧ V.slots.size = A.slots.size ∧ ∀ j, j < A.slots.size → V.slots[j]? = some (.int (lo8 (cv A j)))) ∧
  ∀ (O n d : String) (w : Value), RoadKit.Fld Z h x O n d w → RoadKit.slotOf Z O n d ≠ RoadKit.slotOf Z ST "value" "[B" → RoadKit.slotOf Z O n d ≠ RoadKit.slotOf Z ST "coder" "B" → RoadKit.Fld Z h' x O n d w
/-- **new String(chars) AT A CALL, IN THE ROAD'S FORM**: for specialBack behind newO: x the fresh String, b the char[] with the cell A -/
theorem back {p : Program} {l : Launch} {e : Env} {R : Room} {s : State} {args : Array Value} {below : List Frame} {len W : Nat} {Z : State} {a0 : Array Value} {h : Heap} (hZ : Z.Warmed39 s.vm) (hw : ∀ d ∈ words, d.before a0 Z = true) {kI : Nat} (wi : (Jvm.Cond.instantiable ST kI).before a0 Z = true)
    {x b : Addr} {A : Cell} {z : Int32} {v0 c0 : Value} (E : RoadKit.Exa Z h x ST) (V : RoadKit.Fld Z h x ST "value" "[B" v0) (C : RoadKit.Fld Z h x ST "coder" "B" c0) (K : RoadKit.Arr Z h b A .char) (hty : Typed .char A) (S : RoadKit.Sta Z h ST "COMPACT_STRINGS" "Z" (.int z)) (hz : ¬ z = 0)
    (l0 : 0 < A.slots.size) (l2 : A.slots.size ≤ 536870912) (hp : ∀ i, i < A.slots.size → ¬ 255 < cv A i) (hfr : 4 ≤ R.frames) (hlo : W + 65 ≤ R.locals) :
    Back l R p e below s args New1.yN len W (fun P a => a = #[.ref x, .ref b] ∧ P.U.heap = h ∧ P.cells + 1 ≤ R.cells ∧ P.slots + A.slots.size ≤ R.slots)
      (fun P _ v B => ∃ L, Q Z x A h v B.U.heap L ∧ B.locs = P.locs ++ L ∧ B.cells = P.cells + 1 ∧ B.slots = P.slots + A.slots.size) := by
  intro m meth c P g ig mk a X hg hsize hdg hW hn hp'
  obtain ⟨rfl, rfl, r1, r2⟩ := hp'
  have al : Z.vm.Alike P.U.vm := hZ.alike.trans X.warmed.alike
  obtain ⟨D, cfV, kV, iV, fV, hD, gV, stV, knV, obV, asV, slV⟩ := id V
  obtain ⟨D', cfC, kC, iC, fC, hD', gC, stC, -, -, asC, slC⟩ := id C
  cases hD.symm.trans hD'
  obtain ⟨D2, kD, e1, e2, e3, e4, e5⟩ := id E
  cases hD.symm.trans e1
  obtain ⟨c2, k2, i1, i2, i3, -⟩ := Cond.instantiable_spec wi
  cases e2.symm.trans i1
  cases e3.symm.trans i2
  obtain ⟨kU, u1, u2⟩ := al.2.2 _ _ e3
  have hB : Blank ST x D P.U := ⟨hD, ⟨knV, fun q hq => by rw [hq] at obV; cases obV⟩, by rw [al.findClass]; exact e2, kU, u1, by rw [u2]; exact i3, by rw [u2]; exact e5 i3⟩
  have F1 : Found ST "value" "[B" fV P.U := ⟨SBG.found_only al ⟨cfV, kV, iV, gV⟩, stV⟩
  have F2 : Found ST "coder" "B" fC P.U := ⟨SBG.found_only al ⟨cfC, kC, iC, gC⟩, stC⟩
  have hA : Ch b A P.U := ⟨⟨K.1, State.isArrayOf_alike al K.2.1, K.2.2, by omega⟩, hty⟩
  have hS : StaticIs P.U ST "COMPACT_STRINGS" "Z" (.int z) := by
    obtain ⟨cfS, iS, kS, fS, st, cS, t1, t2, t3, t4, t5, t6, t7⟩ := S
    exact StaticIs.there (s := { Z with heap := P.U.heap }) ⟨cfS, iS, kS, fS, st, cS, t1, t2, t3, t4, t5, (fun q => by rw [q] at t6; cases t6), t7⟩ al rfl
  obtain ⟨v, B, X', ⟨⟨hv, E', V', q1, q2, q3, q4, q5, q6, q7, q8, q9, q10, q11⟩, hl, hc, hs⟩, st⟩ := New1.pays x D fV fC b A z (tab_of (moved hZ hw)) hfr hlo m meth c P g ig mk _ X hg hsize hdg hW hn ⟨r1, r2, rfl, hB, F1, F2, hA, hS, hz, l0, l2, hp⟩
  have al' : Z.vm.Alike B.U.vm := hZ.alike.trans X'.warmed.alike
  have hsz : E'.slots.size = D.slots.size := by
    obtain ⟨-, -, -, kB, w1, w2, w3⟩ := q1
    obtain ⟨kB', y1, y2⟩ := al'.2.2 _ _ e3
    rw [q2.2.1] at w1
    cases w1.symm.trans y1
    rw [w3, e5 i3, y2]
  refine ⟨v, B, X', ⟨_, ⟨hv, ?_, ⟨by omega, fun y cy hy hn' => q10 y cy (by simpa using hn') hy, fun y cy hy => ?_⟩, q11, ⟨E', _, q1.1, by rw [q2.2.1]; exact e2, by rw [q2.2.1]; exact e3, by rw [q2.1]; exact obV, fun _ => by rw [hsz]; exact e5 i3⟩,
    ⟨E', cfV, kV, iV, fV, q1.1, gV, stV, by rw [q2.1]; exact knV, by rw [q2.1]; exact obV, by rw [q2.2.1]; exact asV, q3⟩, ⟨E', cfC, kC, iC, fC, q1.1, gC, stC, by rw [q2.1]; exact knV, by rw [q2.1]; exact obV, by rw [q2.2.1]; exact asC, q4⟩,
    ⟨V', ⟨q5.1, State.isArrayOf_alike al'.symm q5.2.1, q5.2.2.1⟩, q6, by rw [← al'.findClass]; exact q7, q8, fun j hj => by have := q9 j hj; rwa [Nat.zero_add] at this⟩, fun O n d w F n1 n2 => ?_⟩, hl, hc, hs⟩, st⟩
  · intro y hy
    simp only [List.mem_cons, List.not_mem_nil, or_false] at hy
    rcases hy with rfl | rfl <;> rfl
  · by_cases q : y = x
    · subst q
      cases hD.symm.trans hy
      exact ⟨E', q1.1, q2.2.1, q2.1, hsz⟩
    · exact ⟨cy, q10 y cy q hy, rfl, rfl, rfl⟩
  · obtain ⟨D3, cf, k, i, f, g1, g2, g3, g4, g5, g6, g7⟩ := F
    cases hD.symm.trans g1
    simp only [RoadKit.slotOf, g2, gV, gC, Option.map_some, Option.getD_some] at n1 n2
    exact ⟨E', cf, k, i, f, q1.1, g2, g3, by rw [q2.1]; exact g4, by rw [q2.1]; exact g5, by rw [q2.2.1]; exact g6, by rw [q2.2.2 f.slot (by simp [n1, n2])]; exact g7⟩
end StrChars.Road
namespace StrChars.Road
open Jvm Sem ClassFile Op Lib Jvm.Stand Jvm.Free Jvm.Free.XT
/-- WHAT COMES BACK, the byte[] as a list of values -/
def QA (Z : State) (x : Addr) (zn : Int32) (cs : List Int32) (h : Heap) (v : Option Value) (h' : Heap) (L : List Loc) : Prop := v = none ∧ (∀ y ∈ L, y.base = x) ∧ RoadKit.Keep h h' [x] ∧ h'.size = h.size + 1 ∧ RoadKit.Exa Z h' x ST ∧ RoadKit.Fld Z h' x ST "value" "[B" (.ref h.size) ∧ RoadKit.Fld Z h' x ST "coder" "B" (.int 0) ∧
  (∃ kb, Z.vm.findClass "[B" = some kb ∧ RoadKit.Arv Z h' h.size kb .byte zn (cs.map fun c => .int (lo8 c)) (.int 0)) ∧
  ∀ (O n d : String) (w : Value), RoadKit.Fld Z h x O n d w → RoadKit.slotOf Z O n d ≠ RoadKit.slotOf Z ST "value" "[B" → RoadKit.slotOf Z O n d ≠ RoadKit.slotOf Z ST "coder" "B" → RoadKit.Fld Z h' x O n d w
/-- **new String(chars) AT A CALL, THE ARRAYS AS LISTS**: the char[] at b holds cs, not empty, no char above 255 -/
theorem backArv {p : Program} {l : Launch} {e : Env} {R : Room} {s : State} {args : Array Value} {below : List Frame} {len W : Nat} {Z : State} {a0 : Array Value} {h : Heap} (hZ : Z.Warmed39 s.vm) (hw : ∀ d ∈ words, d.before a0 Z = true) {kI : Nat} (wi : (Jvm.Cond.instantiable ST kI).before a0 Z = true)
    {x b : Addr} {k : ClassId} {zn z : Int32} {cs : List Int32} {dv v0 c0 : Value} (E : RoadKit.Exa Z h x ST) (V : RoadKit.Fld Z h x ST "value" "[B" v0) (C : RoadKit.Fld Z h x ST "coder" "B" c0) (K : RoadKit.Arv Z h b k .char zn (cs.map Value.int) dv) (S : RoadKit.Sta Z h ST "COMPACT_STRINGS" "Z" (.int z)) (hz : ¬ z = 0)
    (hlen : zn.toNatClampNeg = cs.length) (h0 : 0 < cs.length) (hbig : cs.length ≤ 536870912) (hall : ∀ c ∈ cs, ¬ 255 < c) (hfr : 4 ≤ R.frames) (hlo : W + 65 ≤ R.locals) :
    Back l R p e below s args New1.yN len W (fun P a => a = #[.ref x, .ref b] ∧ P.U.heap = h ∧ P.cells + 1 ≤ R.cells ∧ P.slots + cs.length ≤ R.slots)
      (fun P _ v B => ∃ L, QA Z x zn cs h v B.U.heap L ∧ B.locs = P.locs ++ L ∧ B.cells = P.cells + 1 ∧ B.slots = P.slots + cs.length) := by
  obtain ⟨A, K1, K2, K3, K4, K5, K6⟩ := K
  have e : A.slots.size = cs.length := K3.trans hlen
  have hat : ∀ (i : Nat) (hi : i < cs.length), A.slots[i]? = some (.int cs[i]) := fun i hi => by rw [K5 i (by omega)]; simp [List.getD_eq_getElem?_getD, hi]
  have hcv : ∀ (i : Nat) (hi : i < cs.length), cv A i = cs[i] := fun i hi => by unfold cv; rw [hat i hi]
  have hty : Typed .char A := fun i v hv => by
    have hi : i < A.slots.size := (Array.getElem?_eq_some_iff.mp hv).1
    have q := K5 i hi
    rw [hv] at q
    rw [Option.some.inj q]
    exact K6 i hi
  refine Back.mono (back hZ hw wi E V C K1 hty S hz (by omega) (by omega) (fun i hi => by rw [hcv i (by omega)]; exact hall _ (List.getElem_mem _)) hfr hlo) (fun P a hp => ⟨hp.1, hp.2.1, hp.2.2.1, by rw [e]; exact hp.2.2.2⟩) (fun P a v B hp hq => ?_)
  obtain ⟨L, ⟨q1, q2, q3, q4, q5, q6, q7, ⟨V', v1, v2, v3, v4, v5⟩, q9⟩, hl, hc, hs⟩ := hq
  refine ⟨L, ⟨q1, q2, q3, q4, q5, q6, q7, ⟨V'.cls, v3, V', v1, rfl, by rw [v4, e, hlen], K4, fun i hi => ?_, fun i hi => ?_⟩, q9⟩, hl, hc, by rw [hs, e]⟩
  · have hi' : i < cs.length := by omega
    rw [v5 i (by omega), hcv i hi']; simp [List.getD_eq_getElem?_getD, hi']
  · have hi' : i < cs.length := by omega
    simp only [List.getD_eq_getElem?_getD, List.getElem?_map, List.getElem?_eq_getElem hi', Option.map_some, Option.getD_some]
    exact fits_lo8 _
end StrChars.Road
namespace StrChars.Road
open Jvm Sem ClassFile Op Lib Jvm.Stand Jvm.Free Jvm.Free.XT
/-- WHAT COMES BACK, in the writer's own shape -/
def QV (Z : State) (x : Addr) (N : Int32) (bs : List Int32) (h : Heap) (n0 : Nat) (v : Option Value) (h' : Heap) (L : List Loc) : Prop := v = none ∧ RoadKit.Fr n0 L ∧ RoadKit.Keep h h' [x] ∧ RoadKit.Exa Z h' x ST ∧ RoadKit.Fld Z h' x ST "coder" "B" (.int 0) ∧
  ∃ (t : Addr) (kb : ClassId), n0 ≤ t ∧ h.size ≤ t ∧ ¬ t = x ∧ RoadKit.Fld Z h' x ST "value" "[B" (.ref t) ∧ RoadKit.Arv Z h' t kb .byte N (bs.map Value.int) (.int 0)
/-- **new String(chars) AT A CALL, FOR THE WRITER**: a char[] of n known ints, each 0 to 255 -/
theorem backV {p : Program} {l : Launch} {e : Env} {R : Room} {s : State} {args : Array Value} {below : List Frame} {len W : Nat} {Z : State} {a0 : Array Value} {h : Heap} (hZ : Z.Warmed39 s.vm) (hw : ∀ d ∈ words, d.before a0 Z = true) {kI : Nat} (wi : (Jvm.Cond.instantiable ST kI).before a0 Z = true)
    {x b : Addr} {kC : ClassId} {cs bs : List Int32} {d v0 c0 : Value} {z N : Int32} {n n0 : Nat} (hx0 : n0 ≤ x) (hh0 : n0 ≤ h.size) (E : RoadKit.Exa Z h x ST) (V : RoadKit.Fld Z h x ST "value" "[B" v0) (C : RoadKit.Fld Z h x ST "coder" "B" c0) (K : RoadKit.Arv Z h b kC .char N (cs.map Value.int) d) (S : RoadKit.Sta Z h ST "COMPACT_STRINGS" "Z" (.int z)) (hz : ¬ z = 0)
    (hn : cs.length = n) (hN : N = Int32.ofNat n) (l0 : 0 < n) (l2 : n ≤ 4000) (hp : ∀ c ∈ cs, ¬ c < 0 ∧ ¬ (255 : Int32) < c) (hb : bs = cs.map (fun c => c.toInt8.toInt32)) (hfr : 4 ≤ R.frames) (hlo : W + 65 ≤ R.locals) :
    Back l R p e below s args (⟨"java/lang/String", "<init>", "([C)V"⟩ : MethodName) len W (fun P a => a = #[.ref x, .ref b] ∧ P.U.heap = h ∧ P.cells + 1 ≤ R.cells ∧ P.slots + n ≤ R.slots)
      (fun P _ v B => ∃ L, QV Z x N bs h n0 v B.U.heap L ∧ B.locs = P.locs ++ L ∧ B.cells = P.cells + 1 ∧ B.slots = P.slots + n) := by
  subst hn hN hb
  refine Back.mono (backArv hZ hw wi E V C K S hz (n32 (by omega)) l0 (by omega) (fun c hc => (hp c hc).2) hfr hlo) (fun P a hp => hp) (fun P a v B hp hq => ?_)
  obtain ⟨L, ⟨q1, q2, q3, q4, q5, q6, q7, ⟨kb, v1, v2⟩, q9⟩, hl, hc, hs⟩ := hq
  exact ⟨L, ⟨q1, fun y hy => by rw [q2 y hy]; exact hx0, q3, q5, q7, h.size, kb, hh0, Nat.le_refl _, Nat.ne_of_gt E.lt, q6, by rw [List.map_map]; exact v2⟩, hl, hc, hs⟩
end StrChars.Road
namespace StrChars
open Jvm Sem ClassFile Op Lib Jvm.Stand Jvm.Free.XT Jvm.Free.ALB Jvm.Free.JM Jvm.Free
open Jvm.Lib.Cold (StaticIs)
def hi8 (x : Int32) : Int32 := lo8 (x >>> ((8 : Int32) &&& 31))
/-- what StringUTF16.getChar makes of two bytes -/
def pairCh (u v : Int32) : Int32 := (((u &&& 255) <<< ((0 : Int32) &&& 31)) ||| ((v &&& 255) <<< ((8 : Int32) &&& 31))).toUInt32.toUInt16.toUInt32.toInt32
theorem lo8_and (x : Int32) : (lo8 x &&& 255).toBitVec.toNat = x.toBitVec.toNat % 256 := by
  have h : (lo8 x).toBitVec = (x.toBitVec.signExtend 8).signExtend 32 := by rw [lo8, Int8.toBitVec_toInt32, Int32.toBitVec_toInt8]
  rw [Int32.toBitVec_and, BitVec.toNat_and, h]
  have e : ((x.toBitVec.signExtend 8).signExtend 32).toNat % 256 = x.toBitVec.toNat % 256 := by
    rw [BitVec.toNat_signExtend]
    have hlt := x.toBitVec.isLt
    simp only [BitVec.toNat_setWidth, BitVec.toNat_signExtend]
    split <;> split <;> omega
  rw [← e]
  exact Nat.and_two_pow_sub_one_eq_mod _ 8
theorem pair_says {c : Int32} (h0 : ¬ c < 0) (h1 : ¬ 65535 < c) : pairCh (lo8 c) (hi8 c) = c := by
  rw [Int32.lt_iff_toInt_lt] at h0 h1
  have e0 : (0 : Int32).toInt = 0 := rfl
  have e1 : (65535 : Int32).toInt = 65535 := rfl
  have hc : c.toInt = c.toBitVec.toNat := by
    have := c.toBitVec.isLt
    have e : c.toInt = c.toBitVec.toInt := rfl
    rw [e] at h0 h1
    rw [e]
    rw [BitVec.toInt_eq_toNat_cond] at h0 h1 ⊢
    split at h0 <;> split <;> omega
  have hn : c.toBitVec.toNat < 65536 := by omega
  have a1 := lo8_and c
  have a2 : (hi8 c &&& 255).toBitVec.toNat = c.toBitVec.toNat / 256 := by
    rw [hi8, lo8_and]
    have e : ((8 : Int32) &&& 31) = 8 := by decide
    rw [e, Int32.toBitVec_shiftRight]
    have e2 : ((8 : Int32).toBitVec.smod 32) = 8#32 := by decide
    rw [e2, BitVec.sshiftRight_eq', BitVec.toNat_sshiftRight_of_msb_false (by rw [BitVec.msb_eq_false_iff_two_mul_lt]; omega)]
    show c.toBitVec.toNat >>> 8 % 256 = _
    rw [Nat.shiftRight_eq_div_pow]
    omega
  unfold pairCh
  apply Int32.toBitVec_inj.mp
  apply BitVec.eq_of_toNat_eq
  have f0 : ((0 : Int32) &&& 31) = 0 := by decide
  have f8 : ((8 : Int32) &&& 31) = 8 := by decide
  rw [f0, f8]
  have g : (((lo8 c &&& 255) <<< (0 : Int32)) ||| ((hi8 c &&& 255) <<< (8 : Int32))).toBitVec.toNat = c.toBitVec.toNat := by
    rw [Int32.toBitVec_or, Int32.toBitVec_shiftLeft, Int32.toBitVec_shiftLeft]
    have s0 : ((0 : Int32).toBitVec.smod 32) = 0#32 := by decide
    have s8 : ((8 : Int32).toBitVec.smod 32) = 8#32 := by decide
    rw [s0, s8, BitVec.toNat_or]
    simp only [BitVec.shiftLeft_eq', BitVec.toNat_shiftLeft, a1, a2]
    show (c.toBitVec.toNat % 256) <<< 0 % 2 ^ 32 ||| (c.toBitVec.toNat / 256) <<< 8 % 2 ^ 32 = _
    rw [Nat.shiftLeft_zero, Nat.mod_eq_of_lt (show c.toBitVec.toNat % 256 < 2 ^ 32 by omega), Nat.mod_eq_of_lt (show (c.toBitVec.toNat / 256) <<< 8 < 2 ^ 32 by rw [Nat.shiftLeft_eq]; omega), Nat.or_comm, ← Nat.shiftLeft_add_eq_or_of_lt (by omega), Nat.shiftLeft_eq]
    omega
  show BitVec.toNat (((((lo8 c &&& 255) <<< (0 : Int32)) ||| ((hi8 c &&& 255) <<< (8 : Int32))).toBitVec.setWidth 16).setWidth 32) = _
  rw [BitVec.toNat_setWidth, BitVec.toNat_setWidth, g]
  omega
end StrChars
namespace StrChars
open Jvm Sem ClassFile Op Lib Jvm.Stand Jvm.Free.XT Jvm.Free.ALB Jvm.Free.JM Jvm.Free
open Jvm.Lib.Cold (StaticIs)
/-- the array's cell V codes the n chars f 0 .. f (n - 1) by the coder cd, as the JDK does: coder 1 just where some char is above 255 -/
def Cod (cd : Int32) (n : Nat) (f : Nat → Int32) (V : Cell) : Prop := (cd = 0 ∧ V.slots.size = n ∧ ∀ j, j < n → V.slots[j]? = some (.int (lo8 (f j))) ∧ ¬ 255 < f j) ∨ (cd = 1 ∧ V.slots.size = 2 * n ∧ (∀ j, j < n → V.slots[2 * j]? = some (.int (lo8 (f j))) ∧ V.slots[2 * j + 1]? = some (.int (hi8 (f j)))) ∧ ∃ j, j < n ∧ 255 < f j)
/-- **x is a String of the n chars f 0 .. f (n - 1)**, Latin-1 or UTF-16; its array at t has the cell V -/
def Txt (x t : Addr) (V : Cell) (cd : Int32) (n : Nat) (f : Nat → Int32) (U : State) : Prop := Exact "java/lang/String" x U ∧ Has x "java/lang/String" "value" "[B" (.ref t) U ∧ Has x "java/lang/String" "coder" "B" (.int cd) U ∧ XT.Arr .byte t V U ∧ Cod cd n f V ∧ ∀ j, j < n → ¬ f j < 0 ∧ ¬ 65535 < f j
theorem Txt.mv {x t : Addr} {V : Cell} {cd : Int32} {n : Nat} {f : Nat → Int32} {U U' : State} (h : Txt x t V cd n f U) (hal : U.vm.Alike U'.vm) (hh : U'.heap = U.heap) : Txt x t V cd n f U' := ⟨h.1.mv hal hh, h.2.1.mv hal hh, h.2.2.1.mv hal hh, h.2.2.2.1.mv hal hh, h.2.2.2.2⟩
end StrChars
namespace StrChars.Road
open Jvm Sem ClassFile Op Lib Jvm.Stand Jvm.Free Jvm.Free.XT
open Jvm.Lib.Cold (StaticIs)
theorem consq {a : Array Value} {s : State} {c : Jvm.Cond} {L : List Jvm.Cond} (h0 : c.before a s = true) (h : ∀ w ∈ L, w.before a s = true) : ∀ w ∈ c :: L, w.before a s = true := fun w hw => (List.mem_cons.mp hw).elim (fun e => e ▸ h0) (h w)
/-- the bytes of the chars cs, low before high -/
def wideBytes : List Int32 → List Value
  | [] => []
  | c :: cs => .int (lo8 c) :: .int (hi8 c) :: wideBytes cs
theorem wide_lo (d : Value) : ∀ (cs : List Int32) (j : Nat), j < cs.length → (wideBytes cs).getD (2 * j) d = .int (lo8 (cs.getD j 0))
  | [], j, h => absurd h (Nat.not_lt_zero j)
  | c :: cs, 0, _ => rfl
  | c :: cs, j + 1, h => by
    have q := wide_lo d cs j (by simpa using h)
    rw [show 2 * (j + 1) = 2 * j + 1 + 1 from by omega]
    simpa [wideBytes] using q
theorem wide_hi (d : Value) : ∀ (cs : List Int32) (j : Nat), j < cs.length → (wideBytes cs).getD (2 * j + 1) d = .int (hi8 (cs.getD j 0))
  | [], j, h => absurd h (Nat.not_lt_zero j)
  | c :: cs, 0, _ => rfl
  | c :: cs, j + 1, h => by
    have q := wide_hi d cs j (by simpa using h)
    rw [show 2 * (j + 1) + 1 = 2 * j + 1 + 1 + 1 from by omega]
    simpa [wideBytes] using q
theorem low_at (d : Value) (cs : List Int32) (j : Nat) (h : j < cs.length) : (cs.map fun c => Value.int (lo8 c)).getD j d = .int (lo8 (cs.getD j 0)) := by
  simp [List.getD_eq_getElem?_getD, h]
/-- an array of N2 bytes vs codes the chars cs by the coder cd -/
def CodA (cs : List Int32) (cd N2 : Int32) (vs : List Value) : Prop := (cd = 0 ∧ N2 = Int32.ofNat cs.length ∧ vs = (cs.map fun c => Value.int (lo8 c)) ∧ ∀ c ∈ cs, ¬ 255 < c) ∨ (cd = 1 ∧ N2 = Int32.ofNat (2 * cs.length) ∧ vs = wideBytes cs ∧ ∃ c ∈ cs, 255 < c)
theorem CodA.cod {cs : List Int32} {cd N2 : Int32} {vs : List Value} {V : Cell} (h : CodA cs cd N2 vs) (hn : 2 * cs.length < 2 ^ 31) (hs : V.slots.size = N2.toNatClampNeg) (hv : RoadKit.Has V vs (.int 0)) : Cod cd cs.length (fun j => cs.getD j 0) V := by
  rcases h with ⟨rfl, rfl, rfl, h⟩ | ⟨rfl, rfl, rfl, c, hc, hw⟩
  · rw [n32 (by omega)] at hs
    exact Or.inl ⟨rfl, hs, fun j hj => ⟨by rw [hv j (by omega), low_at _ _ _ hj], by
      have e : cs.getD j 0 = cs[j] := by simp [List.getD_eq_getElem?_getD, hj]
      show ¬ 255 < cs.getD j 0
      rw [e]; exact h _ (List.getElem_mem _)⟩⟩
  · rw [n32 (by omega)] at hs
    obtain ⟨j, hj, rfl⟩ := List.getElem_of_mem hc
    exact Or.inr ⟨rfl, hs, fun j hj => ⟨by rw [hv _ (by omega), wide_lo _ _ _ hj], by rw [hv _ (by omega), wide_hi _ _ _ hj]⟩, j, hj, by
      have e : cs.getD j 0 = cs[j] := by simp [List.getD_eq_getElem?_getD, hj]
      show 255 < cs.getD j 0
      rw [e]; exact hw⟩
/-- an object of exactly java/lang/String, its two fields found: as the laws ask it -/
theorem strObj {Z U : State} {a0 : Array Value} {kI : Nat} (wi : (Jvm.Cond.instantiable ST kI).before a0 Z = true) (al : Z.vm.Alike U.vm) {x : Addr} {v0 c0 : Value} (E : RoadKit.Exa Z U.heap x ST) (V : RoadKit.Fld Z U.heap x ST "value" "[B" v0) (C : RoadKit.Fld Z U.heap x ST "coder" "B" c0) :
    ∃ (D : Cell) (fV fC : Field), Blank ST x D U ∧ Found ST "value" "[B" fV U ∧ Found ST "coder" "B" fC U ∧ D.slots[fV.slot]? = some v0 ∧ D.slots[fC.slot]? = some c0 ∧ RoadKit.slotOf Z ST "value" "[B" = fV.slot ∧ RoadKit.slotOf Z ST "coder" "B" = fC.slot := by
  obtain ⟨D, cfV, kV, iV, fV, hD, gV, stV, knV, obV, asV, slV⟩ := V
  obtain ⟨D', cfC, kC, iC, fC, hD', gC, stC, -, -, asC, slC⟩ := C
  cases hD.symm.trans hD'
  obtain ⟨D2, kD, e1, e2, e3, e4, e5⟩ := E
  cases hD.symm.trans e1
  obtain ⟨c2, k2, i1, i2, i3, -⟩ := Cond.instantiable_spec wi
  cases e2.symm.trans i1
  cases e3.symm.trans i2
  obtain ⟨kU, u1, u2⟩ := al.2.2 _ _ e3
  exact ⟨D, fV, fC, ⟨hD, ⟨knV, fun q hq => by rw [hq] at obV; cases obV⟩, by rw [al.findClass]; exact e2, kU, u1, by rw [u2]; exact i3, by rw [u2]; exact e5 i3⟩, ⟨SBG.found_only al ⟨cfV, kV, iV, gV⟩, stV⟩, ⟨SBG.found_only al ⟨cfC, kC, iC, gC⟩, stC⟩, slV, slC, by simp [RoadKit.slotOf, gV], by simp [RoadKit.slotOf, gC]⟩
theorem sta_is {Z U : State} (al : Z.vm.Alike U.vm) {C n d : String} {v : Value} (S : RoadKit.Sta Z U.heap C n d v) : StaticIs U C n d v := by
  obtain ⟨cfS, iS, kS, fS, st, cS, t1, t2, t3, t4, t5, t6, t7⟩ := S
  exact StaticIs.there (s := { Z with heap := U.heap }) ⟨cfS, iS, kS, fS, st, cS, t1, t2, t3, t4, t5, (fun q => by rw [q] at t6; cases t6), t7⟩ al rfl
end StrChars.Road
namespace StrChars
open Jvm Sem ClassFile Op Lib Jvm.Stand Jvm.Free.XT Jvm.Free.ALB Jvm.Free.JM Jvm.Free
open Jvm.Lib.Cold (StaticIs)
/-- what place i of a byte[]'s cell holds -/
def yv (A : Cell) (i : Nat) : Int32 := match A.slots[i]? with | some (.int x) => x | _ => 0
theorem yv_get {a : Addr} {A : Cell} {U : State} (h : XT.Arr .byte a A U) (ht : Typed .byte A) {i : Nat} (hi : i < A.slots.size) : A.slots[i]? = some (.int (yv A i)) := by
  have e := Array.getElem?_eq_getElem hi
  have f := ht i _ e
  unfold yv; rw [e]
  generalize A.slots[i] = v at f
  cases v <;> simp [fits] at f ⊢
/-- the two arrays are equal, place for place -/
def EqC (A B : Cell) : Prop := A.slots.size = B.slots.size ∧ ∀ i, i < A.slots.size → yv A i = yv B i
/-- a boolean that says whether p -/
def Says01 (q : Prop) (r : Option Value) (s u : State) : Prop := ∃ v : Int32, r = some (.int v) ∧ u.heap = s.heap ∧ ((v = 1 ∧ q) ∨ (v = 0 ∧ ¬ q))
theorem Says01.mv {q : Prop} : ∀ r (U U' V V' : State), U'.heap = U.heap → V.vm.Alike V'.vm → V'.heap = V.heap → Says01 q r U V → Says01 q r U' V' :=
  fun r U U' V V' h1 _ h2 ⟨v, a, b, c⟩ => ⟨v, a, by rw [h1, h2]; exact b, c⟩
namespace LEq
def yN : MethodName := ⟨"java/lang/StringLatin1", "equals", "([B[B)Z"⟩
abbrev yB : ByteArray := jdk_43_method_13_code
theorem d0 : decode yB 0 = .ok (.aload_n 0, 1) := by decide +kernel
theorem d1 : decode yB 1 = .ok (.arraylength, 1) := by decide +kernel
theorem d2 : decode yB 2 = .ok (.aload_n 1, 1) := by decide +kernel
theorem d3 : decode yB 3 = .ok (.arraylength, 1) := by decide +kernel
theorem d4 : decode yB 4 = .ok (.if_icmp (.ne) 30, 3) := by decide +kernel
theorem d7 : decode yB 7 = .ok (.iconst 0, 1) := by decide +kernel
theorem d8 : decode yB 8 = .ok (.istore_n 2, 1) := by decide +kernel
theorem d9 : decode yB 9 = .ok (.iload_n 2, 1) := by decide +kernel
theorem d10 : decode yB 10 = .ok (.aload_n 0, 1) := by decide +kernel
theorem d11 : decode yB 11 = .ok (.arraylength, 1) := by decide +kernel
theorem d12 : decode yB 12 = .ok (.if_icmp (.ge) 20, 3) := by decide +kernel
theorem d15 : decode yB 15 = .ok (.aload_n 0, 1) := by decide +kernel
theorem d16 : decode yB 16 = .ok (.iload_n 2, 1) := by decide +kernel
theorem d17 : decode yB 17 = .ok (.baload, 1) := by decide +kernel
theorem d18 : decode yB 18 = .ok (.aload_n 1, 1) := by decide +kernel
theorem d19 : decode yB 19 = .ok (.iload_n 2, 1) := by decide +kernel
theorem d20 : decode yB 20 = .ok (.baload, 1) := by decide +kernel
theorem d21 : decode yB 21 = .ok (.if_icmp (.eq) 5, 3) := by decide +kernel
theorem d24 : decode yB 24 = .ok (.iconst 0, 1) := by decide +kernel
theorem d25 : decode yB 25 = .ok (.ireturn, 1) := by decide +kernel
theorem d26 : decode yB 26 = .ok (.iinc 2 1, 3) := by decide +kernel
theorem d29 : decode yB 29 = .ok (.goto (-20), 3) := by decide +kernel
theorem d32 : decode yB 32 = .ok (.iconst 1, 1) := by decide +kernel
theorem d33 : decode yB 33 = .ok (.ireturn, 1) := by decide +kernel
theorem d34 : decode yB 34 = .ok (.iconst 0, 1) := by decide +kernel
theorem d35 : decode yB 35 = .ok (.ireturn, 1) := by decide +kernel
def site : List Cond := []
def tab : Cond := tabOf yN yB 3 (some .boolean) site
def P (a : Addr) (A : Cell) (b : Addr) (B : Cell) (args : Array Value) (s : State) : Prop := args = #[.ref a, .ref b] ∧ XT.Arr .byte a A s ∧ Typed .byte A ∧ XT.Arr .byte b B s ∧ Typed .byte B
/-- whether two byte[] are equal, place for place -/
theorem law (l : Launch) (a : Addr) (A : Cell) (b : Addr) (B : Cell) : Law l yN 2 2 0 0 yB 3 (some .boolean) site (P a A b B) (Says01 (EqC A B)) [] 0 0 := by
  refine Law.of_walk (plainFor_of_name (by decide +kernel)) (by decide +kernel) (by decide +kernel) (by decide) (fun _ _ h => by rw [h.1]; rfl) (fun _ U U' hal hh h => ⟨h.1, h.2.1.mv hal hh, h.2.2.1, h.2.2.2.1.mv hal hh, h.2.2.2.2⟩) (fun r U U' V V' h1 hal h2 h => Says01.mv r U U' V V' h1 hal h2 h) ?_
  intro p e s m args below meth c s₁ X0 hexec hbytes hml hret hlk hnm hown hh0 W hP
  obtain ⟨rfl, hA, tA, hB, tB⟩ := hP
  have a31 := hA.2.2.2
  have b31 := hB.2.2.2
  have hA0 := hA.mv X0.warmed.alike hh0
  have hB0 := hB.mv X0.warmed.alike hh0
  have c1 : Steps p.tables e below (s₁.setTop (entryFrame m #[.ref a, .ref b] 3)) (s₁.setTop (mkF m 0 #[.val (.ref a), .val (.ref b), .unset] [])) := entry rfl
  have c2 : Steps p.tables e below (s₁.setTop (entryFrame m #[.ref a, .ref b] 3)) (s₁.setTop (mkF m 4 #[.val (.ref a), .val (.ref b), .unset] [.int (Int32.ofNat B.slots.size), .int (Int32.ofNat A.slots.size)])) := c1.trans (by
    refine XS.aloadN X0.here hexec rfl (hb hbytes d0) rfl rfl ?_
    refine X0.alen hexec hA0 rfl rfl (hb hbytes d1) ?_
    refine XS.aloadN X0.here hexec rfl (hb hbytes d2) rfl rfl ?_
    refine X0.alen hexec hB0 rfl rfl (hb hbytes d3) ?_
    exact Steps.refl _)
  by_cases hs : A.slots.size = B.slots.size
  · have c3 : Steps p.tables e below (s₁.setTop (entryFrame m #[.ref a, .ref b] 3)) (s₁.setTop (mkF m 9 #[.val (.ref a), .val (.ref b), .val (.int 0)] [])) := c2.trans (by
      refine XS.icmpNo X0.here hexec rfl (hb hbytes d4) rfl (ii_ne_f (by rw [hs])) ?_
      refine iconstV X0.here hexec rfl 0 (hb hbytes d7) (by decide) ?_
      refine XS.istoreN X0.here hexec rfl (hb hbytes d8) rfl rfl ?_
      exact Steps.refl _)
    have loop : ∀ (r i : Nat), i + r = A.slots.size → (∀ j, j < i → yv A j = yv B j) → Steps p.tables e below (s₁.setTop (entryFrame m #[.ref a, .ref b] 3)) (s₁.setTop (mkF m 9 #[.val (.ref a), .val (.ref b), .val (.int (Int32.ofNat i))] [])) → ∃ (pc : Nat) (Ls : Array Slot) (v : Int32), (pc = 25 ∨ pc = 33) ∧ ((v = 1 ∧ EqC A B) ∨ (v = 0 ∧ ¬ EqC A B)) ∧ Steps p.tables e below (s₁.setTop (entryFrame m #[.ref a, .ref b] 3)) (s₁.setTop (mkF m pc Ls [.int v])) := by
      intro r
      induction r with
      | zero =>
        intro i hi he cl
        exact ⟨33, _, 1, Or.inr rfl, Or.inl ⟨rfl, hs, fun j hj => he j (by omega)⟩, cl.trans (by
          refine XS.iloadN X0.here hexec rfl (hb hbytes d9) rfl ?_
          refine XS.aloadN X0.here hexec rfl (hb hbytes d10) rfl rfl ?_
          refine X0.alen hexec hA0 rfl rfl (hb hbytes d11) ?_
          refine XS.icmpYes X0.here hexec rfl (pc0 := 12) rfl (hb hbytes d12) rfl (ii_ge_t (nlt32 (by omega) (by omega))) (by decide) rfl ?_
          refine iconstV X0.here hexec rfl 1 (hb hbytes d32) (by decide) ?_
          exact Steps.refl _)⟩
      | succ r ih =>
        intro i hi he cl
        have c4 : Steps p.tables e below (s₁.setTop (entryFrame m #[.ref a, .ref b] 3)) (s₁.setTop (mkF m 21 #[.val (.ref a), .val (.ref b), .val (.int (Int32.ofNat i))] [.int (yv B i), .int (yv A i)])) := cl.trans (by
          refine XS.iloadN X0.here hexec rfl (hb hbytes d9) rfl ?_
          refine XS.aloadN X0.here hexec rfl (hb hbytes d10) rfl rfl ?_
          refine X0.alen hexec hA0 rfl rfl (hb hbytes d11) ?_
          refine XS.icmpNo X0.here hexec rfl (hb hbytes d12) rfl (ii_ge_f (lt32 (by omega) (by omega))) ?_
          refine XS.aloadN X0.here hexec rfl (hb hbytes d15) rfl rfl ?_
          refine XS.iloadN X0.here hexec rfl (hb hbytes d16) rfl ?_
          refine X0.aget hexec hA0 rfl (yv_get hA tA (i := i) (by omega)) rfl rfl (hb hbytes d17) ?_
          refine XS.aloadN X0.here hexec rfl (hb hbytes d18) rfl rfl ?_
          refine XS.iloadN X0.here hexec rfl (hb hbytes d19) rfl ?_
          refine X0.aget hexec hB0 rfl (yv_get hB tB (i := i) (by omega)) rfl rfl (hb hbytes d20) ?_
          exact Steps.refl _)
        by_cases hv : yv A i = yv B i
        · have c5 : Steps p.tables e below (s₁.setTop (entryFrame m #[.ref a, .ref b] 3)) (s₁.setTop (mkF m 9 #[.val (.ref a), .val (.ref b), .val (.int (Int32.ofNat i + 1))] [])) := c4.trans (by
            refine XS.icmpYes X0.here hexec rfl (pc0 := 21) rfl (hb hbytes d21) rfl (ii_eq_t hv) (by decide) rfl ?_
            refine iincV X0.here hexec rfl 1 (hb hbytes d26) (by decide) rfl rfl ?_
            refine XS.goto X0.here hexec rfl (pc0 := 29) rfl (hb hbytes d29) (by decide) rfl ?_
            exact Steps.refl _)
          rw [succ32] at c5
          exact ih (i + 1) (by omega) (fun j hj => by
            by_cases e : j = i
            · rw [e]; exact hv
            · exact he j (by omega)) c5
        · exact ⟨25, _, 0, Or.inl rfl, Or.inr ⟨rfl, fun q => hv (q.2 i (by omega))⟩, c4.trans (by
            refine XS.icmpNo X0.here hexec rfl (hb hbytes d21) rfl (ii_eq_f hv) ?_
            refine iconstV X0.here hexec rfl 0 (hb hbytes d24) (by decide) ?_
            exact Steps.refl _)⟩
    obtain ⟨pc, Ls, v, hpc, hv, cz⟩ := loop A.slots.size 0 (by omega) (fun j hj => absurd hj (Nat.not_lt_zero j)) c3
    have nv : narrow .boolean (.int v) = .int v := by rcases hv with ⟨rfl, -⟩ | ⟨rfl, -⟩ <;> rfl
    rcases hpc with rfl | rfl
    · exact ⟨s₁, some (.int v), _, _, _, X0, rfl, rfl, rfl, (fun h => by cases h), ⟨v, rfl, hh0, hv⟩, fun fs hl => cz.trans (X0.ireturnOut hexec hret nv (Or.inr (Or.inl rfl)) (hb hbytes d25) hl)⟩
    · exact ⟨s₁, some (.int v), _, _, _, X0, rfl, rfl, rfl, (fun h => by cases h), ⟨v, rfl, hh0, hv⟩, fun fs hl => cz.trans (X0.ireturnOut hexec hret nv (Or.inr (Or.inl rfl)) (hb hbytes d33) hl)⟩
  · have c3 : Steps p.tables e below (s₁.setTop (entryFrame m #[.ref a, .ref b] 3)) (s₁.setTop (mkF m 35 #[.val (.ref a), .val (.ref b), .unset] [.int 0])) := c2.trans (by
      refine XS.icmpYes X0.here hexec rfl (pc0 := 4) rfl (hb hbytes d4) rfl (ii_ne_t (ne32 a31 b31 hs)) (by decide) rfl ?_
      refine iconstV X0.here hexec rfl 0 (hb hbytes d34) (by decide) ?_
      exact Steps.refl _)
    exact ⟨s₁, some (.int 0), _, _, _, X0, rfl, rfl, rfl, (fun h => by cases h), ⟨0, rfl, hh0, Or.inr ⟨rfl, fun q => hs q.1⟩⟩, fun fs hl => c3.trans (X0.ireturnOut hexec hret rfl (Or.inr (Or.inl rfl)) (hb hbytes d35) hl)⟩
end LEq
theorem Cod.ty {cd : Int32} {n : Nat} {f : Nat → Int32} {V : Cell} (h : Cod cd n f V) : Typed .byte V := fun i v hv => by
  have hi : i < V.slots.size := (Array.getElem?_eq_some_iff.mp hv).1
  rcases h with ⟨-, k1, k2⟩ | ⟨-, k1, k2, -⟩
  · rw [(k2 i (by omega)).1] at hv; cases hv; exact fits_lo8 _
  · rcases Nat.mod_two_eq_zero_or_one i with e | e
    · obtain ⟨j, rfl⟩ : ∃ j, i = 2 * j := ⟨i / 2, by omega⟩
      rw [(k2 j (by omega)).1] at hv; cases hv; exact fits_lo8 _
    · obtain ⟨j, rfl⟩ : ∃ j, i = 2 * j + 1 := ⟨i / 2, by omega⟩
      rw [(k2 j (by omega)).2] at hv; cases hv; exact fits_lo8 _
/-- the same text -/
def SameT (n : Nat) (f : Nat → Int32) (k : Nat) (g : Nat → Int32) : Prop := n = k ∧ ∀ j, j < n → f j = g j
theorem lo8_inj {x y : Int32} (h0 : ¬ x < 0) (h1 : ¬ 255 < x) (k0 : ¬ y < 0) (k1 : ¬ 255 < y) (h : lo8 x = lo8 y) : x = y := by
  rw [← lo8_mask h0 h1, ← lo8_mask k0 k1, h]
/-- arrays coded by one coder are equal just where the texts are -/
theorem Cod.eqv {cd : Int32} {n k : Nat} {f g : Nat → Int32} {V V' : Cell} (h : Cod cd n f V) (h' : Cod cd k g V') (hf : ∀ j, j < n → ¬ f j < 0 ∧ ¬ 65535 < f j) (hg : ∀ j, j < k → ¬ g j < 0 ∧ ¬ 65535 < g j) : EqC V V' ↔ SameT n f k g := by
  have yvv : ∀ {W : Cell} {i : Nat} {x : Int32}, W.slots[i]? = some (.int x) → yv W i = x := fun q => by unfold yv; rw [q]
  rcases h with ⟨rfl, k1, k2⟩ | ⟨rfl, k1, k2, -⟩
  · rcases h' with ⟨-, m1, m2⟩ | ⟨e, -⟩
    · constructor
      · rintro ⟨e1, e2⟩
        refine ⟨by omega, fun j hj => ?_⟩
        have q := e2 j (by omega)
        rw [yvv (k2 j hj).1, yvv (m2 j (by omega)).1] at q
        exact lo8_inj (hf j hj).1 (k2 j hj).2 (hg j (by omega)).1 (m2 j (by omega)).2 q
      · rintro ⟨rfl, e2⟩
        refine ⟨by omega, fun j hj => ?_⟩
        rw [yvv (k2 j (by omega)).1, yvv (m2 j (by omega)).1, e2 j (by omega)]
    · exact absurd e (by decide)
  · rcases h' with ⟨e, -⟩ | ⟨-, m1, m2, -⟩
    · exact absurd e (by decide)
    · constructor
      · rintro ⟨e1, e2⟩
        refine ⟨by omega, fun j hj => ?_⟩
        have q1 := e2 (2 * j) (by omega)
        have q2 := e2 (2 * j + 1) (by omega)
        rw [yvv (k2 j hj).1, yvv (m2 j (by omega)).1] at q1
        rw [yvv (k2 j hj).2, yvv (m2 j (by omega)).2] at q2
        rw [← pair_says (hf j hj).1 (hf j hj).2, ← pair_says (hg j (by omega)).1 (hg j (by omega)).2, q1, q2]
      · rintro ⟨rfl, e2⟩
        refine ⟨by omega, fun i hi => ?_⟩
        rcases Nat.mod_two_eq_zero_or_one i with e | e
        · obtain ⟨j, rfl⟩ : ∃ j, i = 2 * j := ⟨i / 2, by omega⟩
          rw [yvv (k2 j (by omega)).1, yvv (m2 j (by omega)).1, e2 j (by omega)]
        · obtain ⟨j, rfl⟩ : ∃ j, i = 2 * j + 1 := ⟨i / 2, by omega⟩
          rw [yvv (k2 j (by omega)).2, yvv (m2 j (by omega)).2, e2 j (by omega)]
/-- two codings differ: so do the texts -/
theorem Cod.dif {cd cd' : Int32} {n k : Nat} {f g : Nat → Int32} {V V' : Cell} (h : Cod cd n f V) (h' : Cod cd' k g V') (hne : ¬ cd = cd') : ¬ SameT n f k g := by
  rintro ⟨rfl, e⟩
  rcases h with ⟨rfl, -, k2⟩ | ⟨rfl, -, -, j, hj, hw⟩
  · rcases h' with ⟨rfl, -⟩ | ⟨-, -, -, j, hj, hw⟩
    · exact hne rfl
    · exact (k2 j hj).2 (by rw [e j hj]; exact hw)
  · rcases h' with ⟨-, -, m2⟩ | ⟨rfl, -⟩
    · exact (m2 j hj).2 (by rw [← e j hj]; exact hw)
    · exact hne rfl
/-- an object of exactly C is an instance of C -/
theorem cinst {p : Program} {l : Launch} {e : Env} {R : Room} {s : State} {m : MethodId} {args : Array Value} {below : List Frame} {meth : Method} {c : Code} {T : State} {locs : List Loc} {cells slots : Nat} (X : Stand p l e R s m args below meth c T locs cells slots) (hexec : p.tables.exec = Jvm.exec) {own C : String} {index : Nat} (hown : s.vm.findClass own = some m.cls) (hlink : (Cond.classLink own index C).before args s = true) {a : Addr} (hE : Exact C a T)
    {g : JFrame} (hg : g.method = m) {rest : List Value} (hstack : g.stack = .ref a :: rest) (hdg : decode c.code g.pc = .ok (.instanceof index, 3)) :
    ∃ T', Stand p l e R s m args below meth c T' locs cells slots ∧ T'.heap = T.heap ∧ ∀ target, Steps p.tables e below (T'.setTop { g with pc := g.pc + 3, stack := .int 1 :: rest }) target → Steps p.tables e below (T.setTop g) target := by
  obtain ⟨cB, h1, D, h2, h3, h4⟩ := hE
  have h1' : s.vm.findClass C = some cB := by rw [← X.warmed.alike.findClass]; exact h1
  obtain ⟨vm', X', st⟩ := X.instanceofYes hexec hown hlink h2 h4 h1' (by rw [h3]; exact Jvm.Free.SB.assignable_self _ _) hg hstack hdg
  exact ⟨_, X', rfl, st⟩
theorem cself {p : Program} {l : Launch} {e : Env} {R : Room} {s : State} {m : MethodId} {args : Array Value} {below : List Frame} {meth : Method} {c : Code} {T : State} {locs : List Loc} {cells slots : Nat} (X : Stand p l e R s m args below meth c T locs cells slots) (hexec : p.tables.exec = Jvm.exec) {own C : String} {index : Nat} (hown : s.vm.findClass own = some m.cls) (hlink : (Cond.classLink own index C).before args s = true) {a : Addr} (hE : Exact C a T)
    {g : JFrame} (hg : g.method = m) {rest : List Value} (hstack : g.stack = .ref a :: rest) (hdg : decode c.code g.pc = .ok (.checkcast index, 3)) :
    ∃ T', Stand p l e R s m args below meth c T' locs cells slots ∧ T'.heap = T.heap ∧ ∀ target, Steps p.tables e below (T'.setTop { g with pc := g.pc + 3, stack := .ref a :: rest }) target → Steps p.tables e below (T.setTop g) target := by
  obtain ⟨cB, h1, D, h2, h3, h4⟩ := hE
  have h1' : s.vm.findClass C = some cB := by rw [← X.warmed.alike.findClass]; exact h1
  obtain ⟨vm', X', st⟩ := X.checkcastYes hexec hown hlink h2 h4 h1' (by rw [h3]; exact Jvm.Free.SB.assignable_self _ _) hg hstack hdg
  exact ⟨_, X', rfl, fun t h => st t (by rw [← hstack] at h; exact h)⟩
namespace SEq
def yN : MethodName := ⟨"java/lang/String", "equals", "(Ljava/lang/Object;)Z"⟩
abbrev yB : ByteArray := jdk_42_method_66_code
theorem d0 : decode yB 0 = .ok (.aload_n 0, 1) := by decide +kernel
theorem d1 : decode yB 1 = .ok (.aload_n 1, 1) := by decide +kernel
theorem d2 : decode yB 2 = .ok (.if_acmp (.ne) 5, 3) := by decide +kernel
theorem d5 : decode yB 5 = .ok (.iconst 1, 1) := by decide +kernel
theorem d6 : decode yB 6 = .ok (.ireturn, 1) := by decide +kernel
theorem d7 : decode yB 7 = .ok (.aload_n 1, 1) := by decide +kernel
theorem d8 : decode yB 8 = .ok (.instanceof 10, 3) := by decide +kernel
theorem d11 : decode yB 11 = .ok (.ifCond (.eq) 43, 3) := by decide +kernel
theorem d14 : decode yB 14 = .ok (.aload_n 1, 1) := by decide +kernel
theorem d15 : decode yB 15 = .ok (.checkcast 10, 3) := by decide +kernel
theorem d18 : decode yB 18 = .ok (.astore_n 2, 1) := by decide +kernel
theorem d19 : decode yB 19 = .ok (.getstatic 38, 3) := by decide +kernel
theorem d22 : decode yB 22 = .ok (.ifCond (.eq) 14, 3) := by decide +kernel
theorem d25 : decode yB 25 = .ok (.aload_n 0, 1) := by decide +kernel
theorem d26 : decode yB 26 = .ok (.getfield 15, 3) := by decide +kernel
theorem d29 : decode yB 29 = .ok (.aload_n 2, 1) := by decide +kernel
theorem d30 : decode yB 30 = .ok (.getfield 15, 3) := by decide +kernel
theorem d33 : decode yB 33 = .ok (.if_icmp (.ne) 21, 3) := by decide +kernel
theorem d36 : decode yB 36 = .ok (.aload_n 0, 1) := by decide +kernel
theorem d37 : decode yB 37 = .ok (.getfield 9, 3) := by decide +kernel
theorem d40 : decode yB 40 = .ok (.aload_n 2, 1) := by decide +kernel
theorem d41 : decode yB 41 = .ok (.getfield 9, 3) := by decide +kernel
theorem d44 : decode yB 44 = .ok (.invokestatic 541, 3) := by decide +kernel
theorem d47 : decode yB 47 = .ok (.ifCond (.eq) 7, 3) := by decide +kernel
theorem d50 : decode yB 50 = .ok (.iconst 1, 1) := by decide +kernel
theorem d51 : decode yB 51 = .ok (.goto 4, 3) := by decide +kernel
theorem d54 : decode yB 54 = .ok (.iconst 0, 1) := by decide +kernel
theorem d55 : decode yB 55 = .ok (.ireturn, 1) := by decide +kernel
def site : List Cond := [.classLink "java/lang/String" 10 "java/lang/String", .fieldLink "java/lang/String" 38 "java/lang/String" "COMPACT_STRINGS" "Z", .fieldLink "java/lang/String" 15 "java/lang/String" "coder" "B", .fieldLink "java/lang/String" 9 "java/lang/String" "value" "[B", LEq.tab] ++ staticW "java/lang/String" 541 LEq.yN
def tab : Cond := tabOf yN yB 3 (some .boolean) site
def P (x t : Addr) (V : Cell) (cd : Int32) (n : Nat) (f : Nat → Int32) (y t' : Addr) (V' : Cell) (cd' : Int32) (k : Nat) (g : Nat → Int32) (z : Int32) (args : Array Value) (s : State) : Prop := args = #[.ref x, .ref y] ∧ Txt x t V cd n f s ∧ Txt y t' V' cd' k g s ∧ StaticIs s "java/lang/String" "COMPACT_STRINGS" "Z" (.int z) ∧ ¬ z = 0
/-- equals(Object) of two Strings: whether the texts are the same -/
theorem law (l : Launch) (x t : Addr) (V : Cell) (cd : Int32) (n : Nat) (f : Nat → Int32) (y t' : Addr) (V' : Cell) (cd' : Int32) (k : Nat) (g : Nat → Int32) (z : Int32) : Law l yN 2 1 1 14 yB 3 (some .boolean) site (P x t V cd n f y t' V' cd' k g z) (Says01 (SameT n f k g)) [] 0 0 := by
  refine Law.of_walk (plainFor_of_name (by decide +kernel)) (by decide +kernel) (by decide +kernel) (by decide) (fun _ _ h => by rw [h.1]; rfl) (fun _ U U' hal hh h => ⟨h.1, h.2.1.mv hal hh, h.2.2.1.mv hal hh, h.2.2.2.1.there hal hh, h.2.2.2.2⟩) (fun r U U' V V' h1 hal h2 h => Says01.mv r U U' V V' h1 hal h2 h) ?_
  intro p e s m args below meth c s₁ X0 hexec hbytes hml hret hlk hnm hown hh0 W hP
  obtain ⟨rfl, hx, hy, s1, hz⟩ := hP
  have c1 : Steps p.tables e below (s₁.setTop (entryFrame m #[.ref x, .ref y] 3)) (s₁.setTop (mkF m 2 #[.val (.ref x), .val (.ref y), .unset] [.ref y, .ref x])) := Steps.trans (entry rfl) (by
    show Steps p.tables e below (s₁.setTop (mkF m 0 #[.val (.ref x), .val (.ref y), .unset] [])) _
    refine XS.aloadN X0.here hexec rfl (hb hbytes d0) rfl rfl ?_
    refine XS.aloadN X0.here hexec rfl (hb hbytes d1) rfl rfl ?_
    exact Steps.refl _)
  by_cases hxy : x = y
  · have c2 : Steps p.tables e below (s₁.setTop (entryFrame m #[.ref x, .ref y] 3)) (s₁.setTop (mkF m 6 #[.val (.ref x), .val (.ref y), .unset] [.int 1])) := c1.trans (by
      refine acmpNo X0.here hexec rfl (hb hbytes d2) rfl rfl rfl (by simp [acmp, hxy]) ?_
      refine iconstV X0.here hexec rfl 1 (hb hbytes d5) (by decide) ?_
      exact Steps.refl _)
    subst hxy
    have ec : cd = cd' := by
      obtain ⟨D, fd, a1, a2, a3⟩ := hx.2.2.1
      obtain ⟨D', fd', b1, b2, b3⟩ := hy.2.2.1
      cases a1.symm.trans b1
      obtain ⟨q1, q2, q3, q4⟩ := a2.1
      obtain ⟨r1, r2, r3, r4⟩ := b2.1
      cases q4.symm.trans r4
      cases a3.symm.trans b3; rfl
    have et : t = t' := by
      obtain ⟨D, fd, a1, a2, a3⟩ := hx.2.1
      obtain ⟨D', fd', b1, b2, b3⟩ := hy.2.1
      cases a1.symm.trans b1
      obtain ⟨q1, q2, q3, q4⟩ := a2.1
      obtain ⟨r1, r2, r3, r4⟩ := b2.1
      cases q4.symm.trans r4
      cases a3.symm.trans b3; rfl
    subst ec et
    have ev : V = V' := by cases hx.2.2.2.1.1.symm.trans hy.2.2.2.1.1; rfl
    subst ev
    have hs : SameT n f k g := (Cod.eqv hx.2.2.2.2.1 hy.2.2.2.2.1 hx.2.2.2.2.2 hy.2.2.2.2.2).mp ⟨rfl, fun _ _ => rfl⟩
    exact ⟨s₁, some (.int 1), _, _, _, X0, rfl, rfl, rfl, (fun h => by cases h), ⟨1, rfl, hh0, Or.inl ⟨rfl, hs⟩⟩, fun fs hl => c2.trans (X0.ireturnOut hexec hret rfl (Or.inr (Or.inl rfl)) (hb hbytes d6) hl)⟩
  · have c2 : Steps p.tables e below (s₁.setTop (entryFrame m #[.ref x, .ref y] 3)) (s₁.setTop (mkF m 8 #[.val (.ref x), .val (.ref y), .unset] [.ref y])) := c1.trans (by
      refine acmpYes X0.here hexec rfl (pc0 := 2) rfl (hb hbytes d2) rfl rfl rfl (by simp [acmp, hxy]) (by decide) rfl ?_
      refine XS.aloadN X0.here hexec rfl (hb hbytes d7) rfl rfl ?_
      exact Steps.refl _)
    obtain ⟨T3, X3, q3, st3⟩ := cinst X0 hexec hown (wk W (.classLink "java/lang/String" 10 "java/lang/String")) (hy.mv X0.warmed.alike hh0).1 (g := (mkF m 8 #[.val (.ref x), .val (.ref y), .unset] [.ref y])) rfl (rest := []) rfl (hb hbytes d8)
    have hh3 := q3.trans hh0
    have c4 : Steps p.tables e below (s₁.setTop (entryFrame m #[.ref x, .ref y] 3)) (T3.setTop (mkF m 15 #[.val (.ref x), .val (.ref y), .unset] [.ref y])) := (c2.trans (st3 _ (Steps.refl _))).trans (by
      refine XS.ifNo X3.here hexec rfl (hb hbytes d11) rfl (i0_eq_f (by decide)) ?_
      refine XS.aloadN X3.here hexec rfl (hb hbytes d14) rfl rfl ?_
      exact Steps.refl _)
    obtain ⟨T5, X5, q5, st5⟩ := cself X3 hexec hown (wk W (.classLink "java/lang/String" 10 "java/lang/String")) (hy.mv X3.warmed.alike hh3).1 (g := (mkF m 15 #[.val (.ref x), .val (.ref y), .unset] [.ref y])) rfl (rest := []) rfl (hb hbytes d15)
    have hh5 := q5.trans hh3
    have c6 : Steps p.tables e below (s₁.setTop (entryFrame m #[.ref x, .ref y] 3)) (T5.setTop (mkF m 19 #[.val (.ref x), .val (.ref y), .val (.ref y)] [])) := (c4.trans (st5 _ (Steps.refl _))).trans (by
      refine XS.astoreN X5.here hexec rfl (hb hbytes d18) rfl rfl rfl ?_
      exact Steps.refl _)
    obtain ⟨T7, X7, q7, st7⟩ := X5.sget hexec hown (wk W (.fieldLink "java/lang/String" 38 "java/lang/String" "COMPACT_STRINGS" "Z")) s1 (fun _ _ h => by rw [hh5]; exact h) (g := (mkF m 19 #[.val (.ref x), .val (.ref y), .val (.ref y)] [])) rfl (hb hbytes d19)
    have hh7 := q7.trans hh5
    have c8 : Steps p.tables e below (s₁.setTop (entryFrame m #[.ref x, .ref y] 3)) (T7.setTop (mkF m 26 #[.val (.ref x), .val (.ref y), .val (.ref y)] [.ref x])) := (c6.trans (st7 _ (Steps.refl _))).trans (by
      refine XS.ifNo X7.here hexec rfl (hb hbytes d22) rfl (i0_eq_f hz) ?_
      refine XS.aloadN X7.here hexec rfl (hb hbytes d25) rfl rfl ?_
      exact Steps.refl _)
    obtain ⟨T9, X9, q9, st9⟩ := X7.hget hexec hown (wk W (.fieldLink "java/lang/String" 15 "java/lang/String" "coder" "B")) (hx.mv X7.warmed.alike hh7).2.2.1 (g := (mkF m 26 #[.val (.ref x), .val (.ref y), .val (.ref y)] [.ref x])) rfl (rest := []) rfl (hb hbytes d26)
    have hh9 := q9.trans hh7
    have c10 : Steps p.tables e below (s₁.setTop (entryFrame m #[.ref x, .ref y] 3)) (T9.setTop (mkF m 30 #[.val (.ref x), .val (.ref y), .val (.ref y)] [.ref y, .int cd])) := (c8.trans (st9 _ (Steps.refl _))).trans (by
      refine XS.aloadN X9.here hexec rfl (hb hbytes d29) rfl rfl ?_
      exact Steps.refl _)
    obtain ⟨T11, X11, q11, st11⟩ := X9.hget hexec hown (wk W (.fieldLink "java/lang/String" 15 "java/lang/String" "coder" "B")) (hy.mv X9.warmed.alike hh9).2.2.1 (g := (mkF m 30 #[.val (.ref x), .val (.ref y), .val (.ref y)] [.ref y, .int cd])) rfl (rest := [.int cd]) rfl (hb hbytes d30)
    have hh11 := q11.trans hh9
    have c12 : Steps p.tables e below (s₁.setTop (entryFrame m #[.ref x, .ref y] 3)) (T11.setTop (mkF m 33 #[.val (.ref x), .val (.ref y), .val (.ref y)] [.int cd', .int cd])) := c10.trans (st11 _ (Steps.refl _))
    by_cases hcd : cd = cd'
    · subst hcd
      have c13 : Steps p.tables e below (s₁.setTop (entryFrame m #[.ref x, .ref y] 3)) (T11.setTop (mkF m 37 #[.val (.ref x), .val (.ref y), .val (.ref y)] [.ref x])) := c12.trans (by
        refine XS.icmpNo X11.here hexec rfl (hb hbytes d33) rfl (ii_ne_f rfl) ?_
        refine XS.aloadN X11.here hexec rfl (hb hbytes d36) rfl rfl ?_
        exact Steps.refl _)
      obtain ⟨T14, X14, q14, st14⟩ := X11.hget hexec hown (wk W (.fieldLink "java/lang/String" 9 "java/lang/String" "value" "[B")) (hx.mv X11.warmed.alike hh11).2.1 (g := (mkF m 37 #[.val (.ref x), .val (.ref y), .val (.ref y)] [.ref x])) rfl (rest := []) rfl (hb hbytes d37)
      have hh14 := q14.trans hh11
      have c15 : Steps p.tables e below (s₁.setTop (entryFrame m #[.ref x, .ref y] 3)) (T14.setTop (mkF m 41 #[.val (.ref x), .val (.ref y), .val (.ref y)] [.ref y, .ref t])) := (c13.trans (st14 _ (Steps.refl _))).trans (by
        refine XS.aloadN X14.here hexec rfl (hb hbytes d40) rfl rfl ?_
        exact Steps.refl _)
      obtain ⟨T16, X16, q16, st16⟩ := X14.hget hexec hown (wk W (.fieldLink "java/lang/String" 9 "java/lang/String" "value" "[B")) (hy.mv X14.warmed.alike hh14).2.1 (g := (mkF m 41 #[.val (.ref x), .val (.ref y), .val (.ref y)] [.ref y, .ref t])) rfl (rest := [.ref t]) rfl (hb hbytes d41)
      have hh16 := q16.trans hh14
      have c17 : Steps p.tables e below (s₁.setTop (entryFrame m #[.ref x, .ref y] 3)) (T16.setTop (mkF m 44 #[.val (.ref x), .val (.ref y), .val (.ref y)] [.ref t', .ref t])) := c15.trans (st16 _ (Steps.refl _))
      obtain ⟨v18, T18, X18, E18, g18⟩ := X16.callS hexec (LEq.law l t V t' V') hown (wks W (staticW "java/lang/String" 541 LEq.yN)) (wk W LEq.tab) (W := 0) (Nat.le_of_ble_eq_true rfl) (Nat.le_of_ble_eq_true rfl) (Nat.le_refl _) (Nat.le_refl _) (g := (mkF m 44 #[.val (.ref x), .val (.ref y), .val (.ref y)] [.ref t', .ref t])) rfl (by rw [hml]; rfl) c17 (argsL := [.ref t, .ref t']) (rest := []) rfl rfl (by show 2 * 0 + 0 ≤ _; decide) (hb hbytes d44) (⟨rfl, hx.2.2.2.1.mv X16.warmed.alike hh16, hx.2.2.2.2.1.ty, hy.2.2.2.1.mv X16.warmed.alike hh16, hy.2.2.2.2.1.ty⟩)
      obtain ⟨v, rfl, q18, hv⟩ := E18
      have iff := Cod.eqv hx.2.2.2.2.1 hy.2.2.2.2.1 hx.2.2.2.2.2 hy.2.2.2.2.2
      rcases hv with ⟨rfl, he⟩ | ⟨rfl, he⟩
      · have c19 : Steps p.tables e below (s₁.setTop (entryFrame m #[.ref x, .ref y] 3)) (T18.setTop (mkF m 55 #[.val (.ref x), .val (.ref y), .val (.ref y)] [.int 1])) := Steps.trans g18 (by
          refine XS.ifNo X18.here hexec rfl (hb hbytes d47) rfl (i0_eq_f (by decide)) ?_
          refine iconstV X18.here hexec rfl 1 (hb hbytes d50) (by decide) ?_
          refine XS.goto X18.here hexec rfl (pc0 := 51) rfl (hb hbytes d51) (by decide) rfl ?_
          exact Steps.refl _)
        exact ⟨T18, some (.int 1), _, _, _, X18, rfl, rfl, rfl, (fun h => by cases h), ⟨1, rfl, q18.trans hh16, Or.inl ⟨rfl, iff.mp he⟩⟩, fun fs hl => c19.trans (X18.ireturnOut hexec hret rfl (Or.inr (Or.inl rfl)) (hb hbytes d55) hl)⟩
      · have c19 : Steps p.tables e below (s₁.setTop (entryFrame m #[.ref x, .ref y] 3)) (T18.setTop (mkF m 55 #[.val (.ref x), .val (.ref y), .val (.ref y)] [.int 0])) := Steps.trans g18 (by
          refine XS.ifYes X18.here hexec rfl (pc0 := 47) rfl (hb hbytes d47) rfl (i0_eq_t rfl) (by decide) rfl ?_
          refine iconstV X18.here hexec rfl 0 (hb hbytes d54) (by decide) ?_
          exact Steps.refl _)
        exact ⟨T18, some (.int 0), _, _, _, X18, rfl, rfl, rfl, (fun h => by cases h), ⟨0, rfl, q18.trans hh16, Or.inr ⟨rfl, fun q => he (iff.mpr q)⟩⟩, fun fs hl => c19.trans (X18.ireturnOut hexec hret rfl (Or.inr (Or.inl rfl)) (hb hbytes d55) hl)⟩
    · have c13 : Steps p.tables e below (s₁.setTop (entryFrame m #[.ref x, .ref y] 3)) (T11.setTop (mkF m 55 #[.val (.ref x), .val (.ref y), .val (.ref y)] [.int 0])) := c12.trans (by
        refine XS.icmpYes X11.here hexec rfl (pc0 := 33) rfl (hb hbytes d33) rfl (ii_ne_t hcd) (by decide) rfl ?_
        refine iconstV X11.here hexec rfl 0 (hb hbytes d54) (by decide) ?_
        exact Steps.refl _)
      exact ⟨T11, some (.int 0), _, _, _, X11, rfl, rfl, rfl, (fun h => by cases h), ⟨0, rfl, hh11, Or.inr ⟨rfl, Cod.dif hx.2.2.2.2.1 hy.2.2.2.2.1 hcd⟩⟩, fun fs hl => c13.trans (X11.ireturnOut hexec hret rfl (Or.inr (Or.inl rfl)) (hb hbytes d55) hl)⟩
theorem pays {l : Launch} {R : Room} {p : Program} {e : Env} {below : List Frame} {s : State} {sargs : Array Value} {len W : Nat} (x t : Addr) (V : Cell) (cd : Int32) (n : Nat) (f : Nat → Int32) (y t' : Addr) (V' : Cell) (cd' : Int32) (k : Nat) (g : Nat → Int32) (z : Int32) (htab : tab.before sargs s = true) (hfr : 2 ≤ R.frames) (hlo : W + 28 ≤ R.locals) :
    Back l R p e below s sargs yN len W (fun A₁ a₁ => A₁.cells + 0 ≤ R.cells ∧ A₁.slots + 0 ≤ R.slots ∧ P x t V cd n f y t' V' cd' k g z a₁ A₁.U) (fun A₁ _ v₁ B₁ => Says01 (SameT n f k g) v₁ A₁.U B₁.U ∧ B₁.locs = A₁.locs ++ [] ∧ B₁.cells = A₁.cells + 0 ∧ B₁.slots = A₁.slots + 0) :=
  (law l x t V cd n f y t' V' cd' k g z).pays htab hfr (by omega)
end SEq
end StrChars
namespace StrChars.Road
open Jvm Sem ClassFile Op Lib Jvm.Stand Jvm.Free Jvm.Free.XT
open Jvm.Lib.Cold (StaticIs)
/-- the words of String.equals(Object) -/
abbrev wordsEq : List Jvm.Cond := [.code SEq.yN SEq.yB 3 (some .boolean), .initialized ST, .classLink ST 10 ST, .fieldLink ST 38 ST "COMPACT_STRINGS" "Z", .fieldLink ST 15 ST "coder" "B", .fieldLink ST 9 ST "value" "[B", .methodLink ST 541 LEq.yN, .static LEq.yN, .code LEq.yN LEq.yB 3 (some .boolean), .initialized "java/lang/StringLatin1"]
theorem tabEq_of {a : Array Value} {s : State} (h : ∀ w ∈ wordsEq, w.before a s = true) : SEq.tab.before a s = true := by
  have hl : LEq.tab.before a s = true := unparts (wk h (.code LEq.yN LEq.yB 3 (some .boolean))) (wks h (.initialized LEq.yN.cls :: LEq.site))
  have q := consq hl h
  exact unparts (wk q (.code SEq.yN SEq.yB 3 (some .boolean))) (wks q (.initialized SEq.yN.cls :: SEq.site))
theorem movedEq {Z s : State} {a0 args : Array Value} (hZ : Z.Warmed39 s.vm) (hw : ∀ d ∈ wordsEq, d.before a0 Z = true) : ∀ d ∈ wordsEq, d.before args s = true := fun d hd => by
  have t : ∀ d ∈ wordsEq, (d.onTables && d.keepsFace) = true := by decide +kernel
  exact RoadKit.mv hZ (hw d hd) (t d hd)
/-- the road's facts of a String, as the laws ask it -/
theorem txt_of {Z U : State} {a0 : Array Value} {kI : Nat} (wi : (Jvm.Cond.instantiable ST kI).before a0 Z = true) (al : Z.vm.Alike U.vm) {x t : Addr} {kb : ClassId} {cs : List Int32} {cd N2 : Int32} {vs : List Value} (E : RoadKit.Exa Z U.heap x ST) (V : RoadKit.Fld Z U.heap x ST "value" "[B" (.ref t)) (C : RoadKit.Fld Z U.heap x ST "coder" "B" (.int cd)) (K : RoadKit.Arv Z U.heap t kb .byte N2 vs (.int 0)) (hc : CodA cs cd N2 vs) (hb : ∀ c ∈ cs, ¬ c < 0 ∧ ¬ (65535 : Int32) < c) (l2 : cs.length ≤ 4000) :
    ∃ A, Txt x t A cd cs.length (fun j => cs.getD j 0) U := by
  obtain ⟨A, K1, K2, K3, K4, K5, K6⟩ := K
  have hcod := hc.cod (by omega) K3 K5
  obtain ⟨D, fV, fC, hB, F1, F2, g1, g2, -, -⟩ := strObj wi al E V C
  exact ⟨A, ⟨_, hB.2.2.1, D, hB.1, rfl, by cases q : D.vm <;> first | rfl | exact absurd q (hB.2.1.2 _)⟩, Has.of hB F1 g1, Has.of hB F2 g2, ⟨K1.1, State.isArrayOf_alike al K1.2.1, K1.2.2, by rcases hcod with ⟨-, q, -⟩ | ⟨-, q, -⟩ <;> omega⟩, hcod, fun j hj => by
    have e : cs.getD j 0 = cs[j] := by simp [List.getD_eq_getElem?_getD, hj]
    show ¬ cs.getD j 0 < 0 ∧ ¬ 65535 < cs.getD j 0
    rw [e]; exact hb _ (List.getElem_mem _)⟩
theorem same_list (cs ds : List Int32) : SameT cs.length (fun j => cs.getD j 0) ds.length (fun j => ds.getD j 0) ↔ cs = ds := by
  constructor
  · rintro ⟨e, q⟩
    refine List.ext_getElem e fun j h1 h2 => ?_
    have := q j h1
    simpa [List.getD_eq_getElem?_getD, h1, h2] using this
  · rintro rfl
    exact ⟨rfl, fun _ _ => rfl⟩
/-- **equals(Object) OF TWO SUCH STRINGS**: 1 just where the chars are the same -/
theorem eqW {p : Program} {l : Launch} {e : Env} {R : Room} {s : State} {args : Array Value} {below : List Frame} {len W : Nat} {Z : State} {a0 : Array Value} {h : Heap} (hZ : Z.Warmed39 s.vm) (hw : ∀ d ∈ wordsEq, d.before a0 Z = true) {kI : Nat} (wi : (Jvm.Cond.instantiable ST kI).before a0 Z = true)
    {x t : Addr} {kb : ClassId} {cs : List Int32} {cd N2 : Int32} {vs : List Value} (E : RoadKit.Exa Z h x ST) (V : RoadKit.Fld Z h x ST "value" "[B" (.ref t)) (C : RoadKit.Fld Z h x ST "coder" "B" (.int cd)) (K : RoadKit.Arv Z h t kb .byte N2 vs (.int 0)) (hc : CodA cs cd N2 vs) (hb : ∀ c ∈ cs, ¬ c < 0 ∧ ¬ (65535 : Int32) < c) (l2 : cs.length ≤ 4000)
    {y t' : Addr} {kb' : ClassId} {ds : List Int32} {cd' N2' : Int32} {vs' : List Value} (E' : RoadKit.Exa Z h y ST) (V' : RoadKit.Fld Z h y ST "value" "[B" (.ref t')) (C' : RoadKit.Fld Z h y ST "coder" "B" (.int cd')) (K' : RoadKit.Arv Z h t' kb' .byte N2' vs' (.int 0)) (hc' : CodA ds cd' N2' vs') (hb' : ∀ c ∈ ds, ¬ c < 0 ∧ ¬ (65535 : Int32) < c) (l2' : ds.length ≤ 4000)
    {z : Int32} (S : RoadKit.Sta Z h ST "COMPACT_STRINGS" "Z" (.int z)) (hz : ¬ z = 0) (hfr : 2 ≤ R.frames) (hlo : W + 28 ≤ R.locals) :
    Back l R p e below s args (⟨"java/lang/String", "equals", "(Ljava/lang/Object;)Z"⟩ : MethodName) len W (fun P a => a = #[.ref x, .ref y] ∧ P.U.heap = h ∧ P.cells + 0 ≤ R.cells ∧ P.slots + 0 ≤ R.slots)
      (fun P _ v B => ∃ L, (((v = some (.int 1) ∧ cs = ds) ∨ (v = some (.int 0) ∧ ¬ cs = ds)) ∧ L = [] ∧ B.U.heap = h) ∧ B.locs = P.locs ++ L ∧ B.cells = P.cells + 0 ∧ B.slots = P.slots + 0) := by
  intro m meth c P g ig mk a X hg hsize hdg hW hn hp'
  obtain ⟨rfl, rfl, r1, r2⟩ := hp'
  have al : Z.vm.Alike P.U.vm := hZ.alike.trans X.warmed.alike
  obtain ⟨A, hx⟩ := txt_of wi al E V C K hc hb l2
  obtain ⟨A', hy⟩ := txt_of wi al E' V' C' K' hc' hb' l2'
  obtain ⟨v, B, X', ⟨⟨w, hv, hh, hq⟩, hl, hk, hs⟩, st⟩ := SEq.pays x t A cd cs.length (fun j => cs.getD j 0) y t' A' cd' ds.length (fun j => ds.getD j 0) z (tabEq_of (movedEq hZ hw)) hfr hlo m meth c P g ig mk _ X hg hsize hdg hW hn ⟨r1, r2, rfl, hx, hy, sta_is al S, hz⟩
  refine ⟨v, B, X', ⟨[], ⟨?_, rfl, hh⟩, hl, hk, hs⟩, st⟩
  rcases hq with ⟨rfl, q⟩ | ⟨rfl, q⟩
  · exact Or.inl ⟨hv, (same_list cs ds).mp q⟩
  · exact Or.inr ⟨hv, fun e => q ((same_list cs ds).mpr e)⟩
end StrChars.Road
namespace StrChars.Road
open Jvm Sem ClassFile Op Lib Jvm.Stand Jvm.Free Jvm.Free.XT
open Jvm.Lib.Cold (StaticIs)
/-- what backV says of its String, as the contracts of this text ask it: cs's low bytes, coder 0 -/
theorem codOf {cs : List Int32} {n : Nat} (hn : cs.length = n) (hb : ∀ c ∈ cs, ¬ 255 < c) : CodA cs 0 (Int32.ofNat n) ((cs.map lo8).map Value.int) := Or.inl ⟨rfl, by rw [hn], by simp [List.map_map, Function.comp_def], hb⟩
end StrChars.Road
end Jvm.Pilot.@@N@@
namespace Jvm.Pilot.@@N@@
open Jvm Jvm.ClassFile Sem Op Lib Jvm.Free Jvm.Stand Jvm.LawKit Jvm.RoadKit Bundle Jvm.Pilot.@@N@@.Jvm.D
/-! the walk, forward: own_G: from here the run comes to an end that meets P -/
def own_G (tb : Tables) (e : Env) (below : List Frame) (P : Outcome → State → Prop) (a : State) : Prop := ∃ s₂ o, Steps tb e below a s₂ ∧ s₂.status = .running ∧ Ended s₂ below o ∧ P o s₂
def own_c (x : Int32) : Int32 := x.toUInt32.toUInt16.toUInt32.toInt32
section OwnKit
variable {tb : Tables} {p : Program} {l : Launch} {e : Env} {R : Room} {s : State} {m : MethodId} {args : Array Value} {below : List Frame} {meth : Method} {c : Code} {T : State} {locs : List Loc} {cells slots : Nat} {P : Outcome → State → Prop} {a b : State} {h : Heap} {Z : State} {a0 : Array Value}
theorem own_w {d : Jvm.Cond} (hw : ∀ d ∈ tables_1, d.before a0 Z = true) (k : Nat) (h : tables_1[k]? = some d) : d.before a0 Z = true := hw _ (List.mem_of_getElem? h)
theorem own_G.go (h : ∀ t, Steps tb e below b t → Steps tb e below a t) (k : own_G tb e below P b) : own_G tb e below P a := by
  obtain ⟨s₂, o, h1, h2⟩ := k
  exact ⟨s₂, o, h _ h1, h2⟩
theorem own_G.via (h : Steps tb e below a b) (k : own_G tb e below P b) : own_G tb e below P a := own_G.go (fun _ q => h.trans q) k
theorem own_G.cast {g g' : JFrame} (q : g = g') (k : own_G tb e below P (T.setTop g')) : own_G tb e below P (T.setTop g) := q ▸ k
theorem own_G.end_ (X : Stand p l e R s m args below meth c T locs cells slots) (hlk : meth.locks = false) {v : Option Value} (hv : meth.sig.returnType = none → v = none)
    (st : ∀ fs, (∀ (f : JFrame) (acts : List Action), f.method = m → f.locked = none → f.entered = [] → (doReturn e (T.setTop f) acts v).1 = T.setFrames fs) → Steps p.tables e below a (T.setFrames fs))
    {Q : Option Value → Heap → List Loc → Prop} {rc rs : Nat} (eT : T.heap = h) (hQ : Q v h locs) (hc : cells ≤ rc) (hs : slots ≤ rs) :
    own_G p.tables e below (fun o t => ∃ v L, o = .returned v ∧ Q v t.heap L ∧ FrameEnd s o t L rc rs) a := by
  obtain ⟨fs, hr, hrun, hended, hW, hsame⟩ := X.leave hv
  subst eT
  exact ⟨_, _, st fs hr, hrun, hended, _, _, rfl, hQ, ⟨_, rfl⟩, hW, hsame.mono hc hs⟩
/-! calls by a payer of backOf's shape -/
theorem own_callS (X : Stand p l e R s m args below meth c T locs cells slots) (hx : p.tables.exec = Jvm.exec) {own : String} {index : Nat} {y : MethodName} {bytes : ByteArray} {maxL : Nat} {ret : Option FieldType}
    (hown : s.vm.findClass own = some m.cls) (hlink : (Jvm.Cond.methodLink own index y).before args s = true) (hstat : (Jvm.Cond.static y).before args s = true) (hinit : (Jvm.Cond.initialized y.cls).before args s = true) (hcode : (Jvm.Cond.code y bytes maxL ret).before args s = true)
    (hy : y.cls ≠ "java/lang/invoke/MethodHandle" ∧ y.cls ≠ "java/lang/invoke/VarHandle") {W rc rs : Nat} {as' : Array Value} {Q : Option Value → Heap → List Loc → Prop}
    (hK : Back l R p e below s args y 3 W (fun A a => a = as' ∧ A.U.heap = h ∧ A.cells + rc ≤ R.cells ∧ A.slots + rs ≤ R.slots) (fun A _ v B => ∃ L, Q v B.U.heap L ∧ B.locs = A.locs ++ L ∧ B.cells = A.cells + rc ∧ B.slots = A.slots + rs))
    {g : JFrame} (hg : g.method = m) (hsize : g.locals.size = c.maxLocals) {argsL rest : List Value} (hlen : ∀ sig, parseMethodDescriptor y.desc = some sig → argsL.length = sig.parameters.length)
    (hstack : g.stack = argsL.reverse ++ rest) (hW : 2 * g.monitorRoom + (rest.map fun v => v.category).sum ≤ W) (hdg : decode c.code g.pc = .ok (.invokestatic index, 3))
    (eT : T.heap = h) (has : argsL.toArray = as') (hc : cells + rc ≤ R.cells) (hs : slots + rs ≤ R.slots) :
    ∃ (v : Option Value) (T' : State) (L : List Loc), Q v T'.heap L ∧ Stand p l e R s m args below meth c T' (locs ++ L) (cells + rc) (slots + rs) ∧ Steps p.tables e below (T.setTop g) (T'.setTop { g with pc := g.pc + 3, stack := v.toList ++ rest }) := by
  obtain ⟨v, vm₁, ⟨T', L', k', n'⟩, -, X', ⟨L, hQ, l1, l2, l3⟩, st⟩ := Jvm.LawKit.callS X hx hown hlink hstat hinit hcode hy hK hg hsize hlen hstack hW hdg (fun _ _ => ⟨has, eT, hc, hs⟩)
  dsimp only [Pt.U, Pt.locs, Pt.cells, Pt.slots] at X' l1 l2 l3 st hQ
  subst l1 l2 l3
  exact ⟨v, T', L, hQ, X', st _ (Steps.refl _)⟩
theorem own_callI (X : Stand p l e R s m args below meth c T locs cells slots) (hx : p.tables.exec = Jvm.exec) {own : String} {index : Nat} {y : MethodName} (hy1 : y.name = "<init>") {bytes : ByteArray} {maxL : Nat}
    (hown : s.vm.findClass own = some m.cls) (hlink : (Jvm.Cond.methodLink own index y).before args s = true) (hinst : (Jvm.Cond.instanceMethod y).before args s = true) (hcode : (Jvm.Cond.code y bytes maxL none).before args s = true)
    (hy : y.cls ≠ "java/lang/invoke/MethodHandle" ∧ y.cls ≠ "java/lang/invoke/VarHandle") {W rc rs : Nat} {as' : Array Value} {Q : Option Value → Heap → List Loc → Prop}
    (hK : Back l R p e below s args y 3 W (fun A a => a = as' ∧ A.U.heap = h ∧ A.cells + rc ≤ R.cells ∧ A.slots + rs ≤ R.slots) (fun A _ v B => ∃ L, Q v B.U.heap L ∧ B.locs = A.locs ++ L ∧ B.cells = A.cells + rc ∧ B.slots = A.slots + rs))
    {a : Addr} {g : JFrame} (hg : g.method = m) (hsize : g.locals.size = c.maxLocals) {argsL rest : List Value} (hlen : ∀ sig, parseMethodDescriptor y.desc = some sig → argsL.length = sig.parameters.length)
    (hstack : g.stack = argsL.reverse ++ .ref a :: rest) (hW : 2 * g.monitorRoom + (rest.map fun v => v.category).sum ≤ W) (hdg : decode c.code g.pc = .ok (.invokespecial index, 3))
    (eT : T.heap = h) (has : (.ref a :: argsL).toArray = as') (hc : cells + rc ≤ R.cells) (hs : slots + rs ≤ R.slots) :
    ∃ (v : Option Value) (T' : State) (L : List Loc), Q v T'.heap L ∧ Stand p l e R s m args below meth c T' (locs ++ L) (cells + rc) (slots + rs) ∧ Steps p.tables e below (T.setTop g) (T'.setTop { g with pc := g.pc + 3, stack := v.toList ++ rest }) := by
  obtain ⟨v, vm₁, ⟨T', L', k', n'⟩, -, X', ⟨L, hQ, l1, l2, l3⟩, st⟩ := X.specialBack hx hy1 hown hlink hinst hcode hy hK hg hsize (Steps.refl _) hlen hstack hW hdg (fun _ _ => ⟨has, eT, hc, hs⟩)
  dsimp only [Pt.U, Pt.locs, Pt.cells, Pt.slots] at X' l1 l2 l3 st hQ
  subst l1 l2 l3
  exact ⟨v, T', L, hQ, X', st⟩
theorem own_callV (X : Stand p l e R s m args below meth c T locs cells slots) (hx : p.tables.exec = Jvm.exec) {own C : String} {index : Nat} {y z : MethodName}
    (hown : s.vm.findClass own = some m.cls) (hlink : (Jvm.Cond.methodLink own index y).before args s = true) (hdecl : (Jvm.Cond.declares y).before args s = true) (hnf : NotFace s y)
    (hsel : (Jvm.Cond.selects C y z).before args s = true) (hinst : (Jvm.Cond.instanceMethod z).before args s = true)
    (hy : y.cls ≠ "java/lang/invoke/MethodHandle" ∧ y.cls ≠ "java/lang/invoke/VarHandle") {W rc rs : Nat} {as' : Array Value} {Q : Option Value → Heap → List Loc → Prop}
    (hK : Back l R p e below s args z 3 W (fun A a => a = as' ∧ A.U.heap = h ∧ A.cells + rc ≤ R.cells ∧ A.slots + rs ≤ R.slots) (fun A _ v B => ∃ L, Q v B.U.heap L ∧ B.locs = A.locs ++ L ∧ B.cells = A.cells + rc ∧ B.slots = A.slots + rs))
    {b : Addr} {cB : ClassId} (hcB : s.vm.findClass C = some cB) (hrecv : IsOf cB T b)
    {g : JFrame} (hg : g.method = m) (hsize : g.locals.size = c.maxLocals) {argsL rest : List Value} (hlen : ∀ sig, parseMethodDescriptor y.desc = some sig → argsL.length = sig.parameters.length)
    (hstack : g.stack = argsL.reverse ++ .ref b :: rest) (hW : 2 * g.monitorRoom + (rest.map fun v => v.category).sum ≤ W) (hdg : decode c.code g.pc = .ok (.invokevirtual index, 3))
    (eT : T.heap = h) (has : (.ref b :: argsL).toArray = as') (hc : cells + rc ≤ R.cells) (hs : slots + rs ≤ R.slots) :
    ∃ (v : Option Value) (T' : State) (L : List Loc), Q v T'.heap L ∧ Stand p l e R s m args below meth c T' (locs ++ L) (cells + rc) (slots + rs) ∧ Steps p.tables e below (T.setTop g) (T'.setTop { g with pc := g.pc + 3, stack := v.toList ++ rest }) := by
  obtain ⟨v, vm₁, ⟨T', L', k', n'⟩, -, X', ⟨L, hQ, l1, l2, l3⟩, st⟩ := X.virtualBack hx hown hlink hdecl hnf hsel hinst hy hK hcB hrecv hg hsize (Steps.refl _) hlen hstack hW hdg (fun _ _ => ⟨has, eT, hc, hs⟩)
  dsimp only [Pt.U, Pt.locs, Pt.cells, Pt.slots] at X' l1 l2 l3 st hQ
  subst l1 l2 l3
  exact ⟨v, T', L, hQ, X', st⟩
/-! stores into an array whose values are known -/
theorem own_stC {k : ClassId} {n : Int32} {vs : List Value} {d : Value} {a : Addr} (X : Stand p l e R s m args below meth c T locs cells slots) (hx : p.tables.exec = Jvm.exec) (hZ : Z.Warmed39 s.vm) (eT : T.heap = h) (V : Arv Z h a k .char n vs d) {j x : Int32} (i : Nat) (hi : i < vs.length) (hji : j.toNatClampNeg = i) (hj : ¬ j < 0 ∧ j < n)
    {g : JFrame} (hg : g.method = m) {rest : List Value} (hs : g.stack = .int x :: .int j :: .ref a :: rest) (hd : decode c.code g.pc = .ok (.castore, 1)) :
    ∃ T' h', Stand p l e R s m args below meth c T' (locs ++ [⟨a, j.toNatClampNeg⟩]) cells slots ∧ T'.heap = h' ∧ Wr h h' a j.toNatClampNeg (.int (nar .char x)) ∧ Arv Z h' a k .char n (vs.set i (.int (nar .char x))) d ∧ ∀ target, Steps p.tables e below (T'.setTop { g with pc := g.pc + 1, stack := rest }) target → Steps p.tables e below (T.setTop g) target := by
  obtain ⟨cl, A, q, S, M, H, U⟩ := V
  obtain ⟨T', h', X', e', W', st⟩ := stC X hx hZ eT A (j := j) (inb_of S hj) hg hs hd
  exact ⟨T', h', X', e', W', Arv.set A q S M H U (fits_nar_char _) W' i hji hi, st⟩
theorem own_stB {k : ClassId} {n : Int32} {vs : List Value} {d : Value} {a : Addr} (X : Stand p l e R s m args below meth c T locs cells slots) (hx : p.tables.exec = Jvm.exec) (hZ : Z.Warmed39 s.vm) (eT : T.heap = h) (V : Arv Z h a k .byte n vs d) {j x : Int32} (i : Nat) (hi : i < vs.length) (hji : j.toNatClampNeg = i) (hj : ¬ j < 0 ∧ j < n)
    {g : JFrame} (hg : g.method = m) {rest : List Value} (hs : g.stack = .int x :: .int j :: .ref a :: rest) (hd : decode c.code g.pc = .ok (.bastore, 1)) :
    ∃ T' h', Stand p l e R s m args below meth c T' (locs ++ [⟨a, j.toNatClampNeg⟩]) cells slots ∧ T'.heap = h' ∧ Wr h h' a j.toNatClampNeg (.int (nar .byte x)) ∧ Arv Z h' a k .byte n (vs.set i (.int (nar .byte x))) d ∧ ∀ target, Steps p.tables e below (T'.setTop { g with pc := g.pc + 1, stack := rest }) target → Steps p.tables e below (T.setTop g) target := by
  obtain ⟨cl, A, q, S, M, H, U⟩ := V
  obtain ⟨T', h', X', e', W', st⟩ := stB X hx hZ eT A (j := j) (inb_of S hj) hg hs hd
  exact ⟨T', h', X', e', W', Arv.set A q S M H U (fits_nar_byte _) W' i hji hi, st⟩
theorem own_stI {k : ClassId} {n : Int32} {vs : List Value} {d : Value} {a : Addr} (X : Stand p l e R s m args below meth c T locs cells slots) (hx : p.tables.exec = Jvm.exec) (hZ : Z.Warmed39 s.vm) (eT : T.heap = h) (V : Arv Z h a k .int n vs d) {j x : Int32} (i : Nat) (hi : i < vs.length) (hji : j.toNatClampNeg = i) (hj : ¬ j < 0 ∧ j < n)
    {g : JFrame} (hg : g.method = m) {rest : List Value} (hs : g.stack = .int x :: .int j :: .ref a :: rest) (hd : decode c.code g.pc = .ok (.iastore, 1)) :
    ∃ T' h', Stand p l e R s m args below meth c T' (locs ++ [⟨a, j.toNatClampNeg⟩]) cells slots ∧ T'.heap = h' ∧ Wr h h' a j.toNatClampNeg (.int x) ∧ Arv Z h' a k .int n (vs.set i (.int x)) d ∧ ∀ target, Steps p.tables e below (T'.setTop { g with pc := g.pc + 1, stack := rest }) target → Steps p.tables e below (T.setTop g) target := by
  obtain ⟨cl, A, q, S, M, H, U⟩ := V
  obtain ⟨T', h', X', e', W', st⟩ := stI X hx hZ eT A (j := j) (inb_of S hj) hg hs hd
  exact ⟨T', h', X', e', W', Arv.set A q S M H U rfl W' i hji hi, st⟩
end OwnKit
/-! the same for walks that may load String constants (the frame is the wide one) -/
section OwnKitW
variable {p : Program} {l : Launch} {e : Env} {R : Room} {s : State} {m : MethodId} {args : Array Value} {below : List Frame} {meth : Method} {c : Code} {T : State} {locs : List Loc} {cells slots : Nat} {P : Outcome → State → Prop} {a b : State} {h : Heap} {Z : State} {a0 : Array Value} {vm0 : Vm} {k0 : Nat}
theorem own_since (s : State) (n : Nat) : s.Since s.vm n := (State.WarmedH.refl s).since n
theorem own_G.endW (X : Stand p l e R (s.setVm vm0) m args below meth c T locs cells slots) (hS : s.Since vm0 k0) (hn : k0 ≤ h.size) (hlk : meth.locks = false) {v : Option Value} (hv : meth.sig.returnType = none → v = none)
    (st : ∀ fs, (∀ (f : JFrame) (acts : List Action), f.method = m → f.locked = none → f.entered = [] → (doReturn e (T.setTop f) acts v).1 = T.setFrames fs) → Steps p.tables e below a (T.setFrames fs))
    {Q : Option Value → Heap → List Loc → Prop} {rc rs : Nat} (eT : T.heap = h) (hQ : Q v h locs) (hc : cells ≤ rc) (hs : slots ≤ rs) :
    own_G p.tables e below (fun o t => ∃ v L, o = .returned v ∧ Q v t.heap L ∧ ReturnedEndW s o t L rc rs) a := by
  subst eT
  obtain ⟨fs, hr, hrun, hended, r1, r2, r3, r4⟩ := X.leaveW hS hn hv hlk
  exact ⟨_, _, st fs hr, hrun, hended, _, _, rfl, hQ, r1, r2, r3, r4.mono hc hs⟩
theorem own_backS {y : MethodName} {len W rc rs : Nat} {as' : Array Value} {Q : Option Value → Heap → List Loc → Prop} {S : State}
    (hK : BackS l R p e below S args y len W (fun A a => a = as' ∧ A.U.heap = h ∧ A.cells + rc ≤ R.cells ∧ A.slots + rs ≤ R.slots) (fun A _ v B => ∃ L, Q v B.U.heap L ∧ B.locs = A.locs ++ L ∧ B.cells = A.cells + rc ∧ B.slots = A.slots + rs)) :
    BackS l R p e below S args y len W (fun A a => a = as' ∧ A.U.heap = h ∧ A.cells + rc ≤ R.cells ∧ A.slots + rs ≤ R.slots) (fun A _ v B => ∃ L, (fun v (U : State) L => Q v U.heap L) v B.U L ∧ B.locs = A.locs ++ L ∧ B.cells = A.cells + rc ∧ B.slots = A.slots + rs) := hK
theorem own_callIW (X : Stand p l e R (s.setVm vm0) m args below meth c T locs cells slots) (hx : p.tables.exec = Jvm.exec) (hS : s.Since vm0 k0) (hk : k0 ≤ h.size) (hZ : Z.Warmed39 vm0) {own : String} {index : Nat} {y : MethodName} (hy1 : y.name = "<init>") {bytes : ByteArray} {maxL : Nat}
    (hown : vm0.findClass own = some m.cls) (hlink : (Jvm.Cond.methodLink own index y).before args (s.setVm vm0) = true) (hinst : (Jvm.Cond.instanceMethod y).before args (s.setVm vm0) = true) (hcode : (Jvm.Cond.code y bytes maxL none).before args (s.setVm vm0) = true)
    (hy : y.cls ≠ "java/lang/invoke/MethodHandle" ∧ y.cls ≠ "java/lang/invoke/VarHandle") {W rc rs : Nat} {as' : Array Value} {Q : Option Value → State → List Loc → Prop}
    (hK : BackS l R p e below (s.setVm vm0) args y 3 W (fun A a => a = as' ∧ A.U.heap = h ∧ A.cells + rc ≤ R.cells ∧ A.slots + rs ≤ R.slots) (fun A _ v B => ∃ L, Q v B.U L ∧ B.locs = A.locs ++ L ∧ B.cells = A.cells + rc ∧ B.slots = A.slots + rs))
    {a : Addr} {g : JFrame} (hg : g.method = m) (hsize : g.locals.size = c.maxLocals) {argsL rest : List Value} (hlen : ∀ sig, parseMethodDescriptor y.desc = some sig → argsL.length = sig.parameters.length)
    (hstack : g.stack = argsL.reverse ++ .ref a :: rest) (hW : 2 * g.monitorRoom + (rest.map fun v => v.category).sum ≤ W) (hdg : decode c.code g.pc = .ok (.invokespecial index, 3))
    (eT : T.heap = h) (has : (.ref a :: argsL).toArray = as') (hc : cells + rc ≤ R.cells) (hs : slots + rs ≤ R.slots) :
    ∃ (v : Option Value) (T' : State) (L : List Loc), Q v T' L ∧ Stand p l e R (s.setVm T'.vm) m args below meth c T' (locs ++ L) (cells + rc) (slots + rs) ∧ s.Since T'.vm T'.heap.size ∧ Z.Warmed39 T'.vm ∧ T'.vm.findClass own = some m.cls ∧ Steps p.tables e below (T.setTop g) (T'.setTop { g with pc := g.pc + 3, stack := v.toList ++ rest }) := by
  subst eT
  obtain ⟨v, vm₁, ⟨T', L', k', n'⟩, -, X', h2, hgr, ⟨L, hQ, l1, l2, l3⟩, st⟩ := X.specialBackS hx hy1 hown hlink hinst hcode hy hK hg hsize (Steps.refl _) hlen hstack hW hdg (fun _ _ => ⟨has, rfl, hc, hs⟩)
  dsimp only [Pt.U, Pt.locs, Pt.cells, Pt.slots] at X' l1 l2 l3 st hQ h2 hgr
  subst l1 l2 l3
  obtain ⟨r1, r2, r3, r4⟩ := rebS hS hk X' h2 hgr hZ hown
  exact ⟨v, T', L, hQ, r1, r2, r3, r4, st⟩
theorem own_callSW (X : Stand p l e R (s.setVm vm0) m args below meth c T locs cells slots) (hx : p.tables.exec = Jvm.exec) (hS : s.Since vm0 k0) (hk : k0 ≤ h.size) (hZ : Z.Warmed39 vm0) {own : String} {index : Nat} {y : MethodName} {bytes : ByteArray} {maxL : Nat} {ret : Option FieldType}
    (hown : vm0.findClass own = some m.cls) (hlink : (Jvm.Cond.methodLink own index y).before args (s.setVm vm0) = true) (hstat : (Jvm.Cond.static y).before args (s.setVm vm0) = true) (hinit : (Jvm.Cond.initialized y.cls).before args (s.setVm vm0) = true) (hcode : (Jvm.Cond.code y bytes maxL ret).before args (s.setVm vm0) = true)
    (hy : y.cls ≠ "java/lang/invoke/MethodHandle" ∧ y.cls ≠ "java/lang/invoke/VarHandle") {W rc rs : Nat} {as' : Array Value} {Q : Option Value → State → List Loc → Prop}
    (hK : BackS l R p e below (s.setVm vm0) args y 3 W (fun A a => a = as' ∧ A.U.heap = h ∧ A.cells + rc ≤ R.cells ∧ A.slots + rs ≤ R.slots) (fun A _ v B => ∃ L, Q v B.U L ∧ B.locs = A.locs ++ L ∧ B.cells = A.cells + rc ∧ B.slots = A.slots + rs))
    {g : JFrame} (hg : g.method = m) (hsize : g.locals.size = c.maxLocals) {argsL rest : List Value} (hlen : ∀ sig, parseMethodDescriptor y.desc = some sig → argsL.length = sig.parameters.length)
    (hstack : g.stack = argsL.reverse ++ rest) (hW : 2 * g.monitorRoom + (rest.map fun v => v.category).sum ≤ W) (hdg : decode c.code g.pc = .ok (.invokestatic index, 3))
    (eT : T.heap = h) (has : argsL.toArray = as') (hc : cells + rc ≤ R.cells) (hs : slots + rs ≤ R.slots) :
    ∃ (v : Option Value) (T' : State) (L : List Loc), Q v T' L ∧ Stand p l e R (s.setVm T'.vm) m args below meth c T' (locs ++ L) (cells + rc) (slots + rs) ∧ s.Since T'.vm T'.heap.size ∧ Z.Warmed39 T'.vm ∧ T'.vm.findClass own = some m.cls ∧ Steps p.tables e below (T.setTop g) (T'.setTop { g with pc := g.pc + 3, stack := v.toList ++ rest }) := by
  subst eT
  obtain ⟨v, vm₁, ⟨T', L', k', n'⟩, -, X', h2, hgr, ⟨L, hQ, l1, l2, l3⟩, st⟩ := callSS X hx hown hlink hstat hinit hcode hy hK hg hsize hlen hstack hW hdg (fun _ _ => ⟨has, rfl, hc, hs⟩)
  dsimp only [Pt.U, Pt.locs, Pt.cells, Pt.slots] at X' l1 l2 l3 st hQ h2 hgr
  subst l1 l2 l3
  obtain ⟨r1, r2, r3, r4⟩ := rebS hS hk X' h2 hgr hZ hown
  exact ⟨v, T', L, hQ, r1, r2, r3, r4, st⟩
theorem own_callVW (X : Stand p l e R (s.setVm vm0) m args below meth c T locs cells slots) (hx : p.tables.exec = Jvm.exec) (hS : s.Since vm0 k0) (hk : k0 ≤ h.size) (hZ : Z.Warmed39 vm0) {own C : String} {index : Nat} {y z : MethodName}
    (hown : vm0.findClass own = some m.cls) (hlink : (Jvm.Cond.methodLink own index y).before args (s.setVm vm0) = true) (hdecl : (Jvm.Cond.declares y).before args (s.setVm vm0) = true) (hnf : NotFace (s.setVm vm0) y)
    (hsel : (Jvm.Cond.selects C y z).before args (s.setVm vm0) = true) (hinst : (Jvm.Cond.instanceMethod z).before args (s.setVm vm0) = true)
    (hy : y.cls ≠ "java/lang/invoke/MethodHandle" ∧ y.cls ≠ "java/lang/invoke/VarHandle") {W rc rs : Nat} {as' : Array Value} {Q : Option Value → State → List Loc → Prop}
    (hK : BackS l R p e below (s.setVm vm0) args z 3 W (fun A a => a = as' ∧ A.U.heap = h ∧ A.cells + rc ≤ R.cells ∧ A.slots + rs ≤ R.slots) (fun A _ v B => ∃ L, Q v B.U L ∧ B.locs = A.locs ++ L ∧ B.cells = A.cells + rc ∧ B.slots = A.slots + rs))
    {b : Addr} {cB : ClassId} (hcB : (s.setVm vm0).vm.findClass C = some cB) (hrecv : IsOf cB T b)
    {g : JFrame} (hg : g.method = m) (hsize : g.locals.size = c.maxLocals) {argsL rest : List Value} (hlen : ∀ sig, parseMethodDescriptor y.desc = some sig → argsL.length = sig.parameters.length)
    (hstack : g.stack = argsL.reverse ++ .ref b :: rest) (hW : 2 * g.monitorRoom + (rest.map fun v => v.category).sum ≤ W) (hdg : decode c.code g.pc = .ok (.invokevirtual index, 3))
    (eT : T.heap = h) (has : (.ref b :: argsL).toArray = as') (hc : cells + rc ≤ R.cells) (hs : slots + rs ≤ R.slots) :
    ∃ (v : Option Value) (T' : State) (L : List Loc), Q v T' L ∧ Stand p l e R (s.setVm T'.vm) m args below meth c T' (locs ++ L) (cells + rc) (slots + rs) ∧ s.Since T'.vm T'.heap.size ∧ Z.Warmed39 T'.vm ∧ T'.vm.findClass own = some m.cls ∧ Steps p.tables e below (T.setTop g) (T'.setTop { g with pc := g.pc + 3, stack := v.toList ++ rest }) := by
  subst eT
  obtain ⟨v, vm₁, ⟨T', L', k', n'⟩, -, X', h2, hgr, ⟨L, hQ, l1, l2, l3⟩, st⟩ := X.virtualBackS hx hown hlink hdecl hnf hsel hinst hy hK hcB hrecv hg hsize (Steps.refl _) hlen hstack hW hdg (fun _ _ => ⟨has, rfl, hc, hs⟩)
  dsimp only [Pt.U, Pt.locs, Pt.cells, Pt.slots] at X' l1 l2 l3 st hQ h2 hgr
  subst l1 l2 l3
  obtain ⟨r1, r2, r3, r4⟩ := rebS hS hk X' h2 hgr hZ hown
  exact ⟨v, T', L, hQ, r1, r2, r3, r4, st⟩
end OwnKitW
theorem own_lt {x y : Int32} : x < y ↔ x.toInt < y.toInt := Int32.lt_iff_toInt_lt
theorem own_eq {x y : Int32} : x = y ↔ x.toInt = y.toInt := ⟨fun h => h ▸ rfl, fun h => Int32.toInt_inj.mp h⟩
def own_b (c : Int32) : Prop := ¬ c < 0 ∧ ¬ (255 : Int32) < c
theorem own_b_int {c : Int32} (h : own_b c) : 0 ≤ c.toInt ∧ c.toInt ≤ 255 := by
  obtain ⟨h1, h2⟩ := h
  rw [own_lt] at h1 h2
  have e1 : (0 : Int32).toInt = 0 := rfl
  have e2 : (255 : Int32).toInt = 255 := rfl
  omega
theorem own_b_of {c : Int32} (h : 0 ≤ c.toInt ∧ c.toInt ≤ 255) : own_b c := by
  unfold own_b
  rw [own_lt, own_lt]
  have e1 : (0 : Int32).toInt = 0 := rfl
  have e2 : (255 : Int32).toInt = 255 := rfl
  omega
theorem own_c_small {x : Int32} (h : 0 ≤ x.toInt ∧ x.toInt < 65536) : own_c x = x := by
  rw [own_eq]
  have := c_i2c x
  unfold own_c
  omega
theorem own_narc {x : Int32} (h : own_b x) : nar .char x = x := own_c_small (by have := own_b_int h; omega)
theorem own_mask (x : Int32) : own_b (own_c (x &&& (255 : Int32))) := by
  have h := c_mask x 255 8 (by decide) (by decide)
  rw [own_c_small (by omega)]
  exact own_b_of (by omega)
theorem own_up (cs : List Int32) (h : ∀ c ∈ cs, own_b c) : ∀ c ∈ cs, ¬ c < 0 ∧ ¬ (65535 : Int32) < c := fun c hc => ⟨(h c hc).1, fun q => (h c hc).2 (by rw [Int32.lt_iff_toInt_lt] at q ⊢; have e1 : (65535 : Int32).toInt = 65535 := rfl; have e2 : (255 : Int32).toInt = 255 := rfl; omega)⟩
theorem own_all1 {a : Int32} (h : own_b a) : ∀ c ∈ ([a] : List Int32), own_b c := fun c hc => by rw [List.mem_singleton] at hc; subst hc; exact h

theorem own_noInst {Z : State} {a0 : Array Value} {C O K : String} {n : Nat} (w : (Jvm.Cond.superclass C O).before a0 Z = true) (wo : (Jvm.Cond.noSuperclass O).before a0 Z = true) (wi : (Jvm.Cond.instantiable K n).before a0 Z = true) (h1 : C ≠ K) (h2 : O ≠ K) :
    ∃ c t, Z.vm.findClass C = some c ∧ Z.vm.findClass K = some t ∧ Z.vm.assignable c t = false := by
  obtain ⟨t, k', g1, g2, g3, g4, -⟩ := Cond.instantiable_spec wi
  obtain ⟨c, h0⟩ := found_sup w
  obtain ⟨p, k, kp, a1, a2, a3, a4, a5, -, a7⟩ := Cond.superclass_spec h0 w
  obtain ⟨co, ko, b1, b2, b3, -, -⟩ := Cond.noSuperclass_spec wo
  cases a1.symm.trans b1
  have ne := ids_ne h0 g1 h1
  have neo := ids_ne b1 g1 h2
  have s0 : ∀ f, Z.vm.isSubclassAux f p t = false := fun f => by
    cases f with
    | zero => rfl
    | succ f => simp [Vm.isSubclassAux, neo, b2, b3]
  have s1 : ∀ f, Z.vm.isSubclassAux f c t = false := fun f => by
    cases f with
    | zero => rfl
    | succ f => simp [Vm.isSubclassAux, ne, a2, a4, s0]
  have g7 : k'.isInterface = false := by
    cases hi : k'.isInterface with
    | false => rfl
    | true => rw [hi] at g4; simp at g4
  refine ⟨c, t, h0, g1, ?_⟩
  show Z.vm.assignableAux (255 + 1) c t = false
  simp [Vm.assignableAux, ne, a2, g2, a5, g3, g7, Vm.isSubclass, s1]

theorem own_q1 {a b : Int32} (h : ([a] : List Int32) = [b]) : a = b := by injection h
theorem own_q2 {a b : Int32} (h : a = b) : ([a] : List Int32) = [b] := by rw [h]

theorem own_z1 {z : Int32} {P : Prop} (h : (z = 1 ∧ P) ∨ (z = 0 ∧ ¬ P)) (hP : P) : z = (1 : Int32) := h.elim (fun q => q.1) (fun q => absurd hP q.2)
theorem own_z0 {z : Int32} {P : Prop} (h : (z = 1 ∧ P) ∨ (z = 0 ∧ ¬ P)) (hP : ¬ P) : z = (0 : Int32) := h.elim (fun q => absurd q.2 hP) (fun q => q.1)
def Qone (Z : State) (ch : Int32) (h0 : Heap) (n0 : Nat) (v : Option Value) (h : Heap) (L : List Loc) : Prop := ∃ (r t : Addr) (kb : ClassId), v = some (.ref r) ∧ Fr n0 L ∧ Keep h0 h [] ∧ h0.size ≤ r ∧ h0.size ≤ t ∧ Exa Z h r "java/lang/String" ∧ Fld Z h r "java/lang/String" "coder" "B" (.int 0) ∧ Fld Z h r "java/lang/String" "value" "[B" (.ref t) ∧ Arv Z h t kb .byte (1 : Int32) ((([ch] : List Int32).map (fun c => c.toInt8.toInt32)).map Value.int) (.int 0)
theorem pn_1 : plainName "com/example/sluis/sluis/value/OrderEqualsPinLaw" = true := by first | (simp [plainName, overriddenIn]; done) | decide +kernel
theorem pd_1 : parseMethodDescriptor "([C)V" = some ⟨[(.array .char)], none⟩ := by decide +kernel
theorem d_rm_one_0 : decode method_2_code 0 = .ok (.new 7, 3) := by decide +kernel
theorem d_rm_one_3 : decode method_2_code 3 = .ok (.dup, 1) := by decide +kernel
theorem d_rm_one_4 : decode method_2_code 4 = .ok (.iconst 1, 1) := by decide +kernel
theorem d_rm_one_5 : decode method_2_code 5 = .ok (.newarray .char, 2) := by decide +kernel
theorem d_rm_one_7 : decode method_2_code 7 = .ok (.dup, 1) := by decide +kernel
theorem d_rm_one_8 : decode method_2_code 8 = .ok (.iconst 0, 1) := by decide +kernel
theorem d_rm_one_9 : decode method_2_code 9 = .ok (.iload_n 0, 1) := by decide +kernel
theorem d_rm_one_10 : decode method_2_code 10 = .ok (.castore, 1) := by decide +kernel
theorem d_rm_one_11 : decode method_2_code 11 = .ok (.invokespecial 9, 3) := by decide +kernel
theorem d_rm_one_14 : decode method_2_code 14 = .ok (.areturn, 1) := by decide +kernel
set_option maxRecDepth 65536 in
set_option maxHeartbeats 40000000 in
theorem rm_one (l : Launch) (Z : State) (a0 : Array Value) (hw : ∀ d ∈ tables_1, d.before a0 Z = true) (ws : List Jvm.Cond) (ch : Int32) (zc : Int32) (h0 : Heap) (n0 : Nat) (Z0 : n0 ≤ h0.size) (hch : own_b ch) (O2 : Sta Z Z.heap "java/lang/String" "COMPACT_STRINGS" "Z" (.int zc)) (P5 : ¬ (zc = (0 : Int32))) (X00 : Old Z n0 h0) :
    MetFree l (⟨"com/example/sluis/sluis/value/OrderEqualsPinLaw", "one", "(C)Ljava/lang/String;"⟩ : MethodName) (head1 (Jvm.Cond.code (⟨"com/example/sluis/sluis/value/OrderEqualsPinLaw", "one", "(C)Ljava/lang/String;"⟩ : MethodName) method_2_code 1 (some (.object "java/lang/String")) :: ws) ({ frames := 4, cells := 3, slots := 6, locals := 66 } : Room)) (fun a_ U => a_ = #[(.int ch)] ∧ Z.Warmed39 U.vm ∧ U.heap = h0) (fun _ _ _ _ _ => True) (fun _ U o U' => ∃ v L, o = .returned v ∧ Qone Z ch h0 n0 v U'.heap L ∧ FrameEnd U o U' L ({ frames := 4, cells := 3, slots := 6, locals := 66 } : Room).cells ({ frames := 4, cells := 3, slots := 6, locals := 66 } : Room).slots) := by
  refine MetFree.of_bodySF (plainFor_of_name pn_1) hisR ?_
  intro p e s m args below meth c s₁ Bd hml0 hP hK
  obtain ⟨rfl, hZ, hh⟩ := hP
  have hx := Bd.exec
  have hby := Bd.bytes
  have hrt := Bd.returns
  have hlk : meth.locks = false := Bd.notSynchronized
  have hml : c.maxLocals = 1 := hml0
  have hown : s.vm.findClass "com/example/sluis/sluis/value/OrderEqualsPinLaw" = some m.cls := findClass_of_methodNamed Bd.named
  have hnm := (name_of_methodNamed Bd.named Bd.method).1
  have X0 : Stand p l e ({ frames := 4, cells := 3, slots := 6, locals := 66 } : Room) s m #[(.int ch)] below meth c s₁ [] 0 0 := Stand.of_body Bd
  have e0 : s₁.heap = h0 := by rw [← hh, Bd.state]; rfl
  have N0 := Fr.nil n0
  show own_G p.tables e below (fun o t => ∃ v L, o = .returned v ∧ Qone Z ch h0 n0 v t.heap L ∧ FrameEnd s o t L ({ frames := 4, cells := 3, slots := 6, locals := 66 } : Room).cells ({ frames := 4, cells := 3, slots := 6, locals := 66 } : Room).slots) (s₁.setTop (entryFrame m #[(.int ch)] 1))
  refine own_G.cast (show entryFrame m #[(.int ch)] 1 = mkF m 0 #[.val (.int ch)] [] from by first | (simp [entryFrame, mkF, argsToLocals, Value.category]; done) | rfl) ?_
  have hws : ∀ d ∈ StrChars.Road.words, d.before a0 Z = true := fun d hd => hw d ((by decide +kernel : ∀ d ∈ StrChars.Road.words, d ∈ tables_1) d hd)
  obtain ⟨T_1, h_1, X_1, e_1, E_1, A_1, D_1, -, st_1⟩ := newO X0 hx hZ hown (own_w hw 4 rfl) (own_w hw 5 rfl) (own_w hw 6 rfl) e0 (g := (mkF m 0 #[.val (.int ch)] [])) rfl (hb hby d_rm_one_0) (by decide) (by decide)
  obtain ⟨a_1, g_1⟩ : ∃ z, z = h0.size := ⟨_, rfl⟩
  rw [← g_1] at A_1 D_1 st_1
  refine own_G.go st_1 ?_
  have F_1_coder : Fld Z h_1 a_1 "java/lang/String" "coder" "B" (.int (0 : Int32)) := D_1 (Or.inr (own_w hw 31 rfl)) (ty := .byte) (by decide)
  have F_1_value : Fld Z h_1 a_1 "java/lang/String" "value" "[B" .null := D_1 (Or.inr (own_w hw 33 rfl)) (ty := (.array .byte)) (by decide)
  show own_G _ _ _ _ (T_1.setTop (mkF m 3 #[.val (.int ch)] [(.ref a_1)]))
  refine own_G.go (fun t_ k_ => XS.dup X_1.here hx rfl (hb hby d_rm_one_3) rfl rfl k_) ?_
  show own_G _ _ _ _ (T_1.setTop (mkF m 4 #[.val (.int ch)] [(.ref a_1), (.ref a_1)]))
  refine own_G.go (fun t_ k_ => XS.iconst X_1.here hx rfl (hb hby d_rm_one_4) k_) ?_
  show own_G _ _ _ _ (T_1.setTop (mkF m 5 #[.val (.int ch)] [(.int (1 : Int32)), (.ref a_1), (.ref a_1)]))
  obtain ⟨T_2, h_2, k_2, X_2, e_2, E_2, A_2, st_2⟩ := newP X_1 hx hZ (own_w hw 7 rfl) e_1 (g := (mkF m 5 #[.val (.int ch)] [(.int (1 : Int32)), (.ref a_1), (.ref a_1)])) rfl (hb hby d_rm_one_5) rfl (by decide : ¬ ((1 : Int32) < (0 : Int32))) (cap := 1) (by decide : ((1 : Int32)).toNatClampNeg ≤ 1) (by decide) (by decide) (by decide)
  obtain ⟨a_2, g_2⟩ : ∃ z, z = h_1.size := ⟨_, rfl⟩
  rw [← g_2] at A_2 st_2
  refine own_G.go st_2 ?_
  have V_2 : Arv Z h_2 a_2 k_2 .char (1 : Int32) ([(.int (0 : Int32))] : List Value) (.int (0 : Int32)) := (Arv.new A_2 (by decide : ¬ ((1 : Int32) < (0 : Int32)))).pad (pad_rep [] (.int (0 : Int32)) 1)
  show own_G _ _ _ _ (T_2.setTop (mkF m 7 #[.val (.int ch)] [(.ref a_2), (.ref a_1), (.ref a_1)]))
  refine own_G.go (fun t_ k_ => XS.dup X_2.here hx rfl (hb hby d_rm_one_7) rfl rfl k_) ?_
  show own_G _ _ _ _ (T_2.setTop (mkF m 8 #[.val (.int ch)] [(.ref a_2), (.ref a_2), (.ref a_1), (.ref a_1)]))
  refine own_G.go (fun t_ k_ => XS.iconst X_2.here hx rfl (hb hby d_rm_one_8) k_) ?_
  show own_G _ _ _ _ (T_2.setTop (mkF m 9 #[.val (.int ch)] [(.int (0 : Int32)), (.ref a_2), (.ref a_2), (.ref a_1), (.ref a_1)]))
  refine own_G.go (fun t_ k_ => XS.iloadN X_2.here hx rfl (hb hby d_rm_one_9) rfl k_) ?_
  show own_G _ _ _ _ (T_2.setTop (mkF m 10 #[.val (.int ch)] [(.int ch), (.int (0 : Int32)), (.ref a_2), (.ref a_2), (.ref a_1), (.ref a_1)]))
  obtain ⟨T_3, h_3, X_3, e_3, W_3, V_3, st_3⟩ := own_stC X_2 hx hZ e_2 V_2 (j := (0 : Int32)) 0 (Nat.le_of_ble_eq_true rfl) (by decide) (by decide : ¬ ((0 : Int32) < (0 : Int32)) ∧ (0 : Int32) < (1 : Int32)) (g := (mkF m 10 #[.val (.int ch)] [(.int ch), (.int (0 : Int32)), (.ref a_2), (.ref a_2), (.ref a_1), (.ref a_1)])) rfl rfl (hb hby d_rm_one_10)
  refine own_G.go st_3 ?_
  have V_3q : Arv Z h_3 a_2 k_2 .char (1 : Int32) ([(.int (nar .char ch))] : List Value) (.int (0 : Int32)) := V_3
  have g0_a_2 : n0 ≤ a_2 := Nat.le_trans (Nat.le_trans Z0 E_1.1) (Nat.le_of_eq g_2.symm)
  have N_3 := Fr.snoc X_3 N0 g0_a_2
  show own_G _ _ _ _ (T_3.setTop (mkF m 11 #[.val (.int ch)] [(.ref a_2), (.ref a_1), (.ref a_1)]))
  have VC : Arv Z h_3 a_2 k_2 .char (1 : Int32) ([(.int ch)] : List Value) (.int (0 : Int32)) := by have q := V_3q; rw [own_narc hch] at q; exact q
  have A_1'_4 : Exa Z h_3 a_1 "java/lang/String" := ((A_1.ext E_2).wr W_3)
  have F_1_value'_5 : Fld Z h_3 a_1 "java/lang/String" "value" "[B" .null := ((F_1_value.ext E_2).other W_3 (Or.inl (Nat.ne_of_lt (Nat.lt_of_lt_of_le A_1.lt (Nat.le_of_eq g_2.symm)))))
  have F_1_coder'_6 : Fld Z h_3 a_1 "java/lang/String" "coder" "B" (.int (0 : Int32)) := ((F_1_coder.ext E_2).other W_3 (Or.inl (Nat.ne_of_lt (Nat.lt_of_lt_of_le A_1.lt (Nat.le_of_eq g_2.symm)))))
  have g0_a_1 : n0 ≤ a_1 := Nat.le_trans Z0 (Nat.le_of_eq g_1.symm)
  have Z_7s : n0 ≤ h_3.size := (Nat.le_trans Z0 (Nat.le_trans (Nat.le_trans E_1.1 E_2.1) (Keep.of_wr W_3).1))
  have O_8d : Old Z n0 h_3 := (((X00.ext E_1).ext E_2).wr W_3 g0_a_2)
  obtain ⟨_, T_9, L_9, Q_9, X_9, st_9⟩ := own_callI X_3 hx rfl hown (mvT hZ (own_w hw 8 rfl)) (mvT hZ (own_w hw 9 rfl)) (mvT hZ (own_w hw 10 rfl)) (by decide) (Q := (StrChars.Road.QV Z a_1 (1 : Int32) (([ch] : List Int32).map (fun c => c.toInt8.toInt32)) h_3 n0)) (StrChars.Road.backV (W := 1) hZ hws (kI := 4) (own_w hw 5 rfl) (cs := ([ch] : List Int32)) (bs := ([ch] : List Int32).map (fun c => c.toInt8.toInt32)) (n := 1) g0_a_1 Z_7s A_1'_4 F_1_value'_5 F_1_coder'_6 VC (O2.ext O_8d.2) P5 rfl rfl (by decide) (by decide) (own_all1 hch) rfl (by decide) (by decide)) (a := a_1) (g := (mkF m 11 #[.val (.int ch)] [(.ref a_2), (.ref a_1), (.ref a_1)])) rfl (by rw [hml]; rfl) (argsL := [(.ref a_2)]) (rest := [(.ref a_1)]) (lenOf pd_1 rfl) rfl (by show 2 * 0 + _ ≤ _; exact Nat.le_of_eq rfl) (hb hby d_rm_one_11) e_3 rfl (by decide) (by decide)
  obtain ⟨rfl, Nq_9, K_9, Ex_9, Fc_9, t_9, kb_9, tn_9, th_9, tx_9, Fv_9, Kb_9⟩ := Q_9
  refine own_G.via st_9 ?_
  have N_9 := Fr.app N_3 Nq_9
  show own_G _ _ _ _ (T_9.setTop (mkF m 14 #[.val (.int ch)] [(.ref a_1)]))
  exact own_G.end_ X_9 hlk (v := (some (.ref a_1))) (fun h => by rw [hrt] at h; cases h) (fun fs hr => retOut X_9 hx hrt rfl (Or.inr (Or.inr (Or.inr (Or.inr ⟨rfl, rfl, rfl⟩)))) (hb hby d_rm_one_14) hr) rfl ⟨a_1, t_9, kb_9, rfl, N_9, (((((Keep.refl h0 []).ext E_1).ext E_2).wr W_3 (Or.inr (Nat.le_trans E_1.1 (Nat.le_of_eq g_2.symm)))).trans K_9 (allS (Or.inr (Nat.le_of_eq g_1.symm)) all0)), (Nat.le_of_eq g_1.symm), (Nat.le_trans (Nat.le_trans (Nat.le_trans E_1.1 E_2.1) (Keep.of_wr W_3).1) th_9), Ex_9, Fc_9, Fv_9, Kb_9⟩ (by decide) (by decide)
def Qp (r : Value) (h0 : Heap) (v : Option Value) (h : Heap) (L : List Loc) : Prop := v = some r ∧ L = [] ∧ h = h0
theorem pn_2 : plainName "java/util/Objects" = true := by first | (simp [plainName, overriddenIn]; done) | decide +kernel
theorem d_rm_rnn_0 : decode jdk_31_method_11_code 0 = .ok (.aload_n 0, 1) := by decide +kernel
theorem d_rm_rnn_1 : decode jdk_31_method_11_code 1 = .ok (.ifnonnull 12, 3) := by decide +kernel
theorem d_rm_rnn_13 : decode jdk_31_method_11_code 13 = .ok (.aload_n 0, 1) := by decide +kernel
theorem d_rm_rnn_14 : decode jdk_31_method_11_code 14 = .ok (.areturn, 1) := by decide +kernel
set_option maxRecDepth 65536 in
set_option maxHeartbeats 40000000 in
theorem rm_rnn (l : Launch) (Z : State) (a0 : Array Value) (hw : ∀ d ∈ tables_1, d.before a0 Z = true) (ws : List Jvm.Cond) (a b : Addr) (h0 : Heap) (n0 : Nat) (Z0 : n0 ≤ h0.size)  :
    MetFree l (⟨"java/util/Objects", "requireNonNull", "(Ljava/lang/Object;Ljava/lang/String;)Ljava/lang/Object;"⟩ : MethodName) (head1 (Jvm.Cond.code (⟨"java/util/Objects", "requireNonNull", "(Ljava/lang/Object;Ljava/lang/String;)Ljava/lang/Object;"⟩ : MethodName) jdk_31_method_11_code 2 (some (.object "java/lang/Object")) :: ws) ({ frames := 0, cells := 0, slots := 0, locals := 0 } : Room)) (fun a_ U => a_ = #[(.ref a), (.ref b)] ∧ Z.Warmed39 U.vm ∧ U.heap = h0) (fun _ _ _ _ _ => True) (fun _ U o U' => ∃ v L, o = .returned v ∧ Qp (.ref a) h0 v U'.heap L ∧ FrameEnd U o U' L ({ frames := 0, cells := 0, slots := 0, locals := 0 } : Room).cells ({ frames := 0, cells := 0, slots := 0, locals := 0 } : Room).slots) := by
  refine MetFree.of_bodySF (plainFor_of_name pn_2) hisR ?_
  intro p e s m args below meth c s₁ Bd hml0 hP hK
  obtain ⟨rfl, hZ, hh⟩ := hP
  have hx := Bd.exec
  have hby := Bd.bytes
  have hrt := Bd.returns
  have hlk : meth.locks = false := Bd.notSynchronized
  have hml : c.maxLocals = 2 := hml0
  have hown : s.vm.findClass "java/util/Objects" = some m.cls := findClass_of_methodNamed Bd.named
  have hnm := (name_of_methodNamed Bd.named Bd.method).1
  have X0 : Stand p l e ({ frames := 0, cells := 0, slots := 0, locals := 0 } : Room) s m #[(.ref a), (.ref b)] below meth c s₁ [] 0 0 := Stand.of_body Bd
  have e0 : s₁.heap = h0 := by rw [← hh, Bd.state]; rfl
  have N0 := Fr.nil n0
  show own_G p.tables e below (fun o t => ∃ v L, o = .returned v ∧ Qp (.ref a) h0 v t.heap L ∧ FrameEnd s o t L ({ frames := 0, cells := 0, slots := 0, locals := 0 } : Room).cells ({ frames := 0, cells := 0, slots := 0, locals := 0 } : Room).slots) (s₁.setTop (entryFrame m #[(.ref a), (.ref b)] 2))
  refine own_G.cast (show entryFrame m #[(.ref a), (.ref b)] 2 = mkF m 0 #[.val (.ref a), .val (.ref b)] [] from by first | (simp [entryFrame, mkF, argsToLocals, Value.category]; done) | rfl) ?_
  refine own_G.go (fun t_ k_ => XS.aloadN X0.here hx rfl (hb hby d_rm_rnn_0) rfl rfl k_) ?_
  show own_G _ _ _ _ (s₁.setTop (mkF m 1 #[.val (.ref a), .val (.ref b)] [(.ref a)]))
  refine own_G.go (fun t_ k_ => XS.ifnonnullYes X0.here hx rfl (pc0 := 1) (pc' := 13) rfl (hb hby d_rm_rnn_1) rfl (by decide) (by decide) k_) ?_
  show own_G _ _ _ _ (s₁.setTop (mkF m 13 #[.val (.ref a), .val (.ref b)] []))
  refine own_G.go (fun t_ k_ => XS.aloadN X0.here hx rfl (hb hby d_rm_rnn_13) rfl rfl k_) ?_
  show own_G _ _ _ _ (s₁.setTop (mkF m 14 #[.val (.ref a), .val (.ref b)] [(.ref a)]))
  exact own_G.end_ X0 hlk (v := (some (.ref a))) (fun h => by rw [hrt] at h; cases h) (fun fs hr => retOut X0 hx hrt rfl (Or.inr (Or.inr (Or.inr (Or.inr ⟨rfl, rfl, rfl⟩)))) (hb hby d_rm_rnn_14) hr) e0 ⟨rfl, rfl, rfl⟩ (by decide) (by decide)
def Qor (Z : State) (a s0 s1 s2 : Addr) (h0 : Heap) (n0 : Nat) (v : Option Value) (h : Heap) (L : List Loc) : Prop := v = none ∧ Fr n0 L ∧ Keep h0 h [a] ∧ Exa Z h a "com/example/sluis/sluis/value/Order" ∧ Fld Z h a "com/example/sluis/sluis/value/Order" "id" "Ljava/lang/String;" (.ref s0) ∧ Fld Z h a "com/example/sluis/sluis/value/Order" "item" "Ljava/lang/String;" (.ref s1) ∧ Fld Z h a "com/example/sluis/sluis/value/Order" "buyer" "Ljava/lang/String;" (.ref s2)
theorem pn_3 : plainName "com/example/sluis/sluis/value/Order" = true := by first | (simp [plainName, overriddenIn]; done) | decide +kernel
theorem pd_2 : parseMethodDescriptor "(Ljava/lang/Object;Ljava/lang/String;)Ljava/lang/Object;" = some ⟨[(.object "java/lang/Object"), (.object "java/lang/String")], some (.object "java/lang/Object")⟩ := by decide +kernel
theorem d_rm_or_0 : decode prog_7_method_1_code 0 = .ok (.aload_n 0, 1) := by decide +kernel
theorem d_rm_or_1 : decode prog_7_method_1_code 1 = .ok (.invokespecial 1, 3) := by decide +kernel
theorem d_rm_or_4 : decode prog_7_method_1_code 4 = .ok (.aload_n 0, 1) := by decide +kernel
theorem d_rm_or_5 : decode prog_7_method_1_code 5 = .ok (.aload_n 1, 1) := by decide +kernel
theorem d_rm_or_6 : decode prog_7_method_1_code 6 = .ok (.ldc 7, 2) := by decide +kernel
theorem d_rm_or_8 : decode prog_7_method_1_code 8 = .ok (.invokestatic 9, 3) := by decide +kernel
theorem d_rm_or_11 : decode prog_7_method_1_code 11 = .ok (.checkcast 15, 3) := by decide +kernel
theorem d_rm_or_14 : decode prog_7_method_1_code 14 = .ok (.putfield 17, 3) := by decide +kernel
theorem d_rm_or_17 : decode prog_7_method_1_code 17 = .ok (.aload_n 0, 1) := by decide +kernel
theorem d_rm_or_18 : decode prog_7_method_1_code 18 = .ok (.aload_n 2, 1) := by decide +kernel
theorem d_rm_or_19 : decode prog_7_method_1_code 19 = .ok (.ldc 22, 2) := by decide +kernel
theorem d_rm_or_21 : decode prog_7_method_1_code 21 = .ok (.invokestatic 9, 3) := by decide +kernel
theorem d_rm_or_24 : decode prog_7_method_1_code 24 = .ok (.checkcast 15, 3) := by decide +kernel
theorem d_rm_or_27 : decode prog_7_method_1_code 27 = .ok (.putfield 24, 3) := by decide +kernel
theorem d_rm_or_30 : decode prog_7_method_1_code 30 = .ok (.aload_n 0, 1) := by decide +kernel
theorem d_rm_or_31 : decode prog_7_method_1_code 31 = .ok (.aload_n 3, 1) := by decide +kernel
theorem d_rm_or_32 : decode prog_7_method_1_code 32 = .ok (.ldc 26, 2) := by decide +kernel
theorem d_rm_or_34 : decode prog_7_method_1_code 34 = .ok (.invokestatic 9, 3) := by decide +kernel
theorem d_rm_or_37 : decode prog_7_method_1_code 37 = .ok (.checkcast 15, 3) := by decide +kernel
theorem d_rm_or_40 : decode prog_7_method_1_code 40 = .ok (.putfield 28, 3) := by decide +kernel
theorem d_rm_or_43 : decode prog_7_method_1_code 43 = .ok (.return_, 1) := by decide +kernel
set_option maxRecDepth 65536 in
set_option maxHeartbeats 40000000 in
theorem rm_or (l : Launch) (Z : State) (a0 : Array Value) (hw : ∀ d ∈ tables_1, d.before a0 Z = true) (ws : List Jvm.Cond) (a s0 s1 s2 : Addr) (h0 : Heap) (n0 : Nat) (Z0 : n0 ≤ h0.size) (g0 : n0 ≤ a) (E0 : Exa Z h0 a "com/example/sluis/sluis/value/Order") (F_id : Fld Z h0 a "com/example/sluis/sluis/value/Order" "id" "Ljava/lang/String;" .null) (F_item : Fld Z h0 a "com/example/sluis/sluis/value/Order" "item" "Ljava/lang/String;" .null) (F_buyer : Fld Z h0 a "com/example/sluis/sluis/value/Order" "buyer" "Ljava/lang/String;" .null) (ES0 : Exa Z h0 s0 "java/lang/String") (ES1 : Exa Z h0 s1 "java/lang/String") (ES2 : Exa Z h0 s2 "java/lang/String") :
    MetFree l (⟨"com/example/sluis/sluis/value/Order", "<init>", "(Ljava/lang/String;Ljava/lang/String;Ljava/lang/String;)V"⟩ : MethodName) (head1 (Jvm.Cond.code (⟨"com/example/sluis/sluis/value/Order", "<init>", "(Ljava/lang/String;Ljava/lang/String;Ljava/lang/String;)V"⟩ : MethodName) prog_7_method_1_code 4 none :: ws) ({ frames := 1, cells := 6, slots := 56, locals := 24 } : Room)) (fun a_ U => a_ = #[(.ref a), (.ref s0), (.ref s1), (.ref s2)] ∧ Z.Warmed39 U.vm ∧ U.heap = h0) (fun _ _ _ _ _ => True) (fun _ U o U' => ∃ v L, o = .returned v ∧ Qor Z a s0 s1 s2 h0 n0 v U'.heap L ∧ ReturnedEndW U o U' L ({ frames := 1, cells := 6, slots := 56, locals := 24 } : Room).cells ({ frames := 1, cells := 6, slots := 56, locals := 24 } : Room).slots) := by
  refine MetFree.of_bodySF (plainFor_of_name pn_3) hisR ?_
  intro p e s m args below meth c s₁ Bd hml0 hP hK
  obtain ⟨rfl, hZ, hh⟩ := hP
  have hx := Bd.exec
  have hby := Bd.bytes
  have hrt := Bd.returns
  have hlk : meth.locks = false := Bd.notSynchronized
  have hml : c.maxLocals = 4 := hml0
  have hown : s.vm.findClass "com/example/sluis/sluis/value/Order" = some m.cls := findClass_of_methodNamed Bd.named
  have hnm := (name_of_methodNamed Bd.named Bd.method).1
  have X0 : Stand p l e ({ frames := 1, cells := 6, slots := 56, locals := 24 } : Room) (s.setVm s.vm) m #[(.ref a), (.ref s0), (.ref s1), (.ref s2)] below meth c s₁ [] 0 0 := Stand.of_body Bd
  have e0 : s₁.heap = h0 := by rw [← hh, Bd.state]; rfl
  have N0 := Fr.nil n0
  have hS0 : s.Since s.vm 0 := own_since s 0
  have hstr : ∀ d ∈ Bundle.stringAtoms, d.before a0 Z = true := fun d hd => hw d ((by decide +kernel : ∀ d ∈ Bundle.stringAtoms, d ∈ tables_1) d hd)
  show own_G p.tables e below (fun o t => ∃ v L, o = .returned v ∧ Qor Z a s0 s1 s2 h0 n0 v t.heap L ∧ ReturnedEndW s o t L ({ frames := 1, cells := 6, slots := 56, locals := 24 } : Room).cells ({ frames := 1, cells := 6, slots := 56, locals := 24 } : Room).slots) (s₁.setTop (entryFrame m #[(.ref a), (.ref s0), (.ref s1), (.ref s2)] 4))
  refine own_G.cast (show entryFrame m #[(.ref a), (.ref s0), (.ref s1), (.ref s2)] 4 = mkF m 0 #[.val (.ref a), .val (.ref s0), .val (.ref s1), .val (.ref s2)] [] from by first | (simp [entryFrame, mkF, argsToLocals, Value.category]; done) | rfl) ?_
  refine own_G.go (fun t_ k_ => XS.aloadN X0.here hx rfl (hb hby d_rm_or_0) rfl rfl k_) ?_
  show own_G _ _ _ _ (s₁.setTop (mkF m 1 #[.val (.ref a), .val (.ref s0), .val (.ref s1), .val (.ref s2)] [(.ref a)]))
  obtain ⟨T_1, X_1, e_1, st_1⟩ := initO X0 hx hZ hown (own_w hw 40 rfl) (own_w hw 16 rfl) (own_w hw 17 rfl) e0 (g := (mkF m 1 #[.val (.ref a), .val (.ref s0), .val (.ref s1), .val (.ref s2)] [(.ref a)])) rfl (by rw [hml]; rfl) rfl (hb hby d_rm_or_1) (by decide) (W := 0) (by show 2 * 0 + _ ≤ _; exact Nat.le_of_eq rfl) (by decide)
  refine own_G.go st_1 ?_
  show own_G _ _ _ _ (T_1.setTop (mkF m 4 #[.val (.ref a), .val (.ref s0), .val (.ref s1), .val (.ref s2)] []))
  refine own_G.go (fun t_ k_ => XS.aloadN X_1.here hx rfl (hb hby d_rm_or_4) rfl rfl k_) ?_
  show own_G _ _ _ _ (T_1.setTop (mkF m 5 #[.val (.ref a), .val (.ref s0), .val (.ref s1), .val (.ref s2)] [(.ref a)]))
  refine own_G.go (fun t_ k_ => XS.aloadN X_1.here hx rfl (hb hby d_rm_or_5) rfl rfl k_) ?_
  show own_G _ _ _ _ (T_1.setTop (mkF m 6 #[.val (.ref a), .val (.ref s0), .val (.ref s1), .val (.ref s2)] [(.ref s0), (.ref a)]))
  obtain ⟨al_2, T_2, h_2, k_2, X_2, e_2, E_2, hS_2, hk_2, hZ_2, hown_2, st_2⟩ := ldcS X_1 hx hZ hown (own_w hw 41 rfl) hstr e_1 hS0 (Nat.zero_le _) (g := (mkF m 6 #[.val (.ref a), .val (.ref s0), .val (.ref s1), .val (.ref s2)] [(.ref s0), (.ref a)])) rfl (hb hby d_rm_or_6) (n := 8) (by decide +kernel) (by decide) (by decide) (by decide)
  refine own_G.go st_2 ?_
  show own_G _ _ _ _ (T_2.setTop (mkF m 8 #[.val (.ref a), .val (.ref s0), .val (.ref s1), .val (.ref s2)] [(.ref al_2), (.ref s0), (.ref a)]))
  obtain ⟨_, T_3, L_3, Q_3, X_3, st_3⟩ := own_callS X_2 hx hown_2 (mvT hZ_2 (own_w hw 44 rfl)) (mvT hZ_2 (own_w hw 45 rfl)) (mvT hZ_2 (own_w hw 46 rfl)) (mvT hZ_2 (own_w hw 47 rfl)) (by decide) (Q := (Qp (.ref s0) h_2)) (backOf (W := 1) (rm_rnn l Z a0 hw [] s0 al_2 h_2 n0 (Nat.le_trans Z0 E_2.1) ) hZ_2 (own_w hw 47 rfl) (own_w hw 46 rfl) (by decide) (by decide)) (g := (mkF m 8 #[.val (.ref a), .val (.ref s0), .val (.ref s1), .val (.ref s2)] [(.ref al_2), (.ref s0), (.ref a)])) rfl (by rw [hml]; rfl) (argsL := [(.ref s0), (.ref al_2)]) (rest := [(.ref a)]) (lenOf pd_2 rfl) rfl (by show 2 * 0 + _ ≤ _; exact Nat.le_of_eq rfl) (hb hby d_rm_or_8) e_2 rfl (by decide) (by decide)
  obtain ⟨rfl, rfl, eh_3⟩ := Q_3
  refine own_G.via st_3 ?_
  have N_3 := Fr.app N0 (Fr.nil n0)
  show own_G _ _ _ _ (T_3.setTop (mkF m 11 #[.val (.ref a), .val (.ref s0), .val (.ref s1), .val (.ref s2)] [(.ref s0), (.ref a)]))
  have ES0'_4 : Exa Z h_2 s0 "java/lang/String" := (ES0.ext E_2)
  obtain ⟨T_5, X_5, e_5, st_5⟩ := castY X_3 hx hZ_2 hown_2 (own_w hw 48 rfl) eh_3 (Ins.self ES0'_4) (g := (mkF m 11 #[.val (.ref a), .val (.ref s0), .val (.ref s1), .val (.ref s2)] [(.ref s0), (.ref a)])) rfl rfl (hb hby d_rm_or_11)
  refine own_G.go st_5 ?_
  show own_G _ _ _ _ (T_5.setTop (mkF m 14 #[.val (.ref a), .val (.ref s0), .val (.ref s1), .val (.ref s2)] [(.ref s0), (.ref a)]))
  have F_id'_6 : Fld Z h_2 a "com/example/sluis/sluis/value/Order" "id" "Ljava/lang/String;" .null := (F_id.ext E_2)
  have E0'_7 : Exa Z h_2 a "com/example/sluis/sluis/value/Order" := (E0.ext E_2)
  obtain ⟨T_8, h_8, X_8, e_8, W_8, st_8⟩ := putF X_5 hx hZ_2 hown_2 (host := "") (Or.inl (own_w hw 49 rfl)) Via.refl e_5 F_id'_6 E0'_7 (Or.inr ⟨(own_w hw 50 rfl), rfl, hnm⟩) (own_w hw 35 rfl) (ty := (.object "java/lang/String")) (by decide) rfl rfl (g := (mkF m 14 #[.val (.ref a), .val (.ref s0), .val (.ref s1), .val (.ref s2)] [(.ref s0), (.ref a)])) rfl rfl (hb hby d_rm_or_14)
  refine own_G.go st_8 ?_
  have F_8 : Fld Z h_8 a "com/example/sluis/sluis/value/Order" "id" "Ljava/lang/String;" (.ref s0) := F_id'_6.same W_8
  have N_8 := Fr.snoc X_8 N_3 g0
  show own_G _ _ _ _ (T_8.setTop (mkF m 17 #[.val (.ref a), .val (.ref s0), .val (.ref s1), .val (.ref s2)] []))
  refine own_G.go (fun t_ k_ => XS.aloadN X_8.here hx rfl (hb hby d_rm_or_17) rfl rfl k_) ?_
  show own_G _ _ _ _ (T_8.setTop (mkF m 18 #[.val (.ref a), .val (.ref s0), .val (.ref s1), .val (.ref s2)] [(.ref a)]))
  refine own_G.go (fun t_ k_ => XS.aloadN X_8.here hx rfl (hb hby d_rm_or_18) rfl rfl k_) ?_
  show own_G _ _ _ _ (T_8.setTop (mkF m 19 #[.val (.ref a), .val (.ref s0), .val (.ref s1), .val (.ref s2)] [(.ref s1), (.ref a)]))
  obtain ⟨al_9, T_9, h_9, k_9, X_9, e_9, E_9, hS_9, hk_9, hZ_9, hown_9, st_9⟩ := ldcS X_8 hx hZ_2 hown_2 (own_w hw 51 rfl) hstr e_8 hS_2 (Nat.le_trans hk_2 (Keep.of_wr W_8).1) (g := (mkF m 19 #[.val (.ref a), .val (.ref s0), .val (.ref s1), .val (.ref s2)] [(.ref s1), (.ref a)])) rfl (hb hby d_rm_or_19) (n := 16) (by decide +kernel) (by decide) (by decide) (by decide)
  refine own_G.go st_9 ?_
  show own_G _ _ _ _ (T_9.setTop (mkF m 21 #[.val (.ref a), .val (.ref s0), .val (.ref s1), .val (.ref s2)] [(.ref al_9), (.ref s1), (.ref a)]))
  obtain ⟨_, T_10, L_10, Q_10, X_10, st_10⟩ := own_callS X_9 hx hown_9 (mvT hZ_9 (own_w hw 44 rfl)) (mvT hZ_9 (own_w hw 45 rfl)) (mvT hZ_9 (own_w hw 46 rfl)) (mvT hZ_9 (own_w hw 47 rfl)) (by decide) (Q := (Qp (.ref s1) h_9)) (backOf (W := 1) (rm_rnn l Z a0 hw [] s1 al_9 h_9 n0 (Nat.le_trans Z0 (Nat.le_trans (Nat.le_trans E_2.1 (Keep.of_wr W_8).1) E_9.1)) ) hZ_9 (own_w hw 47 rfl) (own_w hw 46 rfl) (by decide) (by decide)) (g := (mkF m 21 #[.val (.ref a), .val (.ref s0), .val (.ref s1), .val (.ref s2)] [(.ref al_9), (.ref s1), (.ref a)])) rfl (by rw [hml]; rfl) (argsL := [(.ref s1), (.ref al_9)]) (rest := [(.ref a)]) (lenOf pd_2 rfl) rfl (by show 2 * 0 + _ ≤ _; exact Nat.le_of_eq rfl) (hb hby d_rm_or_21) e_9 rfl (by decide) (by decide)
  obtain ⟨rfl, rfl, eh_10⟩ := Q_10
  refine own_G.via st_10 ?_
  have N_10 := Fr.app N_8 (Fr.nil n0)
  show own_G _ _ _ _ (T_10.setTop (mkF m 24 #[.val (.ref a), .val (.ref s0), .val (.ref s1), .val (.ref s2)] [(.ref s1), (.ref a)]))
  have ES1'_11 : Exa Z h_9 s1 "java/lang/String" := (((ES1.ext E_2).wr W_8).ext E_9)
  obtain ⟨T_12, X_12, e_12, st_12⟩ := castY X_10 hx hZ_9 hown_9 (own_w hw 48 rfl) eh_10 (Ins.self ES1'_11) (g := (mkF m 24 #[.val (.ref a), .val (.ref s0), .val (.ref s1), .val (.ref s2)] [(.ref s1), (.ref a)])) rfl rfl (hb hby d_rm_or_24)
  refine own_G.go st_12 ?_
  show own_G _ _ _ _ (T_12.setTop (mkF m 27 #[.val (.ref a), .val (.ref s0), .val (.ref s1), .val (.ref s2)] [(.ref s1), (.ref a)]))
  have F_item'_13 : Fld Z h_9 a "com/example/sluis/sluis/value/Order" "item" "Ljava/lang/String;" .null := (((F_item.ext E_2).other W_8 (Or.inr (slot_ne (C := "com/example/sluis/sluis/value/Order") (Or.inr (own_w hw 53 rfl)) (Or.inr (own_w hw 50 rfl)) (by decide) (by decide : parseFieldDescriptor "Ljava/lang/String;" = some (.object "java/lang/String")) (by decide : parseFieldDescriptor "Ljava/lang/String;" = some (.object "java/lang/String"))))).ext E_9)
  have E0'_14 : Exa Z h_9 a "com/example/sluis/sluis/value/Order" := ((E0'_7.wr W_8).ext E_9)
  obtain ⟨T_15, h_15, X_15, e_15, W_15, st_15⟩ := putF X_12 hx hZ_9 hown_9 (host := "") (Or.inl (own_w hw 52 rfl)) Via.refl e_12 F_item'_13 E0'_14 (Or.inr ⟨(own_w hw 53 rfl), rfl, hnm⟩) (own_w hw 35 rfl) (ty := (.object "java/lang/String")) (by decide) rfl rfl (g := (mkF m 27 #[.val (.ref a), .val (.ref s0), .val (.ref s1), .val (.ref s2)] [(.ref s1), (.ref a)])) rfl rfl (hb hby d_rm_or_27)
  refine own_G.go st_15 ?_
  have F_15 : Fld Z h_15 a "com/example/sluis/sluis/value/Order" "item" "Ljava/lang/String;" (.ref s1) := F_item'_13.same W_15
  have N_15 := Fr.snoc X_15 N_10 g0
  show own_G _ _ _ _ (T_15.setTop (mkF m 30 #[.val (.ref a), .val (.ref s0), .val (.ref s1), .val (.ref s2)] []))
  refine own_G.go (fun t_ k_ => XS.aloadN X_15.here hx rfl (hb hby d_rm_or_30) rfl rfl k_) ?_
  show own_G _ _ _ _ (T_15.setTop (mkF m 31 #[.val (.ref a), .val (.ref s0), .val (.ref s1), .val (.ref s2)] [(.ref a)]))
  refine own_G.go (fun t_ k_ => XS.aloadN X_15.here hx rfl (hb hby d_rm_or_31) rfl rfl k_) ?_
  show own_G _ _ _ _ (T_15.setTop (mkF m 32 #[.val (.ref a), .val (.ref s0), .val (.ref s1), .val (.ref s2)] [(.ref s2), (.ref a)]))
  obtain ⟨al_16, T_16, h_16, k_16, X_16, e_16, E_16, hS_16, hk_16, hZ_16, hown_16, st_16⟩ := ldcS X_15 hx hZ_9 hown_9 (own_w hw 54 rfl) hstr e_15 hS_9 (Nat.le_trans hk_9 (Keep.of_wr W_15).1) (g := (mkF m 32 #[.val (.ref a), .val (.ref s0), .val (.ref s1), .val (.ref s2)] [(.ref s2), (.ref a)])) rfl (hb hby d_rm_or_32) (n := 20) (by decide +kernel) (by decide) (by decide) (by decide)
  refine own_G.go st_16 ?_
  show own_G _ _ _ _ (T_16.setTop (mkF m 34 #[.val (.ref a), .val (.ref s0), .val (.ref s1), .val (.ref s2)] [(.ref al_16), (.ref s2), (.ref a)]))
  obtain ⟨_, T_17, L_17, Q_17, X_17, st_17⟩ := own_callS X_16 hx hown_16 (mvT hZ_16 (own_w hw 44 rfl)) (mvT hZ_16 (own_w hw 45 rfl)) (mvT hZ_16 (own_w hw 46 rfl)) (mvT hZ_16 (own_w hw 47 rfl)) (by decide) (Q := (Qp (.ref s2) h_16)) (backOf (W := 1) (rm_rnn l Z a0 hw [] s2 al_16 h_16 n0 (Nat.le_trans Z0 (Nat.le_trans (Nat.le_trans (Nat.le_trans (Nat.le_trans E_2.1 (Keep.of_wr W_8).1) E_9.1) (Keep.of_wr W_15).1) E_16.1)) ) hZ_16 (own_w hw 47 rfl) (own_w hw 46 rfl) (by decide) (by decide)) (g := (mkF m 34 #[.val (.ref a), .val (.ref s0), .val (.ref s1), .val (.ref s2)] [(.ref al_16), (.ref s2), (.ref a)])) rfl (by rw [hml]; rfl) (argsL := [(.ref s2), (.ref al_16)]) (rest := [(.ref a)]) (lenOf pd_2 rfl) rfl (by show 2 * 0 + _ ≤ _; exact Nat.le_of_eq rfl) (hb hby d_rm_or_34) e_16 rfl (by decide) (by decide)
  obtain ⟨rfl, rfl, eh_17⟩ := Q_17
  refine own_G.via st_17 ?_
  have N_17 := Fr.app N_15 (Fr.nil n0)
  show own_G _ _ _ _ (T_17.setTop (mkF m 37 #[.val (.ref a), .val (.ref s0), .val (.ref s1), .val (.ref s2)] [(.ref s2), (.ref a)]))
  have ES2'_18 : Exa Z h_16 s2 "java/lang/String" := (((((ES2.ext E_2).wr W_8).ext E_9).wr W_15).ext E_16)
  obtain ⟨T_19, X_19, e_19, st_19⟩ := castY X_17 hx hZ_16 hown_16 (own_w hw 48 rfl) eh_17 (Ins.self ES2'_18) (g := (mkF m 37 #[.val (.ref a), .val (.ref s0), .val (.ref s1), .val (.ref s2)] [(.ref s2), (.ref a)])) rfl rfl (hb hby d_rm_or_37)
  refine own_G.go st_19 ?_
  show own_G _ _ _ _ (T_19.setTop (mkF m 40 #[.val (.ref a), .val (.ref s0), .val (.ref s1), .val (.ref s2)] [(.ref s2), (.ref a)]))
  have F_buyer'_20 : Fld Z h_16 a "com/example/sluis/sluis/value/Order" "buyer" "Ljava/lang/String;" .null := (((((F_buyer.ext E_2).other W_8 (Or.inr (slot_ne (C := "com/example/sluis/sluis/value/Order") (Or.inr (own_w hw 56 rfl)) (Or.inr (own_w hw 50 rfl)) (by decide) (by decide : parseFieldDescriptor "Ljava/lang/String;" = some (.object "java/lang/String")) (by decide : parseFieldDescriptor "Ljava/lang/String;" = some (.object "java/lang/String"))))).ext E_9).other W_15 (Or.inr (slot_ne (C := "com/example/sluis/sluis/value/Order") (Or.inr (own_w hw 56 rfl)) (Or.inr (own_w hw 53 rfl)) (by decide) (by decide : parseFieldDescriptor "Ljava/lang/String;" = some (.object "java/lang/String")) (by decide : parseFieldDescriptor "Ljava/lang/String;" = some (.object "java/lang/String"))))).ext E_16)
  have E0'_21 : Exa Z h_16 a "com/example/sluis/sluis/value/Order" := ((E0'_14.wr W_15).ext E_16)
  obtain ⟨T_22, h_22, X_22, e_22, W_22, st_22⟩ := putF X_19 hx hZ_16 hown_16 (host := "") (Or.inl (own_w hw 55 rfl)) Via.refl e_19 F_buyer'_20 E0'_21 (Or.inr ⟨(own_w hw 56 rfl), rfl, hnm⟩) (own_w hw 35 rfl) (ty := (.object "java/lang/String")) (by decide) rfl rfl (g := (mkF m 40 #[.val (.ref a), .val (.ref s0), .val (.ref s1), .val (.ref s2)] [(.ref s2), (.ref a)])) rfl rfl (hb hby d_rm_or_40)
  refine own_G.go st_22 ?_
  have F_22 : Fld Z h_22 a "com/example/sluis/sluis/value/Order" "buyer" "Ljava/lang/String;" (.ref s2) := F_buyer'_20.same W_22
  have N_22 := Fr.snoc X_22 N_17 g0
  show own_G _ _ _ _ (T_22.setTop (mkF m 43 #[.val (.ref a), .val (.ref s0), .val (.ref s1), .val (.ref s2)] []))
  have E0'_23 : Exa Z h_22 a "com/example/sluis/sluis/value/Order" := (E0'_21.wr W_22)
  have F_8'_24 : Fld Z h_22 a "com/example/sluis/sluis/value/Order" "id" "Ljava/lang/String;" (.ref s0) := ((((F_8.ext E_9).other W_15 (Or.inr (slot_ne (C := "com/example/sluis/sluis/value/Order") (Or.inr (own_w hw 50 rfl)) (Or.inr (own_w hw 53 rfl)) (by decide) (by decide : parseFieldDescriptor "Ljava/lang/String;" = some (.object "java/lang/String")) (by decide : parseFieldDescriptor "Ljava/lang/String;" = some (.object "java/lang/String"))))).ext E_16).other W_22 (Or.inr (slot_ne (C := "com/example/sluis/sluis/value/Order") (Or.inr (own_w hw 50 rfl)) (Or.inr (own_w hw 56 rfl)) (by decide) (by decide : parseFieldDescriptor "Ljava/lang/String;" = some (.object "java/lang/String")) (by decide : parseFieldDescriptor "Ljava/lang/String;" = some (.object "java/lang/String")))))
  have F_15'_25 : Fld Z h_22 a "com/example/sluis/sluis/value/Order" "item" "Ljava/lang/String;" (.ref s1) := ((F_15.ext E_16).other W_22 (Or.inr (slot_ne (C := "com/example/sluis/sluis/value/Order") (Or.inr (own_w hw 53 rfl)) (Or.inr (own_w hw 56 rfl)) (by decide) (by decide : parseFieldDescriptor "Ljava/lang/String;" = some (.object "java/lang/String")) (by decide : parseFieldDescriptor "Ljava/lang/String;" = some (.object "java/lang/String")))))
  exact own_G.endW X_22 hS_16 (Nat.le_trans hk_16 (Keep.of_wr W_22).1) hlk (v := none) (fun _ => rfl) (fun fs hr => X_22.returnOut hx hrt (hb hby d_rm_or_43) hr) e_22 ⟨rfl, N_22, (((((((Keep.refl h0 [a]).ext E_2).wr W_8 (Or.inl (List.mem_of_getElem? (i := 0) rfl))).ext E_9).wr W_15 (Or.inl (List.mem_of_getElem? (i := 0) rfl))).ext E_16).wr W_22 (Or.inl (List.mem_of_getElem? (i := 0) rfl))), E0'_23, F_8'_24, F_15'_25, F_22⟩ (by decide) (by decide)
def Qeq (P : Prop) (h0 : Heap) (v : Option Value) (h : Heap) (L : List Loc) : Prop := (∃ z : Int32, v = some (.int z) ∧ ((z = 1 ∧ P) ∨ (z = 0 ∧ ¬ P))) ∧ L = [] ∧ h = h0
theorem pd_3 : parseMethodDescriptor "(Ljava/lang/Object;)Z" = some ⟨[(.object "java/lang/Object")], some .boolean⟩ := by decide +kernel
theorem d_rm_eqO_0 : decode prog_7_method_5_code 0 = .ok (.aload_n 1, 1) := by decide +kernel
theorem d_rm_eqO_1 : decode prog_7_method_5_code 1 = .ok (.instanceof 18, 3) := by decide +kernel
theorem d_rm_eqO_4 : decode prog_7_method_5_code 4 = .ok (.ifCond .ne 5, 3) := by decide +kernel
theorem d_rm_eqO_9 : decode prog_7_method_5_code 9 = .ok (.aload_n 1, 1) := by decide +kernel
theorem d_rm_eqO_10 : decode prog_7_method_5_code 10 = .ok (.checkcast 18, 3) := by decide +kernel
theorem d_rm_eqO_13 : decode prog_7_method_5_code 13 = .ok (.astore_n 2, 1) := by decide +kernel
theorem d_rm_eqO_14 : decode prog_7_method_5_code 14 = .ok (.aload_n 0, 1) := by decide +kernel
theorem d_rm_eqO_15 : decode prog_7_method_5_code 15 = .ok (.getfield 17, 3) := by decide +kernel
theorem d_rm_eqO_18 : decode prog_7_method_5_code 18 = .ok (.aload_n 2, 1) := by decide +kernel
theorem d_rm_eqO_19 : decode prog_7_method_5_code 19 = .ok (.getfield 17, 3) := by decide +kernel
theorem d_rm_eqO_22 : decode prog_7_method_5_code 22 = .ok (.invokevirtual 30, 3) := by decide +kernel
theorem d_rm_eqO_25 : decode prog_7_method_5_code 25 = .ok (.ifCond .eq 35, 3) := by decide +kernel
theorem d_rm_eqO_28 : decode prog_7_method_5_code 28 = .ok (.aload_n 0, 1) := by decide +kernel
theorem d_rm_eqO_29 : decode prog_7_method_5_code 29 = .ok (.getfield 24, 3) := by decide +kernel
theorem d_rm_eqO_32 : decode prog_7_method_5_code 32 = .ok (.aload_n 2, 1) := by decide +kernel
theorem d_rm_eqO_33 : decode prog_7_method_5_code 33 = .ok (.getfield 24, 3) := by decide +kernel
theorem d_rm_eqO_36 : decode prog_7_method_5_code 36 = .ok (.invokevirtual 30, 3) := by decide +kernel
theorem d_rm_eqO_39 : decode prog_7_method_5_code 39 = .ok (.ifCond .eq 21, 3) := by decide +kernel
theorem d_rm_eqO_42 : decode prog_7_method_5_code 42 = .ok (.aload_n 0, 1) := by decide +kernel
theorem d_rm_eqO_43 : decode prog_7_method_5_code 43 = .ok (.getfield 28, 3) := by decide +kernel
theorem d_rm_eqO_46 : decode prog_7_method_5_code 46 = .ok (.aload_n 2, 1) := by decide +kernel
theorem d_rm_eqO_47 : decode prog_7_method_5_code 47 = .ok (.getfield 28, 3) := by decide +kernel
theorem d_rm_eqO_50 : decode prog_7_method_5_code 50 = .ok (.invokevirtual 30, 3) := by decide +kernel
theorem d_rm_eqO_53 : decode prog_7_method_5_code 53 = .ok (.ifCond .eq 7, 3) := by decide +kernel
theorem d_rm_eqO_56 : decode prog_7_method_5_code 56 = .ok (.iconst 1, 1) := by decide +kernel
theorem d_rm_eqO_57 : decode prog_7_method_5_code 57 = .ok (.goto 4, 3) := by decide +kernel
theorem d_rm_eqO_60 : decode prog_7_method_5_code 60 = .ok (.iconst 0, 1) := by decide +kernel
theorem d_rm_eqO_61 : decode prog_7_method_5_code 61 = .ok (.ireturn, 1) := by decide +kernel
set_option maxRecDepth 65536 in
set_option maxHeartbeats 40000000 in
theorem rm_eqO (l : Launch) (Z : State) (a0 : Array Value) (hw : ∀ d ∈ tables_1, d.before a0 Z = true) (ws : List Jvm.Cond) (a b x0 x1 x2 y0 y1 y2 tx0 tx1 tx2 ty0 ty1 ty2 : Addr) (kx0 kx1 kx2 ky0 ky1 ky2 : ClassId) (c_x0 c_x1 c_x2 c_y0 c_y1 c_y2 : Int32) (zc : Int32) (h0 : Heap) (n0 : Nat) (Z0 : n0 ≤ h0.size) (EA : Exa Z h0 a "com/example/sluis/sluis/value/Order") (EB : Exa Z h0 b "com/example/sluis/sluis/value/Order") (FA_id : Fld Z h0 a "com/example/sluis/sluis/value/Order" "id" "Ljava/lang/String;" (.ref x0)) (FA_item : Fld Z h0 a "com/example/sluis/sluis/value/Order" "item" "Ljava/lang/String;" (.ref x1)) (FA_buyer : Fld Z h0 a "com/example/sluis/sluis/value/Order" "buyer" "Ljava/lang/String;" (.ref x2)) (FB_id : Fld Z h0 b "com/example/sluis/sluis/value/Order" "id" "Ljava/lang/String;" (.ref y0)) (FB_item : Fld Z h0 b "com/example/sluis/sluis/value/Order" "item" "Ljava/lang/String;" (.ref y1)) (FB_buyer : Fld Z h0 b "com/example/sluis/sluis/value/Order" "buyer" "Ljava/lang/String;" (.ref y2)) (E_x0 : Exa Z h0 x0 "java/lang/String") (C_x0 : Fld Z h0 x0 "java/lang/String" "coder" "B" (.int 0)) (V_x0 : Fld Z h0 x0 "java/lang/String" "value" "[B" (.ref tx0)) (K_x0 : Arv Z h0 tx0 kx0 .byte (1 : Int32) ((([c_x0] : List Int32).map (fun c => c.toInt8.toInt32)).map Value.int) (.int 0)) (b_x0 : own_b c_x0) (E_x1 : Exa Z h0 x1 "java/lang/String") (C_x1 : Fld Z h0 x1 "java/lang/String" "coder" "B" (.int 0)) (V_x1 : Fld Z h0 x1 "java/lang/String" "value" "[B" (.ref tx1)) (K_x1 : Arv Z h0 tx1 kx1 .byte (1 : Int32) ((([c_x1] : List Int32).map (fun c => c.toInt8.toInt32)).map Value.int) (.int 0)) (b_x1 : own_b c_x1) (E_x2 : Exa Z h0 x2 "java/lang/String") (C_x2 : Fld Z h0 x2 "java/lang/String" "coder" "B" (.int 0)) (V_x2 : Fld Z h0 x2 "java/lang/String" "value" "[B" (.ref tx2)) (K_x2 : Arv Z h0 tx2 kx2 .byte (1 : Int32) ((([c_x2] : List Int32).map (fun c => c.toInt8.toInt32)).map Value.int) (.int 0)) (b_x2 : own_b c_x2) (E_y0 : Exa Z h0 y0 "java/lang/String") (C_y0 : Fld Z h0 y0 "java/lang/String" "coder" "B" (.int 0)) (V_y0 : Fld Z h0 y0 "java/lang/String" "value" "[B" (.ref ty0)) (K_y0 : Arv Z h0 ty0 ky0 .byte (1 : Int32) ((([c_y0] : List Int32).map (fun c => c.toInt8.toInt32)).map Value.int) (.int 0)) (b_y0 : own_b c_y0) (E_y1 : Exa Z h0 y1 "java/lang/String") (C_y1 : Fld Z h0 y1 "java/lang/String" "coder" "B" (.int 0)) (V_y1 : Fld Z h0 y1 "java/lang/String" "value" "[B" (.ref ty1)) (K_y1 : Arv Z h0 ty1 ky1 .byte (1 : Int32) ((([c_y1] : List Int32).map (fun c => c.toInt8.toInt32)).map Value.int) (.int 0)) (b_y1 : own_b c_y1) (E_y2 : Exa Z h0 y2 "java/lang/String") (C_y2 : Fld Z h0 y2 "java/lang/String" "coder" "B" (.int 0)) (V_y2 : Fld Z h0 y2 "java/lang/String" "value" "[B" (.ref ty2)) (K_y2 : Arv Z h0 ty2 ky2 .byte (1 : Int32) ((([c_y2] : List Int32).map (fun c => c.toInt8.toInt32)).map Value.int) (.int 0)) (b_y2 : own_b c_y2) (O2 : Sta Z Z.heap "java/lang/String" "COMPACT_STRINGS" "Z" (.int zc)) (P5 : ¬ (zc = (0 : Int32))) (X00 : Old Z n0 h0) :
    MetFree l (⟨"com/example/sluis/sluis/value/Order", "equals", "(Ljava/lang/Object;)Z"⟩ : MethodName) (head1 (Jvm.Cond.code (⟨"com/example/sluis/sluis/value/Order", "equals", "(Ljava/lang/Object;)Z"⟩ : MethodName) prog_7_method_5_code 3 (some .boolean) :: ws) ({ frames := 2, cells := 0, slots := 0, locals := 28 } : Room)) (fun a_ U => a_ = #[(.ref a), (.ref b)] ∧ Z.Warmed39 U.vm ∧ U.heap = h0) (fun _ _ _ _ _ => True) (fun _ U o U' => ∃ v L, o = .returned v ∧ Qeq (c_x0 = c_y0 ∧ c_x1 = c_y1 ∧ c_x2 = c_y2) h0 v U'.heap L ∧ FrameEnd U o U' L ({ frames := 2, cells := 0, slots := 0, locals := 28 } : Room).cells ({ frames := 2, cells := 0, slots := 0, locals := 28 } : Room).slots) := by
  refine MetFree.of_bodySF (plainFor_of_name pn_3) hisR ?_
  intro p e s m args below meth c s₁ Bd hml0 hP hK
  obtain ⟨rfl, hZ, hh⟩ := hP
  have hx := Bd.exec
  have hby := Bd.bytes
  have hrt := Bd.returns
  have hlk : meth.locks = false := Bd.notSynchronized
  have hml : c.maxLocals = 3 := hml0
  have hown : s.vm.findClass "com/example/sluis/sluis/value/Order" = some m.cls := findClass_of_methodNamed Bd.named
  have hnm := (name_of_methodNamed Bd.named Bd.method).1
  have X0 : Stand p l e ({ frames := 2, cells := 0, slots := 0, locals := 28 } : Room) s m #[(.ref a), (.ref b)] below meth c s₁ [] 0 0 := Stand.of_body Bd
  have e0 : s₁.heap = h0 := by rw [← hh, Bd.state]; rfl
  have N0 := Fr.nil n0
  show own_G p.tables e below (fun o t => ∃ v L, o = .returned v ∧ Qeq (c_x0 = c_y0 ∧ c_x1 = c_y1 ∧ c_x2 = c_y2) h0 v t.heap L ∧ FrameEnd s o t L ({ frames := 2, cells := 0, slots := 0, locals := 28 } : Room).cells ({ frames := 2, cells := 0, slots := 0, locals := 28 } : Room).slots) (s₁.setTop (entryFrame m #[(.ref a), (.ref b)] 3))
  refine own_G.cast (show entryFrame m #[(.ref a), (.ref b)] 3 = mkF m 0 #[.val (.ref a), .val (.ref b), .unset] [] from by first | (simp [entryFrame, mkF, argsToLocals, Value.category]; done) | rfl) ?_
  have heq : ∀ d ∈ StrChars.Road.wordsEq, d.before a0 Z = true := fun d hd => hw d ((by decide +kernel : ∀ d ∈ StrChars.Road.wordsEq, d ∈ tables_1) d hd)
  have hcd_x0 := StrChars.Road.codOf (cs := ([c_x0] : List Int32)) (n := 1) rfl (fun c hc => (own_all1 b_x0 c hc).2)
  have hbd_x0 := own_up _ (own_all1 b_x0)
  have hcd_x1 := StrChars.Road.codOf (cs := ([c_x1] : List Int32)) (n := 1) rfl (fun c hc => (own_all1 b_x1 c hc).2)
  have hbd_x1 := own_up _ (own_all1 b_x1)
  have hcd_x2 := StrChars.Road.codOf (cs := ([c_x2] : List Int32)) (n := 1) rfl (fun c hc => (own_all1 b_x2 c hc).2)
  have hbd_x2 := own_up _ (own_all1 b_x2)
  have hcd_y0 := StrChars.Road.codOf (cs := ([c_y0] : List Int32)) (n := 1) rfl (fun c hc => (own_all1 b_y0 c hc).2)
  have hbd_y0 := own_up _ (own_all1 b_y0)
  have hcd_y1 := StrChars.Road.codOf (cs := ([c_y1] : List Int32)) (n := 1) rfl (fun c hc => (own_all1 b_y1 c hc).2)
  have hbd_y1 := own_up _ (own_all1 b_y1)
  have hcd_y2 := StrChars.Road.codOf (cs := ([c_y2] : List Int32)) (n := 1) rfl (fun c hc => (own_all1 b_y2 c hc).2)
  have hbd_y2 := own_up _ (own_all1 b_y2)
  refine own_G.go (fun t_ k_ => XS.aloadN X0.here hx rfl (hb hby d_rm_eqO_0) rfl rfl k_) ?_
  show own_G _ _ _ _ (s₁.setTop (mkF m 1 #[.val (.ref a), .val (.ref b), .unset] [(.ref b)]))
  obtain ⟨T_1, X_1, e_1, st_1⟩ := instY X0 hx hZ hown (own_w hw 62 rfl) e0 (Ins.self EB) (g := (mkF m 1 #[.val (.ref a), .val (.ref b), .unset] [(.ref b)])) rfl rfl (hb hby d_rm_eqO_1)
  refine own_G.go st_1 ?_
  show own_G _ _ _ _ (T_1.setTop (mkF m 4 #[.val (.ref a), .val (.ref b), .unset] [(.int (1 : Int32))]))
  refine own_G.go (fun t_ k_ => XS.ifYes X_1.here hx rfl (pc0 := 4) (pc' := 9) rfl (hb hby d_rm_eqO_4) rfl ((if0 _ _).trans (feq (by decide : ¬ ((1 : Int32) = (0 : Int32)))).2) (by decide) (by decide) k_) ?_
  show own_G _ _ _ _ (T_1.setTop (mkF m 9 #[.val (.ref a), .val (.ref b), .unset] []))
  refine own_G.go (fun t_ k_ => XS.aloadN X_1.here hx rfl (hb hby d_rm_eqO_9) rfl rfl k_) ?_
  show own_G _ _ _ _ (T_1.setTop (mkF m 10 #[.val (.ref a), .val (.ref b), .unset] [(.ref b)]))
  obtain ⟨T_2, X_2, e_2, st_2⟩ := castY X_1 hx hZ hown (own_w hw 62 rfl) e_1 (Ins.self EB) (g := (mkF m 10 #[.val (.ref a), .val (.ref b), .unset] [(.ref b)])) rfl rfl (hb hby d_rm_eqO_10)
  refine own_G.go st_2 ?_
  show own_G _ _ _ _ (T_2.setTop (mkF m 13 #[.val (.ref a), .val (.ref b), .unset] [(.ref b)]))
  refine own_G.go (fun t_ k_ => XS.astoreN X_2.here hx rfl (hb hby d_rm_eqO_13) rfl rfl (l' := #[.val (.ref a), .val (.ref b), .val (.ref b)]) rfl k_) ?_
  show own_G _ _ _ _ (T_2.setTop (mkF m 14 #[.val (.ref a), .val (.ref b), .val (.ref b)] []))
  refine own_G.go (fun t_ k_ => XS.aloadN X_2.here hx rfl (hb hby d_rm_eqO_14) rfl rfl k_) ?_
  show own_G _ _ _ _ (T_2.setTop (mkF m 15 #[.val (.ref a), .val (.ref b), .val (.ref b)] [(.ref a)]))
  obtain ⟨T_3, X_3, e_3, st_3⟩ := getF X_2 hx hZ hown (host := "") (Or.inl (own_w hw 49 rfl)) Via.refl e_2 FA_id (g := (mkF m 15 #[.val (.ref a), .val (.ref b), .val (.ref b)] [(.ref a)])) rfl rfl (hb hby d_rm_eqO_15)
  refine own_G.go st_3 ?_
  show own_G _ _ _ _ (T_3.setTop (mkF m 18 #[.val (.ref a), .val (.ref b), .val (.ref b)] [(.ref x0)]))
  refine own_G.go (fun t_ k_ => XS.aloadN X_3.here hx rfl (hb hby d_rm_eqO_18) rfl rfl k_) ?_
  show own_G _ _ _ _ (T_3.setTop (mkF m 19 #[.val (.ref a), .val (.ref b), .val (.ref b)] [(.ref b), (.ref x0)]))
  obtain ⟨T_4, X_4, e_4, st_4⟩ := getF X_3 hx hZ hown (host := "") (Or.inl (own_w hw 49 rfl)) Via.refl e_3 FB_id (g := (mkF m 19 #[.val (.ref a), .val (.ref b), .val (.ref b)] [(.ref b), (.ref x0)])) rfl rfl (hb hby d_rm_eqO_19)
  refine own_G.go st_4 ?_
  show own_G _ _ _ _ (T_4.setTop (mkF m 22 #[.val (.ref a), .val (.ref b), .val (.ref b)] [(.ref y0), (.ref x0)]))
  obtain ⟨cq_5, kq_5, q_5a, q_5b, q_5c⟩ := isOf hZ e_4 E_x0
  obtain ⟨_, T_5, L_5, Q_5, X_5, st_5⟩ := own_callV X_4 hx (z := (⟨"java/lang/String", "equals", "(Ljava/lang/Object;)Z"⟩ : MethodName)) hown (mvT hZ (own_w hw 64 rfl)) (mvT hZ (own_w hw 65 rfl)) (notFace_of_selects (args := #[]) (mvT hZ (own_w hw 67 rfl))) (mvT hZ (own_w hw 67 rfl)) (mvT hZ (own_w hw 66 rfl)) (by decide) (Q := (fun v h' L => ((v = some (.int 1) ∧ ([c_x0] : List Int32) = [c_y0]) ∨ (v = some (.int 0) ∧ ¬ ([c_x0] : List Int32) = [c_y0])) ∧ L = [] ∧ h' = h0)) (StrChars.Road.eqW (W := 0) hZ heq (kI := 4) (own_w hw 5 rfl) E_x0 V_x0 C_x0 K_x0 hcd_x0 hbd_x0 (Nat.le_of_ble_eq_true rfl) E_y0 V_y0 C_y0 K_y0 hcd_y0 hbd_y0 (Nat.le_of_ble_eq_true rfl) (O2.ext X00.2) P5 (by decide) (by decide)) q_5a q_5c (g := (mkF m 22 #[.val (.ref a), .val (.ref b), .val (.ref b)] [(.ref y0), (.ref x0)])) rfl (by rw [hml]; rfl) (argsL := [(.ref y0)]) (rest := []) (lenOf pd_3 rfl) rfl (by show 2 * 0 + _ ≤ _; exact Nat.le_of_eq rfl) (hb hby d_rm_eqO_22) e_4 rfl (by decide) (by decide)
  obtain ⟨hc_5, rfl, eh_5⟩ := Q_5
  refine own_G.via st_5 ?_
  have N_5 := Fr.app N0 (Fr.nil n0)
  rcases hc_5 with ⟨rfl, hq0⟩ | ⟨rfl, hq0⟩
  · show own_G _ _ _ _ (T_5.setTop (mkF m 25 #[.val (.ref a), .val (.ref b), .val (.ref b)] [(.int (1 : Int32))]))
    refine own_G.go (fun t_ k_ => XS.ifNo X_5.here hx rfl (hb hby d_rm_eqO_25) rfl ((if0 _ _).trans (feq (by decide : ¬ ((1 : Int32) = (0 : Int32)))).1) k_) ?_
    show own_G _ _ _ _ (T_5.setTop (mkF m 28 #[.val (.ref a), .val (.ref b), .val (.ref b)] []))
    refine own_G.go (fun t_ k_ => XS.aloadN X_5.here hx rfl (hb hby d_rm_eqO_28) rfl rfl k_) ?_
    show own_G _ _ _ _ (T_5.setTop (mkF m 29 #[.val (.ref a), .val (.ref b), .val (.ref b)] [(.ref a)]))
    obtain ⟨T_6, X_6, e_6, st_6⟩ := getF X_5 hx hZ hown (host := "") (Or.inl (own_w hw 52 rfl)) Via.refl eh_5 FA_item (g := (mkF m 29 #[.val (.ref a), .val (.ref b), .val (.ref b)] [(.ref a)])) rfl rfl (hb hby d_rm_eqO_29)
    refine own_G.go st_6 ?_
    show own_G _ _ _ _ (T_6.setTop (mkF m 32 #[.val (.ref a), .val (.ref b), .val (.ref b)] [(.ref x1)]))
    refine own_G.go (fun t_ k_ => XS.aloadN X_6.here hx rfl (hb hby d_rm_eqO_32) rfl rfl k_) ?_
    show own_G _ _ _ _ (T_6.setTop (mkF m 33 #[.val (.ref a), .val (.ref b), .val (.ref b)] [(.ref b), (.ref x1)]))
    obtain ⟨T_7, X_7, e_7, st_7⟩ := getF X_6 hx hZ hown (host := "") (Or.inl (own_w hw 52 rfl)) Via.refl e_6 FB_item (g := (mkF m 33 #[.val (.ref a), .val (.ref b), .val (.ref b)] [(.ref b), (.ref x1)])) rfl rfl (hb hby d_rm_eqO_33)
    refine own_G.go st_7 ?_
    show own_G _ _ _ _ (T_7.setTop (mkF m 36 #[.val (.ref a), .val (.ref b), .val (.ref b)] [(.ref y1), (.ref x1)]))
    obtain ⟨cq_8, kq_8, q_8a, q_8b, q_8c⟩ := isOf hZ e_7 E_x1
    obtain ⟨_, T_8, L_8, Q_8, X_8, st_8⟩ := own_callV X_7 hx (z := (⟨"java/lang/String", "equals", "(Ljava/lang/Object;)Z"⟩ : MethodName)) hown (mvT hZ (own_w hw 64 rfl)) (mvT hZ (own_w hw 65 rfl)) (notFace_of_selects (args := #[]) (mvT hZ (own_w hw 67 rfl))) (mvT hZ (own_w hw 67 rfl)) (mvT hZ (own_w hw 66 rfl)) (by decide) (Q := (fun v h' L => ((v = some (.int 1) ∧ ([c_x1] : List Int32) = [c_y1]) ∨ (v = some (.int 0) ∧ ¬ ([c_x1] : List Int32) = [c_y1])) ∧ L = [] ∧ h' = h0)) (StrChars.Road.eqW (W := 0) hZ heq (kI := 4) (own_w hw 5 rfl) E_x1 V_x1 C_x1 K_x1 hcd_x1 hbd_x1 (Nat.le_of_ble_eq_true rfl) E_y1 V_y1 C_y1 K_y1 hcd_y1 hbd_y1 (Nat.le_of_ble_eq_true rfl) (O2.ext X00.2) P5 (by decide) (by decide)) q_8a q_8c (g := (mkF m 36 #[.val (.ref a), .val (.ref b), .val (.ref b)] [(.ref y1), (.ref x1)])) rfl (by rw [hml]; rfl) (argsL := [(.ref y1)]) (rest := []) (lenOf pd_3 rfl) rfl (by show 2 * 0 + _ ≤ _; exact Nat.le_of_eq rfl) (hb hby d_rm_eqO_36) e_7 rfl (by decide) (by decide)
    obtain ⟨hc_8, rfl, eh_8⟩ := Q_8
    refine own_G.via st_8 ?_
    have N_8 := Fr.app N_5 (Fr.nil n0)
    rcases hc_8 with ⟨rfl, hq1⟩ | ⟨rfl, hq1⟩
    · show own_G _ _ _ _ (T_8.setTop (mkF m 39 #[.val (.ref a), .val (.ref b), .val (.ref b)] [(.int (1 : Int32))]))
      refine own_G.go (fun t_ k_ => XS.ifNo X_8.here hx rfl (hb hby d_rm_eqO_39) rfl ((if0 _ _).trans (feq (by decide : ¬ ((1 : Int32) = (0 : Int32)))).1) k_) ?_
      show own_G _ _ _ _ (T_8.setTop (mkF m 42 #[.val (.ref a), .val (.ref b), .val (.ref b)] []))
      refine own_G.go (fun t_ k_ => XS.aloadN X_8.here hx rfl (hb hby d_rm_eqO_42) rfl rfl k_) ?_
      show own_G _ _ _ _ (T_8.setTop (mkF m 43 #[.val (.ref a), .val (.ref b), .val (.ref b)] [(.ref a)]))
      obtain ⟨T_9, X_9, e_9, st_9⟩ := getF X_8 hx hZ hown (host := "") (Or.inl (own_w hw 55 rfl)) Via.refl eh_8 FA_buyer (g := (mkF m 43 #[.val (.ref a), .val (.ref b), .val (.ref b)] [(.ref a)])) rfl rfl (hb hby d_rm_eqO_43)
      refine own_G.go st_9 ?_
      show own_G _ _ _ _ (T_9.setTop (mkF m 46 #[.val (.ref a), .val (.ref b), .val (.ref b)] [(.ref x2)]))
      refine own_G.go (fun t_ k_ => XS.aloadN X_9.here hx rfl (hb hby d_rm_eqO_46) rfl rfl k_) ?_
      show own_G _ _ _ _ (T_9.setTop (mkF m 47 #[.val (.ref a), .val (.ref b), .val (.ref b)] [(.ref b), (.ref x2)]))
      obtain ⟨T_10, X_10, e_10, st_10⟩ := getF X_9 hx hZ hown (host := "") (Or.inl (own_w hw 55 rfl)) Via.refl e_9 FB_buyer (g := (mkF m 47 #[.val (.ref a), .val (.ref b), .val (.ref b)] [(.ref b), (.ref x2)])) rfl rfl (hb hby d_rm_eqO_47)
      refine own_G.go st_10 ?_
      show own_G _ _ _ _ (T_10.setTop (mkF m 50 #[.val (.ref a), .val (.ref b), .val (.ref b)] [(.ref y2), (.ref x2)]))
      obtain ⟨cq_11, kq_11, q_11a, q_11b, q_11c⟩ := isOf hZ e_10 E_x2
      obtain ⟨_, T_11, L_11, Q_11, X_11, st_11⟩ := own_callV X_10 hx (z := (⟨"java/lang/String", "equals", "(Ljava/lang/Object;)Z"⟩ : MethodName)) hown (mvT hZ (own_w hw 64 rfl)) (mvT hZ (own_w hw 65 rfl)) (notFace_of_selects (args := #[]) (mvT hZ (own_w hw 67 rfl))) (mvT hZ (own_w hw 67 rfl)) (mvT hZ (own_w hw 66 rfl)) (by decide) (Q := (fun v h' L => ((v = some (.int 1) ∧ ([c_x2] : List Int32) = [c_y2]) ∨ (v = some (.int 0) ∧ ¬ ([c_x2] : List Int32) = [c_y2])) ∧ L = [] ∧ h' = h0)) (StrChars.Road.eqW (W := 0) hZ heq (kI := 4) (own_w hw 5 rfl) E_x2 V_x2 C_x2 K_x2 hcd_x2 hbd_x2 (Nat.le_of_ble_eq_true rfl) E_y2 V_y2 C_y2 K_y2 hcd_y2 hbd_y2 (Nat.le_of_ble_eq_true rfl) (O2.ext X00.2) P5 (by decide) (by decide)) q_11a q_11c (g := (mkF m 50 #[.val (.ref a), .val (.ref b), .val (.ref b)] [(.ref y2), (.ref x2)])) rfl (by rw [hml]; rfl) (argsL := [(.ref y2)]) (rest := []) (lenOf pd_3 rfl) rfl (by show 2 * 0 + _ ≤ _; exact Nat.le_of_eq rfl) (hb hby d_rm_eqO_50) e_10 rfl (by decide) (by decide)
      obtain ⟨hc_11, rfl, eh_11⟩ := Q_11
      refine own_G.via st_11 ?_
      have N_11 := Fr.app N_8 (Fr.nil n0)
      rcases hc_11 with ⟨rfl, hq2⟩ | ⟨rfl, hq2⟩
      · show own_G _ _ _ _ (T_11.setTop (mkF m 53 #[.val (.ref a), .val (.ref b), .val (.ref b)] [(.int (1 : Int32))]))
        refine own_G.go (fun t_ k_ => XS.ifNo X_11.here hx rfl (hb hby d_rm_eqO_53) rfl ((if0 _ _).trans (feq (by decide : ¬ ((1 : Int32) = (0 : Int32)))).1) k_) ?_
        show own_G _ _ _ _ (T_11.setTop (mkF m 56 #[.val (.ref a), .val (.ref b), .val (.ref b)] []))
        refine own_G.go (fun t_ k_ => XS.iconst X_11.here hx rfl (hb hby d_rm_eqO_56) k_) ?_
        show own_G _ _ _ _ (T_11.setTop (mkF m 57 #[.val (.ref a), .val (.ref b), .val (.ref b)] [(.int (1 : Int32))]))
        refine own_G.go (fun t_ k_ => XS.goto X_11.here hx rfl (pc0 := 57) (pc' := 61) rfl (hb hby d_rm_eqO_57) (by decide) (by decide) k_) ?_
        show own_G _ _ _ _ (T_11.setTop (mkF m 61 #[.val (.ref a), .val (.ref b), .val (.ref b)] [(.int (1 : Int32))]))
        exact own_G.end_ X_11 hlk (v := (some (.int (1 : Int32)))) (fun h => by rw [hrt] at h; cases h) (fun fs hr => retN X_11 hx (z := (1 : Int32)) (t := .boolean) hrt (by simp) (hb hby d_rm_eqO_61) hr) eh_11 ⟨⟨1, rfl, Or.inl ⟨rfl, own_q1 hq0, own_q1 hq1, own_q1 hq2⟩⟩, rfl, rfl⟩ (by decide) (by decide)
      · show own_G _ _ _ _ (T_11.setTop (mkF m 53 #[.val (.ref a), .val (.ref b), .val (.ref b)] [(.int (0 : Int32))]))
        refine own_G.go (fun t_ k_ => XS.ifYes X_11.here hx rfl (pc0 := 53) (pc' := 60) rfl (hb hby d_rm_eqO_53) rfl ((if0 _ _).trans (teq (by decide : (0 : Int32) = (0 : Int32))).1) (by decide) (by decide) k_) ?_
        show own_G _ _ _ _ (T_11.setTop (mkF m 60 #[.val (.ref a), .val (.ref b), .val (.ref b)] []))
        refine own_G.go (fun t_ k_ => XS.iconst X_11.here hx rfl (hb hby d_rm_eqO_60) k_) ?_
        show own_G _ _ _ _ (T_11.setTop (mkF m 61 #[.val (.ref a), .val (.ref b), .val (.ref b)] [(.int (0 : Int32))]))
        exact own_G.end_ X_11 hlk (v := (some (.int (0 : Int32)))) (fun h => by rw [hrt] at h; cases h) (fun fs hr => retN X_11 hx (z := (0 : Int32)) (t := .boolean) hrt (by simp) (hb hby d_rm_eqO_61) hr) eh_11 ⟨⟨0, rfl, Or.inr ⟨rfl, fun q => hq2 (own_q2 q.2.2)⟩⟩, rfl, rfl⟩ (by decide) (by decide)
    · show own_G _ _ _ _ (T_8.setTop (mkF m 39 #[.val (.ref a), .val (.ref b), .val (.ref b)] [(.int (0 : Int32))]))
      refine own_G.go (fun t_ k_ => XS.ifYes X_8.here hx rfl (pc0 := 39) (pc' := 60) rfl (hb hby d_rm_eqO_39) rfl ((if0 _ _).trans (teq (by decide : (0 : Int32) = (0 : Int32))).1) (by decide) (by decide) k_) ?_
      show own_G _ _ _ _ (T_8.setTop (mkF m 60 #[.val (.ref a), .val (.ref b), .val (.ref b)] []))
      refine own_G.go (fun t_ k_ => XS.iconst X_8.here hx rfl (hb hby d_rm_eqO_60) k_) ?_
      show own_G _ _ _ _ (T_8.setTop (mkF m 61 #[.val (.ref a), .val (.ref b), .val (.ref b)] [(.int (0 : Int32))]))
      exact own_G.end_ X_8 hlk (v := (some (.int (0 : Int32)))) (fun h => by rw [hrt] at h; cases h) (fun fs hr => retN X_8 hx (z := (0 : Int32)) (t := .boolean) hrt (by simp) (hb hby d_rm_eqO_61) hr) eh_8 ⟨⟨0, rfl, Or.inr ⟨rfl, fun q => hq1 (own_q2 q.2.1)⟩⟩, rfl, rfl⟩ (by decide) (by decide)
  · show own_G _ _ _ _ (T_5.setTop (mkF m 25 #[.val (.ref a), .val (.ref b), .val (.ref b)] [(.int (0 : Int32))]))
    refine own_G.go (fun t_ k_ => XS.ifYes X_5.here hx rfl (pc0 := 25) (pc' := 60) rfl (hb hby d_rm_eqO_25) rfl ((if0 _ _).trans (teq (by decide : (0 : Int32) = (0 : Int32))).1) (by decide) (by decide) k_) ?_
    show own_G _ _ _ _ (T_5.setTop (mkF m 60 #[.val (.ref a), .val (.ref b), .val (.ref b)] []))
    refine own_G.go (fun t_ k_ => XS.iconst X_5.here hx rfl (hb hby d_rm_eqO_60) k_) ?_
    show own_G _ _ _ _ (T_5.setTop (mkF m 61 #[.val (.ref a), .val (.ref b), .val (.ref b)] [(.int (0 : Int32))]))
    exact own_G.end_ X_5 hlk (v := (some (.int (0 : Int32)))) (fun h => by rw [hrt] at h; cases h) (fun fs hr => retN X_5 hx (z := (0 : Int32)) (t := .boolean) hrt (by simp) (hb hby d_rm_eqO_61) hr) eh_5 ⟨⟨0, rfl, Or.inr ⟨rfl, fun q => hq0 (own_q2 q.1)⟩⟩, rfl, rfl⟩ (by decide) (by decide)
theorem d_rm_eqN_0 : decode prog_7_method_5_code 0 = .ok (.aload_n 1, 1) := by decide +kernel
theorem d_rm_eqN_1 : decode prog_7_method_5_code 1 = .ok (.instanceof 18, 3) := by decide +kernel
theorem d_rm_eqN_4 : decode prog_7_method_5_code 4 = .ok (.ifCond .ne 5, 3) := by decide +kernel
theorem d_rm_eqN_7 : decode prog_7_method_5_code 7 = .ok (.iconst 0, 1) := by decide +kernel
theorem d_rm_eqN_8 : decode prog_7_method_5_code 8 = .ok (.ireturn, 1) := by decide +kernel
set_option maxRecDepth 65536 in
set_option maxHeartbeats 40000000 in
theorem rm_eqN (l : Launch) (Z : State) (a0 : Array Value) (hw : ∀ d ∈ tables_1, d.before a0 Z = true) (ws : List Jvm.Cond) (a : Addr) (h0 : Heap) (n0 : Nat) (Z0 : n0 ≤ h0.size)  :
    MetFree l (⟨"com/example/sluis/sluis/value/Order", "equals", "(Ljava/lang/Object;)Z"⟩ : MethodName) (head1 (Jvm.Cond.code (⟨"com/example/sluis/sluis/value/Order", "equals", "(Ljava/lang/Object;)Z"⟩ : MethodName) prog_7_method_5_code 3 (some .boolean) :: ws) ({ frames := 0, cells := 0, slots := 0, locals := 0 } : Room)) (fun a_ U => a_ = #[(.ref a), .null] ∧ Z.Warmed39 U.vm ∧ U.heap = h0) (fun _ _ _ _ _ => True) (fun _ U o U' => ∃ v L, o = .returned v ∧ Qeq False h0 v U'.heap L ∧ FrameEnd U o U' L ({ frames := 0, cells := 0, slots := 0, locals := 0 } : Room).cells ({ frames := 0, cells := 0, slots := 0, locals := 0 } : Room).slots) := by
  refine MetFree.of_bodySF (plainFor_of_name pn_3) hisR ?_
  intro p e s m args below meth c s₁ Bd hml0 hP hK
  obtain ⟨rfl, hZ, hh⟩ := hP
  have hx := Bd.exec
  have hby := Bd.bytes
  have hrt := Bd.returns
  have hlk : meth.locks = false := Bd.notSynchronized
  have hml : c.maxLocals = 3 := hml0
  have hown : s.vm.findClass "com/example/sluis/sluis/value/Order" = some m.cls := findClass_of_methodNamed Bd.named
  have hnm := (name_of_methodNamed Bd.named Bd.method).1
  have X0 : Stand p l e ({ frames := 0, cells := 0, slots := 0, locals := 0 } : Room) s m #[(.ref a), .null] below meth c s₁ [] 0 0 := Stand.of_body Bd
  have e0 : s₁.heap = h0 := by rw [← hh, Bd.state]; rfl
  have N0 := Fr.nil n0
  show own_G p.tables e below (fun o t => ∃ v L, o = .returned v ∧ Qeq False h0 v t.heap L ∧ FrameEnd s o t L ({ frames := 0, cells := 0, slots := 0, locals := 0 } : Room).cells ({ frames := 0, cells := 0, slots := 0, locals := 0 } : Room).slots) (s₁.setTop (entryFrame m #[(.ref a), .null] 3))
  refine own_G.cast (show entryFrame m #[(.ref a), .null] 3 = mkF m 0 #[.val (.ref a), .val .null, .unset] [] from by first | (simp [entryFrame, mkF, argsToLocals, Value.category]; done) | rfl) ?_
  refine own_G.go (fun t_ k_ => XS.aloadN X0.here hx rfl (hb hby d_rm_eqN_0) rfl rfl k_) ?_
  show own_G _ _ _ _ (s₁.setTop (mkF m 1 #[.val (.ref a), .val .null, .unset] [.null]))
  refine own_G.go (X0.instanceofNull hx (g := (mkF m 1 #[.val (.ref a), .val .null, .unset] [.null])) rfl rfl (hb hby d_rm_eqN_1)) ?_
  show own_G _ _ _ _ (s₁.setTop (mkF m 4 #[.val (.ref a), .val .null, .unset] [(.int (0 : Int32))]))
  refine own_G.go (fun t_ k_ => XS.ifNo X0.here hx rfl (hb hby d_rm_eqN_4) rfl ((if0 _ _).trans (teq (by decide : (0 : Int32) = (0 : Int32))).2) k_) ?_
  show own_G _ _ _ _ (s₁.setTop (mkF m 7 #[.val (.ref a), .val .null, .unset] []))
  refine own_G.go (fun t_ k_ => XS.iconst X0.here hx rfl (hb hby d_rm_eqN_7) k_) ?_
  show own_G _ _ _ _ (s₁.setTop (mkF m 8 #[.val (.ref a), .val .null, .unset] [(.int (0 : Int32))]))
  exact own_G.end_ X0 hlk (v := (some (.int (0 : Int32)))) (fun h => by rw [hrt] at h; cases h) (fun fs hr => retN X0 hx (z := (0 : Int32)) (t := .boolean) hrt (by simp) (hb hby d_rm_eqN_8) hr) e0 ⟨⟨0, rfl, Or.inr ⟨rfl, id⟩⟩, rfl, rfl⟩ (by decide) (by decide)
theorem d_rm_eqS_0 : decode prog_7_method_5_code 0 = .ok (.aload_n 1, 1) := by decide +kernel
theorem d_rm_eqS_1 : decode prog_7_method_5_code 1 = .ok (.instanceof 18, 3) := by decide +kernel
theorem d_rm_eqS_4 : decode prog_7_method_5_code 4 = .ok (.ifCond .ne 5, 3) := by decide +kernel
theorem d_rm_eqS_7 : decode prog_7_method_5_code 7 = .ok (.iconst 0, 1) := by decide +kernel
theorem d_rm_eqS_8 : decode prog_7_method_5_code 8 = .ok (.ireturn, 1) := by decide +kernel
set_option maxRecDepth 65536 in
set_option maxHeartbeats 40000000 in
theorem rm_eqS (l : Launch) (Z : State) (a0 : Array Value) (hw : ∀ d ∈ tables_1, d.before a0 Z = true) (ws : List Jvm.Cond) (a b : Addr) (h0 : Heap) (n0 : Nat) (Z0 : n0 ≤ h0.size) (EB : Exa Z h0 b "java/lang/String") :
    MetFree l (⟨"com/example/sluis/sluis/value/Order", "equals", "(Ljava/lang/Object;)Z"⟩ : MethodName) (head1 (Jvm.Cond.code (⟨"com/example/sluis/sluis/value/Order", "equals", "(Ljava/lang/Object;)Z"⟩ : MethodName) prog_7_method_5_code 3 (some .boolean) :: ws) ({ frames := 0, cells := 0, slots := 0, locals := 0 } : Room)) (fun a_ U => a_ = #[(.ref a), (.ref b)] ∧ Z.Warmed39 U.vm ∧ U.heap = h0) (fun _ _ _ _ _ => True) (fun _ U o U' => ∃ v L, o = .returned v ∧ Qeq False h0 v U'.heap L ∧ FrameEnd U o U' L ({ frames := 0, cells := 0, slots := 0, locals := 0 } : Room).cells ({ frames := 0, cells := 0, slots := 0, locals := 0 } : Room).slots) := by
  refine MetFree.of_bodySF (plainFor_of_name pn_3) hisR ?_
  intro p e s m args below meth c s₁ Bd hml0 hP hK
  obtain ⟨rfl, hZ, hh⟩ := hP
  have hx := Bd.exec
  have hby := Bd.bytes
  have hrt := Bd.returns
  have hlk : meth.locks = false := Bd.notSynchronized
  have hml : c.maxLocals = 3 := hml0
  have hown : s.vm.findClass "com/example/sluis/sluis/value/Order" = some m.cls := findClass_of_methodNamed Bd.named
  have hnm := (name_of_methodNamed Bd.named Bd.method).1
  have X0 : Stand p l e ({ frames := 0, cells := 0, slots := 0, locals := 0 } : Room) s m #[(.ref a), (.ref b)] below meth c s₁ [] 0 0 := Stand.of_body Bd
  have e0 : s₁.heap = h0 := by rw [← hh, Bd.state]; rfl
  have N0 := Fr.nil n0
  show own_G p.tables e below (fun o t => ∃ v L, o = .returned v ∧ Qeq False h0 v t.heap L ∧ FrameEnd s o t L ({ frames := 0, cells := 0, slots := 0, locals := 0 } : Room).cells ({ frames := 0, cells := 0, slots := 0, locals := 0 } : Room).slots) (s₁.setTop (entryFrame m #[(.ref a), (.ref b)] 3))
  refine own_G.cast (show entryFrame m #[(.ref a), (.ref b)] 3 = mkF m 0 #[.val (.ref a), .val (.ref b), .unset] [] from by first | (simp [entryFrame, mkF, argsToLocals, Value.category]; done) | rfl) ?_
  refine own_G.go (fun t_ k_ => XS.aloadN X0.here hx rfl (hb hby d_rm_eqS_0) rfl rfl k_) ?_
  show own_G _ _ _ _ (s₁.setTop (mkF m 1 #[.val (.ref a), .val (.ref b), .unset] [(.ref b)]))
  obtain ⟨T_1, X_1, e_1, st_1⟩ := instNo X0 hx hZ hown (own_w hw 62 rfl) e0 EB (own_noInst (own_w hw 74 rfl) (own_w hw 75 rfl) (own_w hw 35 rfl) (by decide) (by decide)) (g := (mkF m 1 #[.val (.ref a), .val (.ref b), .unset] [(.ref b)])) rfl rfl (hb hby d_rm_eqS_1)
  refine own_G.go st_1 ?_
  show own_G _ _ _ _ (T_1.setTop (mkF m 4 #[.val (.ref a), .val (.ref b), .unset] [(.int (0 : Int32))]))
  refine own_G.go (fun t_ k_ => XS.ifNo X_1.here hx rfl (hb hby d_rm_eqS_4) rfl ((if0 _ _).trans (teq (by decide : (0 : Int32) = (0 : Int32))).2) k_) ?_
  show own_G _ _ _ _ (T_1.setTop (mkF m 7 #[.val (.ref a), .val (.ref b), .unset] []))
  refine own_G.go (fun t_ k_ => XS.iconst X_1.here hx rfl (hb hby d_rm_eqS_7) k_) ?_
  show own_G _ _ _ _ (T_1.setTop (mkF m 8 #[.val (.ref a), .val (.ref b), .unset] [(.int (0 : Int32))]))
  exact own_G.end_ X_1 hlk (v := (some (.int (0 : Int32)))) (fun h => by rw [hrt] at h; cases h) (fun fs hr => retN X_1 hx (z := (0 : Int32)) (t := .boolean) hrt (by simp) (hb hby d_rm_eqS_8) hr) e_1 ⟨⟨0, rfl, Or.inr ⟨rfl, id⟩⟩, rfl, rfl⟩ (by decide) (by decide)
def Qlaw (n0 : Nat) (v : Option Value) (h : Heap) (L : List Loc) : Prop := v = some (.int 1) ∧ Fr n0 L
theorem pd_4 : parseMethodDescriptor "(C)Ljava/lang/String;" = some ⟨[.char], some (.object "java/lang/String")⟩ := by decide +kernel
theorem pd_5 : parseMethodDescriptor "(Ljava/lang/String;Ljava/lang/String;Ljava/lang/String;)V" = some ⟨[(.object "java/lang/String"), (.object "java/lang/String"), (.object "java/lang/String")], none⟩ := by decide +kernel
set_option maxRecDepth 65536 in
set_option maxHeartbeats 40000000 in
theorem rm_law (l : Launch) (Z : State) (a0 : Array Value) (hw : ∀ d ∈ tables_1, d.before a0 Z = true) (ws : List Jvm.Cond) (p0 p1 p2 : Int32) (zc : Int32) (h0 : Heap) (n0 : Nat) (Z0 : n0 ≤ h0.size) (O2 : Sta Z Z.heap "java/lang/String" "COMPACT_STRINGS" "Z" (.int zc)) (P5 : ¬ (zc = (0 : Int32))) (X00 : Old Z n0 h0) :
    MetFree l x (head1 (Jvm.Cond.code x code maxLocals ret :: ws) room_1) (fun a_ U => a_ = #[(.int p0), (.int p1), (.int p2)] ∧ Z.Warmed39 U.vm ∧ U.heap = h0) (fun _ _ _ _ _ => True) (fun _ U o U' => ∃ v L, o = .returned v ∧ Qlaw n0 v U'.heap L ∧ ReturnedEndW U o U' L room_1.cells room_1.slots) := by
  refine MetFree.of_bodySF (plainFor_of_name pn_1) hisR ?_
  intro p e s m args below meth c s₁ Bd hml0 hP hK
  obtain ⟨rfl, hZ, hh⟩ := hP
  have hx := Bd.exec
  have hby := Bd.bytes
  have hrt := Bd.returns
  have hlk : meth.locks = false := Bd.notSynchronized
  have hml : c.maxLocals = 19 := hml0
  have hown : s.vm.findClass "com/example/sluis/sluis/value/OrderEqualsPinLaw" = some m.cls := findClass_of_methodNamed Bd.named
  have hnm := (name_of_methodNamed Bd.named Bd.method).1
  have X0 : Stand p l e room_1 (s.setVm s.vm) m #[(.int p0), (.int p1), (.int p2)] below meth c s₁ [] 0 0 := Stand.of_body Bd
  have e0 : s₁.heap = h0 := by rw [← hh, Bd.state]; rfl
  have N0 := Fr.nil n0
  have hS0 : s.Since s.vm 0 := own_since s 0
  have hstr : ∀ d ∈ Bundle.stringAtoms, d.before a0 Z = true := fun d hd => hw d ((by decide +kernel : ∀ d ∈ Bundle.stringAtoms, d ∈ tables_1) d hd)
  show own_G p.tables e below (fun o t => ∃ v L, o = .returned v ∧ Qlaw n0 v t.heap L ∧ ReturnedEndW s o t L room_1.cells room_1.slots) (s₁.setTop (entryFrame m #[(.int p0), (.int p1), (.int p2)] maxLocals))
  refine own_G.cast (show entryFrame m #[(.int p0), (.int p1), (.int p2)] maxLocals = mkF m 0 #[.val (.int p0), .val (.int p1), .val (.int p2), .unset, .unset, .unset, .unset, .unset, .unset, .unset, .unset, .unset, .unset, .unset, .unset, .unset, .unset, .unset, .unset] [] from by first | (simp [entryFrame, mkF, argsToLocals, Value.category, maxLocals]; done) | rfl) ?_
  have J134 : ∀ (u0 u1 u2 f0 f1 f2 kd y0 y1 y2 : Int32) (h_u0 : own_b u0) (h_u1 : own_b u1) (h_u2 : own_b u2) (h_y0 : own_b y0) (h_y1 : own_b y1) (h_y2 : own_b y2), own_G p.tables e below (fun o t => ∃ v L, o = .returned v ∧ Qlaw n0 v t.heap L ∧ ReturnedEndW s o t L room_1.cells room_1.slots) (s₁.setTop (mkF m 134 #[.val (.int p0), .val (.int p1), .val (.int p2), .val (.int u0), .val (.int u1), .val (.int u2), .val (.int f0), .val (.int f1), .val (.int f2), .val (.int kd), .val (.int y0), .val (.int y1), .val (.int y2), .unset, .unset, .unset, .unset, .unset, .unset] [])) := by
    intro u0 u1 u2 f0 f1 f2 kd y0 y1 y2 h_u0 h_u1 h_u2 h_y0 h_y1 h_y2
    refine own_G.go (fun t_ k_ => XS.iloadN X0.here hx rfl (hb hby at_134) rfl k_) ?_
    show own_G _ _ _ _ (s₁.setTop (mkF m 135 #[.val (.int p0), .val (.int p1), .val (.int p2), .val (.int u0), .val (.int u1), .val (.int u2), .val (.int f0), .val (.int f1), .val (.int f2), .val (.int kd), .val (.int y0), .val (.int y1), .val (.int y2), .unset, .unset, .unset, .unset, .unset, .unset] [(.int u0)]))
    obtain ⟨_, T_1, L_1, Q_1, X_1, st_1⟩ := own_callS X0 hx hown (mvT hZ (own_w hw 0 rfl)) (mvT hZ (own_w hw 1 rfl)) (mvT hZ (own_w hw 2 rfl)) (mvT hZ (own_w hw 3 rfl)) (by decide) (Q := (Qone Z u0 h0 n0)) (backOf (W := 0) (rm_one l Z a0 hw [] u0 zc h0 n0 Z0 h_u0 O2 P5 X00) hZ (own_w hw 3 rfl) (own_w hw 2 rfl) (by decide) (by decide)) (g := (mkF m 135 #[.val (.int p0), .val (.int p1), .val (.int p2), .val (.int u0), .val (.int u1), .val (.int u2), .val (.int f0), .val (.int f1), .val (.int f2), .val (.int kd), .val (.int y0), .val (.int y1), .val (.int y2), .unset, .unset, .unset, .unset, .unset, .unset] [(.int u0)])) rfl (by rw [hml]; rfl) (argsL := [(.int u0)]) (rest := []) (lenOf pd_4 rfl) rfl (by show 2 * 0 + _ ≤ _; exact Nat.le_of_eq rfl) (hb hby at_135) e0 rfl (by decide) (by decide)
    obtain ⟨r_1, t_1, kb_1, rfl, Nq_1, K_1, lr_1, lt_1, Ex_1, Fc_1, Fv_1, Kb_1⟩ := Q_1
    refine own_G.via st_1 ?_
    have N_1 := Fr.app N0 Nq_1
    show own_G _ _ _ _ (T_1.setTop (mkF m 138 #[.val (.int p0), .val (.int p1), .val (.int p2), .val (.int u0), .val (.int u1), .val (.int u2), .val (.int f0), .val (.int f1), .val (.int f2), .val (.int kd), .val (.int y0), .val (.int y1), .val (.int y2), .unset, .unset, .unset, .unset, .unset, .unset] [(.ref r_1)]))
    refine own_G.go (fun t_ k_ => XS.astore X_1.here hx rfl (hb hby at_138) rfl rfl (l' := #[.val (.int p0), .val (.int p1), .val (.int p2), .val (.int u0), .val (.int u1), .val (.int u2), .val (.int f0), .val (.int f1), .val (.int f2), .val (.int kd), .val (.int y0), .val (.int y1), .val (.int y2), .val (.ref r_1), .unset, .unset, .unset, .unset, .unset]) rfl k_) ?_
    show own_G _ _ _ _ (T_1.setTop (mkF m 140 #[.val (.int p0), .val (.int p1), .val (.int p2), .val (.int u0), .val (.int u1), .val (.int u2), .val (.int f0), .val (.int f1), .val (.int f2), .val (.int kd), .val (.int y0), .val (.int y1), .val (.int y2), .val (.ref r_1), .unset, .unset, .unset, .unset, .unset] []))
    obtain ⟨T_2, h_2, X_2, e_2, E_2, A_2, D_2, -, st_2⟩ := newO X_1 hx hZ hown (own_w hw 34 rfl) (own_w hw 35 rfl) (own_w hw 36 rfl) rfl (g := (mkF m 140 #[.val (.int p0), .val (.int p1), .val (.int p2), .val (.int u0), .val (.int u1), .val (.int u2), .val (.int f0), .val (.int f1), .val (.int f2), .val (.int kd), .val (.int y0), .val (.int y1), .val (.int y2), .val (.ref r_1), .unset, .unset, .unset, .unset, .unset] [])) rfl (hb hby at_140) (by decide) (by decide)
    obtain ⟨a_2, g_2⟩ : ∃ z, z = T_1.heap.size := ⟨_, rfl⟩
    rw [← g_2] at A_2 D_2 st_2
    refine own_G.go st_2 ?_
    have F_2_id : Fld Z h_2 a_2 "com/example/sluis/sluis/value/Order" "id" "Ljava/lang/String;" .null := D_2 (Or.inr (own_w hw 50 rfl)) (ty := (.object "java/lang/String")) (by decide)
    have F_2_item : Fld Z h_2 a_2 "com/example/sluis/sluis/value/Order" "item" "Ljava/lang/String;" .null := D_2 (Or.inr (own_w hw 53 rfl)) (ty := (.object "java/lang/String")) (by decide)
    have F_2_buyer : Fld Z h_2 a_2 "com/example/sluis/sluis/value/Order" "buyer" "Ljava/lang/String;" .null := D_2 (Or.inr (own_w hw 56 rfl)) (ty := (.object "java/lang/String")) (by decide)
    show own_G _ _ _ _ (T_2.setTop (mkF m 143 #[.val (.int p0), .val (.int p1), .val (.int p2), .val (.int u0), .val (.int u1), .val (.int u2), .val (.int f0), .val (.int f1), .val (.int f2), .val (.int kd), .val (.int y0), .val (.int y1), .val (.int y2), .val (.ref r_1), .unset, .unset, .unset, .unset, .unset] [(.ref a_2)]))
    refine own_G.go (fun t_ k_ => XS.dup X_2.here hx rfl (hb hby at_143) rfl rfl k_) ?_
    show own_G _ _ _ _ (T_2.setTop (mkF m 144 #[.val (.int p0), .val (.int p1), .val (.int p2), .val (.int u0), .val (.int u1), .val (.int u2), .val (.int f0), .val (.int f1), .val (.int f2), .val (.int kd), .val (.int y0), .val (.int y1), .val (.int y2), .val (.ref r_1), .unset, .unset, .unset, .unset, .unset] [(.ref a_2), (.ref a_2)]))
    refine own_G.go (fun t_ k_ => XS.aload X_2.here hx rfl (hb hby at_144) rfl rfl k_) ?_
    show own_G _ _ _ _ (T_2.setTop (mkF m 146 #[.val (.int p0), .val (.int p1), .val (.int p2), .val (.int u0), .val (.int u1), .val (.int u2), .val (.int f0), .val (.int f1), .val (.int f2), .val (.int kd), .val (.int y0), .val (.int y1), .val (.int y2), .val (.ref r_1), .unset, .unset, .unset, .unset, .unset] [(.ref r_1), (.ref a_2), (.ref a_2)]))
    refine own_G.go (fun t_ k_ => XS.iload X_2.here hx rfl (hb hby at_146) rfl k_) ?_
    show own_G _ _ _ _ (T_2.setTop (mkF m 148 #[.val (.int p0), .val (.int p1), .val (.int p2), .val (.int u0), .val (.int u1), .val (.int u2), .val (.int f0), .val (.int f1), .val (.int f2), .val (.int kd), .val (.int y0), .val (.int y1), .val (.int y2), .val (.ref r_1), .unset, .unset, .unset, .unset, .unset] [(.int u1), (.ref r_1), (.ref a_2), (.ref a_2)]))
    have O_3d : Old Z n0 h_2 := ((X00.keep K_1 all0).ext E_2)
    obtain ⟨_, T_4, L_4, Q_4, X_4, st_4⟩ := own_callS X_2 hx hown (mvT hZ (own_w hw 0 rfl)) (mvT hZ (own_w hw 1 rfl)) (mvT hZ (own_w hw 2 rfl)) (mvT hZ (own_w hw 3 rfl)) (by decide) (Q := (Qone Z u1 h_2 n0)) (backOf (W := 3) (rm_one l Z a0 hw [] u1 zc h_2 n0 (Nat.le_trans Z0 (Nat.le_trans K_1.1 E_2.1)) h_u1 O2 P5 O_3d) hZ (own_w hw 3 rfl) (own_w hw 2 rfl) (by decide) (by decide)) (g := (mkF m 148 #[.val (.int p0), .val (.int p1), .val (.int p2), .val (.int u0), .val (.int u1), .val (.int u2), .val (.int f0), .val (.int f1), .val (.int f2), .val (.int kd), .val (.int y0), .val (.int y1), .val (.int y2), .val (.ref r_1), .unset, .unset, .unset, .unset, .unset] [(.int u1), (.ref r_1), (.ref a_2), (.ref a_2)])) rfl (by rw [hml]; rfl) (argsL := [(.int u1)]) (rest := [(.ref r_1), (.ref a_2), (.ref a_2)]) (lenOf pd_4 rfl) rfl (by show 2 * 0 + _ ≤ _; exact Nat.le_of_eq rfl) (hb hby at_148) e_2 rfl (by decide) (by decide)
    obtain ⟨r_4, t_4, kb_4, rfl, Nq_4, K_4, lr_4, lt_4, Ex_4, Fc_4, Fv_4, Kb_4⟩ := Q_4
    refine own_G.via st_4 ?_
    have N_4 := Fr.app N_1 Nq_4
    show own_G _ _ _ _ (T_4.setTop (mkF m 151 #[.val (.int p0), .val (.int p1), .val (.int p2), .val (.int u0), .val (.int u1), .val (.int u2), .val (.int f0), .val (.int f1), .val (.int f2), .val (.int kd), .val (.int y0), .val (.int y1), .val (.int y2), .val (.ref r_1), .unset, .unset, .unset, .unset, .unset] [(.ref r_4), (.ref r_1), (.ref a_2), (.ref a_2)]))
    refine own_G.go (fun t_ k_ => XS.iload X_4.here hx rfl (hb hby at_151) rfl k_) ?_
    show own_G _ _ _ _ (T_4.setTop (mkF m 153 #[.val (.int p0), .val (.int p1), .val (.int p2), .val (.int u0), .val (.int u1), .val (.int u2), .val (.int f0), .val (.int f1), .val (.int f2), .val (.int kd), .val (.int y0), .val (.int y1), .val (.int y2), .val (.ref r_1), .unset, .unset, .unset, .unset, .unset] [(.int u2), (.ref r_4), (.ref r_1), (.ref a_2), (.ref a_2)]))
    have O_5d : Old Z n0 T_4.heap := (O_3d.keep K_4 all0)
    obtain ⟨_, T_6, L_6, Q_6, X_6, st_6⟩ := own_callS X_4 hx hown (mvT hZ (own_w hw 0 rfl)) (mvT hZ (own_w hw 1 rfl)) (mvT hZ (own_w hw 2 rfl)) (mvT hZ (own_w hw 3 rfl)) (by decide) (Q := (Qone Z u2 T_4.heap n0)) (backOf (W := 4) (rm_one l Z a0 hw [] u2 zc T_4.heap n0 (Nat.le_trans Z0 (Nat.le_trans (Nat.le_trans K_1.1 E_2.1) K_4.1)) h_u2 O2 P5 O_5d) hZ (own_w hw 3 rfl) (own_w hw 2 rfl) (by decide) (by decide)) (g := (mkF m 153 #[.val (.int p0), .val (.int p1), .val (.int p2), .val (.int u0), .val (.int u1), .val (.int u2), .val (.int f0), .val (.int f1), .val (.int f2), .val (.int kd), .val (.int y0), .val (.int y1), .val (.int y2), .val (.ref r_1), .unset, .unset, .unset, .unset, .unset] [(.int u2), (.ref r_4), (.ref r_1), (.ref a_2), (.ref a_2)])) rfl (by rw [hml]; rfl) (argsL := [(.int u2)]) (rest := [(.ref r_4), (.ref r_1), (.ref a_2), (.ref a_2)]) (lenOf pd_4 rfl) rfl (by show 2 * 0 + _ ≤ _; exact Nat.le_of_eq rfl) (hb hby at_153) rfl rfl (by decide) (by decide)
    obtain ⟨r_6, t_6, kb_6, rfl, Nq_6, K_6, lr_6, lt_6, Ex_6, Fc_6, Fv_6, Kb_6⟩ := Q_6
    refine own_G.via st_6 ?_
    have N_6 := Fr.app N_4 Nq_6
    show own_G _ _ _ _ (T_6.setTop (mkF m 156 #[.val (.int p0), .val (.int p1), .val (.int p2), .val (.int u0), .val (.int u1), .val (.int u2), .val (.int f0), .val (.int f1), .val (.int f2), .val (.int kd), .val (.int y0), .val (.int y1), .val (.int y2), .val (.ref r_1), .unset, .unset, .unset, .unset, .unset] [(.ref r_6), (.ref r_4), (.ref r_1), (.ref a_2), (.ref a_2)]))
    have A_2'_7 : Exa Z T_6.heap a_2 "com/example/sluis/sluis/value/Order" := ((A_2.keep K_4).keep K_6)
    have F_2_id'_8 : Fld Z T_6.heap a_2 "com/example/sluis/sluis/value/Order" "id" "Ljava/lang/String;" .null := ((F_2_id.keep K_4 nin0).keep K_6 nin0)
    have F_2_item'_9 : Fld Z T_6.heap a_2 "com/example/sluis/sluis/value/Order" "item" "Ljava/lang/String;" .null := ((F_2_item.keep K_4 nin0).keep K_6 nin0)
    have F_2_buyer'_10 : Fld Z T_6.heap a_2 "com/example/sluis/sluis/value/Order" "buyer" "Ljava/lang/String;" .null := ((F_2_buyer.keep K_4 nin0).keep K_6 nin0)
    have g0_a_2 : n0 ≤ a_2 := Nat.le_trans (Nat.le_trans Z0 K_1.1) (Nat.le_of_eq g_2.symm)
    have Ex_1'_11 : Exa Z T_6.heap r_1 "java/lang/String" := (((Ex_1.ext E_2).keep K_4).keep K_6)
    have Ex_4'_12 : Exa Z T_6.heap r_4 "java/lang/String" := (Ex_4.keep K_6)
    obtain ⟨_, T_13, L_13, Q_13, X_13, hS_13, hZ_13, hown_13, st_13⟩ := own_callIW X_6 hx hS0 (Nat.le_trans (Nat.zero_le _) (Nat.le_trans (Nat.le_trans (Nat.le_trans K_1.1 E_2.1) K_4.1) K_6.1)) hZ rfl hown (mvT hZ (own_w hw 37 rfl)) (mvT hZ (own_w hw 38 rfl)) (mvT hZ (own_w hw 39 rfl)) (by decide) (Q := (fun v (U : State) L => Qor Z a_2 r_1 r_4 r_6 T_6.heap n0 v U.heap L)) (own_backS (backOfS (W := 1) (rm_or l Z a0 hw [] a_2 r_1 r_4 r_6 T_6.heap n0 (Nat.le_trans Z0 (Nat.le_trans (Nat.le_trans (Nat.le_trans K_1.1 E_2.1) K_4.1) K_6.1)) g0_a_2 A_2'_7 F_2_id'_8 F_2_item'_9 F_2_buyer'_10 Ex_1'_11 Ex_4'_12 Ex_6) hZ (own_w hw 39 rfl) (own_w hw 36 rfl) (by decide) (by decide))) (a := a_2) (g := (mkF m 156 #[.val (.int p0), .val (.int p1), .val (.int p2), .val (.int u0), .val (.int u1), .val (.int u2), .val (.int f0), .val (.int f1), .val (.int f2), .val (.int kd), .val (.int y0), .val (.int y1), .val (.int y2), .val (.ref r_1), .unset, .unset, .unset, .unset, .unset] [(.ref r_6), (.ref r_4), (.ref r_1), (.ref a_2), (.ref a_2)])) rfl (by rw [hml]; rfl) (argsL := [(.ref r_1), (.ref r_4), (.ref r_6)]) (rest := [(.ref a_2)]) (lenOf pd_5 rfl) rfl (by show 2 * 0 + _ ≤ _; exact Nat.le_of_eq rfl) (hb hby at_156) rfl rfl (by decide) (by decide)
    obtain ⟨rfl, Nq_13, K_13, Ex_13, F0_13, F1_13, F2_13⟩ := Q_13
    refine own_G.via st_13 ?_
    have N_13 := Fr.app N_6 Nq_13
    show own_G _ _ _ _ (T_13.setTop (mkF m 159 #[.val (.int p0), .val (.int p1), .val (.int p2), .val (.int u0), .val (.int u1), .val (.int u2), .val (.int f0), .val (.int f1), .val (.int f2), .val (.int kd), .val (.int y0), .val (.int y1), .val (.int y2), .val (.ref r_1), .unset, .unset, .unset, .unset, .unset] [(.ref a_2)]))
    refine own_G.go (fun t_ k_ => XS.astore X_13.here hx rfl (hb hby at_159) rfl rfl (l' := #[.val (.int p0), .val (.int p1), .val (.int p2), .val (.int u0), .val (.int u1), .val (.int u2), .val (.int f0), .val (.int f1), .val (.int f2), .val (.int kd), .val (.int y0), .val (.int y1), .val (.int y2), .val (.ref r_1), .val (.ref a_2), .unset, .unset, .unset, .unset]) rfl k_) ?_
    show own_G _ _ _ _ (T_13.setTop (mkF m 161 #[.val (.int p0), .val (.int p1), .val (.int p2), .val (.int u0), .val (.int u1), .val (.int u2), .val (.int f0), .val (.int f1), .val (.int f2), .val (.int kd), .val (.int y0), .val (.int y1), .val (.int y2), .val (.ref r_1), .val (.ref a_2), .unset, .unset, .unset, .unset] []))
    obtain ⟨T_14, h_14, X_14, e_14, E_14, A_14, D_14, -, st_14⟩ := newO X_13 hx hZ_13 hown_13 (own_w hw 34 rfl) (own_w hw 35 rfl) (own_w hw 36 rfl) rfl (g := (mkF m 161 #[.val (.int p0), .val (.int p1), .val (.int p2), .val (.int u0), .val (.int u1), .val (.int u2), .val (.int f0), .val (.int f1), .val (.int f2), .val (.int kd), .val (.int y0), .val (.int y1), .val (.int y2), .val (.ref r_1), .val (.ref a_2), .unset, .unset, .unset, .unset] [])) rfl (hb hby at_161) (by decide) (by decide)
    obtain ⟨a_14, g_14⟩ : ∃ z, z = T_13.heap.size := ⟨_, rfl⟩
    rw [← g_14] at A_14 D_14 st_14
    refine own_G.go st_14 ?_
    have F_14_id : Fld Z h_14 a_14 "com/example/sluis/sluis/value/Order" "id" "Ljava/lang/String;" .null := D_14 (Or.inr (own_w hw 50 rfl)) (ty := (.object "java/lang/String")) (by decide)
    have F_14_item : Fld Z h_14 a_14 "com/example/sluis/sluis/value/Order" "item" "Ljava/lang/String;" .null := D_14 (Or.inr (own_w hw 53 rfl)) (ty := (.object "java/lang/String")) (by decide)
    have F_14_buyer : Fld Z h_14 a_14 "com/example/sluis/sluis/value/Order" "buyer" "Ljava/lang/String;" .null := D_14 (Or.inr (own_w hw 56 rfl)) (ty := (.object "java/lang/String")) (by decide)
    show own_G _ _ _ _ (T_14.setTop (mkF m 164 #[.val (.int p0), .val (.int p1), .val (.int p2), .val (.int u0), .val (.int u1), .val (.int u2), .val (.int f0), .val (.int f1), .val (.int f2), .val (.int kd), .val (.int y0), .val (.int y1), .val (.int y2), .val (.ref r_1), .val (.ref a_2), .unset, .unset, .unset, .unset] [(.ref a_14)]))
    refine own_G.go (fun t_ k_ => XS.dup X_14.here hx rfl (hb hby at_164) rfl rfl k_) ?_
    show own_G _ _ _ _ (T_14.setTop (mkF m 165 #[.val (.int p0), .val (.int p1), .val (.int p2), .val (.int u0), .val (.int u1), .val (.int u2), .val (.int f0), .val (.int f1), .val (.int f2), .val (.int kd), .val (.int y0), .val (.int y1), .val (.int y2), .val (.ref r_1), .val (.ref a_2), .unset, .unset, .unset, .unset] [(.ref a_14), (.ref a_14)]))
    refine own_G.go (fun t_ k_ => XS.iload X_14.here hx rfl (hb hby at_165) rfl k_) ?_
    show own_G _ _ _ _ (T_14.setTop (mkF m 167 #[.val (.int p0), .val (.int p1), .val (.int p2), .val (.int u0), .val (.int u1), .val (.int u2), .val (.int f0), .val (.int f1), .val (.int f2), .val (.int kd), .val (.int y0), .val (.int y1), .val (.int y2), .val (.ref r_1), .val (.ref a_2), .unset, .unset, .unset, .unset] [(.int y0), (.ref a_14), (.ref a_14)]))
    have O_15d : Old Z n0 h_14 := (((O_5d.keep K_6 all0).keep K_13 (allS g0_a_2 all0)).ext E_14)
    obtain ⟨_, T_16, L_16, Q_16, X_16, st_16⟩ := own_callS X_14 hx hown_13 (mvT hZ_13 (own_w hw 0 rfl)) (mvT hZ_13 (own_w hw 1 rfl)) (mvT hZ_13 (own_w hw 2 rfl)) (mvT hZ_13 (own_w hw 3 rfl)) (by decide) (Q := (Qone Z y0 h_14 n0)) (backOf (W := 2) (rm_one l Z a0 hw [] y0 zc h_14 n0 (Nat.le_trans Z0 (Nat.le_trans (Nat.le_trans (Nat.le_trans (Nat.le_trans (Nat.le_trans K_1.1 E_2.1) K_4.1) K_6.1) K_13.1) E_14.1)) h_y0 O2 P5 O_15d) hZ_13 (own_w hw 3 rfl) (own_w hw 2 rfl) (by decide) (by decide)) (g := (mkF m 167 #[.val (.int p0), .val (.int p1), .val (.int p2), .val (.int u0), .val (.int u1), .val (.int u2), .val (.int f0), .val (.int f1), .val (.int f2), .val (.int kd), .val (.int y0), .val (.int y1), .val (.int y2), .val (.ref r_1), .val (.ref a_2), .unset, .unset, .unset, .unset] [(.int y0), (.ref a_14), (.ref a_14)])) rfl (by rw [hml]; rfl) (argsL := [(.int y0)]) (rest := [(.ref a_14), (.ref a_14)]) (lenOf pd_4 rfl) rfl (by show 2 * 0 + _ ≤ _; exact Nat.le_of_eq rfl) (hb hby at_167) e_14 rfl (by decide) (by decide)
    obtain ⟨r_16, t_16, kb_16, rfl, Nq_16, K_16, lr_16, lt_16, Ex_16, Fc_16, Fv_16, Kb_16⟩ := Q_16
    refine own_G.via st_16 ?_
    have N_16 := Fr.app N_13 Nq_16
    show own_G _ _ _ _ (T_16.setTop (mkF m 170 #[.val (.int p0), .val (.int p1), .val (.int p2), .val (.int u0), .val (.int u1), .val (.int u2), .val (.int f0), .val (.int f1), .val (.int f2), .val (.int kd), .val (.int y0), .val (.int y1), .val (.int y2), .val (.ref r_1), .val (.ref a_2), .unset, .unset, .unset, .unset] [(.ref r_16), (.ref a_14), (.ref a_14)]))
    refine own_G.go (fun t_ k_ => XS.iload X_16.here hx rfl (hb hby at_170) rfl k_) ?_
    show own_G _ _ _ _ (T_16.setTop (mkF m 172 #[.val (.int p0), .val (.int p1), .val (.int p2), .val (.int u0), .val (.int u1), .val (.int u2), .val (.int f0), .val (.int f1), .val (.int f2), .val (.int kd), .val (.int y0), .val (.int y1), .val (.int y2), .val (.ref r_1), .val (.ref a_2), .unset, .unset, .unset, .unset] [(.int y1), (.ref r_16), (.ref a_14), (.ref a_14)]))
    have O_17d : Old Z n0 T_16.heap := (O_15d.keep K_16 all0)
    obtain ⟨_, T_18, L_18, Q_18, X_18, st_18⟩ := own_callS X_16 hx hown_13 (mvT hZ_13 (own_w hw 0 rfl)) (mvT hZ_13 (own_w hw 1 rfl)) (mvT hZ_13 (own_w hw 2 rfl)) (mvT hZ_13 (own_w hw 3 rfl)) (by decide) (Q := (Qone Z y1 T_16.heap n0)) (backOf (W := 3) (rm_one l Z a0 hw [] y1 zc T_16.heap n0 (Nat.le_trans Z0 (Nat.le_trans (Nat.le_trans (Nat.le_trans (Nat.le_trans (Nat.le_trans (Nat.le_trans K_1.1 E_2.1) K_4.1) K_6.1) K_13.1) E_14.1) K_16.1)) h_y1 O2 P5 O_17d) hZ_13 (own_w hw 3 rfl) (own_w hw 2 rfl) (by decide) (by decide)) (g := (mkF m 172 #[.val (.int p0), .val (.int p1), .val (.int p2), .val (.int u0), .val (.int u1), .val (.int u2), .val (.int f0), .val (.int f1), .val (.int f2), .val (.int kd), .val (.int y0), .val (.int y1), .val (.int y2), .val (.ref r_1), .val (.ref a_2), .unset, .unset, .unset, .unset] [(.int y1), (.ref r_16), (.ref a_14), (.ref a_14)])) rfl (by rw [hml]; rfl) (argsL := [(.int y1)]) (rest := [(.ref r_16), (.ref a_14), (.ref a_14)]) (lenOf pd_4 rfl) rfl (by show 2 * 0 + _ ≤ _; exact Nat.le_of_eq rfl) (hb hby at_172) rfl rfl (by decide) (by decide)
    obtain ⟨r_18, t_18, kb_18, rfl, Nq_18, K_18, lr_18, lt_18, Ex_18, Fc_18, Fv_18, Kb_18⟩ := Q_18
    refine own_G.via st_18 ?_
    have N_18 := Fr.app N_16 Nq_18
    show own_G _ _ _ _ (T_18.setTop (mkF m 175 #[.val (.int p0), .val (.int p1), .val (.int p2), .val (.int u0), .val (.int u1), .val (.int u2), .val (.int f0), .val (.int f1), .val (.int f2), .val (.int kd), .val (.int y0), .val (.int y1), .val (.int y2), .val (.ref r_1), .val (.ref a_2), .unset, .unset, .unset, .unset] [(.ref r_18), (.ref r_16), (.ref a_14), (.ref a_14)]))
    refine own_G.go (fun t_ k_ => XS.iload X_18.here hx rfl (hb hby at_175) rfl k_) ?_
    show own_G _ _ _ _ (T_18.setTop (mkF m 177 #[.val (.int p0), .val (.int p1), .val (.int p2), .val (.int u0), .val (.int u1), .val (.int u2), .val (.int f0), .val (.int f1), .val (.int f2), .val (.int kd), .val (.int y0), .val (.int y1), .val (.int y2), .val (.ref r_1), .val (.ref a_2), .unset, .unset, .unset, .unset] [(.int y2), (.ref r_18), (.ref r_16), (.ref a_14), (.ref a_14)]))
    have O_19d : Old Z n0 T_18.heap := (O_17d.keep K_18 all0)
    obtain ⟨_, T_20, L_20, Q_20, X_20, st_20⟩ := own_callS X_18 hx hown_13 (mvT hZ_13 (own_w hw 0 rfl)) (mvT hZ_13 (own_w hw 1 rfl)) (mvT hZ_13 (own_w hw 2 rfl)) (mvT hZ_13 (own_w hw 3 rfl)) (by decide) (Q := (Qone Z y2 T_18.heap n0)) (backOf (W := 4) (rm_one l Z a0 hw [] y2 zc T_18.heap n0 (Nat.le_trans Z0 (Nat.le_trans (Nat.le_trans (Nat.le_trans (Nat.le_trans (Nat.le_trans (Nat.le_trans (Nat.le_trans K_1.1 E_2.1) K_4.1) K_6.1) K_13.1) E_14.1) K_16.1) K_18.1)) h_y2 O2 P5 O_19d) hZ_13 (own_w hw 3 rfl) (own_w hw 2 rfl) (by decide) (by decide)) (g := (mkF m 177 #[.val (.int p0), .val (.int p1), .val (.int p2), .val (.int u0), .val (.int u1), .val (.int u2), .val (.int f0), .val (.int f1), .val (.int f2), .val (.int kd), .val (.int y0), .val (.int y1), .val (.int y2), .val (.ref r_1), .val (.ref a_2), .unset, .unset, .unset, .unset] [(.int y2), (.ref r_18), (.ref r_16), (.ref a_14), (.ref a_14)])) rfl (by rw [hml]; rfl) (argsL := [(.int y2)]) (rest := [(.ref r_18), (.ref r_16), (.ref a_14), (.ref a_14)]) (lenOf pd_4 rfl) rfl (by show 2 * 0 + _ ≤ _; exact Nat.le_of_eq rfl) (hb hby at_177) rfl rfl (by decide) (by decide)
    obtain ⟨r_20, t_20, kb_20, rfl, Nq_20, K_20, lr_20, lt_20, Ex_20, Fc_20, Fv_20, Kb_20⟩ := Q_20
    refine own_G.via st_20 ?_
    have N_20 := Fr.app N_18 Nq_20
    show own_G _ _ _ _ (T_20.setTop (mkF m 180 #[.val (.int p0), .val (.int p1), .val (.int p2), .val (.int u0), .val (.int u1), .val (.int u2), .val (.int f0), .val (.int f1), .val (.int f2), .val (.int kd), .val (.int y0), .val (.int y1), .val (.int y2), .val (.ref r_1), .val (.ref a_2), .unset, .unset, .unset, .unset] [(.ref r_20), (.ref r_18), (.ref r_16), (.ref a_14), (.ref a_14)]))
    have A_14'_21 : Exa Z T_20.heap a_14 "com/example/sluis/sluis/value/Order" := (((A_14.keep K_16).keep K_18).keep K_20)
    have F_14_id'_22 : Fld Z T_20.heap a_14 "com/example/sluis/sluis/value/Order" "id" "Ljava/lang/String;" .null := (((F_14_id.keep K_16 nin0).keep K_18 nin0).keep K_20 nin0)
    have F_14_item'_23 : Fld Z T_20.heap a_14 "com/example/sluis/sluis/value/Order" "item" "Ljava/lang/String;" .null := (((F_14_item.keep K_16 nin0).keep K_18 nin0).keep K_20 nin0)
    have F_14_buyer'_24 : Fld Z T_20.heap a_14 "com/example/sluis/sluis/value/Order" "buyer" "Ljava/lang/String;" .null := (((F_14_buyer.keep K_16 nin0).keep K_18 nin0).keep K_20 nin0)
    have g0_a_14 : n0 ≤ a_14 := Nat.le_trans (Nat.le_trans Z0 (Nat.le_trans (Nat.le_trans (Nat.le_trans (Nat.le_trans K_1.1 E_2.1) K_4.1) K_6.1) K_13.1)) (Nat.le_of_eq g_14.symm)
    have Ex_16'_25 : Exa Z T_20.heap r_16 "java/lang/String" := ((Ex_16.keep K_18).keep K_20)
    have Ex_18'_26 : Exa Z T_20.heap r_18 "java/lang/String" := (Ex_18.keep K_20)
    obtain ⟨_, T_27, L_27, Q_27, X_27, hS_27, hZ_27, hown_27, st_27⟩ := own_callIW X_20 hx hS_13 (Nat.le_trans (Nat.le_refl _) (Nat.le_trans (Nat.le_trans (Nat.le_trans E_14.1 K_16.1) K_18.1) K_20.1)) hZ_13 rfl hown_13 (mvT hZ_13 (own_w hw 37 rfl)) (mvT hZ_13 (own_w hw 38 rfl)) (mvT hZ_13 (own_w hw 39 rfl)) (by decide) (Q := (fun v (U : State) L => Qor Z a_14 r_16 r_18 r_20 T_20.heap n0 v U.heap L)) (own_backS (backOfS (W := 1) (rm_or l Z a0 hw [] a_14 r_16 r_18 r_20 T_20.heap n0 (Nat.le_trans Z0 (Nat.le_trans (Nat.le_trans (Nat.le_trans (Nat.le_trans (Nat.le_trans (Nat.le_trans (Nat.le_trans (Nat.le_trans K_1.1 E_2.1) K_4.1) K_6.1) K_13.1) E_14.1) K_16.1) K_18.1) K_20.1)) g0_a_14 A_14'_21 F_14_id'_22 F_14_item'_23 F_14_buyer'_24 Ex_16'_25 Ex_18'_26 Ex_20) hZ_13 (own_w hw 39 rfl) (own_w hw 36 rfl) (by decide) (by decide))) (a := a_14) (g := (mkF m 180 #[.val (.int p0), .val (.int p1), .val (.int p2), .val (.int u0), .val (.int u1), .val (.int u2), .val (.int f0), .val (.int f1), .val (.int f2), .val (.int kd), .val (.int y0), .val (.int y1), .val (.int y2), .val (.ref r_1), .val (.ref a_2), .unset, .unset, .unset, .unset] [(.ref r_20), (.ref r_18), (.ref r_16), (.ref a_14), (.ref a_14)])) rfl (by rw [hml]; rfl) (argsL := [(.ref r_16), (.ref r_18), (.ref r_20)]) (rest := [(.ref a_14)]) (lenOf pd_5 rfl) rfl (by show 2 * 0 + _ ≤ _; exact Nat.le_of_eq rfl) (hb hby at_180) rfl rfl (by decide) (by decide)
    obtain ⟨rfl, Nq_27, K_27, Ex_27, F0_27, F1_27, F2_27⟩ := Q_27
    refine own_G.via st_27 ?_
    have N_27 := Fr.app N_20 Nq_27
    show own_G _ _ _ _ (T_27.setTop (mkF m 183 #[.val (.int p0), .val (.int p1), .val (.int p2), .val (.int u0), .val (.int u1), .val (.int u2), .val (.int f0), .val (.int f1), .val (.int f2), .val (.int kd), .val (.int y0), .val (.int y1), .val (.int y2), .val (.ref r_1), .val (.ref a_2), .unset, .unset, .unset, .unset] [(.ref a_14)]))
    refine own_G.go (fun t_ k_ => XS.astore X_27.here hx rfl (hb hby at_183) rfl rfl (l' := #[.val (.int p0), .val (.int p1), .val (.int p2), .val (.int u0), .val (.int u1), .val (.int u2), .val (.int f0), .val (.int f1), .val (.int f2), .val (.int kd), .val (.int y0), .val (.int y1), .val (.int y2), .val (.ref r_1), .val (.ref a_2), .val (.ref a_14), .unset, .unset, .unset]) rfl k_) ?_
    show own_G _ _ _ _ (T_27.setTop (mkF m 185 #[.val (.int p0), .val (.int p1), .val (.int p2), .val (.int u0), .val (.int u1), .val (.int u2), .val (.int f0), .val (.int f1), .val (.int f2), .val (.int kd), .val (.int y0), .val (.int y1), .val (.int y2), .val (.ref r_1), .val (.ref a_2), .val (.ref a_14), .unset, .unset, .unset] []))
    refine own_G.go (fun t_ k_ => XS.iload X_27.here hx rfl (hb hby at_185) rfl k_) ?_
    show own_G _ _ _ _ (T_27.setTop (mkF m 187 #[.val (.int p0), .val (.int p1), .val (.int p2), .val (.int u0), .val (.int u1), .val (.int u2), .val (.int f0), .val (.int f1), .val (.int f2), .val (.int kd), .val (.int y0), .val (.int y1), .val (.int y2), .val (.ref r_1), .val (.ref a_2), .val (.ref a_14), .unset, .unset, .unset] [(.int kd)]))
    by_cases hk0 : kd = (0 : Int32)
    · refine own_G.go (fun t_ k_ => XS.ifNo X_27.here hx rfl (hb hby at_187) rfl ((if0 _ _).trans (teq hk0).2) k_) ?_
      show own_G _ _ _ _ (T_27.setTop (mkF m 190 #[.val (.int p0), .val (.int p1), .val (.int p2), .val (.int u0), .val (.int u1), .val (.int u2), .val (.int f0), .val (.int f1), .val (.int f2), .val (.int kd), .val (.int y0), .val (.int y1), .val (.int y2), .val (.ref r_1), .val (.ref a_2), .val (.ref a_14), .unset, .unset, .unset] []))
      refine own_G.go (fun t_ k_ => XS.aload X_27.here hx rfl (hb hby at_190) rfl rfl k_) ?_
      show own_G _ _ _ _ (T_27.setTop (mkF m 192 #[.val (.int p0), .val (.int p1), .val (.int p2), .val (.int u0), .val (.int u1), .val (.int u2), .val (.int f0), .val (.int f1), .val (.int f2), .val (.int kd), .val (.int y0), .val (.int y1), .val (.int y2), .val (.ref r_1), .val (.ref a_2), .val (.ref a_14), .unset, .unset, .unset] [(.ref a_14)]))
      refine own_G.go (fun t_ k_ => XS.astore X_27.here hx rfl (hb hby at_192) rfl rfl (l' := #[.val (.int p0), .val (.int p1), .val (.int p2), .val (.int u0), .val (.int u1), .val (.int u2), .val (.int f0), .val (.int f1), .val (.int f2), .val (.int kd), .val (.int y0), .val (.int y1), .val (.int y2), .val (.ref r_1), .val (.ref a_2), .val (.ref a_14), .val (.ref a_14), .unset, .unset]) rfl k_) ?_
      show own_G _ _ _ _ (T_27.setTop (mkF m 194 #[.val (.int p0), .val (.int p1), .val (.int p2), .val (.int u0), .val (.int u1), .val (.int u2), .val (.int f0), .val (.int f1), .val (.int f2), .val (.int kd), .val (.int y0), .val (.int y1), .val (.int y2), .val (.ref r_1), .val (.ref a_2), .val (.ref a_14), .val (.ref a_14), .unset, .unset] []))
      refine own_G.go (fun t_ k_ => XS.iloadN X_27.here hx rfl (hb hby at_194) rfl k_) ?_
      show own_G _ _ _ _ (T_27.setTop (mkF m 195 #[.val (.int p0), .val (.int p1), .val (.int p2), .val (.int u0), .val (.int u1), .val (.int u2), .val (.int f0), .val (.int f1), .val (.int f2), .val (.int kd), .val (.int y0), .val (.int y1), .val (.int y2), .val (.ref r_1), .val (.ref a_2), .val (.ref a_14), .val (.ref a_14), .unset, .unset] [(.int u0)]))
      refine own_G.go (fun t_ k_ => XS.iload X_27.here hx rfl (hb hby at_195) rfl k_) ?_
      show own_G _ _ _ _ (T_27.setTop (mkF m 197 #[.val (.int p0), .val (.int p1), .val (.int p2), .val (.int u0), .val (.int u1), .val (.int u2), .val (.int f0), .val (.int f1), .val (.int f2), .val (.int kd), .val (.int y0), .val (.int y1), .val (.int y2), .val (.ref r_1), .val (.ref a_2), .val (.ref a_14), .val (.ref a_14), .unset, .unset] [(.int y0), (.int u0)]))
      by_cases hv0 : u0 = y0
      · refine own_G.go (fun t_ k_ => XS.icmpNo X_27.here hx rfl (hb hby at_197) rfl (teq hv0).2 k_) ?_
        show own_G _ _ _ _ (T_27.setTop (mkF m 200 #[.val (.int p0), .val (.int p1), .val (.int p2), .val (.int u0), .val (.int u1), .val (.int u2), .val (.int f0), .val (.int f1), .val (.int f2), .val (.int kd), .val (.int y0), .val (.int y1), .val (.int y2), .val (.ref r_1), .val (.ref a_2), .val (.ref a_14), .val (.ref a_14), .unset, .unset] []))
        refine own_G.go (fun t_ k_ => XS.iload X_27.here hx rfl (hb hby at_200) rfl k_) ?_
        show own_G _ _ _ _ (T_27.setTop (mkF m 202 #[.val (.int p0), .val (.int p1), .val (.int p2), .val (.int u0), .val (.int u1), .val (.int u2), .val (.int f0), .val (.int f1), .val (.int f2), .val (.int kd), .val (.int y0), .val (.int y1), .val (.int y2), .val (.ref r_1), .val (.ref a_2), .val (.ref a_14), .val (.ref a_14), .unset, .unset] [(.int u1)]))
        refine own_G.go (fun t_ k_ => XS.iload X_27.here hx rfl (hb hby at_202) rfl k_) ?_
        show own_G _ _ _ _ (T_27.setTop (mkF m 204 #[.val (.int p0), .val (.int p1), .val (.int p2), .val (.int u0), .val (.int u1), .val (.int u2), .val (.int f0), .val (.int f1), .val (.int f2), .val (.int kd), .val (.int y0), .val (.int y1), .val (.int y2), .val (.ref r_1), .val (.ref a_2), .val (.ref a_14), .val (.ref a_14), .unset, .unset] [(.int y1), (.int u1)]))
        by_cases hv1 : u1 = y1
        · refine own_G.go (fun t_ k_ => XS.icmpNo X_27.here hx rfl (hb hby at_204) rfl (teq hv1).2 k_) ?_
          show own_G _ _ _ _ (T_27.setTop (mkF m 207 #[.val (.int p0), .val (.int p1), .val (.int p2), .val (.int u0), .val (.int u1), .val (.int u2), .val (.int f0), .val (.int f1), .val (.int f2), .val (.int kd), .val (.int y0), .val (.int y1), .val (.int y2), .val (.ref r_1), .val (.ref a_2), .val (.ref a_14), .val (.ref a_14), .unset, .unset] []))
          refine own_G.go (fun t_ k_ => XS.iload X_27.here hx rfl (hb hby at_207) rfl k_) ?_
          show own_G _ _ _ _ (T_27.setTop (mkF m 209 #[.val (.int p0), .val (.int p1), .val (.int p2), .val (.int u0), .val (.int u1), .val (.int u2), .val (.int f0), .val (.int f1), .val (.int f2), .val (.int kd), .val (.int y0), .val (.int y1), .val (.int y2), .val (.ref r_1), .val (.ref a_2), .val (.ref a_14), .val (.ref a_14), .unset, .unset] [(.int u2)]))
          refine own_G.go (fun t_ k_ => XS.iload X_27.here hx rfl (hb hby at_209) rfl k_) ?_
          show own_G _ _ _ _ (T_27.setTop (mkF m 211 #[.val (.int p0), .val (.int p1), .val (.int p2), .val (.int u0), .val (.int u1), .val (.int u2), .val (.int f0), .val (.int f1), .val (.int f2), .val (.int kd), .val (.int y0), .val (.int y1), .val (.int y2), .val (.ref r_1), .val (.ref a_2), .val (.ref a_14), .val (.ref a_14), .unset, .unset] [(.int y2), (.int u2)]))
          by_cases hv2 : u2 = y2
          · refine own_G.go (fun t_ k_ => XS.icmpNo X_27.here hx rfl (hb hby at_211) rfl (teq hv2).2 k_) ?_
            show own_G _ _ _ _ (T_27.setTop (mkF m 214 #[.val (.int p0), .val (.int p1), .val (.int p2), .val (.int u0), .val (.int u1), .val (.int u2), .val (.int f0), .val (.int f1), .val (.int f2), .val (.int kd), .val (.int y0), .val (.int y1), .val (.int y2), .val (.ref r_1), .val (.ref a_2), .val (.ref a_14), .val (.ref a_14), .unset, .unset] []))
            refine own_G.go (fun t_ k_ => XS.iconst X_27.here hx rfl (hb hby at_214) k_) ?_
            show own_G _ _ _ _ (T_27.setTop (mkF m 215 #[.val (.int p0), .val (.int p1), .val (.int p2), .val (.int u0), .val (.int u1), .val (.int u2), .val (.int f0), .val (.int f1), .val (.int f2), .val (.int kd), .val (.int y0), .val (.int y1), .val (.int y2), .val (.ref r_1), .val (.ref a_2), .val (.ref a_14), .val (.ref a_14), .unset, .unset] [(.int (1 : Int32))]))
            refine own_G.go (fun t_ k_ => XS.goto X_27.here hx rfl (pc0 := 215) (pc' := 219) rfl (hb hby at_215) (by decide) (by decide) k_) ?_
            show own_G _ _ _ _ (T_27.setTop (mkF m 219 #[.val (.int p0), .val (.int p1), .val (.int p2), .val (.int u0), .val (.int u1), .val (.int u2), .val (.int f0), .val (.int f1), .val (.int f2), .val (.int kd), .val (.int y0), .val (.int y1), .val (.int y2), .val (.ref r_1), .val (.ref a_2), .val (.ref a_14), .val (.ref a_14), .unset, .unset] [(.int (1 : Int32))]))
            refine own_G.go (fun t_ k_ => XS.istore X_27.here hx rfl (hb hby at_219) rfl (l' := #[.val (.int p0), .val (.int p1), .val (.int p2), .val (.int u0), .val (.int u1), .val (.int u2), .val (.int f0), .val (.int f1), .val (.int f2), .val (.int kd), .val (.int y0), .val (.int y1), .val (.int y2), .val (.ref r_1), .val (.ref a_2), .val (.ref a_14), .val (.ref a_14), .val (.int (1 : Int32)), .unset]) rfl k_) ?_
            show own_G _ _ _ _ (T_27.setTop (mkF m 221 #[.val (.int p0), .val (.int p1), .val (.int p2), .val (.int u0), .val (.int u1), .val (.int u2), .val (.int f0), .val (.int f1), .val (.int f2), .val (.int kd), .val (.int y0), .val (.int y1), .val (.int y2), .val (.ref r_1), .val (.ref a_2), .val (.ref a_14), .val (.ref a_14), .val (.int (1 : Int32)), .unset] []))
            refine own_G.go (fun t_ k_ => XS.goto X_27.here hx rfl (pc0 := 221) (pc' := 262) rfl (hb hby at_221) (by decide) (by decide) k_) ?_
            show own_G _ _ _ _ (T_27.setTop (mkF m 262 #[.val (.int p0), .val (.int p1), .val (.int p2), .val (.int u0), .val (.int u1), .val (.int u2), .val (.int f0), .val (.int f1), .val (.int f2), .val (.int kd), .val (.int y0), .val (.int y1), .val (.int y2), .val (.ref r_1), .val (.ref a_2), .val (.ref a_14), .val (.ref a_14), .val (.int (1 : Int32)), .unset] []))
            refine own_G.go (fun t_ k_ => XS.aload X_27.here hx rfl (hb hby at_262) rfl rfl k_) ?_
            show own_G _ _ _ _ (T_27.setTop (mkF m 264 #[.val (.int p0), .val (.int p1), .val (.int p2), .val (.int u0), .val (.int u1), .val (.int u2), .val (.int f0), .val (.int f1), .val (.int f2), .val (.int kd), .val (.int y0), .val (.int y1), .val (.int y2), .val (.ref r_1), .val (.ref a_2), .val (.ref a_14), .val (.ref a_14), .val (.int (1 : Int32)), .unset] [(.ref a_2)]))
            refine own_G.go (fun t_ k_ => XS.aload X_27.here hx rfl (hb hby at_264) rfl rfl k_) ?_
            show own_G _ _ _ _ (T_27.setTop (mkF m 266 #[.val (.int p0), .val (.int p1), .val (.int p2), .val (.int u0), .val (.int u1), .val (.int u2), .val (.int f0), .val (.int f1), .val (.int f2), .val (.int kd), .val (.int y0), .val (.int y1), .val (.int y2), .val (.ref r_1), .val (.ref a_2), .val (.ref a_14), .val (.ref a_14), .val (.int (1 : Int32)), .unset] [(.ref a_14), (.ref a_2)]))
            have Ex_13'_28 : Exa Z T_27.heap a_2 "com/example/sluis/sluis/value/Order" := (((((Ex_13.ext E_14).keep K_16).keep K_18).keep K_20).keep K_27)
            have F0_13'_29 : Fld Z T_27.heap a_2 "com/example/sluis/sluis/value/Order" "id" "Ljava/lang/String;" (.ref r_1) := (((((F0_13.ext E_14).keep K_16 nin0).keep K_18 nin0).keep K_20 nin0).keep K_27 (ninS (Nat.ne_of_lt (Nat.lt_of_lt_of_le (Nat.lt_of_lt_of_le A_2.lt (Nat.le_trans (Nat.le_trans K_4.1 K_6.1) K_13.1)) (Nat.le_of_eq g_14.symm))) nin0))
            have F1_13'_30 : Fld Z T_27.heap a_2 "com/example/sluis/sluis/value/Order" "item" "Ljava/lang/String;" (.ref r_4) := (((((F1_13.ext E_14).keep K_16 nin0).keep K_18 nin0).keep K_20 nin0).keep K_27 (ninS (Nat.ne_of_lt (Nat.lt_of_lt_of_le (Nat.lt_of_lt_of_le A_2.lt (Nat.le_trans (Nat.le_trans K_4.1 K_6.1) K_13.1)) (Nat.le_of_eq g_14.symm))) nin0))
            have F2_13'_31 : Fld Z T_27.heap a_2 "com/example/sluis/sluis/value/Order" "buyer" "Ljava/lang/String;" (.ref r_6) := (((((F2_13.ext E_14).keep K_16 nin0).keep K_18 nin0).keep K_20 nin0).keep K_27 (ninS (Nat.ne_of_lt (Nat.lt_of_lt_of_le (Nat.lt_of_lt_of_le A_2.lt (Nat.le_trans (Nat.le_trans K_4.1 K_6.1) K_13.1)) (Nat.le_of_eq g_14.symm))) nin0))
            have Ex_1'_32 : Exa Z T_27.heap r_1 "java/lang/String" := ((((((Ex_1'_11.keep K_13).ext E_14).keep K_16).keep K_18).keep K_20).keep K_27)
            have Fc_1'_33 : Fld Z T_27.heap r_1 "java/lang/String" "coder" "B" (.int 0) := (((((((((Fc_1.ext E_2).keep K_4 nin0).keep K_6 nin0).keep K_13 (ninS (Nat.ne_of_lt (Nat.lt_of_lt_of_le Ex_1.lt (Nat.le_of_eq g_2.symm))) nin0)).ext E_14).keep K_16 nin0).keep K_18 nin0).keep K_20 nin0).keep K_27 (ninS (Nat.ne_of_lt (Nat.lt_of_lt_of_le (Nat.lt_of_lt_of_le Ex_1.lt (Nat.le_trans (Nat.le_trans (Nat.le_trans E_2.1 K_4.1) K_6.1) K_13.1)) (Nat.le_of_eq g_14.symm))) nin0))
            have Fv_1'_34 : Fld Z T_27.heap r_1 "java/lang/String" "value" "[B" (.ref t_1) := (((((((((Fv_1.ext E_2).keep K_4 nin0).keep K_6 nin0).keep K_13 (ninS (Nat.ne_of_lt (Nat.lt_of_lt_of_le Ex_1.lt (Nat.le_of_eq g_2.symm))) nin0)).ext E_14).keep K_16 nin0).keep K_18 nin0).keep K_20 nin0).keep K_27 (ninS (Nat.ne_of_lt (Nat.lt_of_lt_of_le (Nat.lt_of_lt_of_le Ex_1.lt (Nat.le_trans (Nat.le_trans (Nat.le_trans E_2.1 K_4.1) K_6.1) K_13.1)) (Nat.le_of_eq g_14.symm))) nin0))
            have Kb_1'_35 : Arv Z T_27.heap t_1 kb_1 .byte (1 : Int32) ((([u0] : List Int32).map (fun c => c.toInt8.toInt32)).map Value.int) (.int 0) := (((((((((Kb_1.ext E_2).keep K_4 nin0).keep K_6 nin0).keep K_13 (ninS (Nat.ne_of_lt (Nat.lt_of_lt_of_le Kb_1.lt (Nat.le_of_eq g_2.symm))) nin0)).ext E_14).keep K_16 nin0).keep K_18 nin0).keep K_20 nin0).keep K_27 (ninS (Nat.ne_of_lt (Nat.lt_of_lt_of_le (Nat.lt_of_lt_of_le Kb_1.lt (Nat.le_trans (Nat.le_trans (Nat.le_trans E_2.1 K_4.1) K_6.1) K_13.1)) (Nat.le_of_eq g_14.symm))) nin0))
            have Ex_4'_36 : Exa Z T_27.heap r_4 "java/lang/String" := ((((((Ex_4'_12.keep K_13).ext E_14).keep K_16).keep K_18).keep K_20).keep K_27)
            have Fc_4'_37 : Fld Z T_27.heap r_4 "java/lang/String" "coder" "B" (.int 0) := (((((((Fc_4.keep K_6 nin0).keep K_13 (ninS (Ne.symm (Nat.ne_of_lt (Nat.lt_of_lt_of_le A_2.lt lr_4))) nin0)).ext E_14).keep K_16 nin0).keep K_18 nin0).keep K_20 nin0).keep K_27 (ninS (Nat.ne_of_lt (Nat.lt_of_lt_of_le (Nat.lt_of_lt_of_le Ex_4.lt (Nat.le_trans K_6.1 K_13.1)) (Nat.le_of_eq g_14.symm))) nin0))
            have Fv_4'_38 : Fld Z T_27.heap r_4 "java/lang/String" "value" "[B" (.ref t_4) := (((((((Fv_4.keep K_6 nin0).keep K_13 (ninS (Ne.symm (Nat.ne_of_lt (Nat.lt_of_lt_of_le A_2.lt lr_4))) nin0)).ext E_14).keep K_16 nin0).keep K_18 nin0).keep K_20 nin0).keep K_27 (ninS (Nat.ne_of_lt (Nat.lt_of_lt_of_le (Nat.lt_of_lt_of_le Ex_4.lt (Nat.le_trans K_6.1 K_13.1)) (Nat.le_of_eq g_14.symm))) nin0))
            have Kb_4'_39 : Arv Z T_27.heap t_4 kb_4 .byte (1 : Int32) ((([u1] : List Int32).map (fun c => c.toInt8.toInt32)).map Value.int) (.int 0) := (((((((Kb_4.keep K_6 nin0).keep K_13 (ninS (Ne.symm (Nat.ne_of_lt (Nat.lt_of_lt_of_le A_2.lt lt_4))) nin0)).ext E_14).keep K_16 nin0).keep K_18 nin0).keep K_20 nin0).keep K_27 (ninS (Nat.ne_of_lt (Nat.lt_of_lt_of_le (Nat.lt_of_lt_of_le Kb_4.lt (Nat.le_trans K_6.1 K_13.1)) (Nat.le_of_eq g_14.symm))) nin0))
            have Ex_6'_40 : Exa Z T_27.heap r_6 "java/lang/String" := ((((((Ex_6.keep K_13).ext E_14).keep K_16).keep K_18).keep K_20).keep K_27)
            have Fc_6'_41 : Fld Z T_27.heap r_6 "java/lang/String" "coder" "B" (.int 0) := ((((((Fc_6.keep K_13 (ninS (Ne.symm (Nat.ne_of_lt (Nat.lt_of_lt_of_le (Nat.lt_of_lt_of_le A_2.lt K_4.1) lr_6))) nin0)).ext E_14).keep K_16 nin0).keep K_18 nin0).keep K_20 nin0).keep K_27 (ninS (Nat.ne_of_lt (Nat.lt_of_lt_of_le (Nat.lt_of_lt_of_le Ex_6.lt K_13.1) (Nat.le_of_eq g_14.symm))) nin0))
            have Fv_6'_42 : Fld Z T_27.heap r_6 "java/lang/String" "value" "[B" (.ref t_6) := ((((((Fv_6.keep K_13 (ninS (Ne.symm (Nat.ne_of_lt (Nat.lt_of_lt_of_le (Nat.lt_of_lt_of_le A_2.lt K_4.1) lr_6))) nin0)).ext E_14).keep K_16 nin0).keep K_18 nin0).keep K_20 nin0).keep K_27 (ninS (Nat.ne_of_lt (Nat.lt_of_lt_of_le (Nat.lt_of_lt_of_le Ex_6.lt K_13.1) (Nat.le_of_eq g_14.symm))) nin0))
            have Kb_6'_43 : Arv Z T_27.heap t_6 kb_6 .byte (1 : Int32) ((([u2] : List Int32).map (fun c => c.toInt8.toInt32)).map Value.int) (.int 0) := ((((((Kb_6.keep K_13 (ninS (Ne.symm (Nat.ne_of_lt (Nat.lt_of_lt_of_le (Nat.lt_of_lt_of_le A_2.lt K_4.1) lt_6))) nin0)).ext E_14).keep K_16 nin0).keep K_18 nin0).keep K_20 nin0).keep K_27 (ninS (Nat.ne_of_lt (Nat.lt_of_lt_of_le (Nat.lt_of_lt_of_le Kb_6.lt K_13.1) (Nat.le_of_eq g_14.symm))) nin0))
            have Ex_16'_44 : Exa Z T_27.heap r_16 "java/lang/String" := (Ex_16'_25.keep K_27)
            have Fc_16'_45 : Fld Z T_27.heap r_16 "java/lang/String" "coder" "B" (.int 0) := (((Fc_16.keep K_18 nin0).keep K_20 nin0).keep K_27 (ninS (Ne.symm (Nat.ne_of_lt (Nat.lt_of_lt_of_le A_14.lt lr_16))) nin0))
            have Fv_16'_46 : Fld Z T_27.heap r_16 "java/lang/String" "value" "[B" (.ref t_16) := (((Fv_16.keep K_18 nin0).keep K_20 nin0).keep K_27 (ninS (Ne.symm (Nat.ne_of_lt (Nat.lt_of_lt_of_le A_14.lt lr_16))) nin0))
            have Kb_16'_47 : Arv Z T_27.heap t_16 kb_16 .byte (1 : Int32) ((([y0] : List Int32).map (fun c => c.toInt8.toInt32)).map Value.int) (.int 0) := (((Kb_16.keep K_18 nin0).keep K_20 nin0).keep K_27 (ninS (Ne.symm (Nat.ne_of_lt (Nat.lt_of_lt_of_le A_14.lt lt_16))) nin0))
            have Ex_18'_48 : Exa Z T_27.heap r_18 "java/lang/String" := (Ex_18'_26.keep K_27)
            have Fc_18'_49 : Fld Z T_27.heap r_18 "java/lang/String" "coder" "B" (.int 0) := ((Fc_18.keep K_20 nin0).keep K_27 (ninS (Ne.symm (Nat.ne_of_lt (Nat.lt_of_lt_of_le (Nat.lt_of_lt_of_le A_14.lt K_16.1) lr_18))) nin0))
            have Fv_18'_50 : Fld Z T_27.heap r_18 "java/lang/String" "value" "[B" (.ref t_18) := ((Fv_18.keep K_20 nin0).keep K_27 (ninS (Ne.symm (Nat.ne_of_lt (Nat.lt_of_lt_of_le (Nat.lt_of_lt_of_le A_14.lt K_16.1) lr_18))) nin0))
            have Kb_18'_51 : Arv Z T_27.heap t_18 kb_18 .byte (1 : Int32) ((([y1] : List Int32).map (fun c => c.toInt8.toInt32)).map Value.int) (.int 0) := ((Kb_18.keep K_20 nin0).keep K_27 (ninS (Ne.symm (Nat.ne_of_lt (Nat.lt_of_lt_of_le (Nat.lt_of_lt_of_le A_14.lt K_16.1) lt_18))) nin0))
            have Ex_20'_52 : Exa Z T_27.heap r_20 "java/lang/String" := (Ex_20.keep K_27)
            have Fc_20'_53 : Fld Z T_27.heap r_20 "java/lang/String" "coder" "B" (.int 0) := (Fc_20.keep K_27 (ninS (Ne.symm (Nat.ne_of_lt (Nat.lt_of_lt_of_le (Nat.lt_of_lt_of_le A_14.lt (Nat.le_trans K_16.1 K_18.1)) lr_20))) nin0))
            have Fv_20'_54 : Fld Z T_27.heap r_20 "java/lang/String" "value" "[B" (.ref t_20) := (Fv_20.keep K_27 (ninS (Ne.symm (Nat.ne_of_lt (Nat.lt_of_lt_of_le (Nat.lt_of_lt_of_le A_14.lt (Nat.le_trans K_16.1 K_18.1)) lr_20))) nin0))
            have Kb_20'_55 : Arv Z T_27.heap t_20 kb_20 .byte (1 : Int32) ((([y2] : List Int32).map (fun c => c.toInt8.toInt32)).map Value.int) (.int 0) := (Kb_20.keep K_27 (ninS (Ne.symm (Nat.ne_of_lt (Nat.lt_of_lt_of_le (Nat.lt_of_lt_of_le A_14.lt (Nat.le_trans K_16.1 K_18.1)) lt_20))) nin0))
            have O_56d : Old Z n0 T_27.heap := ((O_19d.keep K_20 all0).keep K_27 (allS g0_a_14 all0))
            obtain ⟨cq_57, kq_57, q_57a, q_57b, q_57c⟩ := isOf hZ_27 rfl Ex_13'_28
            obtain ⟨_, T_57, L_57, Q_57, X_57, st_57⟩ := own_callV X_27 hx (z := (⟨"com/example/sluis/sluis/value/Order", "equals", "(Ljava/lang/Object;)Z"⟩ : MethodName)) hown_27 (mvT hZ_27 (own_w hw 57 rfl)) (mvT hZ_27 (own_w hw 58 rfl)) (notFace_of_selects (args := #[]) (mvT hZ_27 (own_w hw 60 rfl))) (mvT hZ_27 (own_w hw 60 rfl)) (mvT hZ_27 (own_w hw 59 rfl)) (by decide) (Q := (Qeq (u0 = y0 ∧ u1 = y1 ∧ u2 = y2) T_27.heap)) (backOf (W := 0) (rm_eqO l Z a0 hw [] a_2 a_14 r_1 r_4 r_6 r_16 r_18 r_20 t_1 t_4 t_6 t_16 t_18 t_20 kb_1 kb_4 kb_6 kb_16 kb_18 kb_20 u0 u1 u2 y0 y1 y2 zc T_27.heap n0 (Nat.le_trans Z0 (Nat.le_trans (Nat.le_trans (Nat.le_trans (Nat.le_trans (Nat.le_trans (Nat.le_trans (Nat.le_trans (Nat.le_trans (Nat.le_trans K_1.1 E_2.1) K_4.1) K_6.1) K_13.1) E_14.1) K_16.1) K_18.1) K_20.1) K_27.1)) Ex_13'_28 Ex_27 F0_13'_29 F1_13'_30 F2_13'_31 F0_27 F1_27 F2_27 Ex_1'_32 Fc_1'_33 Fv_1'_34 Kb_1'_35 h_u0 Ex_4'_36 Fc_4'_37 Fv_4'_38 Kb_4'_39 h_u1 Ex_6'_40 Fc_6'_41 Fv_6'_42 Kb_6'_43 h_u2 Ex_16'_44 Fc_16'_45 Fv_16'_46 Kb_16'_47 h_y0 Ex_18'_48 Fc_18'_49 Fv_18'_50 Kb_18'_51 h_y1 Ex_20'_52 Fc_20'_53 Fv_20'_54 Kb_20'_55 h_y2 O2 P5 O_56d) hZ_27 (own_w hw 61 rfl) (own_w hw 36 rfl) (by decide) (by decide)) q_57a q_57c (g := (mkF m 266 #[.val (.int p0), .val (.int p1), .val (.int p2), .val (.int u0), .val (.int u1), .val (.int u2), .val (.int f0), .val (.int f1), .val (.int f2), .val (.int kd), .val (.int y0), .val (.int y1), .val (.int y2), .val (.ref r_1), .val (.ref a_2), .val (.ref a_14), .val (.ref a_14), .val (.int (1 : Int32)), .unset] [(.ref a_14), (.ref a_2)])) rfl (by rw [hml]; rfl) (argsL := [(.ref a_14)]) (rest := []) (lenOf pd_3 rfl) rfl (by show 2 * 0 + _ ≤ _; exact Nat.le_of_eq rfl) (hb hby at_266) rfl rfl (by decide) (by decide)
            obtain ⟨⟨z_57, rfl, hz_57⟩, rfl, eh_57⟩ := Q_57
            refine own_G.via st_57 ?_
            have N_57 := Fr.app N_27 (Fr.nil n0)
            show own_G _ _ _ _ (T_57.setTop (mkF m 269 #[.val (.int p0), .val (.int p1), .val (.int p2), .val (.int u0), .val (.int u1), .val (.int u2), .val (.int f0), .val (.int f1), .val (.int f2), .val (.int kd), .val (.int y0), .val (.int y1), .val (.int y2), .val (.ref r_1), .val (.ref a_2), .val (.ref a_14), .val (.ref a_14), .val (.int (1 : Int32)), .unset] [(.int z_57)]))
            refine own_G.go (fun t_ k_ => XS.istore X_57.here hx rfl (hb hby at_269) rfl (l' := #[.val (.int p0), .val (.int p1), .val (.int p2), .val (.int u0), .val (.int u1), .val (.int u2), .val (.int f0), .val (.int f1), .val (.int f2), .val (.int kd), .val (.int y0), .val (.int y1), .val (.int y2), .val (.ref r_1), .val (.ref a_2), .val (.ref a_14), .val (.ref a_14), .val (.int (1 : Int32)), .val (.int z_57)]) rfl k_) ?_
            show own_G _ _ _ _ (T_57.setTop (mkF m 271 #[.val (.int p0), .val (.int p1), .val (.int p2), .val (.int u0), .val (.int u1), .val (.int u2), .val (.int f0), .val (.int f1), .val (.int f2), .val (.int kd), .val (.int y0), .val (.int y1), .val (.int y2), .val (.ref r_1), .val (.ref a_2), .val (.ref a_14), .val (.ref a_14), .val (.int (1 : Int32)), .val (.int z_57)] []))
            refine own_G.go (fun t_ k_ => XS.iload X_57.here hx rfl (hb hby at_271) rfl k_) ?_
            show own_G _ _ _ _ (T_57.setTop (mkF m 273 #[.val (.int p0), .val (.int p1), .val (.int p2), .val (.int u0), .val (.int u1), .val (.int u2), .val (.int f0), .val (.int f1), .val (.int f2), .val (.int kd), .val (.int y0), .val (.int y1), .val (.int y2), .val (.ref r_1), .val (.ref a_2), .val (.ref a_14), .val (.ref a_14), .val (.int (1 : Int32)), .val (.int z_57)] [(.int z_57)]))
            refine own_G.go (fun t_ k_ => XS.iload X_57.here hx rfl (hb hby at_273) rfl k_) ?_
            show own_G _ _ _ _ (T_57.setTop (mkF m 275 #[.val (.int p0), .val (.int p1), .val (.int p2), .val (.int u0), .val (.int u1), .val (.int u2), .val (.int f0), .val (.int f1), .val (.int f2), .val (.int kd), .val (.int y0), .val (.int y1), .val (.int y2), .val (.ref r_1), .val (.ref a_2), .val (.ref a_14), .val (.ref a_14), .val (.int (1 : Int32)), .val (.int z_57)] [(.int (1 : Int32)), (.int z_57)]))
            refine own_G.go (fun t_ k_ => XS.icmpNo X_57.here hx rfl (hb hby at_275) rfl (teq (own_z1 hz_57 ⟨hv0, hv1, hv2⟩ : z_57 = (1 : Int32))).2 k_) ?_
            show own_G _ _ _ _ (T_57.setTop (mkF m 278 #[.val (.int p0), .val (.int p1), .val (.int p2), .val (.int u0), .val (.int u1), .val (.int u2), .val (.int f0), .val (.int f1), .val (.int f2), .val (.int kd), .val (.int y0), .val (.int y1), .val (.int y2), .val (.ref r_1), .val (.ref a_2), .val (.ref a_14), .val (.ref a_14), .val (.int (1 : Int32)), .val (.int z_57)] []))
            refine own_G.go (fun t_ k_ => XS.iconst X_57.here hx rfl (hb hby at_278) k_) ?_
            show own_G _ _ _ _ (T_57.setTop (mkF m 279 #[.val (.int p0), .val (.int p1), .val (.int p2), .val (.int u0), .val (.int u1), .val (.int u2), .val (.int f0), .val (.int f1), .val (.int f2), .val (.int kd), .val (.int y0), .val (.int y1), .val (.int y2), .val (.ref r_1), .val (.ref a_2), .val (.ref a_14), .val (.ref a_14), .val (.int (1 : Int32)), .val (.int z_57)] [(.int (1 : Int32))]))
            refine own_G.go (fun t_ k_ => XS.goto X_57.here hx rfl (pc0 := 279) (pc' := 283) rfl (hb hby at_279) (by decide) (by decide) k_) ?_
            show own_G _ _ _ _ (T_57.setTop (mkF m 283 #[.val (.int p0), .val (.int p1), .val (.int p2), .val (.int u0), .val (.int u1), .val (.int u2), .val (.int f0), .val (.int f1), .val (.int f2), .val (.int kd), .val (.int y0), .val (.int y1), .val (.int y2), .val (.ref r_1), .val (.ref a_2), .val (.ref a_14), .val (.ref a_14), .val (.int (1 : Int32)), .val (.int z_57)] [(.int (1 : Int32))]))
            exact own_G.endW X_57 hS_27 (Nat.le_refl _) hlk (v := (some (.int (1 : Int32)))) (fun h => by rw [hrt] at h; cases h) (fun fs hr => retN X_57 hx (z := (1 : Int32)) (t := .boolean) hrt (by simp) (hb hby at_283) hr) eh_57 ⟨rfl, N_57⟩ (by decide) (by decide)
          · refine own_G.go (fun t_ k_ => XS.icmpYes X_27.here hx rfl (pc0 := 211) (pc' := 218) rfl (hb hby at_211) rfl (feq hv2).2 (by decide) (by decide) k_) ?_
            show own_G _ _ _ _ (T_27.setTop (mkF m 218 #[.val (.int p0), .val (.int p1), .val (.int p2), .val (.int u0), .val (.int u1), .val (.int u2), .val (.int f0), .val (.int f1), .val (.int f2), .val (.int kd), .val (.int y0), .val (.int y1), .val (.int y2), .val (.ref r_1), .val (.ref a_2), .val (.ref a_14), .val (.ref a_14), .unset, .unset] []))
            refine own_G.go (fun t_ k_ => XS.iconst X_27.here hx rfl (hb hby at_218) k_) ?_
            show own_G _ _ _ _ (T_27.setTop (mkF m 219 #[.val (.int p0), .val (.int p1), .val (.int p2), .val (.int u0), .val (.int u1), .val (.int u2), .val (.int f0), .val (.int f1), .val (.int f2), .val (.int kd), .val (.int y0), .val (.int y1), .val (.int y2), .val (.ref r_1), .val (.ref a_2), .val (.ref a_14), .val (.ref a_14), .unset, .unset] [(.int (0 : Int32))]))
            refine own_G.go (fun t_ k_ => XS.istore X_27.here hx rfl (hb hby at_219) rfl (l' := #[.val (.int p0), .val (.int p1), .val (.int p2), .val (.int u0), .val (.int u1), .val (.int u2), .val (.int f0), .val (.int f1), .val (.int f2), .val (.int kd), .val (.int y0), .val (.int y1), .val (.int y2), .val (.ref r_1), .val (.ref a_2), .val (.ref a_14), .val (.ref a_14), .val (.int (0 : Int32)), .unset]) rfl k_) ?_
            show own_G _ _ _ _ (T_27.setTop (mkF m 221 #[.val (.int p0), .val (.int p1), .val (.int p2), .val (.int u0), .val (.int u1), .val (.int u2), .val (.int f0), .val (.int f1), .val (.int f2), .val (.int kd), .val (.int y0), .val (.int y1), .val (.int y2), .val (.ref r_1), .val (.ref a_2), .val (.ref a_14), .val (.ref a_14), .val (.int (0 : Int32)), .unset] []))
            refine own_G.go (fun t_ k_ => XS.goto X_27.here hx rfl (pc0 := 221) (pc' := 262) rfl (hb hby at_221) (by decide) (by decide) k_) ?_
            show own_G _ _ _ _ (T_27.setTop (mkF m 262 #[.val (.int p0), .val (.int p1), .val (.int p2), .val (.int u0), .val (.int u1), .val (.int u2), .val (.int f0), .val (.int f1), .val (.int f2), .val (.int kd), .val (.int y0), .val (.int y1), .val (.int y2), .val (.ref r_1), .val (.ref a_2), .val (.ref a_14), .val (.ref a_14), .val (.int (0 : Int32)), .unset] []))
            refine own_G.go (fun t_ k_ => XS.aload X_27.here hx rfl (hb hby at_262) rfl rfl k_) ?_
            show own_G _ _ _ _ (T_27.setTop (mkF m 264 #[.val (.int p0), .val (.int p1), .val (.int p2), .val (.int u0), .val (.int u1), .val (.int u2), .val (.int f0), .val (.int f1), .val (.int f2), .val (.int kd), .val (.int y0), .val (.int y1), .val (.int y2), .val (.ref r_1), .val (.ref a_2), .val (.ref a_14), .val (.ref a_14), .val (.int (0 : Int32)), .unset] [(.ref a_2)]))
            refine own_G.go (fun t_ k_ => XS.aload X_27.here hx rfl (hb hby at_264) rfl rfl k_) ?_
            show own_G _ _ _ _ (T_27.setTop (mkF m 266 #[.val (.int p0), .val (.int p1), .val (.int p2), .val (.int u0), .val (.int u1), .val (.int u2), .val (.int f0), .val (.int f1), .val (.int f2), .val (.int kd), .val (.int y0), .val (.int y1), .val (.int y2), .val (.ref r_1), .val (.ref a_2), .val (.ref a_14), .val (.ref a_14), .val (.int (0 : Int32)), .unset] [(.ref a_14), (.ref a_2)]))
            have Ex_13'_58 : Exa Z T_27.heap a_2 "com/example/sluis/sluis/value/Order" := (((((Ex_13.ext E_14).keep K_16).keep K_18).keep K_20).keep K_27)
            have F0_13'_59 : Fld Z T_27.heap a_2 "com/example/sluis/sluis/value/Order" "id" "Ljava/lang/String;" (.ref r_1) := (((((F0_13.ext E_14).keep K_16 nin0).keep K_18 nin0).keep K_20 nin0).keep K_27 (ninS (Nat.ne_of_lt (Nat.lt_of_lt_of_le (Nat.lt_of_lt_of_le A_2.lt (Nat.le_trans (Nat.le_trans K_4.1 K_6.1) K_13.1)) (Nat.le_of_eq g_14.symm))) nin0))
            have F1_13'_60 : Fld Z T_27.heap a_2 "com/example/sluis/sluis/value/Order" "item" "Ljava/lang/String;" (.ref r_4) := (((((F1_13.ext E_14).keep K_16 nin0).keep K_18 nin0).keep K_20 nin0).keep K_27 (ninS (Nat.ne_of_lt (Nat.lt_of_lt_of_le (Nat.lt_of_lt_of_le A_2.lt (Nat.le_trans (Nat.le_trans K_4.1 K_6.1) K_13.1)) (Nat.le_of_eq g_14.symm))) nin0))
            have F2_13'_61 : Fld Z T_27.heap a_2 "com/example/sluis/sluis/value/Order" "buyer" "Ljava/lang/String;" (.ref r_6) := (((((F2_13.ext E_14).keep K_16 nin0).keep K_18 nin0).keep K_20 nin0).keep K_27 (ninS (Nat.ne_of_lt (Nat.lt_of_lt_of_le (Nat.lt_of_lt_of_le A_2.lt (Nat.le_trans (Nat.le_trans K_4.1 K_6.1) K_13.1)) (Nat.le_of_eq g_14.symm))) nin0))
            have Ex_1'_62 : Exa Z T_27.heap r_1 "java/lang/String" := ((((((Ex_1'_11.keep K_13).ext E_14).keep K_16).keep K_18).keep K_20).keep K_27)
            have Fc_1'_63 : Fld Z T_27.heap r_1 "java/lang/String" "coder" "B" (.int 0) := (((((((((Fc_1.ext E_2).keep K_4 nin0).keep K_6 nin0).keep K_13 (ninS (Nat.ne_of_lt (Nat.lt_of_lt_of_le Ex_1.lt (Nat.le_of_eq g_2.symm))) nin0)).ext E_14).keep K_16 nin0).keep K_18 nin0).keep K_20 nin0).keep K_27 (ninS (Nat.ne_of_lt (Nat.lt_of_lt_of_le (Nat.lt_of_lt_of_le Ex_1.lt (Nat.le_trans (Nat.le_trans (Nat.le_trans E_2.1 K_4.1) K_6.1) K_13.1)) (Nat.le_of_eq g_14.symm))) nin0))
            have Fv_1'_64 : Fld Z T_27.heap r_1 "java/lang/String" "value" "[B" (.ref t_1) := (((((((((Fv_1.ext E_2).keep K_4 nin0).keep K_6 nin0).keep K_13 (ninS (Nat.ne_of_lt (Nat.lt_of_lt_of_le Ex_1.lt (Nat.le_of_eq g_2.symm))) nin0)).ext E_14).keep K_16 nin0).keep K_18 nin0).keep K_20 nin0).keep K_27 (ninS (Nat.ne_of_lt (Nat.lt_of_lt_of_le (Nat.lt_of_lt_of_le Ex_1.lt (Nat.le_trans (Nat.le_trans (Nat.le_trans E_2.1 K_4.1) K_6.1) K_13.1)) (Nat.le_of_eq g_14.symm))) nin0))
            have Kb_1'_65 : Arv Z T_27.heap t_1 kb_1 .byte (1 : Int32) ((([u0] : List Int32).map (fun c => c.toInt8.toInt32)).map Value.int) (.int 0) := (((((((((Kb_1.ext E_2).keep K_4 nin0).keep K_6 nin0).keep K_13 (ninS (Nat.ne_of_lt (Nat.lt_of_lt_of_le Kb_1.lt (Nat.le_of_eq g_2.symm))) nin0)).ext E_14).keep K_16 nin0).keep K_18 nin0).keep K_20 nin0).keep K_27 (ninS (Nat.ne_of_lt (Nat.lt_of_lt_of_le (Nat.lt_of_lt_of_le Kb_1.lt (Nat.le_trans (Nat.le_trans (Nat.le_trans E_2.1 K_4.1) K_6.1) K_13.1)) (Nat.le_of_eq g_14.symm))) nin0))
            have Ex_4'_66 : Exa Z T_27.heap r_4 "java/lang/String" := ((((((Ex_4'_12.keep K_13).ext E_14).keep K_16).keep K_18).keep K_20).keep K_27)
            have Fc_4'_67 : Fld Z T_27.heap r_4 "java/lang/String" "coder" "B" (.int 0) := (((((((Fc_4.keep K_6 nin0).keep K_13 (ninS (Ne.symm (Nat.ne_of_lt (Nat.lt_of_lt_of_le A_2.lt lr_4))) nin0)).ext E_14).keep K_16 nin0).keep K_18 nin0).keep K_20 nin0).keep K_27 (ninS (Nat.ne_of_lt (Nat.lt_of_lt_of_le (Nat.lt_of_lt_of_le Ex_4.lt (Nat.le_trans K_6.1 K_13.1)) (Nat.le_of_eq g_14.symm))) nin0))
            have Fv_4'_68 : Fld Z T_27.heap r_4 "java/lang/String" "value" "[B" (.ref t_4) := (((((((Fv_4.keep K_6 nin0).keep K_13 (ninS (Ne.symm (Nat.ne_of_lt (Nat.lt_of_lt_of_le A_2.lt lr_4))) nin0)).ext E_14).keep K_16 nin0).keep K_18 nin0).keep K_20 nin0).keep K_27 (ninS (Nat.ne_of_lt (Nat.lt_of_lt_of_le (Nat.lt_of_lt_of_le Ex_4.lt (Nat.le_trans K_6.1 K_13.1)) (Nat.le_of_eq g_14.symm))) nin0))
            have Kb_4'_69 : Arv Z T_27.heap t_4 kb_4 .byte (1 : Int32) ((([u1] : List Int32).map (fun c => c.toInt8.toInt32)).map Value.int) (.int 0) := (((((((Kb_4.keep K_6 nin0).keep K_13 (ninS (Ne.symm (Nat.ne_of_lt (Nat.lt_of_lt_of_le A_2.lt lt_4))) nin0)).ext E_14).keep K_16 nin0).keep K_18 nin0).keep K_20 nin0).keep K_27 (ninS (Nat.ne_of_lt (Nat.lt_of_lt_of_le (Nat.lt_of_lt_of_le Kb_4.lt (Nat.le_trans K_6.1 K_13.1)) (Nat.le_of_eq g_14.symm))) nin0))
            have Ex_6'_70 : Exa Z T_27.heap r_6 "java/lang/String" := ((((((Ex_6.keep K_13).ext E_14).keep K_16).keep K_18).keep K_20).keep K_27)
            have Fc_6'_71 : Fld Z T_27.heap r_6 "java/lang/String" "coder" "B" (.int 0) := ((((((Fc_6.keep K_13 (ninS (Ne.symm (Nat.ne_of_lt (Nat.lt_of_lt_of_le (Nat.lt_of_lt_of_le A_2.lt K_4.1) lr_6))) nin0)).ext E_14).keep K_16 nin0).keep K_18 nin0).keep K_20 nin0).keep K_27 (ninS (Nat.ne_of_lt (Nat.lt_of_lt_of_le (Nat.lt_of_lt_of_le Ex_6.lt K_13.1) (Nat.le_of_eq g_14.symm))) nin0))
            have Fv_6'_72 : Fld Z T_27.heap r_6 "java/lang/String" "value" "[B" (.ref t_6) := ((((((Fv_6.keep K_13 (ninS (Ne.symm (Nat.ne_of_lt (Nat.lt_of_lt_of_le (Nat.lt_of_lt_of_le A_2.lt K_4.1) lr_6))) nin0)).ext E_14).keep K_16 nin0).keep K_18 nin0).keep K_20 nin0).keep K_27 (ninS (Nat.ne_of_lt (Nat.lt_of_lt_of_le (Nat.lt_of_lt_of_le Ex_6.lt K_13.1) (Nat.le_of_eq g_14.symm))) nin0))
            have Kb_6'_73 : Arv Z T_27.heap t_6 kb_6 .byte (1 : Int32) ((([u2] : List Int32).map (fun c => c.toInt8.toInt32)).map Value.int) (.int 0) := ((((((Kb_6.keep K_13 (ninS (Ne.symm (Nat.ne_of_lt (Nat.lt_of_lt_of_le (Nat.lt_of_lt_of_le A_2.lt K_4.1) lt_6))) nin0)).ext E_14).keep K_16 nin0).keep K_18 nin0).keep K_20 nin0).keep K_27 (ninS (Nat.ne_of_lt (Nat.lt_of_lt_of_le (Nat.lt_of_lt_of_le Kb_6.lt K_13.1) (Nat.le_of_eq g_14.symm))) nin0))
            have Ex_16'_74 : Exa Z T_27.heap r_16 "java/lang/String" := (Ex_16'_25.keep K_27)
            have Fc_16'_75 : Fld Z T_27.heap r_16 "java/lang/String" "coder" "B" (.int 0) := (((Fc_16.keep K_18 nin0).keep K_20 nin0).keep K_27 (ninS (Ne.symm (Nat.ne_of_lt (Nat.lt_of_lt_of_le A_14.lt lr_16))) nin0))
            have Fv_16'_76 : Fld Z T_27.heap r_16 "java/lang/String" "value" "[B" (.ref t_16) := (((Fv_16.keep K_18 nin0).keep K_20 nin0).keep K_27 (ninS (Ne.symm (Nat.ne_of_lt (Nat.lt_of_lt_of_le A_14.lt lr_16))) nin0))
            have Kb_16'_77 : Arv Z T_27.heap t_16 kb_16 .byte (1 : Int32) ((([y0] : List Int32).map (fun c => c.toInt8.toInt32)).map Value.int) (.int 0) := (((Kb_16.keep K_18 nin0).keep K_20 nin0).keep K_27 (ninS (Ne.symm (Nat.ne_of_lt (Nat.lt_of_lt_of_le A_14.lt lt_16))) nin0))
            have Ex_18'_78 : Exa Z T_27.heap r_18 "java/lang/String" := (Ex_18'_26.keep K_27)
            have Fc_18'_79 : Fld Z T_27.heap r_18 "java/lang/String" "coder" "B" (.int 0) := ((Fc_18.keep K_20 nin0).keep K_27 (ninS (Ne.symm (Nat.ne_of_lt (Nat.lt_of_lt_of_le (Nat.lt_of_lt_of_le A_14.lt K_16.1) lr_18))) nin0))
            have Fv_18'_80 : Fld Z T_27.heap r_18 "java/lang/String" "value" "[B" (.ref t_18) := ((Fv_18.keep K_20 nin0).keep K_27 (ninS (Ne.symm (Nat.ne_of_lt (Nat.lt_of_lt_of_le (Nat.lt_of_lt_of_le A_14.lt K_16.1) lr_18))) nin0))
            have Kb_18'_81 : Arv Z T_27.heap t_18 kb_18 .byte (1 : Int32) ((([y1] : List Int32).map (fun c => c.toInt8.toInt32)).map Value.int) (.int 0) := ((Kb_18.keep K_20 nin0).keep K_27 (ninS (Ne.symm (Nat.ne_of_lt (Nat.lt_of_lt_of_le (Nat.lt_of_lt_of_le A_14.lt K_16.1) lt_18))) nin0))
            have Ex_20'_82 : Exa Z T_27.heap r_20 "java/lang/String" := (Ex_20.keep K_27)
            have Fc_20'_83 : Fld Z T_27.heap r_20 "java/lang/String" "coder" "B" (.int 0) := (Fc_20.keep K_27 (ninS (Ne.symm (Nat.ne_of_lt (Nat.lt_of_lt_of_le (Nat.lt_of_lt_of_le A_14.lt (Nat.le_trans K_16.1 K_18.1)) lr_20))) nin0))
            have Fv_20'_84 : Fld Z T_27.heap r_20 "java/lang/String" "value" "[B" (.ref t_20) := (Fv_20.keep K_27 (ninS (Ne.symm (Nat.ne_of_lt (Nat.lt_of_lt_of_le (Nat.lt_of_lt_of_le A_14.lt (Nat.le_trans K_16.1 K_18.1)) lr_20))) nin0))
            have Kb_20'_85 : Arv Z T_27.heap t_20 kb_20 .byte (1 : Int32) ((([y2] : List Int32).map (fun c => c.toInt8.toInt32)).map Value.int) (.int 0) := (Kb_20.keep K_27 (ninS (Ne.symm (Nat.ne_of_lt (Nat.lt_of_lt_of_le (Nat.lt_of_lt_of_le A_14.lt (Nat.le_trans K_16.1 K_18.1)) lt_20))) nin0))
            have O_86d : Old Z n0 T_27.heap := ((O_19d.keep K_20 all0).keep K_27 (allS g0_a_14 all0))
            obtain ⟨cq_87, kq_87, q_87a, q_87b, q_87c⟩ := isOf hZ_27 rfl Ex_13'_58
            obtain ⟨_, T_87, L_87, Q_87, X_87, st_87⟩ := own_callV X_27 hx (z := (⟨"com/example/sluis/sluis/value/Order", "equals", "(Ljava/lang/Object;)Z"⟩ : MethodName)) hown_27 (mvT hZ_27 (own_w hw 57 rfl)) (mvT hZ_27 (own_w hw 58 rfl)) (notFace_of_selects (args := #[]) (mvT hZ_27 (own_w hw 60 rfl))) (mvT hZ_27 (own_w hw 60 rfl)) (mvT hZ_27 (own_w hw 59 rfl)) (by decide) (Q := (Qeq (u0 = y0 ∧ u1 = y1 ∧ u2 = y2) T_27.heap)) (backOf (W := 0) (rm_eqO l Z a0 hw [] a_2 a_14 r_1 r_4 r_6 r_16 r_18 r_20 t_1 t_4 t_6 t_16 t_18 t_20 kb_1 kb_4 kb_6 kb_16 kb_18 kb_20 u0 u1 u2 y0 y1 y2 zc T_27.heap n0 (Nat.le_trans Z0 (Nat.le_trans (Nat.le_trans (Nat.le_trans (Nat.le_trans (Nat.le_trans (Nat.le_trans (Nat.le_trans (Nat.le_trans (Nat.le_trans K_1.1 E_2.1) K_4.1) K_6.1) K_13.1) E_14.1) K_16.1) K_18.1) K_20.1) K_27.1)) Ex_13'_58 Ex_27 F0_13'_59 F1_13'_60 F2_13'_61 F0_27 F1_27 F2_27 Ex_1'_62 Fc_1'_63 Fv_1'_64 Kb_1'_65 h_u0 Ex_4'_66 Fc_4'_67 Fv_4'_68 Kb_4'_69 h_u1 Ex_6'_70 Fc_6'_71 Fv_6'_72 Kb_6'_73 h_u2 Ex_16'_74 Fc_16'_75 Fv_16'_76 Kb_16'_77 h_y0 Ex_18'_78 Fc_18'_79 Fv_18'_80 Kb_18'_81 h_y1 Ex_20'_82 Fc_20'_83 Fv_20'_84 Kb_20'_85 h_y2 O2 P5 O_86d) hZ_27 (own_w hw 61 rfl) (own_w hw 36 rfl) (by decide) (by decide)) q_87a q_87c (g := (mkF m 266 #[.val (.int p0), .val (.int p1), .val (.int p2), .val (.int u0), .val (.int u1), .val (.int u2), .val (.int f0), .val (.int f1), .val (.int f2), .val (.int kd), .val (.int y0), .val (.int y1), .val (.int y2), .val (.ref r_1), .val (.ref a_2), .val (.ref a_14), .val (.ref a_14), .val (.int (0 : Int32)), .unset] [(.ref a_14), (.ref a_2)])) rfl (by rw [hml]; rfl) (argsL := [(.ref a_14)]) (rest := []) (lenOf pd_3 rfl) rfl (by show 2 * 0 + _ ≤ _; exact Nat.le_of_eq rfl) (hb hby at_266) rfl rfl (by decide) (by decide)
            obtain ⟨⟨z_87, rfl, hz_87⟩, rfl, eh_87⟩ := Q_87
            refine own_G.via st_87 ?_
            have N_87 := Fr.app N_27 (Fr.nil n0)
            show own_G _ _ _ _ (T_87.setTop (mkF m 269 #[.val (.int p0), .val (.int p1), .val (.int p2), .val (.int u0), .val (.int u1), .val (.int u2), .val (.int f0), .val (.int f1), .val (.int f2), .val (.int kd), .val (.int y0), .val (.int y1), .val (.int y2), .val (.ref r_1), .val (.ref a_2), .val (.ref a_14), .val (.ref a_14), .val (.int (0 : Int32)), .unset] [(.int z_87)]))
            refine own_G.go (fun t_ k_ => XS.istore X_87.here hx rfl (hb hby at_269) rfl (l' := #[.val (.int p0), .val (.int p1), .val (.int p2), .val (.int u0), .val (.int u1), .val (.int u2), .val (.int f0), .val (.int f1), .val (.int f2), .val (.int kd), .val (.int y0), .val (.int y1), .val (.int y2), .val (.ref r_1), .val (.ref a_2), .val (.ref a_14), .val (.ref a_14), .val (.int (0 : Int32)), .val (.int z_87)]) rfl k_) ?_
            show own_G _ _ _ _ (T_87.setTop (mkF m 271 #[.val (.int p0), .val (.int p1), .val (.int p2), .val (.int u0), .val (.int u1), .val (.int u2), .val (.int f0), .val (.int f1), .val (.int f2), .val (.int kd), .val (.int y0), .val (.int y1), .val (.int y2), .val (.ref r_1), .val (.ref a_2), .val (.ref a_14), .val (.ref a_14), .val (.int (0 : Int32)), .val (.int z_87)] []))
            refine own_G.go (fun t_ k_ => XS.iload X_87.here hx rfl (hb hby at_271) rfl k_) ?_
            show own_G _ _ _ _ (T_87.setTop (mkF m 273 #[.val (.int p0), .val (.int p1), .val (.int p2), .val (.int u0), .val (.int u1), .val (.int u2), .val (.int f0), .val (.int f1), .val (.int f2), .val (.int kd), .val (.int y0), .val (.int y1), .val (.int y2), .val (.ref r_1), .val (.ref a_2), .val (.ref a_14), .val (.ref a_14), .val (.int (0 : Int32)), .val (.int z_87)] [(.int z_87)]))
            refine own_G.go (fun t_ k_ => XS.iload X_87.here hx rfl (hb hby at_273) rfl k_) ?_
            show own_G _ _ _ _ (T_87.setTop (mkF m 275 #[.val (.int p0), .val (.int p1), .val (.int p2), .val (.int u0), .val (.int u1), .val (.int u2), .val (.int f0), .val (.int f1), .val (.int f2), .val (.int kd), .val (.int y0), .val (.int y1), .val (.int y2), .val (.ref r_1), .val (.ref a_2), .val (.ref a_14), .val (.ref a_14), .val (.int (0 : Int32)), .val (.int z_87)] [(.int (0 : Int32)), (.int z_87)]))
            refine own_G.go (fun t_ k_ => XS.icmpNo X_87.here hx rfl (hb hby at_275) rfl (teq (own_z0 hz_87 (fun q => by first | exact hv2 q.2.2 | exact hv1 q.2.1 | exact hv0 q.1) : z_87 = (0 : Int32))).2 k_) ?_
            show own_G _ _ _ _ (T_87.setTop (mkF m 278 #[.val (.int p0), .val (.int p1), .val (.int p2), .val (.int u0), .val (.int u1), .val (.int u2), .val (.int f0), .val (.int f1), .val (.int f2), .val (.int kd), .val (.int y0), .val (.int y1), .val (.int y2), .val (.ref r_1), .val (.ref a_2), .val (.ref a_14), .val (.ref a_14), .val (.int (0 : Int32)), .val (.int z_87)] []))
            refine own_G.go (fun t_ k_ => XS.iconst X_87.here hx rfl (hb hby at_278) k_) ?_
            show own_G _ _ _ _ (T_87.setTop (mkF m 279 #[.val (.int p0), .val (.int p1), .val (.int p2), .val (.int u0), .val (.int u1), .val (.int u2), .val (.int f0), .val (.int f1), .val (.int f2), .val (.int kd), .val (.int y0), .val (.int y1), .val (.int y2), .val (.ref r_1), .val (.ref a_2), .val (.ref a_14), .val (.ref a_14), .val (.int (0 : Int32)), .val (.int z_87)] [(.int (1 : Int32))]))
            refine own_G.go (fun t_ k_ => XS.goto X_87.here hx rfl (pc0 := 279) (pc' := 283) rfl (hb hby at_279) (by decide) (by decide) k_) ?_
            show own_G _ _ _ _ (T_87.setTop (mkF m 283 #[.val (.int p0), .val (.int p1), .val (.int p2), .val (.int u0), .val (.int u1), .val (.int u2), .val (.int f0), .val (.int f1), .val (.int f2), .val (.int kd), .val (.int y0), .val (.int y1), .val (.int y2), .val (.ref r_1), .val (.ref a_2), .val (.ref a_14), .val (.ref a_14), .val (.int (0 : Int32)), .val (.int z_87)] [(.int (1 : Int32))]))
            exact own_G.endW X_87 hS_27 (Nat.le_refl _) hlk (v := (some (.int (1 : Int32)))) (fun h => by rw [hrt] at h; cases h) (fun fs hr => retN X_87 hx (z := (1 : Int32)) (t := .boolean) hrt (by simp) (hb hby at_283) hr) eh_87 ⟨rfl, N_87⟩ (by decide) (by decide)
        · refine own_G.go (fun t_ k_ => XS.icmpYes X_27.here hx rfl (pc0 := 204) (pc' := 218) rfl (hb hby at_204) rfl (feq hv1).2 (by decide) (by decide) k_) ?_
          show own_G _ _ _ _ (T_27.setTop (mkF m 218 #[.val (.int p0), .val (.int p1), .val (.int p2), .val (.int u0), .val (.int u1), .val (.int u2), .val (.int f0), .val (.int f1), .val (.int f2), .val (.int kd), .val (.int y0), .val (.int y1), .val (.int y2), .val (.ref r_1), .val (.ref a_2), .val (.ref a_14), .val (.ref a_14), .unset, .unset] []))
          refine own_G.go (fun t_ k_ => XS.iconst X_27.here hx rfl (hb hby at_218) k_) ?_
          show own_G _ _ _ _ (T_27.setTop (mkF m 219 #[.val (.int p0), .val (.int p1), .val (.int p2), .val (.int u0), .val (.int u1), .val (.int u2), .val (.int f0), .val (.int f1), .val (.int f2), .val (.int kd), .val (.int y0), .val (.int y1), .val (.int y2), .val (.ref r_1), .val (.ref a_2), .val (.ref a_14), .val (.ref a_14), .unset, .unset] [(.int (0 : Int32))]))
          refine own_G.go (fun t_ k_ => XS.istore X_27.here hx rfl (hb hby at_219) rfl (l' := #[.val (.int p0), .val (.int p1), .val (.int p2), .val (.int u0), .val (.int u1), .val (.int u2), .val (.int f0), .val (.int f1), .val (.int f2), .val (.int kd), .val (.int y0), .val (.int y1), .val (.int y2), .val (.ref r_1), .val (.ref a_2), .val (.ref a_14), .val (.ref a_14), .val (.int (0 : Int32)), .unset]) rfl k_) ?_
          show own_G _ _ _ _ (T_27.setTop (mkF m 221 #[.val (.int p0), .val (.int p1), .val (.int p2), .val (.int u0), .val (.int u1), .val (.int u2), .val (.int f0), .val (.int f1), .val (.int f2), .val (.int kd), .val (.int y0), .val (.int y1), .val (.int y2), .val (.ref r_1), .val (.ref a_2), .val (.ref a_14), .val (.ref a_14), .val (.int (0 : Int32)), .unset] []))
          refine own_G.go (fun t_ k_ => XS.goto X_27.here hx rfl (pc0 := 221) (pc' := 262) rfl (hb hby at_221) (by decide) (by decide) k_) ?_
          show own_G _ _ _ _ (T_27.setTop (mkF m 262 #[.val (.int p0), .val (.int p1), .val (.int p2), .val (.int u0), .val (.int u1), .val (.int u2), .val (.int f0), .val (.int f1), .val (.int f2), .val (.int kd), .val (.int y0), .val (.int y1), .val (.int y2), .val (.ref r_1), .val (.ref a_2), .val (.ref a_14), .val (.ref a_14), .val (.int (0 : Int32)), .unset] []))
          refine own_G.go (fun t_ k_ => XS.aload X_27.here hx rfl (hb hby at_262) rfl rfl k_) ?_
          show own_G _ _ _ _ (T_27.setTop (mkF m 264 #[.val (.int p0), .val (.int p1), .val (.int p2), .val (.int u0), .val (.int u1), .val (.int u2), .val (.int f0), .val (.int f1), .val (.int f2), .val (.int kd), .val (.int y0), .val (.int y1), .val (.int y2), .val (.ref r_1), .val (.ref a_2), .val (.ref a_14), .val (.ref a_14), .val (.int (0 : Int32)), .unset] [(.ref a_2)]))
          refine own_G.go (fun t_ k_ => XS.aload X_27.here hx rfl (hb hby at_264) rfl rfl k_) ?_
          show own_G _ _ _ _ (T_27.setTop (mkF m 266 #[.val (.int p0), .val (.int p1), .val (.int p2), .val (.int u0), .val (.int u1), .val (.int u2), .val (.int f0), .val (.int f1), .val (.int f2), .val (.int kd), .val (.int y0), .val (.int y1), .val (.int y2), .val (.ref r_1), .val (.ref a_2), .val (.ref a_14), .val (.ref a_14), .val (.int (0 : Int32)), .unset] [(.ref a_14), (.ref a_2)]))
          have Ex_13'_88 : Exa Z T_27.heap a_2 "com/example/sluis/sluis/value/Order" := (((((Ex_13.ext E_14).keep K_16).keep K_18).keep K_20).keep K_27)
          have F0_13'_89 : Fld Z T_27.heap a_2 "com/example/sluis/sluis/value/Order" "id" "Ljava/lang/String;" (.ref r_1) := (((((F0_13.ext E_14).keep K_16 nin0).keep K_18 nin0).keep K_20 nin0).keep K_27 (ninS (Nat.ne_of_lt (Nat.lt_of_lt_of_le (Nat.lt_of_lt_of_le A_2.lt (Nat.le_trans (Nat.le_trans K_4.1 K_6.1) K_13.1)) (Nat.le_of_eq g_14.symm))) nin0))
          have F1_13'_90 : Fld Z T_27.heap a_2 "com/example/sluis/sluis/value/Order" "item" "Ljava/lang/String;" (.ref r_4) := (((((F1_13.ext E_14).keep K_16 nin0).keep K_18 nin0).keep K_20 nin0).keep K_27 (ninS (Nat.ne_of_lt (Nat.lt_of_lt_of_le (Nat.lt_of_lt_of_le A_2.lt (Nat.le_trans (Nat.le_trans K_4.1 K_6.1) K_13.1)) (Nat.le_of_eq g_14.symm))) nin0))
          have F2_13'_91 : Fld Z T_27.heap a_2 "com/example/sluis/sluis/value/Order" "buyer" "Ljava/lang/String;" (.ref r_6) := (((((F2_13.ext E_14).keep K_16 nin0).keep K_18 nin0).keep K_20 nin0).keep K_27 (ninS (Nat.ne_of_lt (Nat.lt_of_lt_of_le (Nat.lt_of_lt_of_le A_2.lt (Nat.le_trans (Nat.le_trans K_4.1 K_6.1) K_13.1)) (Nat.le_of_eq g_14.symm))) nin0))
          have Ex_1'_92 : Exa Z T_27.heap r_1 "java/lang/String" := ((((((Ex_1'_11.keep K_13).ext E_14).keep K_16).keep K_18).keep K_20).keep K_27)
          have Fc_1'_93 : Fld Z T_27.heap r_1 "java/lang/String" "coder" "B" (.int 0) := (((((((((Fc_1.ext E_2).keep K_4 nin0).keep K_6 nin0).keep K_13 (ninS (Nat.ne_of_lt (Nat.lt_of_lt_of_le Ex_1.lt (Nat.le_of_eq g_2.symm))) nin0)).ext E_14).keep K_16 nin0).keep K_18 nin0).keep K_20 nin0).keep K_27 (ninS (Nat.ne_of_lt (Nat.lt_of_lt_of_le (Nat.lt_of_lt_of_le Ex_1.lt (Nat.le_trans (Nat.le_trans (Nat.le_trans E_2.1 K_4.1) K_6.1) K_13.1)) (Nat.le_of_eq g_14.symm))) nin0))
          have Fv_1'_94 : Fld Z T_27.heap r_1 "java/lang/String" "value" "[B" (.ref t_1) := (((((((((Fv_1.ext E_2).keep K_4 nin0).keep K_6 nin0).keep K_13 (ninS (Nat.ne_of_lt (Nat.lt_of_lt_of_le Ex_1.lt (Nat.le_of_eq g_2.symm))) nin0)).ext E_14).keep K_16 nin0).keep K_18 nin0).keep K_20 nin0).keep K_27 (ninS (Nat.ne_of_lt (Nat.lt_of_lt_of_le (Nat.lt_of_lt_of_le Ex_1.lt (Nat.le_trans (Nat.le_trans (Nat.le_trans E_2.1 K_4.1) K_6.1) K_13.1)) (Nat.le_of_eq g_14.symm))) nin0))
          have Kb_1'_95 : Arv Z T_27.heap t_1 kb_1 .byte (1 : Int32) ((([u0] : List Int32).map (fun c => c.toInt8.toInt32)).map Value.int) (.int 0) := (((((((((Kb_1.ext E_2).keep K_4 nin0).keep K_6 nin0).keep K_13 (ninS (Nat.ne_of_lt (Nat.lt_of_lt_of_le Kb_1.lt (Nat.le_of_eq g_2.symm))) nin0)).ext E_14).keep K_16 nin0).keep K_18 nin0).keep K_20 nin0).keep K_27 (ninS (Nat.ne_of_lt (Nat.lt_of_lt_of_le (Nat.lt_of_lt_of_le Kb_1.lt (Nat.le_trans (Nat.le_trans (Nat.le_trans E_2.1 K_4.1) K_6.1) K_13.1)) (Nat.le_of_eq g_14.symm))) nin0))
          have Ex_4'_96 : Exa Z T_27.heap r_4 "java/lang/String" := ((((((Ex_4'_12.keep K_13).ext E_14).keep K_16).keep K_18).keep K_20).keep K_27)
          have Fc_4'_97 : Fld Z T_27.heap r_4 "java/lang/String" "coder" "B" (.int 0) := (((((((Fc_4.keep K_6 nin0).keep K_13 (ninS (Ne.symm (Nat.ne_of_lt (Nat.lt_of_lt_of_le A_2.lt lr_4))) nin0)).ext E_14).keep K_16 nin0).keep K_18 nin0).keep K_20 nin0).keep K_27 (ninS (Nat.ne_of_lt (Nat.lt_of_lt_of_le (Nat.lt_of_lt_of_le Ex_4.lt (Nat.le_trans K_6.1 K_13.1)) (Nat.le_of_eq g_14.symm))) nin0))
          have Fv_4'_98 : Fld Z T_27.heap r_4 "java/lang/String" "value" "[B" (.ref t_4) := (((((((Fv_4.keep K_6 nin0).keep K_13 (ninS (Ne.symm (Nat.ne_of_lt (Nat.lt_of_lt_of_le A_2.lt lr_4))) nin0)).ext E_14).keep K_16 nin0).keep K_18 nin0).keep K_20 nin0).keep K_27 (ninS (Nat.ne_of_lt (Nat.lt_of_lt_of_le (Nat.lt_of_lt_of_le Ex_4.lt (Nat.le_trans K_6.1 K_13.1)) (Nat.le_of_eq g_14.symm))) nin0))
          have Kb_4'_99 : Arv Z T_27.heap t_4 kb_4 .byte (1 : Int32) ((([u1] : List Int32).map (fun c => c.toInt8.toInt32)).map Value.int) (.int 0) := (((((((Kb_4.keep K_6 nin0).keep K_13 (ninS (Ne.symm (Nat.ne_of_lt (Nat.lt_of_lt_of_le A_2.lt lt_4))) nin0)).ext E_14).keep K_16 nin0).keep K_18 nin0).keep K_20 nin0).keep K_27 (ninS (Nat.ne_of_lt (Nat.lt_of_lt_of_le (Nat.lt_of_lt_of_le Kb_4.lt (Nat.le_trans K_6.1 K_13.1)) (Nat.le_of_eq g_14.symm))) nin0))
          have Ex_6'_100 : Exa Z T_27.heap r_6 "java/lang/String" := ((((((Ex_6.keep K_13).ext E_14).keep K_16).keep K_18).keep K_20).keep K_27)
          have Fc_6'_101 : Fld Z T_27.heap r_6 "java/lang/String" "coder" "B" (.int 0) := ((((((Fc_6.keep K_13 (ninS (Ne.symm (Nat.ne_of_lt (Nat.lt_of_lt_of_le (Nat.lt_of_lt_of_le A_2.lt K_4.1) lr_6))) nin0)).ext E_14).keep K_16 nin0).keep K_18 nin0).keep K_20 nin0).keep K_27 (ninS (Nat.ne_of_lt (Nat.lt_of_lt_of_le (Nat.lt_of_lt_of_le Ex_6.lt K_13.1) (Nat.le_of_eq g_14.symm))) nin0))
          have Fv_6'_102 : Fld Z T_27.heap r_6 "java/lang/String" "value" "[B" (.ref t_6) := ((((((Fv_6.keep K_13 (ninS (Ne.symm (Nat.ne_of_lt (Nat.lt_of_lt_of_le (Nat.lt_of_lt_of_le A_2.lt K_4.1) lr_6))) nin0)).ext E_14).keep K_16 nin0).keep K_18 nin0).keep K_20 nin0).keep K_27 (ninS (Nat.ne_of_lt (Nat.lt_of_lt_of_le (Nat.lt_of_lt_of_le Ex_6.lt K_13.1) (Nat.le_of_eq g_14.symm))) nin0))
          have Kb_6'_103 : Arv Z T_27.heap t_6 kb_6 .byte (1 : Int32) ((([u2] : List Int32).map (fun c => c.toInt8.toInt32)).map Value.int) (.int 0) := ((((((Kb_6.keep K_13 (ninS (Ne.symm (Nat.ne_of_lt (Nat.lt_of_lt_of_le (Nat.lt_of_lt_of_le A_2.lt K_4.1) lt_6))) nin0)).ext E_14).keep K_16 nin0).keep K_18 nin0).keep K_20 nin0).keep K_27 (ninS (Nat.ne_of_lt (Nat.lt_of_lt_of_le (Nat.lt_of_lt_of_le Kb_6.lt K_13.1) (Nat.le_of_eq g_14.symm))) nin0))
          have Ex_16'_104 : Exa Z T_27.heap r_16 "java/lang/String" := (Ex_16'_25.keep K_27)
          have Fc_16'_105 : Fld Z T_27.heap r_16 "java/lang/String" "coder" "B" (.int 0) := (((Fc_16.keep K_18 nin0).keep K_20 nin0).keep K_27 (ninS (Ne.symm (Nat.ne_of_lt (Nat.lt_of_lt_of_le A_14.lt lr_16))) nin0))
          have Fv_16'_106 : Fld Z T_27.heap r_16 "java/lang/String" "value" "[B" (.ref t_16) := (((Fv_16.keep K_18 nin0).keep K_20 nin0).keep K_27 (ninS (Ne.symm (Nat.ne_of_lt (Nat.lt_of_lt_of_le A_14.lt lr_16))) nin0))
          have Kb_16'_107 : Arv Z T_27.heap t_16 kb_16 .byte (1 : Int32) ((([y0] : List Int32).map (fun c => c.toInt8.toInt32)).map Value.int) (.int 0) := (((Kb_16.keep K_18 nin0).keep K_20 nin0).keep K_27 (ninS (Ne.symm (Nat.ne_of_lt (Nat.lt_of_lt_of_le A_14.lt lt_16))) nin0))
          have Ex_18'_108 : Exa Z T_27.heap r_18 "java/lang/String" := (Ex_18'_26.keep K_27)
          have Fc_18'_109 : Fld Z T_27.heap r_18 "java/lang/String" "coder" "B" (.int 0) := ((Fc_18.keep K_20 nin0).keep K_27 (ninS (Ne.symm (Nat.ne_of_lt (Nat.lt_of_lt_of_le (Nat.lt_of_lt_of_le A_14.lt K_16.1) lr_18))) nin0))
          have Fv_18'_110 : Fld Z T_27.heap r_18 "java/lang/String" "value" "[B" (.ref t_18) := ((Fv_18.keep K_20 nin0).keep K_27 (ninS (Ne.symm (Nat.ne_of_lt (Nat.lt_of_lt_of_le (Nat.lt_of_lt_of_le A_14.lt K_16.1) lr_18))) nin0))
          have Kb_18'_111 : Arv Z T_27.heap t_18 kb_18 .byte (1 : Int32) ((([y1] : List Int32).map (fun c => c.toInt8.toInt32)).map Value.int) (.int 0) := ((Kb_18.keep K_20 nin0).keep K_27 (ninS (Ne.symm (Nat.ne_of_lt (Nat.lt_of_lt_of_le (Nat.lt_of_lt_of_le A_14.lt K_16.1) lt_18))) nin0))
          have Ex_20'_112 : Exa Z T_27.heap r_20 "java/lang/String" := (Ex_20.keep K_27)
          have Fc_20'_113 : Fld Z T_27.heap r_20 "java/lang/String" "coder" "B" (.int 0) := (Fc_20.keep K_27 (ninS (Ne.symm (Nat.ne_of_lt (Nat.lt_of_lt_of_le (Nat.lt_of_lt_of_le A_14.lt (Nat.le_trans K_16.1 K_18.1)) lr_20))) nin0))
          have Fv_20'_114 : Fld Z T_27.heap r_20 "java/lang/String" "value" "[B" (.ref t_20) := (Fv_20.keep K_27 (ninS (Ne.symm (Nat.ne_of_lt (Nat.lt_of_lt_of_le (Nat.lt_of_lt_of_le A_14.lt (Nat.le_trans K_16.1 K_18.1)) lr_20))) nin0))
          have Kb_20'_115 : Arv Z T_27.heap t_20 kb_20 .byte (1 : Int32) ((([y2] : List Int32).map (fun c => c.toInt8.toInt32)).map Value.int) (.int 0) := (Kb_20.keep K_27 (ninS (Ne.symm (Nat.ne_of_lt (Nat.lt_of_lt_of_le (Nat.lt_of_lt_of_le A_14.lt (Nat.le_trans K_16.1 K_18.1)) lt_20))) nin0))
          have O_116d : Old Z n0 T_27.heap := ((O_19d.keep K_20 all0).keep K_27 (allS g0_a_14 all0))
          obtain ⟨cq_117, kq_117, q_117a, q_117b, q_117c⟩ := isOf hZ_27 rfl Ex_13'_88
          obtain ⟨_, T_117, L_117, Q_117, X_117, st_117⟩ := own_callV X_27 hx (z := (⟨"com/example/sluis/sluis/value/Order", "equals", "(Ljava/lang/Object;)Z"⟩ : MethodName)) hown_27 (mvT hZ_27 (own_w hw 57 rfl)) (mvT hZ_27 (own_w hw 58 rfl)) (notFace_of_selects (args := #[]) (mvT hZ_27 (own_w hw 60 rfl))) (mvT hZ_27 (own_w hw 60 rfl)) (mvT hZ_27 (own_w hw 59 rfl)) (by decide) (Q := (Qeq (u0 = y0 ∧ u1 = y1 ∧ u2 = y2) T_27.heap)) (backOf (W := 0) (rm_eqO l Z a0 hw [] a_2 a_14 r_1 r_4 r_6 r_16 r_18 r_20 t_1 t_4 t_6 t_16 t_18 t_20 kb_1 kb_4 kb_6 kb_16 kb_18 kb_20 u0 u1 u2 y0 y1 y2 zc T_27.heap n0 (Nat.le_trans Z0 (Nat.le_trans (Nat.le_trans (Nat.le_trans (Nat.le_trans (Nat.le_trans (Nat.le_trans (Nat.le_trans (Nat.le_trans (Nat.le_trans K_1.1 E_2.1) K_4.1) K_6.1) K_13.1) E_14.1) K_16.1) K_18.1) K_20.1) K_27.1)) Ex_13'_88 Ex_27 F0_13'_89 F1_13'_90 F2_13'_91 F0_27 F1_27 F2_27 Ex_1'_92 Fc_1'_93 Fv_1'_94 Kb_1'_95 h_u0 Ex_4'_96 Fc_4'_97 Fv_4'_98 Kb_4'_99 h_u1 Ex_6'_100 Fc_6'_101 Fv_6'_102 Kb_6'_103 h_u2 Ex_16'_104 Fc_16'_105 Fv_16'_106 Kb_16'_107 h_y0 Ex_18'_108 Fc_18'_109 Fv_18'_110 Kb_18'_111 h_y1 Ex_20'_112 Fc_20'_113 Fv_20'_114 Kb_20'_115 h_y2 O2 P5 O_116d) hZ_27 (own_w hw 61 rfl) (own_w hw 36 rfl) (by decide) (by decide)) q_117a q_117c (g := (mkF m 266 #[.val (.int p0), .val (.int p1), .val (.int p2), .val (.int u0), .val (.int u1), .val (.int u2), .val (.int f0), .val (.int f1), .val (.int f2), .val (.int kd), .val (.int y0), .val (.int y1), .val (.int y2), .val (.ref r_1), .val (.ref a_2), .val (.ref a_14), .val (.ref a_14), .val (.int (0 : Int32)), .unset] [(.ref a_14), (.ref a_2)])) rfl (by rw [hml]; rfl) (argsL := [(.ref a_14)]) (rest := []) (lenOf pd_3 rfl) rfl (by show 2 * 0 + _ ≤ _; exact Nat.le_of_eq rfl) (hb hby at_266) rfl rfl (by decide) (by decide)
          obtain ⟨⟨z_117, rfl, hz_117⟩, rfl, eh_117⟩ := Q_117
          refine own_G.via st_117 ?_
          have N_117 := Fr.app N_27 (Fr.nil n0)
          show own_G _ _ _ _ (T_117.setTop (mkF m 269 #[.val (.int p0), .val (.int p1), .val (.int p2), .val (.int u0), .val (.int u1), .val (.int u2), .val (.int f0), .val (.int f1), .val (.int f2), .val (.int kd), .val (.int y0), .val (.int y1), .val (.int y2), .val (.ref r_1), .val (.ref a_2), .val (.ref a_14), .val (.ref a_14), .val (.int (0 : Int32)), .unset] [(.int z_117)]))
          refine own_G.go (fun t_ k_ => XS.istore X_117.here hx rfl (hb hby at_269) rfl (l' := #[.val (.int p0), .val (.int p1), .val (.int p2), .val (.int u0), .val (.int u1), .val (.int u2), .val (.int f0), .val (.int f1), .val (.int f2), .val (.int kd), .val (.int y0), .val (.int y1), .val (.int y2), .val (.ref r_1), .val (.ref a_2), .val (.ref a_14), .val (.ref a_14), .val (.int (0 : Int32)), .val (.int z_117)]) rfl k_) ?_
          show own_G _ _ _ _ (T_117.setTop (mkF m 271 #[.val (.int p0), .val (.int p1), .val (.int p2), .val (.int u0), .val (.int u1), .val (.int u2), .val (.int f0), .val (.int f1), .val (.int f2), .val (.int kd), .val (.int y0), .val (.int y1), .val (.int y2), .val (.ref r_1), .val (.ref a_2), .val (.ref a_14), .val (.ref a_14), .val (.int (0 : Int32)), .val (.int z_117)] []))
          refine own_G.go (fun t_ k_ => XS.iload X_117.here hx rfl (hb hby at_271) rfl k_) ?_
          show own_G _ _ _ _ (T_117.setTop (mkF m 273 #[.val (.int p0), .val (.int p1), .val (.int p2), .val (.int u0), .val (.int u1), .val (.int u2), .val (.int f0), .val (.int f1), .val (.int f2), .val (.int kd), .val (.int y0), .val (.int y1), .val (.int y2), .val (.ref r_1), .val (.ref a_2), .val (.ref a_14), .val (.ref a_14), .val (.int (0 : Int32)), .val (.int z_117)] [(.int z_117)]))
          refine own_G.go (fun t_ k_ => XS.iload X_117.here hx rfl (hb hby at_273) rfl k_) ?_
          show own_G _ _ _ _ (T_117.setTop (mkF m 275 #[.val (.int p0), .val (.int p1), .val (.int p2), .val (.int u0), .val (.int u1), .val (.int u2), .val (.int f0), .val (.int f1), .val (.int f2), .val (.int kd), .val (.int y0), .val (.int y1), .val (.int y2), .val (.ref r_1), .val (.ref a_2), .val (.ref a_14), .val (.ref a_14), .val (.int (0 : Int32)), .val (.int z_117)] [(.int (0 : Int32)), (.int z_117)]))
          refine own_G.go (fun t_ k_ => XS.icmpNo X_117.here hx rfl (hb hby at_275) rfl (teq (own_z0 hz_117 (fun q => by first | exact hv2 q.2.2 | exact hv1 q.2.1 | exact hv0 q.1) : z_117 = (0 : Int32))).2 k_) ?_
          show own_G _ _ _ _ (T_117.setTop (mkF m 278 #[.val (.int p0), .val (.int p1), .val (.int p2), .val (.int u0), .val (.int u1), .val (.int u2), .val (.int f0), .val (.int f1), .val (.int f2), .val (.int kd), .val (.int y0), .val (.int y1), .val (.int y2), .val (.ref r_1), .val (.ref a_2), .val (.ref a_14), .val (.ref a_14), .val (.int (0 : Int32)), .val (.int z_117)] []))
          refine own_G.go (fun t_ k_ => XS.iconst X_117.here hx rfl (hb hby at_278) k_) ?_
          show own_G _ _ _ _ (T_117.setTop (mkF m 279 #[.val (.int p0), .val (.int p1), .val (.int p2), .val (.int u0), .val (.int u1), .val (.int u2), .val (.int f0), .val (.int f1), .val (.int f2), .val (.int kd), .val (.int y0), .val (.int y1), .val (.int y2), .val (.ref r_1), .val (.ref a_2), .val (.ref a_14), .val (.ref a_14), .val (.int (0 : Int32)), .val (.int z_117)] [(.int (1 : Int32))]))
          refine own_G.go (fun t_ k_ => XS.goto X_117.here hx rfl (pc0 := 279) (pc' := 283) rfl (hb hby at_279) (by decide) (by decide) k_) ?_
          show own_G _ _ _ _ (T_117.setTop (mkF m 283 #[.val (.int p0), .val (.int p1), .val (.int p2), .val (.int u0), .val (.int u1), .val (.int u2), .val (.int f0), .val (.int f1), .val (.int f2), .val (.int kd), .val (.int y0), .val (.int y1), .val (.int y2), .val (.ref r_1), .val (.ref a_2), .val (.ref a_14), .val (.ref a_14), .val (.int (0 : Int32)), .val (.int z_117)] [(.int (1 : Int32))]))
          exact own_G.endW X_117 hS_27 (Nat.le_refl _) hlk (v := (some (.int (1 : Int32)))) (fun h => by rw [hrt] at h; cases h) (fun fs hr => retN X_117 hx (z := (1 : Int32)) (t := .boolean) hrt (by simp) (hb hby at_283) hr) eh_117 ⟨rfl, N_117⟩ (by decide) (by decide)
      · refine own_G.go (fun t_ k_ => XS.icmpYes X_27.here hx rfl (pc0 := 197) (pc' := 218) rfl (hb hby at_197) rfl (feq hv0).2 (by decide) (by decide) k_) ?_
        show own_G _ _ _ _ (T_27.setTop (mkF m 218 #[.val (.int p0), .val (.int p1), .val (.int p2), .val (.int u0), .val (.int u1), .val (.int u2), .val (.int f0), .val (.int f1), .val (.int f2), .val (.int kd), .val (.int y0), .val (.int y1), .val (.int y2), .val (.ref r_1), .val (.ref a_2), .val (.ref a_14), .val (.ref a_14), .unset, .unset] []))
        refine own_G.go (fun t_ k_ => XS.iconst X_27.here hx rfl (hb hby at_218) k_) ?_
        show own_G _ _ _ _ (T_27.setTop (mkF m 219 #[.val (.int p0), .val (.int p1), .val (.int p2), .val (.int u0), .val (.int u1), .val (.int u2), .val (.int f0), .val (.int f1), .val (.int f2), .val (.int kd), .val (.int y0), .val (.int y1), .val (.int y2), .val (.ref r_1), .val (.ref a_2), .val (.ref a_14), .val (.ref a_14), .unset, .unset] [(.int (0 : Int32))]))
        refine own_G.go (fun t_ k_ => XS.istore X_27.here hx rfl (hb hby at_219) rfl (l' := #[.val (.int p0), .val (.int p1), .val (.int p2), .val (.int u0), .val (.int u1), .val (.int u2), .val (.int f0), .val (.int f1), .val (.int f2), .val (.int kd), .val (.int y0), .val (.int y1), .val (.int y2), .val (.ref r_1), .val (.ref a_2), .val (.ref a_14), .val (.ref a_14), .val (.int (0 : Int32)), .unset]) rfl k_) ?_
        show own_G _ _ _ _ (T_27.setTop (mkF m 221 #[.val (.int p0), .val (.int p1), .val (.int p2), .val (.int u0), .val (.int u1), .val (.int u2), .val (.int f0), .val (.int f1), .val (.int f2), .val (.int kd), .val (.int y0), .val (.int y1), .val (.int y2), .val (.ref r_1), .val (.ref a_2), .val (.ref a_14), .val (.ref a_14), .val (.int (0 : Int32)), .unset] []))
        refine own_G.go (fun t_ k_ => XS.goto X_27.here hx rfl (pc0 := 221) (pc' := 262) rfl (hb hby at_221) (by decide) (by decide) k_) ?_
        show own_G _ _ _ _ (T_27.setTop (mkF m 262 #[.val (.int p0), .val (.int p1), .val (.int p2), .val (.int u0), .val (.int u1), .val (.int u2), .val (.int f0), .val (.int f1), .val (.int f2), .val (.int kd), .val (.int y0), .val (.int y1), .val (.int y2), .val (.ref r_1), .val (.ref a_2), .val (.ref a_14), .val (.ref a_14), .val (.int (0 : Int32)), .unset] []))
        refine own_G.go (fun t_ k_ => XS.aload X_27.here hx rfl (hb hby at_262) rfl rfl k_) ?_
        show own_G _ _ _ _ (T_27.setTop (mkF m 264 #[.val (.int p0), .val (.int p1), .val (.int p2), .val (.int u0), .val (.int u1), .val (.int u2), .val (.int f0), .val (.int f1), .val (.int f2), .val (.int kd), .val (.int y0), .val (.int y1), .val (.int y2), .val (.ref r_1), .val (.ref a_2), .val (.ref a_14), .val (.ref a_14), .val (.int (0 : Int32)), .unset] [(.ref a_2)]))
        refine own_G.go (fun t_ k_ => XS.aload X_27.here hx rfl (hb hby at_264) rfl rfl k_) ?_
        show own_G _ _ _ _ (T_27.setTop (mkF m 266 #[.val (.int p0), .val (.int p1), .val (.int p2), .val (.int u0), .val (.int u1), .val (.int u2), .val (.int f0), .val (.int f1), .val (.int f2), .val (.int kd), .val (.int y0), .val (.int y1), .val (.int y2), .val (.ref r_1), .val (.ref a_2), .val (.ref a_14), .val (.ref a_14), .val (.int (0 : Int32)), .unset] [(.ref a_14), (.ref a_2)]))
        have Ex_13'_118 : Exa Z T_27.heap a_2 "com/example/sluis/sluis/value/Order" := (((((Ex_13.ext E_14).keep K_16).keep K_18).keep K_20).keep K_27)
        have F0_13'_119 : Fld Z T_27.heap a_2 "com/example/sluis/sluis/value/Order" "id" "Ljava/lang/String;" (.ref r_1) := (((((F0_13.ext E_14).keep K_16 nin0).keep K_18 nin0).keep K_20 nin0).keep K_27 (ninS (Nat.ne_of_lt (Nat.lt_of_lt_of_le (Nat.lt_of_lt_of_le A_2.lt (Nat.le_trans (Nat.le_trans K_4.1 K_6.1) K_13.1)) (Nat.le_of_eq g_14.symm))) nin0))
        have F1_13'_120 : Fld Z T_27.heap a_2 "com/example/sluis/sluis/value/Order" "item" "Ljava/lang/String;" (.ref r_4) := (((((F1_13.ext E_14).keep K_16 nin0).keep K_18 nin0).keep K_20 nin0).keep K_27 (ninS (Nat.ne_of_lt (Nat.lt_of_lt_of_le (Nat.lt_of_lt_of_le A_2.lt (Nat.le_trans (Nat.le_trans K_4.1 K_6.1) K_13.1)) (Nat.le_of_eq g_14.symm))) nin0))
        have F2_13'_121 : Fld Z T_27.heap a_2 "com/example/sluis/sluis/value/Order" "buyer" "Ljava/lang/String;" (.ref r_6) := (((((F2_13.ext E_14).keep K_16 nin0).keep K_18 nin0).keep K_20 nin0).keep K_27 (ninS (Nat.ne_of_lt (Nat.lt_of_lt_of_le (Nat.lt_of_lt_of_le A_2.lt (Nat.le_trans (Nat.le_trans K_4.1 K_6.1) K_13.1)) (Nat.le_of_eq g_14.symm))) nin0))
        have Ex_1'_122 : Exa Z T_27.heap r_1 "java/lang/String" := ((((((Ex_1'_11.keep K_13).ext E_14).keep K_16).keep K_18).keep K_20).keep K_27)
        have Fc_1'_123 : Fld Z T_27.heap r_1 "java/lang/String" "coder" "B" (.int 0) := (((((((((Fc_1.ext E_2).keep K_4 nin0).keep K_6 nin0).keep K_13 (ninS (Nat.ne_of_lt (Nat.lt_of_lt_of_le Ex_1.lt (Nat.le_of_eq g_2.symm))) nin0)).ext E_14).keep K_16 nin0).keep K_18 nin0).keep K_20 nin0).keep K_27 (ninS (Nat.ne_of_lt (Nat.lt_of_lt_of_le (Nat.lt_of_lt_of_le Ex_1.lt (Nat.le_trans (Nat.le_trans (Nat.le_trans E_2.1 K_4.1) K_6.1) K_13.1)) (Nat.le_of_eq g_14.symm))) nin0))
        have Fv_1'_124 : Fld Z T_27.heap r_1 "java/lang/String" "value" "[B" (.ref t_1) := (((((((((Fv_1.ext E_2).keep K_4 nin0).keep K_6 nin0).keep K_13 (ninS (Nat.ne_of_lt (Nat.lt_of_lt_of_le Ex_1.lt (Nat.le_of_eq g_2.symm))) nin0)).ext E_14).keep K_16 nin0).keep K_18 nin0).keep K_20 nin0).keep K_27 (ninS (Nat.ne_of_lt (Nat.lt_of_lt_of_le (Nat.lt_of_lt_of_le Ex_1.lt (Nat.le_trans (Nat.le_trans (Nat.le_trans E_2.1 K_4.1) K_6.1) K_13.1)) (Nat.le_of_eq g_14.symm))) nin0))
        have Kb_1'_125 : Arv Z T_27.heap t_1 kb_1 .byte (1 : Int32) ((([u0] : List Int32).map (fun c => c.toInt8.toInt32)).map Value.int) (.int 0) := (((((((((Kb_1.ext E_2).keep K_4 nin0).keep K_6 nin0).keep K_13 (ninS (Nat.ne_of_lt (Nat.lt_of_lt_of_le Kb_1.lt (Nat.le_of_eq g_2.symm))) nin0)).ext E_14).keep K_16 nin0).keep K_18 nin0).keep K_20 nin0).keep K_27 (ninS (Nat.ne_of_lt (Nat.lt_of_lt_of_le (Nat.lt_of_lt_of_le Kb_1.lt (Nat.le_trans (Nat.le_trans (Nat.le_trans E_2.1 K_4.1) K_6.1) K_13.1)) (Nat.le_of_eq g_14.symm))) nin0))
        have Ex_4'_126 : Exa Z T_27.heap r_4 "java/lang/String" := ((((((Ex_4'_12.keep K_13).ext E_14).keep K_16).keep K_18).keep K_20).keep K_27)
        have Fc_4'_127 : Fld Z T_27.heap r_4 "java/lang/String" "coder" "B" (.int 0) := (((((((Fc_4.keep K_6 nin0).keep K_13 (ninS (Ne.symm (Nat.ne_of_lt (Nat.lt_of_lt_of_le A_2.lt lr_4))) nin0)).ext E_14).keep K_16 nin0).keep K_18 nin0).keep K_20 nin0).keep K_27 (ninS (Nat.ne_of_lt (Nat.lt_of_lt_of_le (Nat.lt_of_lt_of_le Ex_4.lt (Nat.le_trans K_6.1 K_13.1)) (Nat.le_of_eq g_14.symm))) nin0))
        have Fv_4'_128 : Fld Z T_27.heap r_4 "java/lang/String" "value" "[B" (.ref t_4) := (((((((Fv_4.keep K_6 nin0).keep K_13 (ninS (Ne.symm (Nat.ne_of_lt (Nat.lt_of_lt_of_le A_2.lt lr_4))) nin0)).ext E_14).keep K_16 nin0).keep K_18 nin0).keep K_20 nin0).keep K_27 (ninS (Nat.ne_of_lt (Nat.lt_of_lt_of_le (Nat.lt_of_lt_of_le Ex_4.lt (Nat.le_trans K_6.1 K_13.1)) (Nat.le_of_eq g_14.symm))) nin0))
        have Kb_4'_129 : Arv Z T_27.heap t_4 kb_4 .byte (1 : Int32) ((([u1] : List Int32).map (fun c => c.toInt8.toInt32)).map Value.int) (.int 0) := (((((((Kb_4.keep K_6 nin0).keep K_13 (ninS (Ne.symm (Nat.ne_of_lt (Nat.lt_of_lt_of_le A_2.lt lt_4))) nin0)).ext E_14).keep K_16 nin0).keep K_18 nin0).keep K_20 nin0).keep K_27 (ninS (Nat.ne_of_lt (Nat.lt_of_lt_of_le (Nat.lt_of_lt_of_le Kb_4.lt (Nat.le_trans K_6.1 K_13.1)) (Nat.le_of_eq g_14.symm))) nin0))
        have Ex_6'_130 : Exa Z T_27.heap r_6 "java/lang/String" := ((((((Ex_6.keep K_13).ext E_14).keep K_16).keep K_18).keep K_20).keep K_27)
        have Fc_6'_131 : Fld Z T_27.heap r_6 "java/lang/String" "coder" "B" (.int 0) := ((((((Fc_6.keep K_13 (ninS (Ne.symm (Nat.ne_of_lt (Nat.lt_of_lt_of_le (Nat.lt_of_lt_of_le A_2.lt K_4.1) lr_6))) nin0)).ext E_14).keep K_16 nin0).keep K_18 nin0).keep K_20 nin0).keep K_27 (ninS (Nat.ne_of_lt (Nat.lt_of_lt_of_le (Nat.lt_of_lt_of_le Ex_6.lt K_13.1) (Nat.le_of_eq g_14.symm))) nin0))
        have Fv_6'_132 : Fld Z T_27.heap r_6 "java/lang/String" "value" "[B" (.ref t_6) := ((((((Fv_6.keep K_13 (ninS (Ne.symm (Nat.ne_of_lt (Nat.lt_of_lt_of_le (Nat.lt_of_lt_of_le A_2.lt K_4.1) lr_6))) nin0)).ext E_14).keep K_16 nin0).keep K_18 nin0).keep K_20 nin0).keep K_27 (ninS (Nat.ne_of_lt (Nat.lt_of_lt_of_le (Nat.lt_of_lt_of_le Ex_6.lt K_13.1) (Nat.le_of_eq g_14.symm))) nin0))
        have Kb_6'_133 : Arv Z T_27.heap t_6 kb_6 .byte (1 : Int32) ((([u2] : List Int32).map (fun c => c.toInt8.toInt32)).map Value.int) (.int 0) := ((((((Kb_6.keep K_13 (ninS (Ne.symm (Nat.ne_of_lt (Nat.lt_of_lt_of_le (Nat.lt_of_lt_of_le A_2.lt K_4.1) lt_6))) nin0)).ext E_14).keep K_16 nin0).keep K_18 nin0).keep K_20 nin0).keep K_27 (ninS (Nat.ne_of_lt (Nat.lt_of_lt_of_le (Nat.lt_of_lt_of_le Kb_6.lt K_13.1) (Nat.le_of_eq g_14.symm))) nin0))
        have Ex_16'_134 : Exa Z T_27.heap r_16 "java/lang/String" := (Ex_16'_25.keep K_27)
        have Fc_16'_135 : Fld Z T_27.heap r_16 "java/lang/String" "coder" "B" (.int 0) := (((Fc_16.keep K_18 nin0).keep K_20 nin0).keep K_27 (ninS (Ne.symm (Nat.ne_of_lt (Nat.lt_of_lt_of_le A_14.lt lr_16))) nin0))
        have Fv_16'_136 : Fld Z T_27.heap r_16 "java/lang/String" "value" "[B" (.ref t_16) := (((Fv_16.keep K_18 nin0).keep K_20 nin0).keep K_27 (ninS (Ne.symm (Nat.ne_of_lt (Nat.lt_of_lt_of_le A_14.lt lr_16))) nin0))
        have Kb_16'_137 : Arv Z T_27.heap t_16 kb_16 .byte (1 : Int32) ((([y0] : List Int32).map (fun c => c.toInt8.toInt32)).map Value.int) (.int 0) := (((Kb_16.keep K_18 nin0).keep K_20 nin0).keep K_27 (ninS (Ne.symm (Nat.ne_of_lt (Nat.lt_of_lt_of_le A_14.lt lt_16))) nin0))
        have Ex_18'_138 : Exa Z T_27.heap r_18 "java/lang/String" := (Ex_18'_26.keep K_27)
        have Fc_18'_139 : Fld Z T_27.heap r_18 "java/lang/String" "coder" "B" (.int 0) := ((Fc_18.keep K_20 nin0).keep K_27 (ninS (Ne.symm (Nat.ne_of_lt (Nat.lt_of_lt_of_le (Nat.lt_of_lt_of_le A_14.lt K_16.1) lr_18))) nin0))
        have Fv_18'_140 : Fld Z T_27.heap r_18 "java/lang/String" "value" "[B" (.ref t_18) := ((Fv_18.keep K_20 nin0).keep K_27 (ninS (Ne.symm (Nat.ne_of_lt (Nat.lt_of_lt_of_le (Nat.lt_of_lt_of_le A_14.lt K_16.1) lr_18))) nin0))
        have Kb_18'_141 : Arv Z T_27.heap t_18 kb_18 .byte (1 : Int32) ((([y1] : List Int32).map (fun c => c.toInt8.toInt32)).map Value.int) (.int 0) := ((Kb_18.keep K_20 nin0).keep K_27 (ninS (Ne.symm (Nat.ne_of_lt (Nat.lt_of_lt_of_le (Nat.lt_of_lt_of_le A_14.lt K_16.1) lt_18))) nin0))
        have Ex_20'_142 : Exa Z T_27.heap r_20 "java/lang/String" := (Ex_20.keep K_27)
        have Fc_20'_143 : Fld Z T_27.heap r_20 "java/lang/String" "coder" "B" (.int 0) := (Fc_20.keep K_27 (ninS (Ne.symm (Nat.ne_of_lt (Nat.lt_of_lt_of_le (Nat.lt_of_lt_of_le A_14.lt (Nat.le_trans K_16.1 K_18.1)) lr_20))) nin0))
        have Fv_20'_144 : Fld Z T_27.heap r_20 "java/lang/String" "value" "[B" (.ref t_20) := (Fv_20.keep K_27 (ninS (Ne.symm (Nat.ne_of_lt (Nat.lt_of_lt_of_le (Nat.lt_of_lt_of_le A_14.lt (Nat.le_trans K_16.1 K_18.1)) lr_20))) nin0))
        have Kb_20'_145 : Arv Z T_27.heap t_20 kb_20 .byte (1 : Int32) ((([y2] : List Int32).map (fun c => c.toInt8.toInt32)).map Value.int) (.int 0) := (Kb_20.keep K_27 (ninS (Ne.symm (Nat.ne_of_lt (Nat.lt_of_lt_of_le (Nat.lt_of_lt_of_le A_14.lt (Nat.le_trans K_16.1 K_18.1)) lt_20))) nin0))
        have O_146d : Old Z n0 T_27.heap := ((O_19d.keep K_20 all0).keep K_27 (allS g0_a_14 all0))
        obtain ⟨cq_147, kq_147, q_147a, q_147b, q_147c⟩ := isOf hZ_27 rfl Ex_13'_118
        obtain ⟨_, T_147, L_147, Q_147, X_147, st_147⟩ := own_callV X_27 hx (z := (⟨"com/example/sluis/sluis/value/Order", "equals", "(Ljava/lang/Object;)Z"⟩ : MethodName)) hown_27 (mvT hZ_27 (own_w hw 57 rfl)) (mvT hZ_27 (own_w hw 58 rfl)) (notFace_of_selects (args := #[]) (mvT hZ_27 (own_w hw 60 rfl))) (mvT hZ_27 (own_w hw 60 rfl)) (mvT hZ_27 (own_w hw 59 rfl)) (by decide) (Q := (Qeq (u0 = y0 ∧ u1 = y1 ∧ u2 = y2) T_27.heap)) (backOf (W := 0) (rm_eqO l Z a0 hw [] a_2 a_14 r_1 r_4 r_6 r_16 r_18 r_20 t_1 t_4 t_6 t_16 t_18 t_20 kb_1 kb_4 kb_6 kb_16 kb_18 kb_20 u0 u1 u2 y0 y1 y2 zc T_27.heap n0 (Nat.le_trans Z0 (Nat.le_trans (Nat.le_trans (Nat.le_trans (Nat.le_trans (Nat.le_trans (Nat.le_trans (Nat.le_trans (Nat.le_trans (Nat.le_trans K_1.1 E_2.1) K_4.1) K_6.1) K_13.1) E_14.1) K_16.1) K_18.1) K_20.1) K_27.1)) Ex_13'_118 Ex_27 F0_13'_119 F1_13'_120 F2_13'_121 F0_27 F1_27 F2_27 Ex_1'_122 Fc_1'_123 Fv_1'_124 Kb_1'_125 h_u0 Ex_4'_126 Fc_4'_127 Fv_4'_128 Kb_4'_129 h_u1 Ex_6'_130 Fc_6'_131 Fv_6'_132 Kb_6'_133 h_u2 Ex_16'_134 Fc_16'_135 Fv_16'_136 Kb_16'_137 h_y0 Ex_18'_138 Fc_18'_139 Fv_18'_140 Kb_18'_141 h_y1 Ex_20'_142 Fc_20'_143 Fv_20'_144 Kb_20'_145 h_y2 O2 P5 O_146d) hZ_27 (own_w hw 61 rfl) (own_w hw 36 rfl) (by decide) (by decide)) q_147a q_147c (g := (mkF m 266 #[.val (.int p0), .val (.int p1), .val (.int p2), .val (.int u0), .val (.int u1), .val (.int u2), .val (.int f0), .val (.int f1), .val (.int f2), .val (.int kd), .val (.int y0), .val (.int y1), .val (.int y2), .val (.ref r_1), .val (.ref a_2), .val (.ref a_14), .val (.ref a_14), .val (.int (0 : Int32)), .unset] [(.ref a_14), (.ref a_2)])) rfl (by rw [hml]; rfl) (argsL := [(.ref a_14)]) (rest := []) (lenOf pd_3 rfl) rfl (by show 2 * 0 + _ ≤ _; exact Nat.le_of_eq rfl) (hb hby at_266) rfl rfl (by decide) (by decide)
        obtain ⟨⟨z_147, rfl, hz_147⟩, rfl, eh_147⟩ := Q_147
        refine own_G.via st_147 ?_
        have N_147 := Fr.app N_27 (Fr.nil n0)
        show own_G _ _ _ _ (T_147.setTop (mkF m 269 #[.val (.int p0), .val (.int p1), .val (.int p2), .val (.int u0), .val (.int u1), .val (.int u2), .val (.int f0), .val (.int f1), .val (.int f2), .val (.int kd), .val (.int y0), .val (.int y1), .val (.int y2), .val (.ref r_1), .val (.ref a_2), .val (.ref a_14), .val (.ref a_14), .val (.int (0 : Int32)), .unset] [(.int z_147)]))
        refine own_G.go (fun t_ k_ => XS.istore X_147.here hx rfl (hb hby at_269) rfl (l' := #[.val (.int p0), .val (.int p1), .val (.int p2), .val (.int u0), .val (.int u1), .val (.int u2), .val (.int f0), .val (.int f1), .val (.int f2), .val (.int kd), .val (.int y0), .val (.int y1), .val (.int y2), .val (.ref r_1), .val (.ref a_2), .val (.ref a_14), .val (.ref a_14), .val (.int (0 : Int32)), .val (.int z_147)]) rfl k_) ?_
        show own_G _ _ _ _ (T_147.setTop (mkF m 271 #[.val (.int p0), .val (.int p1), .val (.int p2), .val (.int u0), .val (.int u1), .val (.int u2), .val (.int f0), .val (.int f1), .val (.int f2), .val (.int kd), .val (.int y0), .val (.int y1), .val (.int y2), .val (.ref r_1), .val (.ref a_2), .val (.ref a_14), .val (.ref a_14), .val (.int (0 : Int32)), .val (.int z_147)] []))
        refine own_G.go (fun t_ k_ => XS.iload X_147.here hx rfl (hb hby at_271) rfl k_) ?_
        show own_G _ _ _ _ (T_147.setTop (mkF m 273 #[.val (.int p0), .val (.int p1), .val (.int p2), .val (.int u0), .val (.int u1), .val (.int u2), .val (.int f0), .val (.int f1), .val (.int f2), .val (.int kd), .val (.int y0), .val (.int y1), .val (.int y2), .val (.ref r_1), .val (.ref a_2), .val (.ref a_14), .val (.ref a_14), .val (.int (0 : Int32)), .val (.int z_147)] [(.int z_147)]))
        refine own_G.go (fun t_ k_ => XS.iload X_147.here hx rfl (hb hby at_273) rfl k_) ?_
        show own_G _ _ _ _ (T_147.setTop (mkF m 275 #[.val (.int p0), .val (.int p1), .val (.int p2), .val (.int u0), .val (.int u1), .val (.int u2), .val (.int f0), .val (.int f1), .val (.int f2), .val (.int kd), .val (.int y0), .val (.int y1), .val (.int y2), .val (.ref r_1), .val (.ref a_2), .val (.ref a_14), .val (.ref a_14), .val (.int (0 : Int32)), .val (.int z_147)] [(.int (0 : Int32)), (.int z_147)]))
        refine own_G.go (fun t_ k_ => XS.icmpNo X_147.here hx rfl (hb hby at_275) rfl (teq (own_z0 hz_147 (fun q => by first | exact hv2 q.2.2 | exact hv1 q.2.1 | exact hv0 q.1) : z_147 = (0 : Int32))).2 k_) ?_
        show own_G _ _ _ _ (T_147.setTop (mkF m 278 #[.val (.int p0), .val (.int p1), .val (.int p2), .val (.int u0), .val (.int u1), .val (.int u2), .val (.int f0), .val (.int f1), .val (.int f2), .val (.int kd), .val (.int y0), .val (.int y1), .val (.int y2), .val (.ref r_1), .val (.ref a_2), .val (.ref a_14), .val (.ref a_14), .val (.int (0 : Int32)), .val (.int z_147)] []))
        refine own_G.go (fun t_ k_ => XS.iconst X_147.here hx rfl (hb hby at_278) k_) ?_
        show own_G _ _ _ _ (T_147.setTop (mkF m 279 #[.val (.int p0), .val (.int p1), .val (.int p2), .val (.int u0), .val (.int u1), .val (.int u2), .val (.int f0), .val (.int f1), .val (.int f2), .val (.int kd), .val (.int y0), .val (.int y1), .val (.int y2), .val (.ref r_1), .val (.ref a_2), .val (.ref a_14), .val (.ref a_14), .val (.int (0 : Int32)), .val (.int z_147)] [(.int (1 : Int32))]))
        refine own_G.go (fun t_ k_ => XS.goto X_147.here hx rfl (pc0 := 279) (pc' := 283) rfl (hb hby at_279) (by decide) (by decide) k_) ?_
        show own_G _ _ _ _ (T_147.setTop (mkF m 283 #[.val (.int p0), .val (.int p1), .val (.int p2), .val (.int u0), .val (.int u1), .val (.int u2), .val (.int f0), .val (.int f1), .val (.int f2), .val (.int kd), .val (.int y0), .val (.int y1), .val (.int y2), .val (.ref r_1), .val (.ref a_2), .val (.ref a_14), .val (.ref a_14), .val (.int (0 : Int32)), .val (.int z_147)] [(.int (1 : Int32))]))
        exact own_G.endW X_147 hS_27 (Nat.le_refl _) hlk (v := (some (.int (1 : Int32)))) (fun h => by rw [hrt] at h; cases h) (fun fs hr => retN X_147 hx (z := (1 : Int32)) (t := .boolean) hrt (by simp) (hb hby at_283) hr) eh_147 ⟨rfl, N_147⟩ (by decide) (by decide)
    · refine own_G.go (fun t_ k_ => XS.ifYes X_27.here hx rfl (pc0 := 187) (pc' := 224) rfl (hb hby at_187) rfl ((if0 _ _).trans (feq hk0).2) (by decide) (by decide) k_) ?_
      show own_G _ _ _ _ (T_27.setTop (mkF m 224 #[.val (.int p0), .val (.int p1), .val (.int p2), .val (.int u0), .val (.int u1), .val (.int u2), .val (.int f0), .val (.int f1), .val (.int f2), .val (.int kd), .val (.int y0), .val (.int y1), .val (.int y2), .val (.ref r_1), .val (.ref a_2), .val (.ref a_14), .unset, .unset, .unset] []))
      refine own_G.go (fun t_ k_ => XS.iload X_27.here hx rfl (hb hby at_224) rfl k_) ?_
      show own_G _ _ _ _ (T_27.setTop (mkF m 226 #[.val (.int p0), .val (.int p1), .val (.int p2), .val (.int u0), .val (.int u1), .val (.int u2), .val (.int f0), .val (.int f1), .val (.int f2), .val (.int kd), .val (.int y0), .val (.int y1), .val (.int y2), .val (.ref r_1), .val (.ref a_2), .val (.ref a_14), .unset, .unset, .unset] [(.int kd)]))
      refine own_G.go (fun t_ k_ => XS.iconst X_27.here hx rfl (hb hby at_226) k_) ?_
      show own_G _ _ _ _ (T_27.setTop (mkF m 227 #[.val (.int p0), .val (.int p1), .val (.int p2), .val (.int u0), .val (.int u1), .val (.int u2), .val (.int f0), .val (.int f1), .val (.int f2), .val (.int kd), .val (.int y0), .val (.int y1), .val (.int y2), .val (.ref r_1), .val (.ref a_2), .val (.ref a_14), .unset, .unset, .unset] [(.int (1 : Int32)), (.int kd)]))
      by_cases hk1 : kd = (1 : Int32)
      · refine own_G.go (fun t_ k_ => XS.icmpNo X_27.here hx rfl (hb hby at_227) rfl (teq hk1).2 k_) ?_
        show own_G _ _ _ _ (T_27.setTop (mkF m 230 #[.val (.int p0), .val (.int p1), .val (.int p2), .val (.int u0), .val (.int u1), .val (.int u2), .val (.int f0), .val (.int f1), .val (.int f2), .val (.int kd), .val (.int y0), .val (.int y1), .val (.int y2), .val (.ref r_1), .val (.ref a_2), .val (.ref a_14), .unset, .unset, .unset] []))
        refine own_G.go (fun t_ k_ => XS.aconstNull X_27.here hx rfl (hb hby at_230) k_) ?_
        show own_G _ _ _ _ (T_27.setTop (mkF m 231 #[.val (.int p0), .val (.int p1), .val (.int p2), .val (.int u0), .val (.int u1), .val (.int u2), .val (.int f0), .val (.int f1), .val (.int f2), .val (.int kd), .val (.int y0), .val (.int y1), .val (.int y2), .val (.ref r_1), .val (.ref a_2), .val (.ref a_14), .unset, .unset, .unset] [.null]))
        refine own_G.go (fun t_ k_ => XS.astore X_27.here hx rfl (hb hby at_231) rfl rfl (l' := #[.val (.int p0), .val (.int p1), .val (.int p2), .val (.int u0), .val (.int u1), .val (.int u2), .val (.int f0), .val (.int f1), .val (.int f2), .val (.int kd), .val (.int y0), .val (.int y1), .val (.int y2), .val (.ref r_1), .val (.ref a_2), .val (.ref a_14), .val .null, .unset, .unset]) rfl k_) ?_
        show own_G _ _ _ _ (T_27.setTop (mkF m 233 #[.val (.int p0), .val (.int p1), .val (.int p2), .val (.int u0), .val (.int u1), .val (.int u2), .val (.int f0), .val (.int f1), .val (.int f2), .val (.int kd), .val (.int y0), .val (.int y1), .val (.int y2), .val (.ref r_1), .val (.ref a_2), .val (.ref a_14), .val .null, .unset, .unset] []))
        refine own_G.go (fun t_ k_ => XS.iconst X_27.here hx rfl (hb hby at_233) k_) ?_
        show own_G _ _ _ _ (T_27.setTop (mkF m 234 #[.val (.int p0), .val (.int p1), .val (.int p2), .val (.int u0), .val (.int u1), .val (.int u2), .val (.int f0), .val (.int f1), .val (.int f2), .val (.int kd), .val (.int y0), .val (.int y1), .val (.int y2), .val (.ref r_1), .val (.ref a_2), .val (.ref a_14), .val .null, .unset, .unset] [(.int (0 : Int32))]))
        refine own_G.go (fun t_ k_ => XS.istore X_27.here hx rfl (hb hby at_234) rfl (l' := #[.val (.int p0), .val (.int p1), .val (.int p2), .val (.int u0), .val (.int u1), .val (.int u2), .val (.int f0), .val (.int f1), .val (.int f2), .val (.int kd), .val (.int y0), .val (.int y1), .val (.int y2), .val (.ref r_1), .val (.ref a_2), .val (.ref a_14), .val .null, .val (.int (0 : Int32)), .unset]) rfl k_) ?_
        show own_G _ _ _ _ (T_27.setTop (mkF m 236 #[.val (.int p0), .val (.int p1), .val (.int p2), .val (.int u0), .val (.int u1), .val (.int u2), .val (.int f0), .val (.int f1), .val (.int f2), .val (.int kd), .val (.int y0), .val (.int y1), .val (.int y2), .val (.ref r_1), .val (.ref a_2), .val (.ref a_14), .val .null, .val (.int (0 : Int32)), .unset] []))
        refine own_G.go (fun t_ k_ => XS.goto X_27.here hx rfl (pc0 := 236) (pc' := 262) rfl (hb hby at_236) (by decide) (by decide) k_) ?_
        show own_G _ _ _ _ (T_27.setTop (mkF m 262 #[.val (.int p0), .val (.int p1), .val (.int p2), .val (.int u0), .val (.int u1), .val (.int u2), .val (.int f0), .val (.int f1), .val (.int f2), .val (.int kd), .val (.int y0), .val (.int y1), .val (.int y2), .val (.ref r_1), .val (.ref a_2), .val (.ref a_14), .val .null, .val (.int (0 : Int32)), .unset] []))
        refine own_G.go (fun t_ k_ => XS.aload X_27.here hx rfl (hb hby at_262) rfl rfl k_) ?_
        show own_G _ _ _ _ (T_27.setTop (mkF m 264 #[.val (.int p0), .val (.int p1), .val (.int p2), .val (.int u0), .val (.int u1), .val (.int u2), .val (.int f0), .val (.int f1), .val (.int f2), .val (.int kd), .val (.int y0), .val (.int y1), .val (.int y2), .val (.ref r_1), .val (.ref a_2), .val (.ref a_14), .val .null, .val (.int (0 : Int32)), .unset] [(.ref a_2)]))
        refine own_G.go (fun t_ k_ => XS.aload X_27.here hx rfl (hb hby at_264) rfl rfl k_) ?_
        show own_G _ _ _ _ (T_27.setTop (mkF m 266 #[.val (.int p0), .val (.int p1), .val (.int p2), .val (.int u0), .val (.int u1), .val (.int u2), .val (.int f0), .val (.int f1), .val (.int f2), .val (.int kd), .val (.int y0), .val (.int y1), .val (.int y2), .val (.ref r_1), .val (.ref a_2), .val (.ref a_14), .val .null, .val (.int (0 : Int32)), .unset] [.null, (.ref a_2)]))
        have Ex_13'_149 : Exa Z T_27.heap a_2 "com/example/sluis/sluis/value/Order" := (((((Ex_13.ext E_14).keep K_16).keep K_18).keep K_20).keep K_27)
        obtain ⟨cq_148, kq_148, q_148a, q_148b, q_148c⟩ := isOf hZ_27 rfl Ex_13'_149
        obtain ⟨_, T_148, L_148, Q_148, X_148, st_148⟩ := own_callV X_27 hx (z := (⟨"com/example/sluis/sluis/value/Order", "equals", "(Ljava/lang/Object;)Z"⟩ : MethodName)) hown_27 (mvT hZ_27 (own_w hw 57 rfl)) (mvT hZ_27 (own_w hw 58 rfl)) (notFace_of_selects (args := #[]) (mvT hZ_27 (own_w hw 60 rfl))) (mvT hZ_27 (own_w hw 60 rfl)) (mvT hZ_27 (own_w hw 59 rfl)) (by decide) (Q := (Qeq False T_27.heap)) (backOf (W := 0) (rm_eqN l Z a0 hw [] a_2 T_27.heap n0 (Nat.le_trans Z0 (Nat.le_trans (Nat.le_trans (Nat.le_trans (Nat.le_trans (Nat.le_trans (Nat.le_trans (Nat.le_trans (Nat.le_trans (Nat.le_trans K_1.1 E_2.1) K_4.1) K_6.1) K_13.1) E_14.1) K_16.1) K_18.1) K_20.1) K_27.1)) ) hZ_27 (own_w hw 61 rfl) (own_w hw 36 rfl) (by decide) (by decide)) q_148a q_148c (g := (mkF m 266 #[.val (.int p0), .val (.int p1), .val (.int p2), .val (.int u0), .val (.int u1), .val (.int u2), .val (.int f0), .val (.int f1), .val (.int f2), .val (.int kd), .val (.int y0), .val (.int y1), .val (.int y2), .val (.ref r_1), .val (.ref a_2), .val (.ref a_14), .val .null, .val (.int (0 : Int32)), .unset] [.null, (.ref a_2)])) rfl (by rw [hml]; rfl) (argsL := [.null]) (rest := []) (lenOf pd_3 rfl) rfl (by show 2 * 0 + _ ≤ _; exact Nat.le_of_eq rfl) (hb hby at_266) rfl rfl (by decide) (by decide)
        obtain ⟨⟨z_148, rfl, hz_148⟩, rfl, eh_148⟩ := Q_148
        refine own_G.via st_148 ?_
        have N_148 := Fr.app N_27 (Fr.nil n0)
        show own_G _ _ _ _ (T_148.setTop (mkF m 269 #[.val (.int p0), .val (.int p1), .val (.int p2), .val (.int u0), .val (.int u1), .val (.int u2), .val (.int f0), .val (.int f1), .val (.int f2), .val (.int kd), .val (.int y0), .val (.int y1), .val (.int y2), .val (.ref r_1), .val (.ref a_2), .val (.ref a_14), .val .null, .val (.int (0 : Int32)), .unset] [(.int z_148)]))
        refine own_G.go (fun t_ k_ => XS.istore X_148.here hx rfl (hb hby at_269) rfl (l' := #[.val (.int p0), .val (.int p1), .val (.int p2), .val (.int u0), .val (.int u1), .val (.int u2), .val (.int f0), .val (.int f1), .val (.int f2), .val (.int kd), .val (.int y0), .val (.int y1), .val (.int y2), .val (.ref r_1), .val (.ref a_2), .val (.ref a_14), .val .null, .val (.int (0 : Int32)), .val (.int z_148)]) rfl k_) ?_
        show own_G _ _ _ _ (T_148.setTop (mkF m 271 #[.val (.int p0), .val (.int p1), .val (.int p2), .val (.int u0), .val (.int u1), .val (.int u2), .val (.int f0), .val (.int f1), .val (.int f2), .val (.int kd), .val (.int y0), .val (.int y1), .val (.int y2), .val (.ref r_1), .val (.ref a_2), .val (.ref a_14), .val .null, .val (.int (0 : Int32)), .val (.int z_148)] []))
        refine own_G.go (fun t_ k_ => XS.iload X_148.here hx rfl (hb hby at_271) rfl k_) ?_
        show own_G _ _ _ _ (T_148.setTop (mkF m 273 #[.val (.int p0), .val (.int p1), .val (.int p2), .val (.int u0), .val (.int u1), .val (.int u2), .val (.int f0), .val (.int f1), .val (.int f2), .val (.int kd), .val (.int y0), .val (.int y1), .val (.int y2), .val (.ref r_1), .val (.ref a_2), .val (.ref a_14), .val .null, .val (.int (0 : Int32)), .val (.int z_148)] [(.int z_148)]))
        refine own_G.go (fun t_ k_ => XS.iload X_148.here hx rfl (hb hby at_273) rfl k_) ?_
        show own_G _ _ _ _ (T_148.setTop (mkF m 275 #[.val (.int p0), .val (.int p1), .val (.int p2), .val (.int u0), .val (.int u1), .val (.int u2), .val (.int f0), .val (.int f1), .val (.int f2), .val (.int kd), .val (.int y0), .val (.int y1), .val (.int y2), .val (.ref r_1), .val (.ref a_2), .val (.ref a_14), .val .null, .val (.int (0 : Int32)), .val (.int z_148)] [(.int (0 : Int32)), (.int z_148)]))
        refine own_G.go (fun t_ k_ => XS.icmpNo X_148.here hx rfl (hb hby at_275) rfl (teq (own_z0 hz_148 id : z_148 = (0 : Int32))).2 k_) ?_
        show own_G _ _ _ _ (T_148.setTop (mkF m 278 #[.val (.int p0), .val (.int p1), .val (.int p2), .val (.int u0), .val (.int u1), .val (.int u2), .val (.int f0), .val (.int f1), .val (.int f2), .val (.int kd), .val (.int y0), .val (.int y1), .val (.int y2), .val (.ref r_1), .val (.ref a_2), .val (.ref a_14), .val .null, .val (.int (0 : Int32)), .val (.int z_148)] []))
        refine own_G.go (fun t_ k_ => XS.iconst X_148.here hx rfl (hb hby at_278) k_) ?_
        show own_G _ _ _ _ (T_148.setTop (mkF m 279 #[.val (.int p0), .val (.int p1), .val (.int p2), .val (.int u0), .val (.int u1), .val (.int u2), .val (.int f0), .val (.int f1), .val (.int f2), .val (.int kd), .val (.int y0), .val (.int y1), .val (.int y2), .val (.ref r_1), .val (.ref a_2), .val (.ref a_14), .val .null, .val (.int (0 : Int32)), .val (.int z_148)] [(.int (1 : Int32))]))
        refine own_G.go (fun t_ k_ => XS.goto X_148.here hx rfl (pc0 := 279) (pc' := 283) rfl (hb hby at_279) (by decide) (by decide) k_) ?_
        show own_G _ _ _ _ (T_148.setTop (mkF m 283 #[.val (.int p0), .val (.int p1), .val (.int p2), .val (.int u0), .val (.int u1), .val (.int u2), .val (.int f0), .val (.int f1), .val (.int f2), .val (.int kd), .val (.int y0), .val (.int y1), .val (.int y2), .val (.ref r_1), .val (.ref a_2), .val (.ref a_14), .val .null, .val (.int (0 : Int32)), .val (.int z_148)] [(.int (1 : Int32))]))
        exact own_G.endW X_148 hS_27 (Nat.le_refl _) hlk (v := (some (.int (1 : Int32)))) (fun h => by rw [hrt] at h; cases h) (fun fs hr => retN X_148 hx (z := (1 : Int32)) (t := .boolean) hrt (by simp) (hb hby at_283) hr) eh_148 ⟨rfl, N_148⟩ (by decide) (by decide)
      · refine own_G.go (fun t_ k_ => XS.icmpYes X_27.here hx rfl (pc0 := 227) (pc' := 239) rfl (hb hby at_227) rfl (feq hk1).2 (by decide) (by decide) k_) ?_
        show own_G _ _ _ _ (T_27.setTop (mkF m 239 #[.val (.int p0), .val (.int p1), .val (.int p2), .val (.int u0), .val (.int u1), .val (.int u2), .val (.int f0), .val (.int f1), .val (.int f2), .val (.int kd), .val (.int y0), .val (.int y1), .val (.int y2), .val (.ref r_1), .val (.ref a_2), .val (.ref a_14), .unset, .unset, .unset] []))
        refine own_G.go (fun t_ k_ => XS.iload X_27.here hx rfl (hb hby at_239) rfl k_) ?_
        show own_G _ _ _ _ (T_27.setTop (mkF m 241 #[.val (.int p0), .val (.int p1), .val (.int p2), .val (.int u0), .val (.int u1), .val (.int u2), .val (.int f0), .val (.int f1), .val (.int f2), .val (.int kd), .val (.int y0), .val (.int y1), .val (.int y2), .val (.ref r_1), .val (.ref a_2), .val (.ref a_14), .unset, .unset, .unset] [(.int kd)]))
        refine own_G.go (fun t_ k_ => XS.iconst X_27.here hx rfl (hb hby at_241) k_) ?_
        show own_G _ _ _ _ (T_27.setTop (mkF m 242 #[.val (.int p0), .val (.int p1), .val (.int p2), .val (.int u0), .val (.int u1), .val (.int u2), .val (.int f0), .val (.int f1), .val (.int f2), .val (.int kd), .val (.int y0), .val (.int y1), .val (.int y2), .val (.ref r_1), .val (.ref a_2), .val (.ref a_14), .unset, .unset, .unset] [(.int (2 : Int32)), (.int kd)]))
        by_cases hk2 : kd = (2 : Int32)
        · refine own_G.go (fun t_ k_ => XS.icmpNo X_27.here hx rfl (hb hby at_242) rfl (teq hk2).2 k_) ?_
          show own_G _ _ _ _ (T_27.setTop (mkF m 245 #[.val (.int p0), .val (.int p1), .val (.int p2), .val (.int u0), .val (.int u1), .val (.int u2), .val (.int f0), .val (.int f1), .val (.int f2), .val (.int kd), .val (.int y0), .val (.int y1), .val (.int y2), .val (.ref r_1), .val (.ref a_2), .val (.ref a_14), .unset, .unset, .unset] []))
          refine own_G.go (fun t_ k_ => XS.aload X_27.here hx rfl (hb hby at_245) rfl rfl k_) ?_
          show own_G _ _ _ _ (T_27.setTop (mkF m 247 #[.val (.int p0), .val (.int p1), .val (.int p2), .val (.int u0), .val (.int u1), .val (.int u2), .val (.int f0), .val (.int f1), .val (.int f2), .val (.int kd), .val (.int y0), .val (.int y1), .val (.int y2), .val (.ref r_1), .val (.ref a_2), .val (.ref a_14), .unset, .unset, .unset] [(.ref r_1)]))
          refine own_G.go (fun t_ k_ => XS.astore X_27.here hx rfl (hb hby at_247) rfl rfl (l' := #[.val (.int p0), .val (.int p1), .val (.int p2), .val (.int u0), .val (.int u1), .val (.int u2), .val (.int f0), .val (.int f1), .val (.int f2), .val (.int kd), .val (.int y0), .val (.int y1), .val (.int y2), .val (.ref r_1), .val (.ref a_2), .val (.ref a_14), .val (.ref r_1), .unset, .unset]) rfl k_) ?_
          show own_G _ _ _ _ (T_27.setTop (mkF m 249 #[.val (.int p0), .val (.int p1), .val (.int p2), .val (.int u0), .val (.int u1), .val (.int u2), .val (.int f0), .val (.int f1), .val (.int f2), .val (.int kd), .val (.int y0), .val (.int y1), .val (.int y2), .val (.ref r_1), .val (.ref a_2), .val (.ref a_14), .val (.ref r_1), .unset, .unset] []))
          refine own_G.go (fun t_ k_ => XS.iconst X_27.here hx rfl (hb hby at_249) k_) ?_
          show own_G _ _ _ _ (T_27.setTop (mkF m 250 #[.val (.int p0), .val (.int p1), .val (.int p2), .val (.int u0), .val (.int u1), .val (.int u2), .val (.int f0), .val (.int f1), .val (.int f2), .val (.int kd), .val (.int y0), .val (.int y1), .val (.int y2), .val (.ref r_1), .val (.ref a_2), .val (.ref a_14), .val (.ref r_1), .unset, .unset] [(.int (0 : Int32))]))
          refine own_G.go (fun t_ k_ => XS.istore X_27.here hx rfl (hb hby at_250) rfl (l' := #[.val (.int p0), .val (.int p1), .val (.int p2), .val (.int u0), .val (.int u1), .val (.int u2), .val (.int f0), .val (.int f1), .val (.int f2), .val (.int kd), .val (.int y0), .val (.int y1), .val (.int y2), .val (.ref r_1), .val (.ref a_2), .val (.ref a_14), .val (.ref r_1), .val (.int (0 : Int32)), .unset]) rfl k_) ?_
          show own_G _ _ _ _ (T_27.setTop (mkF m 252 #[.val (.int p0), .val (.int p1), .val (.int p2), .val (.int u0), .val (.int u1), .val (.int u2), .val (.int f0), .val (.int f1), .val (.int f2), .val (.int kd), .val (.int y0), .val (.int y1), .val (.int y2), .val (.ref r_1), .val (.ref a_2), .val (.ref a_14), .val (.ref r_1), .val (.int (0 : Int32)), .unset] []))
          refine own_G.go (fun t_ k_ => XS.goto X_27.here hx rfl (pc0 := 252) (pc' := 262) rfl (hb hby at_252) (by decide) (by decide) k_) ?_
          show own_G _ _ _ _ (T_27.setTop (mkF m 262 #[.val (.int p0), .val (.int p1), .val (.int p2), .val (.int u0), .val (.int u1), .val (.int u2), .val (.int f0), .val (.int f1), .val (.int f2), .val (.int kd), .val (.int y0), .val (.int y1), .val (.int y2), .val (.ref r_1), .val (.ref a_2), .val (.ref a_14), .val (.ref r_1), .val (.int (0 : Int32)), .unset] []))
          refine own_G.go (fun t_ k_ => XS.aload X_27.here hx rfl (hb hby at_262) rfl rfl k_) ?_
          show own_G _ _ _ _ (T_27.setTop (mkF m 264 #[.val (.int p0), .val (.int p1), .val (.int p2), .val (.int u0), .val (.int u1), .val (.int u2), .val (.int f0), .val (.int f1), .val (.int f2), .val (.int kd), .val (.int y0), .val (.int y1), .val (.int y2), .val (.ref r_1), .val (.ref a_2), .val (.ref a_14), .val (.ref r_1), .val (.int (0 : Int32)), .unset] [(.ref a_2)]))
          refine own_G.go (fun t_ k_ => XS.aload X_27.here hx rfl (hb hby at_264) rfl rfl k_) ?_
          show own_G _ _ _ _ (T_27.setTop (mkF m 266 #[.val (.int p0), .val (.int p1), .val (.int p2), .val (.int u0), .val (.int u1), .val (.int u2), .val (.int f0), .val (.int f1), .val (.int f2), .val (.int kd), .val (.int y0), .val (.int y1), .val (.int y2), .val (.ref r_1), .val (.ref a_2), .val (.ref a_14), .val (.ref r_1), .val (.int (0 : Int32)), .unset] [(.ref r_1), (.ref a_2)]))
          have Ex_1'_150 : Exa Z T_27.heap r_1 "java/lang/String" := ((((((Ex_1'_11.keep K_13).ext E_14).keep K_16).keep K_18).keep K_20).keep K_27)
          have Ex_13'_152 : Exa Z T_27.heap a_2 "com/example/sluis/sluis/value/Order" := (((((Ex_13.ext E_14).keep K_16).keep K_18).keep K_20).keep K_27)
          obtain ⟨cq_151, kq_151, q_151a, q_151b, q_151c⟩ := isOf hZ_27 rfl Ex_13'_152
          obtain ⟨_, T_151, L_151, Q_151, X_151, st_151⟩ := own_callV X_27 hx (z := (⟨"com/example/sluis/sluis/value/Order", "equals", "(Ljava/lang/Object;)Z"⟩ : MethodName)) hown_27 (mvT hZ_27 (own_w hw 57 rfl)) (mvT hZ_27 (own_w hw 58 rfl)) (notFace_of_selects (args := #[]) (mvT hZ_27 (own_w hw 60 rfl))) (mvT hZ_27 (own_w hw 60 rfl)) (mvT hZ_27 (own_w hw 59 rfl)) (by decide) (Q := (Qeq False T_27.heap)) (backOf (W := 0) (rm_eqS l Z a0 hw [] a_2 r_1 T_27.heap n0 (Nat.le_trans Z0 (Nat.le_trans (Nat.le_trans (Nat.le_trans (Nat.le_trans (Nat.le_trans (Nat.le_trans (Nat.le_trans (Nat.le_trans (Nat.le_trans K_1.1 E_2.1) K_4.1) K_6.1) K_13.1) E_14.1) K_16.1) K_18.1) K_20.1) K_27.1)) Ex_1'_150) hZ_27 (own_w hw 61 rfl) (own_w hw 36 rfl) (by decide) (by decide)) q_151a q_151c (g := (mkF m 266 #[.val (.int p0), .val (.int p1), .val (.int p2), .val (.int u0), .val (.int u1), .val (.int u2), .val (.int f0), .val (.int f1), .val (.int f2), .val (.int kd), .val (.int y0), .val (.int y1), .val (.int y2), .val (.ref r_1), .val (.ref a_2), .val (.ref a_14), .val (.ref r_1), .val (.int (0 : Int32)), .unset] [(.ref r_1), (.ref a_2)])) rfl (by rw [hml]; rfl) (argsL := [(.ref r_1)]) (rest := []) (lenOf pd_3 rfl) rfl (by show 2 * 0 + _ ≤ _; exact Nat.le_of_eq rfl) (hb hby at_266) rfl rfl (by decide) (by decide)
          obtain ⟨⟨z_151, rfl, hz_151⟩, rfl, eh_151⟩ := Q_151
          refine own_G.via st_151 ?_
          have N_151 := Fr.app N_27 (Fr.nil n0)
          show own_G _ _ _ _ (T_151.setTop (mkF m 269 #[.val (.int p0), .val (.int p1), .val (.int p2), .val (.int u0), .val (.int u1), .val (.int u2), .val (.int f0), .val (.int f1), .val (.int f2), .val (.int kd), .val (.int y0), .val (.int y1), .val (.int y2), .val (.ref r_1), .val (.ref a_2), .val (.ref a_14), .val (.ref r_1), .val (.int (0 : Int32)), .unset] [(.int z_151)]))
          refine own_G.go (fun t_ k_ => XS.istore X_151.here hx rfl (hb hby at_269) rfl (l' := #[.val (.int p0), .val (.int p1), .val (.int p2), .val (.int u0), .val (.int u1), .val (.int u2), .val (.int f0), .val (.int f1), .val (.int f2), .val (.int kd), .val (.int y0), .val (.int y1), .val (.int y2), .val (.ref r_1), .val (.ref a_2), .val (.ref a_14), .val (.ref r_1), .val (.int (0 : Int32)), .val (.int z_151)]) rfl k_) ?_
          show own_G _ _ _ _ (T_151.setTop (mkF m 271 #[.val (.int p0), .val (.int p1), .val (.int p2), .val (.int u0), .val (.int u1), .val (.int u2), .val (.int f0), .val (.int f1), .val (.int f2), .val (.int kd), .val (.int y0), .val (.int y1), .val (.int y2), .val (.ref r_1), .val (.ref a_2), .val (.ref a_14), .val (.ref r_1), .val (.int (0 : Int32)), .val (.int z_151)] []))
          refine own_G.go (fun t_ k_ => XS.iload X_151.here hx rfl (hb hby at_271) rfl k_) ?_
          show own_G _ _ _ _ (T_151.setTop (mkF m 273 #[.val (.int p0), .val (.int p1), .val (.int p2), .val (.int u0), .val (.int u1), .val (.int u2), .val (.int f0), .val (.int f1), .val (.int f2), .val (.int kd), .val (.int y0), .val (.int y1), .val (.int y2), .val (.ref r_1), .val (.ref a_2), .val (.ref a_14), .val (.ref r_1), .val (.int (0 : Int32)), .val (.int z_151)] [(.int z_151)]))
          refine own_G.go (fun t_ k_ => XS.iload X_151.here hx rfl (hb hby at_273) rfl k_) ?_
          show own_G _ _ _ _ (T_151.setTop (mkF m 275 #[.val (.int p0), .val (.int p1), .val (.int p2), .val (.int u0), .val (.int u1), .val (.int u2), .val (.int f0), .val (.int f1), .val (.int f2), .val (.int kd), .val (.int y0), .val (.int y1), .val (.int y2), .val (.ref r_1), .val (.ref a_2), .val (.ref a_14), .val (.ref r_1), .val (.int (0 : Int32)), .val (.int z_151)] [(.int (0 : Int32)), (.int z_151)]))
          refine own_G.go (fun t_ k_ => XS.icmpNo X_151.here hx rfl (hb hby at_275) rfl (teq (own_z0 hz_151 id : z_151 = (0 : Int32))).2 k_) ?_
          show own_G _ _ _ _ (T_151.setTop (mkF m 278 #[.val (.int p0), .val (.int p1), .val (.int p2), .val (.int u0), .val (.int u1), .val (.int u2), .val (.int f0), .val (.int f1), .val (.int f2), .val (.int kd), .val (.int y0), .val (.int y1), .val (.int y2), .val (.ref r_1), .val (.ref a_2), .val (.ref a_14), .val (.ref r_1), .val (.int (0 : Int32)), .val (.int z_151)] []))
          refine own_G.go (fun t_ k_ => XS.iconst X_151.here hx rfl (hb hby at_278) k_) ?_
          show own_G _ _ _ _ (T_151.setTop (mkF m 279 #[.val (.int p0), .val (.int p1), .val (.int p2), .val (.int u0), .val (.int u1), .val (.int u2), .val (.int f0), .val (.int f1), .val (.int f2), .val (.int kd), .val (.int y0), .val (.int y1), .val (.int y2), .val (.ref r_1), .val (.ref a_2), .val (.ref a_14), .val (.ref r_1), .val (.int (0 : Int32)), .val (.int z_151)] [(.int (1 : Int32))]))
          refine own_G.go (fun t_ k_ => XS.goto X_151.here hx rfl (pc0 := 279) (pc' := 283) rfl (hb hby at_279) (by decide) (by decide) k_) ?_
          show own_G _ _ _ _ (T_151.setTop (mkF m 283 #[.val (.int p0), .val (.int p1), .val (.int p2), .val (.int u0), .val (.int u1), .val (.int u2), .val (.int f0), .val (.int f1), .val (.int f2), .val (.int kd), .val (.int y0), .val (.int y1), .val (.int y2), .val (.ref r_1), .val (.ref a_2), .val (.ref a_14), .val (.ref r_1), .val (.int (0 : Int32)), .val (.int z_151)] [(.int (1 : Int32))]))
          exact own_G.endW X_151 hS_27 (Nat.le_refl _) hlk (v := (some (.int (1 : Int32)))) (fun h => by rw [hrt] at h; cases h) (fun fs hr => retN X_151 hx (z := (1 : Int32)) (t := .boolean) hrt (by simp) (hb hby at_283) hr) eh_151 ⟨rfl, N_151⟩ (by decide) (by decide)
        · refine own_G.go (fun t_ k_ => XS.icmpYes X_27.here hx rfl (pc0 := 242) (pc' := 255) rfl (hb hby at_242) rfl (feq hk2).2 (by decide) (by decide) k_) ?_
          show own_G _ _ _ _ (T_27.setTop (mkF m 255 #[.val (.int p0), .val (.int p1), .val (.int p2), .val (.int u0), .val (.int u1), .val (.int u2), .val (.int f0), .val (.int f1), .val (.int f2), .val (.int kd), .val (.int y0), .val (.int y1), .val (.int y2), .val (.ref r_1), .val (.ref a_2), .val (.ref a_14), .unset, .unset, .unset] []))
          refine own_G.go (fun t_ k_ => XS.aload X_27.here hx rfl (hb hby at_255) rfl rfl k_) ?_
          show own_G _ _ _ _ (T_27.setTop (mkF m 257 #[.val (.int p0), .val (.int p1), .val (.int p2), .val (.int u0), .val (.int u1), .val (.int u2), .val (.int f0), .val (.int f1), .val (.int f2), .val (.int kd), .val (.int y0), .val (.int y1), .val (.int y2), .val (.ref r_1), .val (.ref a_2), .val (.ref a_14), .unset, .unset, .unset] [(.ref a_2)]))
          refine own_G.go (fun t_ k_ => XS.astore X_27.here hx rfl (hb hby at_257) rfl rfl (l' := #[.val (.int p0), .val (.int p1), .val (.int p2), .val (.int u0), .val (.int u1), .val (.int u2), .val (.int f0), .val (.int f1), .val (.int f2), .val (.int kd), .val (.int y0), .val (.int y1), .val (.int y2), .val (.ref r_1), .val (.ref a_2), .val (.ref a_14), .val (.ref a_2), .unset, .unset]) rfl k_) ?_
          show own_G _ _ _ _ (T_27.setTop (mkF m 259 #[.val (.int p0), .val (.int p1), .val (.int p2), .val (.int u0), .val (.int u1), .val (.int u2), .val (.int f0), .val (.int f1), .val (.int f2), .val (.int kd), .val (.int y0), .val (.int y1), .val (.int y2), .val (.ref r_1), .val (.ref a_2), .val (.ref a_14), .val (.ref a_2), .unset, .unset] []))
          refine own_G.go (fun t_ k_ => XS.iconst X_27.here hx rfl (hb hby at_259) k_) ?_
          show own_G _ _ _ _ (T_27.setTop (mkF m 260 #[.val (.int p0), .val (.int p1), .val (.int p2), .val (.int u0), .val (.int u1), .val (.int u2), .val (.int f0), .val (.int f1), .val (.int f2), .val (.int kd), .val (.int y0), .val (.int y1), .val (.int y2), .val (.ref r_1), .val (.ref a_2), .val (.ref a_14), .val (.ref a_2), .unset, .unset] [(.int (1 : Int32))]))
          refine own_G.go (fun t_ k_ => XS.istore X_27.here hx rfl (hb hby at_260) rfl (l' := #[.val (.int p0), .val (.int p1), .val (.int p2), .val (.int u0), .val (.int u1), .val (.int u2), .val (.int f0), .val (.int f1), .val (.int f2), .val (.int kd), .val (.int y0), .val (.int y1), .val (.int y2), .val (.ref r_1), .val (.ref a_2), .val (.ref a_14), .val (.ref a_2), .val (.int (1 : Int32)), .unset]) rfl k_) ?_
          show own_G _ _ _ _ (T_27.setTop (mkF m 262 #[.val (.int p0), .val (.int p1), .val (.int p2), .val (.int u0), .val (.int u1), .val (.int u2), .val (.int f0), .val (.int f1), .val (.int f2), .val (.int kd), .val (.int y0), .val (.int y1), .val (.int y2), .val (.ref r_1), .val (.ref a_2), .val (.ref a_14), .val (.ref a_2), .val (.int (1 : Int32)), .unset] []))
          refine own_G.go (fun t_ k_ => XS.aload X_27.here hx rfl (hb hby at_262) rfl rfl k_) ?_
          show own_G _ _ _ _ (T_27.setTop (mkF m 264 #[.val (.int p0), .val (.int p1), .val (.int p2), .val (.int u0), .val (.int u1), .val (.int u2), .val (.int f0), .val (.int f1), .val (.int f2), .val (.int kd), .val (.int y0), .val (.int y1), .val (.int y2), .val (.ref r_1), .val (.ref a_2), .val (.ref a_14), .val (.ref a_2), .val (.int (1 : Int32)), .unset] [(.ref a_2)]))
          refine own_G.go (fun t_ k_ => XS.aload X_27.here hx rfl (hb hby at_264) rfl rfl k_) ?_
          show own_G _ _ _ _ (T_27.setTop (mkF m 266 #[.val (.int p0), .val (.int p1), .val (.int p2), .val (.int u0), .val (.int u1), .val (.int u2), .val (.int f0), .val (.int f1), .val (.int f2), .val (.int kd), .val (.int y0), .val (.int y1), .val (.int y2), .val (.ref r_1), .val (.ref a_2), .val (.ref a_14), .val (.ref a_2), .val (.int (1 : Int32)), .unset] [(.ref a_2), (.ref a_2)]))
          have Ex_13'_153 : Exa Z T_27.heap a_2 "com/example/sluis/sluis/value/Order" := (((((Ex_13.ext E_14).keep K_16).keep K_18).keep K_20).keep K_27)
          have F0_13'_154 : Fld Z T_27.heap a_2 "com/example/sluis/sluis/value/Order" "id" "Ljava/lang/String;" (.ref r_1) := (((((F0_13.ext E_14).keep K_16 nin0).keep K_18 nin0).keep K_20 nin0).keep K_27 (ninS (Nat.ne_of_lt (Nat.lt_of_lt_of_le (Nat.lt_of_lt_of_le A_2.lt (Nat.le_trans (Nat.le_trans K_4.1 K_6.1) K_13.1)) (Nat.le_of_eq g_14.symm))) nin0))
          have F1_13'_155 : Fld Z T_27.heap a_2 "com/example/sluis/sluis/value/Order" "item" "Ljava/lang/String;" (.ref r_4) := (((((F1_13.ext E_14).keep K_16 nin0).keep K_18 nin0).keep K_20 nin0).keep K_27 (ninS (Nat.ne_of_lt (Nat.lt_of_lt_of_le (Nat.lt_of_lt_of_le A_2.lt (Nat.le_trans (Nat.le_trans K_4.1 K_6.1) K_13.1)) (Nat.le_of_eq g_14.symm))) nin0))
          have F2_13'_156 : Fld Z T_27.heap a_2 "com/example/sluis/sluis/value/Order" "buyer" "Ljava/lang/String;" (.ref r_6) := (((((F2_13.ext E_14).keep K_16 nin0).keep K_18 nin0).keep K_20 nin0).keep K_27 (ninS (Nat.ne_of_lt (Nat.lt_of_lt_of_le (Nat.lt_of_lt_of_le A_2.lt (Nat.le_trans (Nat.le_trans K_4.1 K_6.1) K_13.1)) (Nat.le_of_eq g_14.symm))) nin0))
          have Ex_1'_157 : Exa Z T_27.heap r_1 "java/lang/String" := ((((((Ex_1'_11.keep K_13).ext E_14).keep K_16).keep K_18).keep K_20).keep K_27)
          have Fc_1'_158 : Fld Z T_27.heap r_1 "java/lang/String" "coder" "B" (.int 0) := (((((((((Fc_1.ext E_2).keep K_4 nin0).keep K_6 nin0).keep K_13 (ninS (Nat.ne_of_lt (Nat.lt_of_lt_of_le Ex_1.lt (Nat.le_of_eq g_2.symm))) nin0)).ext E_14).keep K_16 nin0).keep K_18 nin0).keep K_20 nin0).keep K_27 (ninS (Nat.ne_of_lt (Nat.lt_of_lt_of_le (Nat.lt_of_lt_of_le Ex_1.lt (Nat.le_trans (Nat.le_trans (Nat.le_trans E_2.1 K_4.1) K_6.1) K_13.1)) (Nat.le_of_eq g_14.symm))) nin0))
          have Fv_1'_159 : Fld Z T_27.heap r_1 "java/lang/String" "value" "[B" (.ref t_1) := (((((((((Fv_1.ext E_2).keep K_4 nin0).keep K_6 nin0).keep K_13 (ninS (Nat.ne_of_lt (Nat.lt_of_lt_of_le Ex_1.lt (Nat.le_of_eq g_2.symm))) nin0)).ext E_14).keep K_16 nin0).keep K_18 nin0).keep K_20 nin0).keep K_27 (ninS (Nat.ne_of_lt (Nat.lt_of_lt_of_le (Nat.lt_of_lt_of_le Ex_1.lt (Nat.le_trans (Nat.le_trans (Nat.le_trans E_2.1 K_4.1) K_6.1) K_13.1)) (Nat.le_of_eq g_14.symm))) nin0))
          have Kb_1'_160 : Arv Z T_27.heap t_1 kb_1 .byte (1 : Int32) ((([u0] : List Int32).map (fun c => c.toInt8.toInt32)).map Value.int) (.int 0) := (((((((((Kb_1.ext E_2).keep K_4 nin0).keep K_6 nin0).keep K_13 (ninS (Nat.ne_of_lt (Nat.lt_of_lt_of_le Kb_1.lt (Nat.le_of_eq g_2.symm))) nin0)).ext E_14).keep K_16 nin0).keep K_18 nin0).keep K_20 nin0).keep K_27 (ninS (Nat.ne_of_lt (Nat.lt_of_lt_of_le (Nat.lt_of_lt_of_le Kb_1.lt (Nat.le_trans (Nat.le_trans (Nat.le_trans E_2.1 K_4.1) K_6.1) K_13.1)) (Nat.le_of_eq g_14.symm))) nin0))
          have Ex_4'_161 : Exa Z T_27.heap r_4 "java/lang/String" := ((((((Ex_4'_12.keep K_13).ext E_14).keep K_16).keep K_18).keep K_20).keep K_27)
          have Fc_4'_162 : Fld Z T_27.heap r_4 "java/lang/String" "coder" "B" (.int 0) := (((((((Fc_4.keep K_6 nin0).keep K_13 (ninS (Ne.symm (Nat.ne_of_lt (Nat.lt_of_lt_of_le A_2.lt lr_4))) nin0)).ext E_14).keep K_16 nin0).keep K_18 nin0).keep K_20 nin0).keep K_27 (ninS (Nat.ne_of_lt (Nat.lt_of_lt_of_le (Nat.lt_of_lt_of_le Ex_4.lt (Nat.le_trans K_6.1 K_13.1)) (Nat.le_of_eq g_14.symm))) nin0))
          have Fv_4'_163 : Fld Z T_27.heap r_4 "java/lang/String" "value" "[B" (.ref t_4) := (((((((Fv_4.keep K_6 nin0).keep K_13 (ninS (Ne.symm (Nat.ne_of_lt (Nat.lt_of_lt_of_le A_2.lt lr_4))) nin0)).ext E_14).keep K_16 nin0).keep K_18 nin0).keep K_20 nin0).keep K_27 (ninS (Nat.ne_of_lt (Nat.lt_of_lt_of_le (Nat.lt_of_lt_of_le Ex_4.lt (Nat.le_trans K_6.1 K_13.1)) (Nat.le_of_eq g_14.symm))) nin0))
          have Kb_4'_164 : Arv Z T_27.heap t_4 kb_4 .byte (1 : Int32) ((([u1] : List Int32).map (fun c => c.toInt8.toInt32)).map Value.int) (.int 0) := (((((((Kb_4.keep K_6 nin0).keep K_13 (ninS (Ne.symm (Nat.ne_of_lt (Nat.lt_of_lt_of_le A_2.lt lt_4))) nin0)).ext E_14).keep K_16 nin0).keep K_18 nin0).keep K_20 nin0).keep K_27 (ninS (Nat.ne_of_lt (Nat.lt_of_lt_of_le (Nat.lt_of_lt_of_le Kb_4.lt (Nat.le_trans K_6.1 K_13.1)) (Nat.le_of_eq g_14.symm))) nin0))
          have Ex_6'_165 : Exa Z T_27.heap r_6 "java/lang/String" := ((((((Ex_6.keep K_13).ext E_14).keep K_16).keep K_18).keep K_20).keep K_27)
          have Fc_6'_166 : Fld Z T_27.heap r_6 "java/lang/String" "coder" "B" (.int 0) := ((((((Fc_6.keep K_13 (ninS (Ne.symm (Nat.ne_of_lt (Nat.lt_of_lt_of_le (Nat.lt_of_lt_of_le A_2.lt K_4.1) lr_6))) nin0)).ext E_14).keep K_16 nin0).keep K_18 nin0).keep K_20 nin0).keep K_27 (ninS (Nat.ne_of_lt (Nat.lt_of_lt_of_le (Nat.lt_of_lt_of_le Ex_6.lt K_13.1) (Nat.le_of_eq g_14.symm))) nin0))
          have Fv_6'_167 : Fld Z T_27.heap r_6 "java/lang/String" "value" "[B" (.ref t_6) := ((((((Fv_6.keep K_13 (ninS (Ne.symm (Nat.ne_of_lt (Nat.lt_of_lt_of_le (Nat.lt_of_lt_of_le A_2.lt K_4.1) lr_6))) nin0)).ext E_14).keep K_16 nin0).keep K_18 nin0).keep K_20 nin0).keep K_27 (ninS (Nat.ne_of_lt (Nat.lt_of_lt_of_le (Nat.lt_of_lt_of_le Ex_6.lt K_13.1) (Nat.le_of_eq g_14.symm))) nin0))
          have Kb_6'_168 : Arv Z T_27.heap t_6 kb_6 .byte (1 : Int32) ((([u2] : List Int32).map (fun c => c.toInt8.toInt32)).map Value.int) (.int 0) := ((((((Kb_6.keep K_13 (ninS (Ne.symm (Nat.ne_of_lt (Nat.lt_of_lt_of_le (Nat.lt_of_lt_of_le A_2.lt K_4.1) lt_6))) nin0)).ext E_14).keep K_16 nin0).keep K_18 nin0).keep K_20 nin0).keep K_27 (ninS (Nat.ne_of_lt (Nat.lt_of_lt_of_le (Nat.lt_of_lt_of_le Kb_6.lt K_13.1) (Nat.le_of_eq g_14.symm))) nin0))
          have O_169d : Old Z n0 T_27.heap := ((O_19d.keep K_20 all0).keep K_27 (allS g0_a_14 all0))
          obtain ⟨cq_170, kq_170, q_170a, q_170b, q_170c⟩ := isOf hZ_27 rfl Ex_13'_153
          obtain ⟨_, T_170, L_170, Q_170, X_170, st_170⟩ := own_callV X_27 hx (z := (⟨"com/example/sluis/sluis/value/Order", "equals", "(Ljava/lang/Object;)Z"⟩ : MethodName)) hown_27 (mvT hZ_27 (own_w hw 57 rfl)) (mvT hZ_27 (own_w hw 58 rfl)) (notFace_of_selects (args := #[]) (mvT hZ_27 (own_w hw 60 rfl))) (mvT hZ_27 (own_w hw 60 rfl)) (mvT hZ_27 (own_w hw 59 rfl)) (by decide) (Q := (Qeq (u0 = u0 ∧ u1 = u1 ∧ u2 = u2) T_27.heap)) (backOf (W := 0) (rm_eqO l Z a0 hw [] a_2 a_2 r_1 r_4 r_6 r_1 r_4 r_6 t_1 t_4 t_6 t_1 t_4 t_6 kb_1 kb_4 kb_6 kb_1 kb_4 kb_6 u0 u1 u2 u0 u1 u2 zc T_27.heap n0 (Nat.le_trans Z0 (Nat.le_trans (Nat.le_trans (Nat.le_trans (Nat.le_trans (Nat.le_trans (Nat.le_trans (Nat.le_trans (Nat.le_trans (Nat.le_trans K_1.1 E_2.1) K_4.1) K_6.1) K_13.1) E_14.1) K_16.1) K_18.1) K_20.1) K_27.1)) Ex_13'_153 Ex_13'_153 F0_13'_154 F1_13'_155 F2_13'_156 F0_13'_154 F1_13'_155 F2_13'_156 Ex_1'_157 Fc_1'_158 Fv_1'_159 Kb_1'_160 h_u0 Ex_4'_161 Fc_4'_162 Fv_4'_163 Kb_4'_164 h_u1 Ex_6'_165 Fc_6'_166 Fv_6'_167 Kb_6'_168 h_u2 Ex_1'_157 Fc_1'_158 Fv_1'_159 Kb_1'_160 h_u0 Ex_4'_161 Fc_4'_162 Fv_4'_163 Kb_4'_164 h_u1 Ex_6'_165 Fc_6'_166 Fv_6'_167 Kb_6'_168 h_u2 O2 P5 O_169d) hZ_27 (own_w hw 61 rfl) (own_w hw 36 rfl) (by decide) (by decide)) q_170a q_170c (g := (mkF m 266 #[.val (.int p0), .val (.int p1), .val (.int p2), .val (.int u0), .val (.int u1), .val (.int u2), .val (.int f0), .val (.int f1), .val (.int f2), .val (.int kd), .val (.int y0), .val (.int y1), .val (.int y2), .val (.ref r_1), .val (.ref a_2), .val (.ref a_14), .val (.ref a_2), .val (.int (1 : Int32)), .unset] [(.ref a_2), (.ref a_2)])) rfl (by rw [hml]; rfl) (argsL := [(.ref a_2)]) (rest := []) (lenOf pd_3 rfl) rfl (by show 2 * 0 + _ ≤ _; exact Nat.le_of_eq rfl) (hb hby at_266) rfl rfl (by decide) (by decide)
          obtain ⟨⟨z_170, rfl, hz_170⟩, rfl, eh_170⟩ := Q_170
          refine own_G.via st_170 ?_
          have N_170 := Fr.app N_27 (Fr.nil n0)
          show own_G _ _ _ _ (T_170.setTop (mkF m 269 #[.val (.int p0), .val (.int p1), .val (.int p2), .val (.int u0), .val (.int u1), .val (.int u2), .val (.int f0), .val (.int f1), .val (.int f2), .val (.int kd), .val (.int y0), .val (.int y1), .val (.int y2), .val (.ref r_1), .val (.ref a_2), .val (.ref a_14), .val (.ref a_2), .val (.int (1 : Int32)), .unset] [(.int z_170)]))
          refine own_G.go (fun t_ k_ => XS.istore X_170.here hx rfl (hb hby at_269) rfl (l' := #[.val (.int p0), .val (.int p1), .val (.int p2), .val (.int u0), .val (.int u1), .val (.int u2), .val (.int f0), .val (.int f1), .val (.int f2), .val (.int kd), .val (.int y0), .val (.int y1), .val (.int y2), .val (.ref r_1), .val (.ref a_2), .val (.ref a_14), .val (.ref a_2), .val (.int (1 : Int32)), .val (.int z_170)]) rfl k_) ?_
          show own_G _ _ _ _ (T_170.setTop (mkF m 271 #[.val (.int p0), .val (.int p1), .val (.int p2), .val (.int u0), .val (.int u1), .val (.int u2), .val (.int f0), .val (.int f1), .val (.int f2), .val (.int kd), .val (.int y0), .val (.int y1), .val (.int y2), .val (.ref r_1), .val (.ref a_2), .val (.ref a_14), .val (.ref a_2), .val (.int (1 : Int32)), .val (.int z_170)] []))
          refine own_G.go (fun t_ k_ => XS.iload X_170.here hx rfl (hb hby at_271) rfl k_) ?_
          show own_G _ _ _ _ (T_170.setTop (mkF m 273 #[.val (.int p0), .val (.int p1), .val (.int p2), .val (.int u0), .val (.int u1), .val (.int u2), .val (.int f0), .val (.int f1), .val (.int f2), .val (.int kd), .val (.int y0), .val (.int y1), .val (.int y2), .val (.ref r_1), .val (.ref a_2), .val (.ref a_14), .val (.ref a_2), .val (.int (1 : Int32)), .val (.int z_170)] [(.int z_170)]))
          refine own_G.go (fun t_ k_ => XS.iload X_170.here hx rfl (hb hby at_273) rfl k_) ?_
          show own_G _ _ _ _ (T_170.setTop (mkF m 275 #[.val (.int p0), .val (.int p1), .val (.int p2), .val (.int u0), .val (.int u1), .val (.int u2), .val (.int f0), .val (.int f1), .val (.int f2), .val (.int kd), .val (.int y0), .val (.int y1), .val (.int y2), .val (.ref r_1), .val (.ref a_2), .val (.ref a_14), .val (.ref a_2), .val (.int (1 : Int32)), .val (.int z_170)] [(.int (1 : Int32)), (.int z_170)]))
          refine own_G.go (fun t_ k_ => XS.icmpNo X_170.here hx rfl (hb hby at_275) rfl (teq (own_z1 hz_170 ⟨rfl, rfl, rfl⟩ : z_170 = (1 : Int32))).2 k_) ?_
          show own_G _ _ _ _ (T_170.setTop (mkF m 278 #[.val (.int p0), .val (.int p1), .val (.int p2), .val (.int u0), .val (.int u1), .val (.int u2), .val (.int f0), .val (.int f1), .val (.int f2), .val (.int kd), .val (.int y0), .val (.int y1), .val (.int y2), .val (.ref r_1), .val (.ref a_2), .val (.ref a_14), .val (.ref a_2), .val (.int (1 : Int32)), .val (.int z_170)] []))
          refine own_G.go (fun t_ k_ => XS.iconst X_170.here hx rfl (hb hby at_278) k_) ?_
          show own_G _ _ _ _ (T_170.setTop (mkF m 279 #[.val (.int p0), .val (.int p1), .val (.int p2), .val (.int u0), .val (.int u1), .val (.int u2), .val (.int f0), .val (.int f1), .val (.int f2), .val (.int kd), .val (.int y0), .val (.int y1), .val (.int y2), .val (.ref r_1), .val (.ref a_2), .val (.ref a_14), .val (.ref a_2), .val (.int (1 : Int32)), .val (.int z_170)] [(.int (1 : Int32))]))
          refine own_G.go (fun t_ k_ => XS.goto X_170.here hx rfl (pc0 := 279) (pc' := 283) rfl (hb hby at_279) (by decide) (by decide) k_) ?_
          show own_G _ _ _ _ (T_170.setTop (mkF m 283 #[.val (.int p0), .val (.int p1), .val (.int p2), .val (.int u0), .val (.int u1), .val (.int u2), .val (.int f0), .val (.int f1), .val (.int f2), .val (.int kd), .val (.int y0), .val (.int y1), .val (.int y2), .val (.ref r_1), .val (.ref a_2), .val (.ref a_14), .val (.ref a_2), .val (.int (1 : Int32)), .val (.int z_170)] [(.int (1 : Int32))]))
          exact own_G.endW X_170 hS_27 (Nat.le_refl _) hlk (v := (some (.int (1 : Int32)))) (fun h => by rw [hrt] at h; cases h) (fun fs hr => retN X_170 hx (z := (1 : Int32)) (t := .boolean) hrt (by simp) (hb hby at_283) hr) eh_170 ⟨rfl, N_170⟩ (by decide) (by decide)
  refine own_G.go (fun t_ k_ => XS.iloadN X0.here hx rfl (hb hby at_0) rfl k_) ?_
  show own_G _ _ _ _ (s₁.setTop (mkF m 1 #[.val (.int p0), .val (.int p1), .val (.int p2), .unset, .unset, .unset, .unset, .unset, .unset, .unset, .unset, .unset, .unset, .unset, .unset, .unset, .unset, .unset, .unset] [(.int p0)]))
  refine own_G.go (fun t_ k_ => XS.sipush X0.here hx rfl (hb hby at_1) k_) ?_
  show own_G _ _ _ _ (s₁.setTop (mkF m 4 #[.val (.int p0), .val (.int p1), .val (.int p2), .unset, .unset, .unset, .unset, .unset, .unset, .unset, .unset, .unset, .unset, .unset, .unset, .unset, .unset, .unset, .unset] [(.int (255 : Int32)), (.int p0)]))
  refine own_G.go (fun t_ k_ => XS.iand X0.here hx rfl (hb hby at_4) rfl k_) ?_
  show own_G _ _ _ _ (s₁.setTop (mkF m 5 #[.val (.int p0), .val (.int p1), .val (.int p2), .unset, .unset, .unset, .unset, .unset, .unset, .unset, .unset, .unset, .unset, .unset, .unset, .unset, .unset, .unset, .unset] [(.int (p0 &&& (255 : Int32)))]))
  refine own_G.go (fun t_ k_ => XS.i2c X0.here hx rfl (hb hby at_5) rfl k_) ?_
  show own_G _ _ _ _ (s₁.setTop (mkF m 6 #[.val (.int p0), .val (.int p1), .val (.int p2), .unset, .unset, .unset, .unset, .unset, .unset, .unset, .unset, .unset, .unset, .unset, .unset, .unset, .unset, .unset, .unset] [(.int (own_c (p0 &&& (255 : Int32))))]))
  refine own_G.go (fun t_ k_ => XS.istoreN X0.here hx rfl (hb hby at_6) rfl (l' := #[.val (.int p0), .val (.int p1), .val (.int p2), .val (.int (own_c (p0 &&& (255 : Int32)))), .unset, .unset, .unset, .unset, .unset, .unset, .unset, .unset, .unset, .unset, .unset, .unset, .unset, .unset, .unset]) rfl k_) ?_
  show own_G _ _ _ _ (s₁.setTop (mkF m 7 #[.val (.int p0), .val (.int p1), .val (.int p2), .val (.int (own_c (p0 &&& (255 : Int32)))), .unset, .unset, .unset, .unset, .unset, .unset, .unset, .unset, .unset, .unset, .unset, .unset, .unset, .unset, .unset] []))
  refine own_G.go (fun t_ k_ => XS.iloadN X0.here hx rfl (hb hby at_7) rfl k_) ?_
  show own_G _ _ _ _ (s₁.setTop (mkF m 8 #[.val (.int p0), .val (.int p1), .val (.int p2), .val (.int (own_c (p0 &&& (255 : Int32)))), .unset, .unset, .unset, .unset, .unset, .unset, .unset, .unset, .unset, .unset, .unset, .unset, .unset, .unset, .unset] [(.int p0)]))
  refine own_G.go (fun t_ k_ => XS.bipush X0.here hx rfl (hb hby at_8) k_) ?_
  show own_G _ _ _ _ (s₁.setTop (mkF m 10 #[.val (.int p0), .val (.int p1), .val (.int p2), .val (.int (own_c (p0 &&& (255 : Int32)))), .unset, .unset, .unset, .unset, .unset, .unset, .unset, .unset, .unset, .unset, .unset, .unset, .unset, .unset, .unset] [(.int (8 : Int32)), (.int p0)]))
  refine own_G.go (fun t_ k_ => XS.iushr X0.here hx rfl (hb hby at_10) rfl k_) ?_
  show own_G _ _ _ _ (s₁.setTop (mkF m 11 #[.val (.int p0), .val (.int p1), .val (.int p2), .val (.int (own_c (p0 &&& (255 : Int32)))), .unset, .unset, .unset, .unset, .unset, .unset, .unset, .unset, .unset, .unset, .unset, .unset, .unset, .unset, .unset] [(.int (Jvm.Free.XT.ushr p0 (8 : Int32)))]))
  refine own_G.go (fun t_ k_ => XS.sipush X0.here hx rfl (hb hby at_11) k_) ?_
  show own_G _ _ _ _ (s₁.setTop (mkF m 14 #[.val (.int p0), .val (.int p1), .val (.int p2), .val (.int (own_c (p0 &&& (255 : Int32)))), .unset, .unset, .unset, .unset, .unset, .unset, .unset, .unset, .unset, .unset, .unset, .unset, .unset, .unset, .unset] [(.int (255 : Int32)), (.int (Jvm.Free.XT.ushr p0 (8 : Int32)))]))
  refine own_G.go (fun t_ k_ => XS.iand X0.here hx rfl (hb hby at_14) rfl k_) ?_
  show own_G _ _ _ _ (s₁.setTop (mkF m 15 #[.val (.int p0), .val (.int p1), .val (.int p2), .val (.int (own_c (p0 &&& (255 : Int32)))), .unset, .unset, .unset, .unset, .unset, .unset, .unset, .unset, .unset, .unset, .unset, .unset, .unset, .unset, .unset] [(.int ((Jvm.Free.XT.ushr p0 (8 : Int32)) &&& (255 : Int32)))]))
  refine own_G.go (fun t_ k_ => XS.i2c X0.here hx rfl (hb hby at_15) rfl k_) ?_
  show own_G _ _ _ _ (s₁.setTop (mkF m 16 #[.val (.int p0), .val (.int p1), .val (.int p2), .val (.int (own_c (p0 &&& (255 : Int32)))), .unset, .unset, .unset, .unset, .unset, .unset, .unset, .unset, .unset, .unset, .unset, .unset, .unset, .unset, .unset] [(.int (own_c ((Jvm.Free.XT.ushr p0 (8 : Int32)) &&& (255 : Int32))))]))
  refine own_G.go (fun t_ k_ => XS.istore X0.here hx rfl (hb hby at_16) rfl (l' := #[.val (.int p0), .val (.int p1), .val (.int p2), .val (.int (own_c (p0 &&& (255 : Int32)))), .val (.int (own_c ((Jvm.Free.XT.ushr p0 (8 : Int32)) &&& (255 : Int32)))), .unset, .unset, .unset, .unset, .unset, .unset, .unset, .unset, .unset, .unset, .unset, .unset, .unset, .unset]) rfl k_) ?_
  show own_G _ _ _ _ (s₁.setTop (mkF m 18 #[.val (.int p0), .val (.int p1), .val (.int p2), .val (.int (own_c (p0 &&& (255 : Int32)))), .val (.int (own_c ((Jvm.Free.XT.ushr p0 (8 : Int32)) &&& (255 : Int32)))), .unset, .unset, .unset, .unset, .unset, .unset, .unset, .unset, .unset, .unset, .unset, .unset, .unset, .unset] []))
  refine own_G.go (fun t_ k_ => XS.iloadN X0.here hx rfl (hb hby at_18) rfl k_) ?_
  show own_G _ _ _ _ (s₁.setTop (mkF m 19 #[.val (.int p0), .val (.int p1), .val (.int p2), .val (.int (own_c (p0 &&& (255 : Int32)))), .val (.int (own_c ((Jvm.Free.XT.ushr p0 (8 : Int32)) &&& (255 : Int32)))), .unset, .unset, .unset, .unset, .unset, .unset, .unset, .unset, .unset, .unset, .unset, .unset, .unset, .unset] [(.int p0)]))
  refine own_G.go (fun t_ k_ => XS.bipush X0.here hx rfl (hb hby at_19) k_) ?_
  show own_G _ _ _ _ (s₁.setTop (mkF m 21 #[.val (.int p0), .val (.int p1), .val (.int p2), .val (.int (own_c (p0 &&& (255 : Int32)))), .val (.int (own_c ((Jvm.Free.XT.ushr p0 (8 : Int32)) &&& (255 : Int32)))), .unset, .unset, .unset, .unset, .unset, .unset, .unset, .unset, .unset, .unset, .unset, .unset, .unset, .unset] [(.int (16 : Int32)), (.int p0)]))
  refine own_G.go (fun t_ k_ => XS.iushr X0.here hx rfl (hb hby at_21) rfl k_) ?_
  show own_G _ _ _ _ (s₁.setTop (mkF m 22 #[.val (.int p0), .val (.int p1), .val (.int p2), .val (.int (own_c (p0 &&& (255 : Int32)))), .val (.int (own_c ((Jvm.Free.XT.ushr p0 (8 : Int32)) &&& (255 : Int32)))), .unset, .unset, .unset, .unset, .unset, .unset, .unset, .unset, .unset, .unset, .unset, .unset, .unset, .unset] [(.int (Jvm.Free.XT.ushr p0 (16 : Int32)))]))
  refine own_G.go (fun t_ k_ => XS.sipush X0.here hx rfl (hb hby at_22) k_) ?_
  show own_G _ _ _ _ (s₁.setTop (mkF m 25 #[.val (.int p0), .val (.int p1), .val (.int p2), .val (.int (own_c (p0 &&& (255 : Int32)))), .val (.int (own_c ((Jvm.Free.XT.ushr p0 (8 : Int32)) &&& (255 : Int32)))), .unset, .unset, .unset, .unset, .unset, .unset, .unset, .unset, .unset, .unset, .unset, .unset, .unset, .unset] [(.int (255 : Int32)), (.int (Jvm.Free.XT.ushr p0 (16 : Int32)))]))
  refine own_G.go (fun t_ k_ => XS.iand X0.here hx rfl (hb hby at_25) rfl k_) ?_
  show own_G _ _ _ _ (s₁.setTop (mkF m 26 #[.val (.int p0), .val (.int p1), .val (.int p2), .val (.int (own_c (p0 &&& (255 : Int32)))), .val (.int (own_c ((Jvm.Free.XT.ushr p0 (8 : Int32)) &&& (255 : Int32)))), .unset, .unset, .unset, .unset, .unset, .unset, .unset, .unset, .unset, .unset, .unset, .unset, .unset, .unset] [(.int ((Jvm.Free.XT.ushr p0 (16 : Int32)) &&& (255 : Int32)))]))
  refine own_G.go (fun t_ k_ => XS.i2c X0.here hx rfl (hb hby at_26) rfl k_) ?_
  show own_G _ _ _ _ (s₁.setTop (mkF m 27 #[.val (.int p0), .val (.int p1), .val (.int p2), .val (.int (own_c (p0 &&& (255 : Int32)))), .val (.int (own_c ((Jvm.Free.XT.ushr p0 (8 : Int32)) &&& (255 : Int32)))), .unset, .unset, .unset, .unset, .unset, .unset, .unset, .unset, .unset, .unset, .unset, .unset, .unset, .unset] [(.int (own_c ((Jvm.Free.XT.ushr p0 (16 : Int32)) &&& (255 : Int32))))]))
  refine own_G.go (fun t_ k_ => XS.istore X0.here hx rfl (hb hby at_27) rfl (l' := #[.val (.int p0), .val (.int p1), .val (.int p2), .val (.int (own_c (p0 &&& (255 : Int32)))), .val (.int (own_c ((Jvm.Free.XT.ushr p0 (8 : Int32)) &&& (255 : Int32)))), .val (.int (own_c ((Jvm.Free.XT.ushr p0 (16 : Int32)) &&& (255 : Int32)))), .unset, .unset, .unset, .unset, .unset, .unset, .unset, .unset, .unset, .unset, .unset, .unset, .unset]) rfl k_) ?_
  show own_G _ _ _ _ (s₁.setTop (mkF m 29 #[.val (.int p0), .val (.int p1), .val (.int p2), .val (.int (own_c (p0 &&& (255 : Int32)))), .val (.int (own_c ((Jvm.Free.XT.ushr p0 (8 : Int32)) &&& (255 : Int32)))), .val (.int (own_c ((Jvm.Free.XT.ushr p0 (16 : Int32)) &&& (255 : Int32)))), .unset, .unset, .unset, .unset, .unset, .unset, .unset, .unset, .unset, .unset, .unset, .unset, .unset] []))
  refine own_G.go (fun t_ k_ => XS.iloadN X0.here hx rfl (hb hby at_29) rfl k_) ?_
  show own_G _ _ _ _ (s₁.setTop (mkF m 30 #[.val (.int p0), .val (.int p1), .val (.int p2), .val (.int (own_c (p0 &&& (255 : Int32)))), .val (.int (own_c ((Jvm.Free.XT.ushr p0 (8 : Int32)) &&& (255 : Int32)))), .val (.int (own_c ((Jvm.Free.XT.ushr p0 (16 : Int32)) &&& (255 : Int32)))), .unset, .unset, .unset, .unset, .unset, .unset, .unset, .unset, .unset, .unset, .unset, .unset, .unset] [(.int p2)]))
  refine own_G.go (fun t_ k_ => XS.iconst X0.here hx rfl (hb hby at_30) k_) ?_
  show own_G _ _ _ _ (s₁.setTop (mkF m 31 #[.val (.int p0), .val (.int p1), .val (.int p2), .val (.int (own_c (p0 &&& (255 : Int32)))), .val (.int (own_c ((Jvm.Free.XT.ushr p0 (8 : Int32)) &&& (255 : Int32)))), .val (.int (own_c ((Jvm.Free.XT.ushr p0 (16 : Int32)) &&& (255 : Int32)))), .unset, .unset, .unset, .unset, .unset, .unset, .unset, .unset, .unset, .unset, .unset, .unset, .unset] [(.int (1 : Int32)), (.int p2)]))
  refine own_G.go (fun t_ k_ => XS.iand X0.here hx rfl (hb hby at_31) rfl k_) ?_
  show own_G _ _ _ _ (s₁.setTop (mkF m 32 #[.val (.int p0), .val (.int p1), .val (.int p2), .val (.int (own_c (p0 &&& (255 : Int32)))), .val (.int (own_c ((Jvm.Free.XT.ushr p0 (8 : Int32)) &&& (255 : Int32)))), .val (.int (own_c ((Jvm.Free.XT.ushr p0 (16 : Int32)) &&& (255 : Int32)))), .unset, .unset, .unset, .unset, .unset, .unset, .unset, .unset, .unset, .unset, .unset, .unset, .unset] [(.int (p2 &&& (1 : Int32)))]))
  by_cases hb32 : (p2 &&& (1 : Int32)) = (0 : Int32)
  · refine own_G.go (fun t_ k_ => XS.ifYes X0.here hx rfl (pc0 := 32) (pc' := 39) rfl (hb hby at_32) rfl ((if0 _ _).trans (teq hb32).1) (by decide) (by decide) k_) ?_
    show own_G _ _ _ _ (s₁.setTop (mkF m 39 #[.val (.int p0), .val (.int p1), .val (.int p2), .val (.int (own_c (p0 &&& (255 : Int32)))), .val (.int (own_c ((Jvm.Free.XT.ushr p0 (8 : Int32)) &&& (255 : Int32)))), .val (.int (own_c ((Jvm.Free.XT.ushr p0 (16 : Int32)) &&& (255 : Int32)))), .unset, .unset, .unset, .unset, .unset, .unset, .unset, .unset, .unset, .unset, .unset, .unset, .unset] []))
    refine own_G.go (fun t_ k_ => XS.iconst X0.here hx rfl (hb hby at_39) k_) ?_
    show own_G _ _ _ _ (s₁.setTop (mkF m 40 #[.val (.int p0), .val (.int p1), .val (.int p2), .val (.int (own_c (p0 &&& (255 : Int32)))), .val (.int (own_c ((Jvm.Free.XT.ushr p0 (8 : Int32)) &&& (255 : Int32)))), .val (.int (own_c ((Jvm.Free.XT.ushr p0 (16 : Int32)) &&& (255 : Int32)))), .unset, .unset, .unset, .unset, .unset, .unset, .unset, .unset, .unset, .unset, .unset, .unset, .unset] [(.int (0 : Int32))]))
    refine own_G.go (fun t_ k_ => XS.istore X0.here hx rfl (hb hby at_40) rfl (l' := #[.val (.int p0), .val (.int p1), .val (.int p2), .val (.int (own_c (p0 &&& (255 : Int32)))), .val (.int (own_c ((Jvm.Free.XT.ushr p0 (8 : Int32)) &&& (255 : Int32)))), .val (.int (own_c ((Jvm.Free.XT.ushr p0 (16 : Int32)) &&& (255 : Int32)))), .val (.int (0 : Int32)), .unset, .unset, .unset, .unset, .unset, .unset, .unset, .unset, .unset, .unset, .unset, .unset]) rfl k_) ?_
    show own_G _ _ _ _ (s₁.setTop (mkF m 42 #[.val (.int p0), .val (.int p1), .val (.int p2), .val (.int (own_c (p0 &&& (255 : Int32)))), .val (.int (own_c ((Jvm.Free.XT.ushr p0 (8 : Int32)) &&& (255 : Int32)))), .val (.int (own_c ((Jvm.Free.XT.ushr p0 (16 : Int32)) &&& (255 : Int32)))), .val (.int (0 : Int32)), .unset, .unset, .unset, .unset, .unset, .unset, .unset, .unset, .unset, .unset, .unset, .unset] []))
    refine own_G.go (fun t_ k_ => XS.iloadN X0.here hx rfl (hb hby at_42) rfl k_) ?_
    show own_G _ _ _ _ (s₁.setTop (mkF m 43 #[.val (.int p0), .val (.int p1), .val (.int p2), .val (.int (own_c (p0 &&& (255 : Int32)))), .val (.int (own_c ((Jvm.Free.XT.ushr p0 (8 : Int32)) &&& (255 : Int32)))), .val (.int (own_c ((Jvm.Free.XT.ushr p0 (16 : Int32)) &&& (255 : Int32)))), .val (.int (0 : Int32)), .unset, .unset, .unset, .unset, .unset, .unset, .unset, .unset, .unset, .unset, .unset, .unset] [(.int p2)]))
    refine own_G.go (fun t_ k_ => XS.iconst X0.here hx rfl (hb hby at_43) k_) ?_
    show own_G _ _ _ _ (s₁.setTop (mkF m 44 #[.val (.int p0), .val (.int p1), .val (.int p2), .val (.int (own_c (p0 &&& (255 : Int32)))), .val (.int (own_c ((Jvm.Free.XT.ushr p0 (8 : Int32)) &&& (255 : Int32)))), .val (.int (own_c ((Jvm.Free.XT.ushr p0 (16 : Int32)) &&& (255 : Int32)))), .val (.int (0 : Int32)), .unset, .unset, .unset, .unset, .unset, .unset, .unset, .unset, .unset, .unset, .unset, .unset] [(.int (2 : Int32)), (.int p2)]))
    refine own_G.go (fun t_ k_ => XS.iand X0.here hx rfl (hb hby at_44) rfl k_) ?_
    show own_G _ _ _ _ (s₁.setTop (mkF m 45 #[.val (.int p0), .val (.int p1), .val (.int p2), .val (.int (own_c (p0 &&& (255 : Int32)))), .val (.int (own_c ((Jvm.Free.XT.ushr p0 (8 : Int32)) &&& (255 : Int32)))), .val (.int (own_c ((Jvm.Free.XT.ushr p0 (16 : Int32)) &&& (255 : Int32)))), .val (.int (0 : Int32)), .unset, .unset, .unset, .unset, .unset, .unset, .unset, .unset, .unset, .unset, .unset, .unset] [(.int (p2 &&& (2 : Int32)))]))
    by_cases hb45 : (p2 &&& (2 : Int32)) = (0 : Int32)
    · refine own_G.go (fun t_ k_ => XS.ifYes X0.here hx rfl (pc0 := 45) (pc' := 52) rfl (hb hby at_45) rfl ((if0 _ _).trans (teq hb45).1) (by decide) (by decide) k_) ?_
      show own_G _ _ _ _ (s₁.setTop (mkF m 52 #[.val (.int p0), .val (.int p1), .val (.int p2), .val (.int (own_c (p0 &&& (255 : Int32)))), .val (.int (own_c ((Jvm.Free.XT.ushr p0 (8 : Int32)) &&& (255 : Int32)))), .val (.int (own_c ((Jvm.Free.XT.ushr p0 (16 : Int32)) &&& (255 : Int32)))), .val (.int (0 : Int32)), .unset, .unset, .unset, .unset, .unset, .unset, .unset, .unset, .unset, .unset, .unset, .unset] []))
      refine own_G.go (fun t_ k_ => XS.iconst X0.here hx rfl (hb hby at_52) k_) ?_
      show own_G _ _ _ _ (s₁.setTop (mkF m 53 #[.val (.int p0), .val (.int p1), .val (.int p2), .val (.int (own_c (p0 &&& (255 : Int32)))), .val (.int (own_c ((Jvm.Free.XT.ushr p0 (8 : Int32)) &&& (255 : Int32)))), .val (.int (own_c ((Jvm.Free.XT.ushr p0 (16 : Int32)) &&& (255 : Int32)))), .val (.int (0 : Int32)), .unset, .unset, .unset, .unset, .unset, .unset, .unset, .unset, .unset, .unset, .unset, .unset] [(.int (0 : Int32))]))
      refine own_G.go (fun t_ k_ => XS.istore X0.here hx rfl (hb hby at_53) rfl (l' := #[.val (.int p0), .val (.int p1), .val (.int p2), .val (.int (own_c (p0 &&& (255 : Int32)))), .val (.int (own_c ((Jvm.Free.XT.ushr p0 (8 : Int32)) &&& (255 : Int32)))), .val (.int (own_c ((Jvm.Free.XT.ushr p0 (16 : Int32)) &&& (255 : Int32)))), .val (.int (0 : Int32)), .val (.int (0 : Int32)), .unset, .unset, .unset, .unset, .unset, .unset, .unset, .unset, .unset, .unset, .unset]) rfl k_) ?_
      show own_G _ _ _ _ (s₁.setTop (mkF m 55 #[.val (.int p0), .val (.int p1), .val (.int p2), .val (.int (own_c (p0 &&& (255 : Int32)))), .val (.int (own_c ((Jvm.Free.XT.ushr p0 (8 : Int32)) &&& (255 : Int32)))), .val (.int (own_c ((Jvm.Free.XT.ushr p0 (16 : Int32)) &&& (255 : Int32)))), .val (.int (0 : Int32)), .val (.int (0 : Int32)), .unset, .unset, .unset, .unset, .unset, .unset, .unset, .unset, .unset, .unset, .unset] []))
      refine own_G.go (fun t_ k_ => XS.iloadN X0.here hx rfl (hb hby at_55) rfl k_) ?_
      show own_G _ _ _ _ (s₁.setTop (mkF m 56 #[.val (.int p0), .val (.int p1), .val (.int p2), .val (.int (own_c (p0 &&& (255 : Int32)))), .val (.int (own_c ((Jvm.Free.XT.ushr p0 (8 : Int32)) &&& (255 : Int32)))), .val (.int (own_c ((Jvm.Free.XT.ushr p0 (16 : Int32)) &&& (255 : Int32)))), .val (.int (0 : Int32)), .val (.int (0 : Int32)), .unset, .unset, .unset, .unset, .unset, .unset, .unset, .unset, .unset, .unset, .unset] [(.int p2)]))
      refine own_G.go (fun t_ k_ => XS.iconst X0.here hx rfl (hb hby at_56) k_) ?_
      show own_G _ _ _ _ (s₁.setTop (mkF m 57 #[.val (.int p0), .val (.int p1), .val (.int p2), .val (.int (own_c (p0 &&& (255 : Int32)))), .val (.int (own_c ((Jvm.Free.XT.ushr p0 (8 : Int32)) &&& (255 : Int32)))), .val (.int (own_c ((Jvm.Free.XT.ushr p0 (16 : Int32)) &&& (255 : Int32)))), .val (.int (0 : Int32)), .val (.int (0 : Int32)), .unset, .unset, .unset, .unset, .unset, .unset, .unset, .unset, .unset, .unset, .unset] [(.int (4 : Int32)), (.int p2)]))
      refine own_G.go (fun t_ k_ => XS.iand X0.here hx rfl (hb hby at_57) rfl k_) ?_
      show own_G _ _ _ _ (s₁.setTop (mkF m 58 #[.val (.int p0), .val (.int p1), .val (.int p2), .val (.int (own_c (p0 &&& (255 : Int32)))), .val (.int (own_c ((Jvm.Free.XT.ushr p0 (8 : Int32)) &&& (255 : Int32)))), .val (.int (own_c ((Jvm.Free.XT.ushr p0 (16 : Int32)) &&& (255 : Int32)))), .val (.int (0 : Int32)), .val (.int (0 : Int32)), .unset, .unset, .unset, .unset, .unset, .unset, .unset, .unset, .unset, .unset, .unset] [(.int (p2 &&& (4 : Int32)))]))
      by_cases hb58 : (p2 &&& (4 : Int32)) = (0 : Int32)
      · refine own_G.go (fun t_ k_ => XS.ifYes X0.here hx rfl (pc0 := 58) (pc' := 65) rfl (hb hby at_58) rfl ((if0 _ _).trans (teq hb58).1) (by decide) (by decide) k_) ?_
        show own_G _ _ _ _ (s₁.setTop (mkF m 65 #[.val (.int p0), .val (.int p1), .val (.int p2), .val (.int (own_c (p0 &&& (255 : Int32)))), .val (.int (own_c ((Jvm.Free.XT.ushr p0 (8 : Int32)) &&& (255 : Int32)))), .val (.int (own_c ((Jvm.Free.XT.ushr p0 (16 : Int32)) &&& (255 : Int32)))), .val (.int (0 : Int32)), .val (.int (0 : Int32)), .unset, .unset, .unset, .unset, .unset, .unset, .unset, .unset, .unset, .unset, .unset] []))
        refine own_G.go (fun t_ k_ => XS.iconst X0.here hx rfl (hb hby at_65) k_) ?_
        show own_G _ _ _ _ (s₁.setTop (mkF m 66 #[.val (.int p0), .val (.int p1), .val (.int p2), .val (.int (own_c (p0 &&& (255 : Int32)))), .val (.int (own_c ((Jvm.Free.XT.ushr p0 (8 : Int32)) &&& (255 : Int32)))), .val (.int (own_c ((Jvm.Free.XT.ushr p0 (16 : Int32)) &&& (255 : Int32)))), .val (.int (0 : Int32)), .val (.int (0 : Int32)), .unset, .unset, .unset, .unset, .unset, .unset, .unset, .unset, .unset, .unset, .unset] [(.int (0 : Int32))]))
        refine own_G.go (fun t_ k_ => XS.istore X0.here hx rfl (hb hby at_66) rfl (l' := #[.val (.int p0), .val (.int p1), .val (.int p2), .val (.int (own_c (p0 &&& (255 : Int32)))), .val (.int (own_c ((Jvm.Free.XT.ushr p0 (8 : Int32)) &&& (255 : Int32)))), .val (.int (own_c ((Jvm.Free.XT.ushr p0 (16 : Int32)) &&& (255 : Int32)))), .val (.int (0 : Int32)), .val (.int (0 : Int32)), .val (.int (0 : Int32)), .unset, .unset, .unset, .unset, .unset, .unset, .unset, .unset, .unset, .unset]) rfl k_) ?_
        show own_G _ _ _ _ (s₁.setTop (mkF m 68 #[.val (.int p0), .val (.int p1), .val (.int p2), .val (.int (own_c (p0 &&& (255 : Int32)))), .val (.int (own_c ((Jvm.Free.XT.ushr p0 (8 : Int32)) &&& (255 : Int32)))), .val (.int (own_c ((Jvm.Free.XT.ushr p0 (16 : Int32)) &&& (255 : Int32)))), .val (.int (0 : Int32)), .val (.int (0 : Int32)), .val (.int (0 : Int32)), .unset, .unset, .unset, .unset, .unset, .unset, .unset, .unset, .unset, .unset] []))
        refine own_G.go (fun t_ k_ => XS.iloadN X0.here hx rfl (hb hby at_68) rfl k_) ?_
        show own_G _ _ _ _ (s₁.setTop (mkF m 69 #[.val (.int p0), .val (.int p1), .val (.int p2), .val (.int (own_c (p0 &&& (255 : Int32)))), .val (.int (own_c ((Jvm.Free.XT.ushr p0 (8 : Int32)) &&& (255 : Int32)))), .val (.int (own_c ((Jvm.Free.XT.ushr p0 (16 : Int32)) &&& (255 : Int32)))), .val (.int (0 : Int32)), .val (.int (0 : Int32)), .val (.int (0 : Int32)), .unset, .unset, .unset, .unset, .unset, .unset, .unset, .unset, .unset, .unset] [(.int p2)]))
        refine own_G.go (fun t_ k_ => XS.iconst X0.here hx rfl (hb hby at_69) k_) ?_
        show own_G _ _ _ _ (s₁.setTop (mkF m 70 #[.val (.int p0), .val (.int p1), .val (.int p2), .val (.int (own_c (p0 &&& (255 : Int32)))), .val (.int (own_c ((Jvm.Free.XT.ushr p0 (8 : Int32)) &&& (255 : Int32)))), .val (.int (own_c ((Jvm.Free.XT.ushr p0 (16 : Int32)) &&& (255 : Int32)))), .val (.int (0 : Int32)), .val (.int (0 : Int32)), .val (.int (0 : Int32)), .unset, .unset, .unset, .unset, .unset, .unset, .unset, .unset, .unset, .unset] [(.int (3 : Int32)), (.int p2)]))
        refine own_G.go (fun t_ k_ => XS.iushr X0.here hx rfl (hb hby at_70) rfl k_) ?_
        show own_G _ _ _ _ (s₁.setTop (mkF m 71 #[.val (.int p0), .val (.int p1), .val (.int p2), .val (.int (own_c (p0 &&& (255 : Int32)))), .val (.int (own_c ((Jvm.Free.XT.ushr p0 (8 : Int32)) &&& (255 : Int32)))), .val (.int (own_c ((Jvm.Free.XT.ushr p0 (16 : Int32)) &&& (255 : Int32)))), .val (.int (0 : Int32)), .val (.int (0 : Int32)), .val (.int (0 : Int32)), .unset, .unset, .unset, .unset, .unset, .unset, .unset, .unset, .unset, .unset] [(.int (Jvm.Free.XT.ushr p2 (3 : Int32)))]))
        refine own_G.go (fun t_ k_ => XS.iconst X0.here hx rfl (hb hby at_71) k_) ?_
        show own_G _ _ _ _ (s₁.setTop (mkF m 72 #[.val (.int p0), .val (.int p1), .val (.int p2), .val (.int (own_c (p0 &&& (255 : Int32)))), .val (.int (own_c ((Jvm.Free.XT.ushr p0 (8 : Int32)) &&& (255 : Int32)))), .val (.int (own_c ((Jvm.Free.XT.ushr p0 (16 : Int32)) &&& (255 : Int32)))), .val (.int (0 : Int32)), .val (.int (0 : Int32)), .val (.int (0 : Int32)), .unset, .unset, .unset, .unset, .unset, .unset, .unset, .unset, .unset, .unset] [(.int (3 : Int32)), (.int (Jvm.Free.XT.ushr p2 (3 : Int32)))]))
        refine own_G.go (fun t_ k_ => XS.iand X0.here hx rfl (hb hby at_72) rfl k_) ?_
        show own_G _ _ _ _ (s₁.setTop (mkF m 73 #[.val (.int p0), .val (.int p1), .val (.int p2), .val (.int (own_c (p0 &&& (255 : Int32)))), .val (.int (own_c ((Jvm.Free.XT.ushr p0 (8 : Int32)) &&& (255 : Int32)))), .val (.int (own_c ((Jvm.Free.XT.ushr p0 (16 : Int32)) &&& (255 : Int32)))), .val (.int (0 : Int32)), .val (.int (0 : Int32)), .val (.int (0 : Int32)), .unset, .unset, .unset, .unset, .unset, .unset, .unset, .unset, .unset, .unset] [(.int ((Jvm.Free.XT.ushr p2 (3 : Int32)) &&& (3 : Int32)))]))
        refine own_G.go (fun t_ k_ => XS.istore X0.here hx rfl (hb hby at_73) rfl (l' := #[.val (.int p0), .val (.int p1), .val (.int p2), .val (.int (own_c (p0 &&& (255 : Int32)))), .val (.int (own_c ((Jvm.Free.XT.ushr p0 (8 : Int32)) &&& (255 : Int32)))), .val (.int (own_c ((Jvm.Free.XT.ushr p0 (16 : Int32)) &&& (255 : Int32)))), .val (.int (0 : Int32)), .val (.int (0 : Int32)), .val (.int (0 : Int32)), .val (.int ((Jvm.Free.XT.ushr p2 (3 : Int32)) &&& (3 : Int32))), .unset, .unset, .unset, .unset, .unset, .unset, .unset, .unset, .unset]) rfl k_) ?_
        show own_G _ _ _ _ (s₁.setTop (mkF m 75 #[.val (.int p0), .val (.int p1), .val (.int p2), .val (.int (own_c (p0 &&& (255 : Int32)))), .val (.int (own_c ((Jvm.Free.XT.ushr p0 (8 : Int32)) &&& (255 : Int32)))), .val (.int (own_c ((Jvm.Free.XT.ushr p0 (16 : Int32)) &&& (255 : Int32)))), .val (.int (0 : Int32)), .val (.int (0 : Int32)), .val (.int (0 : Int32)), .val (.int ((Jvm.Free.XT.ushr p2 (3 : Int32)) &&& (3 : Int32))), .unset, .unset, .unset, .unset, .unset, .unset, .unset, .unset, .unset] []))
        refine own_G.go (fun t_ k_ => XS.iload X0.here hx rfl (hb hby at_75) rfl k_) ?_
        show own_G _ _ _ _ (s₁.setTop (mkF m 77 #[.val (.int p0), .val (.int p1), .val (.int p2), .val (.int (own_c (p0 &&& (255 : Int32)))), .val (.int (own_c ((Jvm.Free.XT.ushr p0 (8 : Int32)) &&& (255 : Int32)))), .val (.int (own_c ((Jvm.Free.XT.ushr p0 (16 : Int32)) &&& (255 : Int32)))), .val (.int (0 : Int32)), .val (.int (0 : Int32)), .val (.int (0 : Int32)), .val (.int ((Jvm.Free.XT.ushr p2 (3 : Int32)) &&& (3 : Int32))), .unset, .unset, .unset, .unset, .unset, .unset, .unset, .unset, .unset] [(.int (0 : Int32))]))
        refine own_G.go (fun t_ k_ => XS.ifYes X0.here hx rfl (pc0 := 77) (pc' := 84) rfl (hb hby at_77) rfl ((if0 _ _).trans (teq (by decide : (0 : Int32) = (0 : Int32))).1) (by decide) (by decide) k_) ?_
        show own_G _ _ _ _ (s₁.setTop (mkF m 84 #[.val (.int p0), .val (.int p1), .val (.int p2), .val (.int (own_c (p0 &&& (255 : Int32)))), .val (.int (own_c ((Jvm.Free.XT.ushr p0 (8 : Int32)) &&& (255 : Int32)))), .val (.int (own_c ((Jvm.Free.XT.ushr p0 (16 : Int32)) &&& (255 : Int32)))), .val (.int (0 : Int32)), .val (.int (0 : Int32)), .val (.int (0 : Int32)), .val (.int ((Jvm.Free.XT.ushr p2 (3 : Int32)) &&& (3 : Int32))), .unset, .unset, .unset, .unset, .unset, .unset, .unset, .unset, .unset] []))
        refine own_G.go (fun t_ k_ => XS.iloadN X0.here hx rfl (hb hby at_84) rfl k_) ?_
        show own_G _ _ _ _ (s₁.setTop (mkF m 85 #[.val (.int p0), .val (.int p1), .val (.int p2), .val (.int (own_c (p0 &&& (255 : Int32)))), .val (.int (own_c ((Jvm.Free.XT.ushr p0 (8 : Int32)) &&& (255 : Int32)))), .val (.int (own_c ((Jvm.Free.XT.ushr p0 (16 : Int32)) &&& (255 : Int32)))), .val (.int (0 : Int32)), .val (.int (0 : Int32)), .val (.int (0 : Int32)), .val (.int ((Jvm.Free.XT.ushr p2 (3 : Int32)) &&& (3 : Int32))), .unset, .unset, .unset, .unset, .unset, .unset, .unset, .unset, .unset] [(.int p1)]))
        refine own_G.go (fun t_ k_ => XS.sipush X0.here hx rfl (hb hby at_85) k_) ?_
        show own_G _ _ _ _ (s₁.setTop (mkF m 88 #[.val (.int p0), .val (.int p1), .val (.int p2), .val (.int (own_c (p0 &&& (255 : Int32)))), .val (.int (own_c ((Jvm.Free.XT.ushr p0 (8 : Int32)) &&& (255 : Int32)))), .val (.int (own_c ((Jvm.Free.XT.ushr p0 (16 : Int32)) &&& (255 : Int32)))), .val (.int (0 : Int32)), .val (.int (0 : Int32)), .val (.int (0 : Int32)), .val (.int ((Jvm.Free.XT.ushr p2 (3 : Int32)) &&& (3 : Int32))), .unset, .unset, .unset, .unset, .unset, .unset, .unset, .unset, .unset] [(.int (255 : Int32)), (.int p1)]))
        refine own_G.go (fun t_ k_ => XS.iand X0.here hx rfl (hb hby at_88) rfl k_) ?_
        show own_G _ _ _ _ (s₁.setTop (mkF m 89 #[.val (.int p0), .val (.int p1), .val (.int p2), .val (.int (own_c (p0 &&& (255 : Int32)))), .val (.int (own_c ((Jvm.Free.XT.ushr p0 (8 : Int32)) &&& (255 : Int32)))), .val (.int (own_c ((Jvm.Free.XT.ushr p0 (16 : Int32)) &&& (255 : Int32)))), .val (.int (0 : Int32)), .val (.int (0 : Int32)), .val (.int (0 : Int32)), .val (.int ((Jvm.Free.XT.ushr p2 (3 : Int32)) &&& (3 : Int32))), .unset, .unset, .unset, .unset, .unset, .unset, .unset, .unset, .unset] [(.int (p1 &&& (255 : Int32)))]))
        refine own_G.go (fun t_ k_ => XS.i2c X0.here hx rfl (hb hby at_89) rfl k_) ?_
        show own_G _ _ _ _ (s₁.setTop (mkF m 90 #[.val (.int p0), .val (.int p1), .val (.int p2), .val (.int (own_c (p0 &&& (255 : Int32)))), .val (.int (own_c ((Jvm.Free.XT.ushr p0 (8 : Int32)) &&& (255 : Int32)))), .val (.int (own_c ((Jvm.Free.XT.ushr p0 (16 : Int32)) &&& (255 : Int32)))), .val (.int (0 : Int32)), .val (.int (0 : Int32)), .val (.int (0 : Int32)), .val (.int ((Jvm.Free.XT.ushr p2 (3 : Int32)) &&& (3 : Int32))), .unset, .unset, .unset, .unset, .unset, .unset, .unset, .unset, .unset] [(.int (own_c (p1 &&& (255 : Int32))))]))
        refine own_G.go (fun t_ k_ => XS.istore X0.here hx rfl (hb hby at_90) rfl (l' := #[.val (.int p0), .val (.int p1), .val (.int p2), .val (.int (own_c (p0 &&& (255 : Int32)))), .val (.int (own_c ((Jvm.Free.XT.ushr p0 (8 : Int32)) &&& (255 : Int32)))), .val (.int (own_c ((Jvm.Free.XT.ushr p0 (16 : Int32)) &&& (255 : Int32)))), .val (.int (0 : Int32)), .val (.int (0 : Int32)), .val (.int (0 : Int32)), .val (.int ((Jvm.Free.XT.ushr p2 (3 : Int32)) &&& (3 : Int32))), .val (.int (own_c (p1 &&& (255 : Int32)))), .unset, .unset, .unset, .unset, .unset, .unset, .unset, .unset]) rfl k_) ?_
        show own_G _ _ _ _ (s₁.setTop (mkF m 92 #[.val (.int p0), .val (.int p1), .val (.int p2), .val (.int (own_c (p0 &&& (255 : Int32)))), .val (.int (own_c ((Jvm.Free.XT.ushr p0 (8 : Int32)) &&& (255 : Int32)))), .val (.int (own_c ((Jvm.Free.XT.ushr p0 (16 : Int32)) &&& (255 : Int32)))), .val (.int (0 : Int32)), .val (.int (0 : Int32)), .val (.int (0 : Int32)), .val (.int ((Jvm.Free.XT.ushr p2 (3 : Int32)) &&& (3 : Int32))), .val (.int (own_c (p1 &&& (255 : Int32)))), .unset, .unset, .unset, .unset, .unset, .unset, .unset, .unset] []))
        refine own_G.go (fun t_ k_ => XS.iload X0.here hx rfl (hb hby at_92) rfl k_) ?_
        show own_G _ _ _ _ (s₁.setTop (mkF m 94 #[.val (.int p0), .val (.int p1), .val (.int p2), .val (.int (own_c (p0 &&& (255 : Int32)))), .val (.int (own_c ((Jvm.Free.XT.ushr p0 (8 : Int32)) &&& (255 : Int32)))), .val (.int (own_c ((Jvm.Free.XT.ushr p0 (16 : Int32)) &&& (255 : Int32)))), .val (.int (0 : Int32)), .val (.int (0 : Int32)), .val (.int (0 : Int32)), .val (.int ((Jvm.Free.XT.ushr p2 (3 : Int32)) &&& (3 : Int32))), .val (.int (own_c (p1 &&& (255 : Int32)))), .unset, .unset, .unset, .unset, .unset, .unset, .unset, .unset] [(.int (0 : Int32))]))
        refine own_G.go (fun t_ k_ => XS.ifYes X0.here hx rfl (pc0 := 94) (pc' := 102) rfl (hb hby at_94) rfl ((if0 _ _).trans (teq (by decide : (0 : Int32) = (0 : Int32))).1) (by decide) (by decide) k_) ?_
        show own_G _ _ _ _ (s₁.setTop (mkF m 102 #[.val (.int p0), .val (.int p1), .val (.int p2), .val (.int (own_c (p0 &&& (255 : Int32)))), .val (.int (own_c ((Jvm.Free.XT.ushr p0 (8 : Int32)) &&& (255 : Int32)))), .val (.int (own_c ((Jvm.Free.XT.ushr p0 (16 : Int32)) &&& (255 : Int32)))), .val (.int (0 : Int32)), .val (.int (0 : Int32)), .val (.int (0 : Int32)), .val (.int ((Jvm.Free.XT.ushr p2 (3 : Int32)) &&& (3 : Int32))), .val (.int (own_c (p1 &&& (255 : Int32)))), .unset, .unset, .unset, .unset, .unset, .unset, .unset, .unset] []))
        refine own_G.go (fun t_ k_ => XS.iloadN X0.here hx rfl (hb hby at_102) rfl k_) ?_
        show own_G _ _ _ _ (s₁.setTop (mkF m 103 #[.val (.int p0), .val (.int p1), .val (.int p2), .val (.int (own_c (p0 &&& (255 : Int32)))), .val (.int (own_c ((Jvm.Free.XT.ushr p0 (8 : Int32)) &&& (255 : Int32)))), .val (.int (own_c ((Jvm.Free.XT.ushr p0 (16 : Int32)) &&& (255 : Int32)))), .val (.int (0 : Int32)), .val (.int (0 : Int32)), .val (.int (0 : Int32)), .val (.int ((Jvm.Free.XT.ushr p2 (3 : Int32)) &&& (3 : Int32))), .val (.int (own_c (p1 &&& (255 : Int32)))), .unset, .unset, .unset, .unset, .unset, .unset, .unset, .unset] [(.int p1)]))
        refine own_G.go (fun t_ k_ => XS.bipush X0.here hx rfl (hb hby at_103) k_) ?_
        show own_G _ _ _ _ (s₁.setTop (mkF m 105 #[.val (.int p0), .val (.int p1), .val (.int p2), .val (.int (own_c (p0 &&& (255 : Int32)))), .val (.int (own_c ((Jvm.Free.XT.ushr p0 (8 : Int32)) &&& (255 : Int32)))), .val (.int (own_c ((Jvm.Free.XT.ushr p0 (16 : Int32)) &&& (255 : Int32)))), .val (.int (0 : Int32)), .val (.int (0 : Int32)), .val (.int (0 : Int32)), .val (.int ((Jvm.Free.XT.ushr p2 (3 : Int32)) &&& (3 : Int32))), .val (.int (own_c (p1 &&& (255 : Int32)))), .unset, .unset, .unset, .unset, .unset, .unset, .unset, .unset] [(.int (8 : Int32)), (.int p1)]))
        refine own_G.go (fun t_ k_ => XS.iushr X0.here hx rfl (hb hby at_105) rfl k_) ?_
        show own_G _ _ _ _ (s₁.setTop (mkF m 106 #[.val (.int p0), .val (.int p1), .val (.int p2), .val (.int (own_c (p0 &&& (255 : Int32)))), .val (.int (own_c ((Jvm.Free.XT.ushr p0 (8 : Int32)) &&& (255 : Int32)))), .val (.int (own_c ((Jvm.Free.XT.ushr p0 (16 : Int32)) &&& (255 : Int32)))), .val (.int (0 : Int32)), .val (.int (0 : Int32)), .val (.int (0 : Int32)), .val (.int ((Jvm.Free.XT.ushr p2 (3 : Int32)) &&& (3 : Int32))), .val (.int (own_c (p1 &&& (255 : Int32)))), .unset, .unset, .unset, .unset, .unset, .unset, .unset, .unset] [(.int (Jvm.Free.XT.ushr p1 (8 : Int32)))]))
        refine own_G.go (fun t_ k_ => XS.sipush X0.here hx rfl (hb hby at_106) k_) ?_
        show own_G _ _ _ _ (s₁.setTop (mkF m 109 #[.val (.int p0), .val (.int p1), .val (.int p2), .val (.int (own_c (p0 &&& (255 : Int32)))), .val (.int (own_c ((Jvm.Free.XT.ushr p0 (8 : Int32)) &&& (255 : Int32)))), .val (.int (own_c ((Jvm.Free.XT.ushr p0 (16 : Int32)) &&& (255 : Int32)))), .val (.int (0 : Int32)), .val (.int (0 : Int32)), .val (.int (0 : Int32)), .val (.int ((Jvm.Free.XT.ushr p2 (3 : Int32)) &&& (3 : Int32))), .val (.int (own_c (p1 &&& (255 : Int32)))), .unset, .unset, .unset, .unset, .unset, .unset, .unset, .unset] [(.int (255 : Int32)), (.int (Jvm.Free.XT.ushr p1 (8 : Int32)))]))
        refine own_G.go (fun t_ k_ => XS.iand X0.here hx rfl (hb hby at_109) rfl k_) ?_
        show own_G _ _ _ _ (s₁.setTop (mkF m 110 #[.val (.int p0), .val (.int p1), .val (.int p2), .val (.int (own_c (p0 &&& (255 : Int32)))), .val (.int (own_c ((Jvm.Free.XT.ushr p0 (8 : Int32)) &&& (255 : Int32)))), .val (.int (own_c ((Jvm.Free.XT.ushr p0 (16 : Int32)) &&& (255 : Int32)))), .val (.int (0 : Int32)), .val (.int (0 : Int32)), .val (.int (0 : Int32)), .val (.int ((Jvm.Free.XT.ushr p2 (3 : Int32)) &&& (3 : Int32))), .val (.int (own_c (p1 &&& (255 : Int32)))), .unset, .unset, .unset, .unset, .unset, .unset, .unset, .unset] [(.int ((Jvm.Free.XT.ushr p1 (8 : Int32)) &&& (255 : Int32)))]))
        refine own_G.go (fun t_ k_ => XS.i2c X0.here hx rfl (hb hby at_110) rfl k_) ?_
        show own_G _ _ _ _ (s₁.setTop (mkF m 111 #[.val (.int p0), .val (.int p1), .val (.int p2), .val (.int (own_c (p0 &&& (255 : Int32)))), .val (.int (own_c ((Jvm.Free.XT.ushr p0 (8 : Int32)) &&& (255 : Int32)))), .val (.int (own_c ((Jvm.Free.XT.ushr p0 (16 : Int32)) &&& (255 : Int32)))), .val (.int (0 : Int32)), .val (.int (0 : Int32)), .val (.int (0 : Int32)), .val (.int ((Jvm.Free.XT.ushr p2 (3 : Int32)) &&& (3 : Int32))), .val (.int (own_c (p1 &&& (255 : Int32)))), .unset, .unset, .unset, .unset, .unset, .unset, .unset, .unset] [(.int (own_c ((Jvm.Free.XT.ushr p1 (8 : Int32)) &&& (255 : Int32))))]))
        refine own_G.go (fun t_ k_ => XS.istore X0.here hx rfl (hb hby at_111) rfl (l' := #[.val (.int p0), .val (.int p1), .val (.int p2), .val (.int (own_c (p0 &&& (255 : Int32)))), .val (.int (own_c ((Jvm.Free.XT.ushr p0 (8 : Int32)) &&& (255 : Int32)))), .val (.int (own_c ((Jvm.Free.XT.ushr p0 (16 : Int32)) &&& (255 : Int32)))), .val (.int (0 : Int32)), .val (.int (0 : Int32)), .val (.int (0 : Int32)), .val (.int ((Jvm.Free.XT.ushr p2 (3 : Int32)) &&& (3 : Int32))), .val (.int (own_c (p1 &&& (255 : Int32)))), .val (.int (own_c ((Jvm.Free.XT.ushr p1 (8 : Int32)) &&& (255 : Int32)))), .unset, .unset, .unset, .unset, .unset, .unset, .unset]) rfl k_) ?_
        show own_G _ _ _ _ (s₁.setTop (mkF m 113 #[.val (.int p0), .val (.int p1), .val (.int p2), .val (.int (own_c (p0 &&& (255 : Int32)))), .val (.int (own_c ((Jvm.Free.XT.ushr p0 (8 : Int32)) &&& (255 : Int32)))), .val (.int (own_c ((Jvm.Free.XT.ushr p0 (16 : Int32)) &&& (255 : Int32)))), .val (.int (0 : Int32)), .val (.int (0 : Int32)), .val (.int (0 : Int32)), .val (.int ((Jvm.Free.XT.ushr p2 (3 : Int32)) &&& (3 : Int32))), .val (.int (own_c (p1 &&& (255 : Int32)))), .val (.int (own_c ((Jvm.Free.XT.ushr p1 (8 : Int32)) &&& (255 : Int32)))), .unset, .unset, .unset, .unset, .unset, .unset, .unset] []))
        refine own_G.go (fun t_ k_ => XS.iload X0.here hx rfl (hb hby at_113) rfl k_) ?_
        show own_G _ _ _ _ (s₁.setTop (mkF m 115 #[.val (.int p0), .val (.int p1), .val (.int p2), .val (.int (own_c (p0 &&& (255 : Int32)))), .val (.int (own_c ((Jvm.Free.XT.ushr p0 (8 : Int32)) &&& (255 : Int32)))), .val (.int (own_c ((Jvm.Free.XT.ushr p0 (16 : Int32)) &&& (255 : Int32)))), .val (.int (0 : Int32)), .val (.int (0 : Int32)), .val (.int (0 : Int32)), .val (.int ((Jvm.Free.XT.ushr p2 (3 : Int32)) &&& (3 : Int32))), .val (.int (own_c (p1 &&& (255 : Int32)))), .val (.int (own_c ((Jvm.Free.XT.ushr p1 (8 : Int32)) &&& (255 : Int32)))), .unset, .unset, .unset, .unset, .unset, .unset, .unset] [(.int (0 : Int32))]))
        refine own_G.go (fun t_ k_ => XS.ifYes X0.here hx rfl (pc0 := 115) (pc' := 123) rfl (hb hby at_115) rfl ((if0 _ _).trans (teq (by decide : (0 : Int32) = (0 : Int32))).1) (by decide) (by decide) k_) ?_
        show own_G _ _ _ _ (s₁.setTop (mkF m 123 #[.val (.int p0), .val (.int p1), .val (.int p2), .val (.int (own_c (p0 &&& (255 : Int32)))), .val (.int (own_c ((Jvm.Free.XT.ushr p0 (8 : Int32)) &&& (255 : Int32)))), .val (.int (own_c ((Jvm.Free.XT.ushr p0 (16 : Int32)) &&& (255 : Int32)))), .val (.int (0 : Int32)), .val (.int (0 : Int32)), .val (.int (0 : Int32)), .val (.int ((Jvm.Free.XT.ushr p2 (3 : Int32)) &&& (3 : Int32))), .val (.int (own_c (p1 &&& (255 : Int32)))), .val (.int (own_c ((Jvm.Free.XT.ushr p1 (8 : Int32)) &&& (255 : Int32)))), .unset, .unset, .unset, .unset, .unset, .unset, .unset] []))
        refine own_G.go (fun t_ k_ => XS.iloadN X0.here hx rfl (hb hby at_123) rfl k_) ?_
        show own_G _ _ _ _ (s₁.setTop (mkF m 124 #[.val (.int p0), .val (.int p1), .val (.int p2), .val (.int (own_c (p0 &&& (255 : Int32)))), .val (.int (own_c ((Jvm.Free.XT.ushr p0 (8 : Int32)) &&& (255 : Int32)))), .val (.int (own_c ((Jvm.Free.XT.ushr p0 (16 : Int32)) &&& (255 : Int32)))), .val (.int (0 : Int32)), .val (.int (0 : Int32)), .val (.int (0 : Int32)), .val (.int ((Jvm.Free.XT.ushr p2 (3 : Int32)) &&& (3 : Int32))), .val (.int (own_c (p1 &&& (255 : Int32)))), .val (.int (own_c ((Jvm.Free.XT.ushr p1 (8 : Int32)) &&& (255 : Int32)))), .unset, .unset, .unset, .unset, .unset, .unset, .unset] [(.int p1)]))
        refine own_G.go (fun t_ k_ => XS.bipush X0.here hx rfl (hb hby at_124) k_) ?_
        show own_G _ _ _ _ (s₁.setTop (mkF m 126 #[.val (.int p0), .val (.int p1), .val (.int p2), .val (.int (own_c (p0 &&& (255 : Int32)))), .val (.int (own_c ((Jvm.Free.XT.ushr p0 (8 : Int32)) &&& (255 : Int32)))), .val (.int (own_c ((Jvm.Free.XT.ushr p0 (16 : Int32)) &&& (255 : Int32)))), .val (.int (0 : Int32)), .val (.int (0 : Int32)), .val (.int (0 : Int32)), .val (.int ((Jvm.Free.XT.ushr p2 (3 : Int32)) &&& (3 : Int32))), .val (.int (own_c (p1 &&& (255 : Int32)))), .val (.int (own_c ((Jvm.Free.XT.ushr p1 (8 : Int32)) &&& (255 : Int32)))), .unset, .unset, .unset, .unset, .unset, .unset, .unset] [(.int (16 : Int32)), (.int p1)]))
        refine own_G.go (fun t_ k_ => XS.iushr X0.here hx rfl (hb hby at_126) rfl k_) ?_
        show own_G _ _ _ _ (s₁.setTop (mkF m 127 #[.val (.int p0), .val (.int p1), .val (.int p2), .val (.int (own_c (p0 &&& (255 : Int32)))), .val (.int (own_c ((Jvm.Free.XT.ushr p0 (8 : Int32)) &&& (255 : Int32)))), .val (.int (own_c ((Jvm.Free.XT.ushr p0 (16 : Int32)) &&& (255 : Int32)))), .val (.int (0 : Int32)), .val (.int (0 : Int32)), .val (.int (0 : Int32)), .val (.int ((Jvm.Free.XT.ushr p2 (3 : Int32)) &&& (3 : Int32))), .val (.int (own_c (p1 &&& (255 : Int32)))), .val (.int (own_c ((Jvm.Free.XT.ushr p1 (8 : Int32)) &&& (255 : Int32)))), .unset, .unset, .unset, .unset, .unset, .unset, .unset] [(.int (Jvm.Free.XT.ushr p1 (16 : Int32)))]))
        refine own_G.go (fun t_ k_ => XS.sipush X0.here hx rfl (hb hby at_127) k_) ?_
        show own_G _ _ _ _ (s₁.setTop (mkF m 130 #[.val (.int p0), .val (.int p1), .val (.int p2), .val (.int (own_c (p0 &&& (255 : Int32)))), .val (.int (own_c ((Jvm.Free.XT.ushr p0 (8 : Int32)) &&& (255 : Int32)))), .val (.int (own_c ((Jvm.Free.XT.ushr p0 (16 : Int32)) &&& (255 : Int32)))), .val (.int (0 : Int32)), .val (.int (0 : Int32)), .val (.int (0 : Int32)), .val (.int ((Jvm.Free.XT.ushr p2 (3 : Int32)) &&& (3 : Int32))), .val (.int (own_c (p1 &&& (255 : Int32)))), .val (.int (own_c ((Jvm.Free.XT.ushr p1 (8 : Int32)) &&& (255 : Int32)))), .unset, .unset, .unset, .unset, .unset, .unset, .unset] [(.int (255 : Int32)), (.int (Jvm.Free.XT.ushr p1 (16 : Int32)))]))
        refine own_G.go (fun t_ k_ => XS.iand X0.here hx rfl (hb hby at_130) rfl k_) ?_
        show own_G _ _ _ _ (s₁.setTop (mkF m 131 #[.val (.int p0), .val (.int p1), .val (.int p2), .val (.int (own_c (p0 &&& (255 : Int32)))), .val (.int (own_c ((Jvm.Free.XT.ushr p0 (8 : Int32)) &&& (255 : Int32)))), .val (.int (own_c ((Jvm.Free.XT.ushr p0 (16 : Int32)) &&& (255 : Int32)))), .val (.int (0 : Int32)), .val (.int (0 : Int32)), .val (.int (0 : Int32)), .val (.int ((Jvm.Free.XT.ushr p2 (3 : Int32)) &&& (3 : Int32))), .val (.int (own_c (p1 &&& (255 : Int32)))), .val (.int (own_c ((Jvm.Free.XT.ushr p1 (8 : Int32)) &&& (255 : Int32)))), .unset, .unset, .unset, .unset, .unset, .unset, .unset] [(.int ((Jvm.Free.XT.ushr p1 (16 : Int32)) &&& (255 : Int32)))]))
        refine own_G.go (fun t_ k_ => XS.i2c X0.here hx rfl (hb hby at_131) rfl k_) ?_
        show own_G _ _ _ _ (s₁.setTop (mkF m 132 #[.val (.int p0), .val (.int p1), .val (.int p2), .val (.int (own_c (p0 &&& (255 : Int32)))), .val (.int (own_c ((Jvm.Free.XT.ushr p0 (8 : Int32)) &&& (255 : Int32)))), .val (.int (own_c ((Jvm.Free.XT.ushr p0 (16 : Int32)) &&& (255 : Int32)))), .val (.int (0 : Int32)), .val (.int (0 : Int32)), .val (.int (0 : Int32)), .val (.int ((Jvm.Free.XT.ushr p2 (3 : Int32)) &&& (3 : Int32))), .val (.int (own_c (p1 &&& (255 : Int32)))), .val (.int (own_c ((Jvm.Free.XT.ushr p1 (8 : Int32)) &&& (255 : Int32)))), .unset, .unset, .unset, .unset, .unset, .unset, .unset] [(.int (own_c ((Jvm.Free.XT.ushr p1 (16 : Int32)) &&& (255 : Int32))))]))
        refine own_G.go (fun t_ k_ => XS.istore X0.here hx rfl (hb hby at_132) rfl (l' := #[.val (.int p0), .val (.int p1), .val (.int p2), .val (.int (own_c (p0 &&& (255 : Int32)))), .val (.int (own_c ((Jvm.Free.XT.ushr p0 (8 : Int32)) &&& (255 : Int32)))), .val (.int (own_c ((Jvm.Free.XT.ushr p0 (16 : Int32)) &&& (255 : Int32)))), .val (.int (0 : Int32)), .val (.int (0 : Int32)), .val (.int (0 : Int32)), .val (.int ((Jvm.Free.XT.ushr p2 (3 : Int32)) &&& (3 : Int32))), .val (.int (own_c (p1 &&& (255 : Int32)))), .val (.int (own_c ((Jvm.Free.XT.ushr p1 (8 : Int32)) &&& (255 : Int32)))), .val (.int (own_c ((Jvm.Free.XT.ushr p1 (16 : Int32)) &&& (255 : Int32)))), .unset, .unset, .unset, .unset, .unset, .unset]) rfl k_) ?_
        show own_G _ _ _ _ (s₁.setTop (mkF m 134 #[.val (.int p0), .val (.int p1), .val (.int p2), .val (.int (own_c (p0 &&& (255 : Int32)))), .val (.int (own_c ((Jvm.Free.XT.ushr p0 (8 : Int32)) &&& (255 : Int32)))), .val (.int (own_c ((Jvm.Free.XT.ushr p0 (16 : Int32)) &&& (255 : Int32)))), .val (.int (0 : Int32)), .val (.int (0 : Int32)), .val (.int (0 : Int32)), .val (.int ((Jvm.Free.XT.ushr p2 (3 : Int32)) &&& (3 : Int32))), .val (.int (own_c (p1 &&& (255 : Int32)))), .val (.int (own_c ((Jvm.Free.XT.ushr p1 (8 : Int32)) &&& (255 : Int32)))), .val (.int (own_c ((Jvm.Free.XT.ushr p1 (16 : Int32)) &&& (255 : Int32)))), .unset, .unset, .unset, .unset, .unset, .unset] []))
        exact J134 _ _ _ _ _ _ _ _ _ _ (own_mask _) (own_mask _) (own_mask _) (own_mask _) (own_mask _) (own_mask _)
      · refine own_G.go (fun t_ k_ => XS.ifNo X0.here hx rfl (hb hby at_58) rfl ((if0 _ _).trans (feq hb58).1) k_) ?_
        show own_G _ _ _ _ (s₁.setTop (mkF m 61 #[.val (.int p0), .val (.int p1), .val (.int p2), .val (.int (own_c (p0 &&& (255 : Int32)))), .val (.int (own_c ((Jvm.Free.XT.ushr p0 (8 : Int32)) &&& (255 : Int32)))), .val (.int (own_c ((Jvm.Free.XT.ushr p0 (16 : Int32)) &&& (255 : Int32)))), .val (.int (0 : Int32)), .val (.int (0 : Int32)), .unset, .unset, .unset, .unset, .unset, .unset, .unset, .unset, .unset, .unset, .unset] []))
        refine own_G.go (fun t_ k_ => XS.iconst X0.here hx rfl (hb hby at_61) k_) ?_
        show own_G _ _ _ _ (s₁.setTop (mkF m 62 #[.val (.int p0), .val (.int p1), .val (.int p2), .val (.int (own_c (p0 &&& (255 : Int32)))), .val (.int (own_c ((Jvm.Free.XT.ushr p0 (8 : Int32)) &&& (255 : Int32)))), .val (.int (own_c ((Jvm.Free.XT.ushr p0 (16 : Int32)) &&& (255 : Int32)))), .val (.int (0 : Int32)), .val (.int (0 : Int32)), .unset, .unset, .unset, .unset, .unset, .unset, .unset, .unset, .unset, .unset, .unset] [(.int (1 : Int32))]))
        refine own_G.go (fun t_ k_ => XS.goto X0.here hx rfl (pc0 := 62) (pc' := 66) rfl (hb hby at_62) (by decide) (by decide) k_) ?_
        show own_G _ _ _ _ (s₁.setTop (mkF m 66 #[.val (.int p0), .val (.int p1), .val (.int p2), .val (.int (own_c (p0 &&& (255 : Int32)))), .val (.int (own_c ((Jvm.Free.XT.ushr p0 (8 : Int32)) &&& (255 : Int32)))), .val (.int (own_c ((Jvm.Free.XT.ushr p0 (16 : Int32)) &&& (255 : Int32)))), .val (.int (0 : Int32)), .val (.int (0 : Int32)), .unset, .unset, .unset, .unset, .unset, .unset, .unset, .unset, .unset, .unset, .unset] [(.int (1 : Int32))]))
        refine own_G.go (fun t_ k_ => XS.istore X0.here hx rfl (hb hby at_66) rfl (l' := #[.val (.int p0), .val (.int p1), .val (.int p2), .val (.int (own_c (p0 &&& (255 : Int32)))), .val (.int (own_c ((Jvm.Free.XT.ushr p0 (8 : Int32)) &&& (255 : Int32)))), .val (.int (own_c ((Jvm.Free.XT.ushr p0 (16 : Int32)) &&& (255 : Int32)))), .val (.int (0 : Int32)), .val (.int (0 : Int32)), .val (.int (1 : Int32)), .unset, .unset, .unset, .unset, .unset, .unset, .unset, .unset, .unset, .unset]) rfl k_) ?_
        show own_G _ _ _ _ (s₁.setTop (mkF m 68 #[.val (.int p0), .val (.int p1), .val (.int p2), .val (.int (own_c (p0 &&& (255 : Int32)))), .val (.int (own_c ((Jvm.Free.XT.ushr p0 (8 : Int32)) &&& (255 : Int32)))), .val (.int (own_c ((Jvm.Free.XT.ushr p0 (16 : Int32)) &&& (255 : Int32)))), .val (.int (0 : Int32)), .val (.int (0 : Int32)), .val (.int (1 : Int32)), .unset, .unset, .unset, .unset, .unset, .unset, .unset, .unset, .unset, .unset] []))
        refine own_G.go (fun t_ k_ => XS.iloadN X0.here hx rfl (hb hby at_68) rfl k_) ?_
        show own_G _ _ _ _ (s₁.setTop (mkF m 69 #[.val (.int p0), .val (.int p1), .val (.int p2), .val (.int (own_c (p0 &&& (255 : Int32)))), .val (.int (own_c ((Jvm.Free.XT.ushr p0 (8 : Int32)) &&& (255 : Int32)))), .val (.int (own_c ((Jvm.Free.XT.ushr p0 (16 : Int32)) &&& (255 : Int32)))), .val (.int (0 : Int32)), .val (.int (0 : Int32)), .val (.int (1 : Int32)), .unset, .unset, .unset, .unset, .unset, .unset, .unset, .unset, .unset, .unset] [(.int p2)]))
        refine own_G.go (fun t_ k_ => XS.iconst X0.here hx rfl (hb hby at_69) k_) ?_
        show own_G _ _ _ _ (s₁.setTop (mkF m 70 #[.val (.int p0), .val (.int p1), .val (.int p2), .val (.int (own_c (p0 &&& (255 : Int32)))), .val (.int (own_c ((Jvm.Free.XT.ushr p0 (8 : Int32)) &&& (255 : Int32)))), .val (.int (own_c ((Jvm.Free.XT.ushr p0 (16 : Int32)) &&& (255 : Int32)))), .val (.int (0 : Int32)), .val (.int (0 : Int32)), .val (.int (1 : Int32)), .unset, .unset, .unset, .unset, .unset, .unset, .unset, .unset, .unset, .unset] [(.int (3 : Int32)), (.int p2)]))
        refine own_G.go (fun t_ k_ => XS.iushr X0.here hx rfl (hb hby at_70) rfl k_) ?_
        show own_G _ _ _ _ (s₁.setTop (mkF m 71 #[.val (.int p0), .val (.int p1), .val (.int p2), .val (.int (own_c (p0 &&& (255 : Int32)))), .val (.int (own_c ((Jvm.Free.XT.ushr p0 (8 : Int32)) &&& (255 : Int32)))), .val (.int (own_c ((Jvm.Free.XT.ushr p0 (16 : Int32)) &&& (255 : Int32)))), .val (.int (0 : Int32)), .val (.int (0 : Int32)), .val (.int (1 : Int32)), .unset, .unset, .unset, .unset, .unset, .unset, .unset, .unset, .unset, .unset] [(.int (Jvm.Free.XT.ushr p2 (3 : Int32)))]))
        refine own_G.go (fun t_ k_ => XS.iconst X0.here hx rfl (hb hby at_71) k_) ?_
        show own_G _ _ _ _ (s₁.setTop (mkF m 72 #[.val (.int p0), .val (.int p1), .val (.int p2), .val (.int (own_c (p0 &&& (255 : Int32)))), .val (.int (own_c ((Jvm.Free.XT.ushr p0 (8 : Int32)) &&& (255 : Int32)))), .val (.int (own_c ((Jvm.Free.XT.ushr p0 (16 : Int32)) &&& (255 : Int32)))), .val (.int (0 : Int32)), .val (.int (0 : Int32)), .val (.int (1 : Int32)), .unset, .unset, .unset, .unset, .unset, .unset, .unset, .unset, .unset, .unset] [(.int (3 : Int32)), (.int (Jvm.Free.XT.ushr p2 (3 : Int32)))]))
        refine own_G.go (fun t_ k_ => XS.iand X0.here hx rfl (hb hby at_72) rfl k_) ?_
        show own_G _ _ _ _ (s₁.setTop (mkF m 73 #[.val (.int p0), .val (.int p1), .val (.int p2), .val (.int (own_c (p0 &&& (255 : Int32)))), .val (.int (own_c ((Jvm.Free.XT.ushr p0 (8 : Int32)) &&& (255 : Int32)))), .val (.int (own_c ((Jvm.Free.XT.ushr p0 (16 : Int32)) &&& (255 : Int32)))), .val (.int (0 : Int32)), .val (.int (0 : Int32)), .val (.int (1 : Int32)), .unset, .unset, .unset, .unset, .unset, .unset, .unset, .unset, .unset, .unset] [(.int ((Jvm.Free.XT.ushr p2 (3 : Int32)) &&& (3 : Int32)))]))
        refine own_G.go (fun t_ k_ => XS.istore X0.here hx rfl (hb hby at_73) rfl (l' := #[.val (.int p0), .val (.int p1), .val (.int p2), .val (.int (own_c (p0 &&& (255 : Int32)))), .val (.int (own_c ((Jvm.Free.XT.ushr p0 (8 : Int32)) &&& (255 : Int32)))), .val (.int (own_c ((Jvm.Free.XT.ushr p0 (16 : Int32)) &&& (255 : Int32)))), .val (.int (0 : Int32)), .val (.int (0 : Int32)), .val (.int (1 : Int32)), .val (.int ((Jvm.Free.XT.ushr p2 (3 : Int32)) &&& (3 : Int32))), .unset, .unset, .unset, .unset, .unset, .unset, .unset, .unset, .unset]) rfl k_) ?_
        show own_G _ _ _ _ (s₁.setTop (mkF m 75 #[.val (.int p0), .val (.int p1), .val (.int p2), .val (.int (own_c (p0 &&& (255 : Int32)))), .val (.int (own_c ((Jvm.Free.XT.ushr p0 (8 : Int32)) &&& (255 : Int32)))), .val (.int (own_c ((Jvm.Free.XT.ushr p0 (16 : Int32)) &&& (255 : Int32)))), .val (.int (0 : Int32)), .val (.int (0 : Int32)), .val (.int (1 : Int32)), .val (.int ((Jvm.Free.XT.ushr p2 (3 : Int32)) &&& (3 : Int32))), .unset, .unset, .unset, .unset, .unset, .unset, .unset, .unset, .unset] []))
        refine own_G.go (fun t_ k_ => XS.iload X0.here hx rfl (hb hby at_75) rfl k_) ?_
        show own_G _ _ _ _ (s₁.setTop (mkF m 77 #[.val (.int p0), .val (.int p1), .val (.int p2), .val (.int (own_c (p0 &&& (255 : Int32)))), .val (.int (own_c ((Jvm.Free.XT.ushr p0 (8 : Int32)) &&& (255 : Int32)))), .val (.int (own_c ((Jvm.Free.XT.ushr p0 (16 : Int32)) &&& (255 : Int32)))), .val (.int (0 : Int32)), .val (.int (0 : Int32)), .val (.int (1 : Int32)), .val (.int ((Jvm.Free.XT.ushr p2 (3 : Int32)) &&& (3 : Int32))), .unset, .unset, .unset, .unset, .unset, .unset, .unset, .unset, .unset] [(.int (0 : Int32))]))
        refine own_G.go (fun t_ k_ => XS.ifYes X0.here hx rfl (pc0 := 77) (pc' := 84) rfl (hb hby at_77) rfl ((if0 _ _).trans (teq (by decide : (0 : Int32) = (0 : Int32))).1) (by decide) (by decide) k_) ?_
        show own_G _ _ _ _ (s₁.setTop (mkF m 84 #[.val (.int p0), .val (.int p1), .val (.int p2), .val (.int (own_c (p0 &&& (255 : Int32)))), .val (.int (own_c ((Jvm.Free.XT.ushr p0 (8 : Int32)) &&& (255 : Int32)))), .val (.int (own_c ((Jvm.Free.XT.ushr p0 (16 : Int32)) &&& (255 : Int32)))), .val (.int (0 : Int32)), .val (.int (0 : Int32)), .val (.int (1 : Int32)), .val (.int ((Jvm.Free.XT.ushr p2 (3 : Int32)) &&& (3 : Int32))), .unset, .unset, .unset, .unset, .unset, .unset, .unset, .unset, .unset] []))
        refine own_G.go (fun t_ k_ => XS.iloadN X0.here hx rfl (hb hby at_84) rfl k_) ?_
        show own_G _ _ _ _ (s₁.setTop (mkF m 85 #[.val (.int p0), .val (.int p1), .val (.int p2), .val (.int (own_c (p0 &&& (255 : Int32)))), .val (.int (own_c ((Jvm.Free.XT.ushr p0 (8 : Int32)) &&& (255 : Int32)))), .val (.int (own_c ((Jvm.Free.XT.ushr p0 (16 : Int32)) &&& (255 : Int32)))), .val (.int (0 : Int32)), .val (.int (0 : Int32)), .val (.int (1 : Int32)), .val (.int ((Jvm.Free.XT.ushr p2 (3 : Int32)) &&& (3 : Int32))), .unset, .unset, .unset, .unset, .unset, .unset, .unset, .unset, .unset] [(.int p1)]))
        refine own_G.go (fun t_ k_ => XS.sipush X0.here hx rfl (hb hby at_85) k_) ?_
        show own_G _ _ _ _ (s₁.setTop (mkF m 88 #[.val (.int p0), .val (.int p1), .val (.int p2), .val (.int (own_c (p0 &&& (255 : Int32)))), .val (.int (own_c ((Jvm.Free.XT.ushr p0 (8 : Int32)) &&& (255 : Int32)))), .val (.int (own_c ((Jvm.Free.XT.ushr p0 (16 : Int32)) &&& (255 : Int32)))), .val (.int (0 : Int32)), .val (.int (0 : Int32)), .val (.int (1 : Int32)), .val (.int ((Jvm.Free.XT.ushr p2 (3 : Int32)) &&& (3 : Int32))), .unset, .unset, .unset, .unset, .unset, .unset, .unset, .unset, .unset] [(.int (255 : Int32)), (.int p1)]))
        refine own_G.go (fun t_ k_ => XS.iand X0.here hx rfl (hb hby at_88) rfl k_) ?_
        show own_G _ _ _ _ (s₁.setTop (mkF m 89 #[.val (.int p0), .val (.int p1), .val (.int p2), .val (.int (own_c (p0 &&& (255 : Int32)))), .val (.int (own_c ((Jvm.Free.XT.ushr p0 (8 : Int32)) &&& (255 : Int32)))), .val (.int (own_c ((Jvm.Free.XT.ushr p0 (16 : Int32)) &&& (255 : Int32)))), .val (.int (0 : Int32)), .val (.int (0 : Int32)), .val (.int (1 : Int32)), .val (.int ((Jvm.Free.XT.ushr p2 (3 : Int32)) &&& (3 : Int32))), .unset, .unset, .unset, .unset, .unset, .unset, .unset, .unset, .unset] [(.int (p1 &&& (255 : Int32)))]))
        refine own_G.go (fun t_ k_ => XS.i2c X0.here hx rfl (hb hby at_89) rfl k_) ?_
        show own_G _ _ _ _ (s₁.setTop (mkF m 90 #[.val (.int p0), .val (.int p1), .val (.int p2), .val (.int (own_c (p0 &&& (255 : Int32)))), .val (.int (own_c ((Jvm.Free.XT.ushr p0 (8 : Int32)) &&& (255 : Int32)))), .val (.int (own_c ((Jvm.Free.XT.ushr p0 (16 : Int32)) &&& (255 : Int32)))), .val (.int (0 : Int32)), .val (.int (0 : Int32)), .val (.int (1 : Int32)), .val (.int ((Jvm.Free.XT.ushr p2 (3 : Int32)) &&& (3 : Int32))), .unset, .unset, .unset, .unset, .unset, .unset, .unset, .unset, .unset] [(.int (own_c (p1 &&& (255 : Int32))))]))
        refine own_G.go (fun t_ k_ => XS.istore X0.here hx rfl (hb hby at_90) rfl (l' := #[.val (.int p0), .val (.int p1), .val (.int p2), .val (.int (own_c (p0 &&& (255 : Int32)))), .val (.int (own_c ((Jvm.Free.XT.ushr p0 (8 : Int32)) &&& (255 : Int32)))), .val (.int (own_c ((Jvm.Free.XT.ushr p0 (16 : Int32)) &&& (255 : Int32)))), .val (.int (0 : Int32)), .val (.int (0 : Int32)), .val (.int (1 : Int32)), .val (.int ((Jvm.Free.XT.ushr p2 (3 : Int32)) &&& (3 : Int32))), .val (.int (own_c (p1 &&& (255 : Int32)))), .unset, .unset, .unset, .unset, .unset, .unset, .unset, .unset]) rfl k_) ?_
        show own_G _ _ _ _ (s₁.setTop (mkF m 92 #[.val (.int p0), .val (.int p1), .val (.int p2), .val (.int (own_c (p0 &&& (255 : Int32)))), .val (.int (own_c ((Jvm.Free.XT.ushr p0 (8 : Int32)) &&& (255 : Int32)))), .val (.int (own_c ((Jvm.Free.XT.ushr p0 (16 : Int32)) &&& (255 : Int32)))), .val (.int (0 : Int32)), .val (.int (0 : Int32)), .val (.int (1 : Int32)), .val (.int ((Jvm.Free.XT.ushr p2 (3 : Int32)) &&& (3 : Int32))), .val (.int (own_c (p1 &&& (255 : Int32)))), .unset, .unset, .unset, .unset, .unset, .unset, .unset, .unset] []))
        refine own_G.go (fun t_ k_ => XS.iload X0.here hx rfl (hb hby at_92) rfl k_) ?_
        show own_G _ _ _ _ (s₁.setTop (mkF m 94 #[.val (.int p0), .val (.int p1), .val (.int p2), .val (.int (own_c (p0 &&& (255 : Int32)))), .val (.int (own_c ((Jvm.Free.XT.ushr p0 (8 : Int32)) &&& (255 : Int32)))), .val (.int (own_c ((Jvm.Free.XT.ushr p0 (16 : Int32)) &&& (255 : Int32)))), .val (.int (0 : Int32)), .val (.int (0 : Int32)), .val (.int (1 : Int32)), .val (.int ((Jvm.Free.XT.ushr p2 (3 : Int32)) &&& (3 : Int32))), .val (.int (own_c (p1 &&& (255 : Int32)))), .unset, .unset, .unset, .unset, .unset, .unset, .unset, .unset] [(.int (0 : Int32))]))
        refine own_G.go (fun t_ k_ => XS.ifYes X0.here hx rfl (pc0 := 94) (pc' := 102) rfl (hb hby at_94) rfl ((if0 _ _).trans (teq (by decide : (0 : Int32) = (0 : Int32))).1) (by decide) (by decide) k_) ?_
        show own_G _ _ _ _ (s₁.setTop (mkF m 102 #[.val (.int p0), .val (.int p1), .val (.int p2), .val (.int (own_c (p0 &&& (255 : Int32)))), .val (.int (own_c ((Jvm.Free.XT.ushr p0 (8 : Int32)) &&& (255 : Int32)))), .val (.int (own_c ((Jvm.Free.XT.ushr p0 (16 : Int32)) &&& (255 : Int32)))), .val (.int (0 : Int32)), .val (.int (0 : Int32)), .val (.int (1 : Int32)), .val (.int ((Jvm.Free.XT.ushr p2 (3 : Int32)) &&& (3 : Int32))), .val (.int (own_c (p1 &&& (255 : Int32)))), .unset, .unset, .unset, .unset, .unset, .unset, .unset, .unset] []))
        refine own_G.go (fun t_ k_ => XS.iloadN X0.here hx rfl (hb hby at_102) rfl k_) ?_
        show own_G _ _ _ _ (s₁.setTop (mkF m 103 #[.val (.int p0), .val (.int p1), .val (.int p2), .val (.int (own_c (p0 &&& (255 : Int32)))), .val (.int (own_c ((Jvm.Free.XT.ushr p0 (8 : Int32)) &&& (255 : Int32)))), .val (.int (own_c ((Jvm.Free.XT.ushr p0 (16 : Int32)) &&& (255 : Int32)))), .val (.int (0 : Int32)), .val (.int (0 : Int32)), .val (.int (1 : Int32)), .val (.int ((Jvm.Free.XT.ushr p2 (3 : Int32)) &&& (3 : Int32))), .val (.int (own_c (p1 &&& (255 : Int32)))), .unset, .unset, .unset, .unset, .unset, .unset, .unset, .unset] [(.int p1)]))
        refine own_G.go (fun t_ k_ => XS.bipush X0.here hx rfl (hb hby at_103) k_) ?_
        show own_G _ _ _ _ (s₁.setTop (mkF m 105 #[.val (.int p0), .val (.int p1), .val (.int p2), .val (.int (own_c (p0 &&& (255 : Int32)))), .val (.int (own_c ((Jvm.Free.XT.ushr p0 (8 : Int32)) &&& (255 : Int32)))), .val (.int (own_c ((Jvm.Free.XT.ushr p0 (16 : Int32)) &&& (255 : Int32)))), .val (.int (0 : Int32)), .val (.int (0 : Int32)), .val (.int (1 : Int32)), .val (.int ((Jvm.Free.XT.ushr p2 (3 : Int32)) &&& (3 : Int32))), .val (.int (own_c (p1 &&& (255 : Int32)))), .unset, .unset, .unset, .unset, .unset, .unset, .unset, .unset] [(.int (8 : Int32)), (.int p1)]))
        refine own_G.go (fun t_ k_ => XS.iushr X0.here hx rfl (hb hby at_105) rfl k_) ?_
        show own_G _ _ _ _ (s₁.setTop (mkF m 106 #[.val (.int p0), .val (.int p1), .val (.int p2), .val (.int (own_c (p0 &&& (255 : Int32)))), .val (.int (own_c ((Jvm.Free.XT.ushr p0 (8 : Int32)) &&& (255 : Int32)))), .val (.int (own_c ((Jvm.Free.XT.ushr p0 (16 : Int32)) &&& (255 : Int32)))), .val (.int (0 : Int32)), .val (.int (0 : Int32)), .val (.int (1 : Int32)), .val (.int ((Jvm.Free.XT.ushr p2 (3 : Int32)) &&& (3 : Int32))), .val (.int (own_c (p1 &&& (255 : Int32)))), .unset, .unset, .unset, .unset, .unset, .unset, .unset, .unset] [(.int (Jvm.Free.XT.ushr p1 (8 : Int32)))]))
        refine own_G.go (fun t_ k_ => XS.sipush X0.here hx rfl (hb hby at_106) k_) ?_
        show own_G _ _ _ _ (s₁.setTop (mkF m 109 #[.val (.int p0), .val (.int p1), .val (.int p2), .val (.int (own_c (p0 &&& (255 : Int32)))), .val (.int (own_c ((Jvm.Free.XT.ushr p0 (8 : Int32)) &&& (255 : Int32)))), .val (.int (own_c ((Jvm.Free.XT.ushr p0 (16 : Int32)) &&& (255 : Int32)))), .val (.int (0 : Int32)), .val (.int (0 : Int32)), .val (.int (1 : Int32)), .val (.int ((Jvm.Free.XT.ushr p2 (3 : Int32)) &&& (3 : Int32))), .val (.int (own_c (p1 &&& (255 : Int32)))), .unset, .unset, .unset, .unset, .unset, .unset, .unset, .unset] [(.int (255 : Int32)), (.int (Jvm.Free.XT.ushr p1 (8 : Int32)))]))
        refine own_G.go (fun t_ k_ => XS.iand X0.here hx rfl (hb hby at_109) rfl k_) ?_
        show own_G _ _ _ _ (s₁.setTop (mkF m 110 #[.val (.int p0), .val (.int p1), .val (.int p2), .val (.int (own_c (p0 &&& (255 : Int32)))), .val (.int (own_c ((Jvm.Free.XT.ushr p0 (8 : Int32)) &&& (255 : Int32)))), .val (.int (own_c ((Jvm.Free.XT.ushr p0 (16 : Int32)) &&& (255 : Int32)))), .val (.int (0 : Int32)), .val (.int (0 : Int32)), .val (.int (1 : Int32)), .val (.int ((Jvm.Free.XT.ushr p2 (3 : Int32)) &&& (3 : Int32))), .val (.int (own_c (p1 &&& (255 : Int32)))), .unset, .unset, .unset, .unset, .unset, .unset, .unset, .unset] [(.int ((Jvm.Free.XT.ushr p1 (8 : Int32)) &&& (255 : Int32)))]))
        refine own_G.go (fun t_ k_ => XS.i2c X0.here hx rfl (hb hby at_110) rfl k_) ?_
        show own_G _ _ _ _ (s₁.setTop (mkF m 111 #[.val (.int p0), .val (.int p1), .val (.int p2), .val (.int (own_c (p0 &&& (255 : Int32)))), .val (.int (own_c ((Jvm.Free.XT.ushr p0 (8 : Int32)) &&& (255 : Int32)))), .val (.int (own_c ((Jvm.Free.XT.ushr p0 (16 : Int32)) &&& (255 : Int32)))), .val (.int (0 : Int32)), .val (.int (0 : Int32)), .val (.int (1 : Int32)), .val (.int ((Jvm.Free.XT.ushr p2 (3 : Int32)) &&& (3 : Int32))), .val (.int (own_c (p1 &&& (255 : Int32)))), .unset, .unset, .unset, .unset, .unset, .unset, .unset, .unset] [(.int (own_c ((Jvm.Free.XT.ushr p1 (8 : Int32)) &&& (255 : Int32))))]))
        refine own_G.go (fun t_ k_ => XS.istore X0.here hx rfl (hb hby at_111) rfl (l' := #[.val (.int p0), .val (.int p1), .val (.int p2), .val (.int (own_c (p0 &&& (255 : Int32)))), .val (.int (own_c ((Jvm.Free.XT.ushr p0 (8 : Int32)) &&& (255 : Int32)))), .val (.int (own_c ((Jvm.Free.XT.ushr p0 (16 : Int32)) &&& (255 : Int32)))), .val (.int (0 : Int32)), .val (.int (0 : Int32)), .val (.int (1 : Int32)), .val (.int ((Jvm.Free.XT.ushr p2 (3 : Int32)) &&& (3 : Int32))), .val (.int (own_c (p1 &&& (255 : Int32)))), .val (.int (own_c ((Jvm.Free.XT.ushr p1 (8 : Int32)) &&& (255 : Int32)))), .unset, .unset, .unset, .unset, .unset, .unset, .unset]) rfl k_) ?_
        show own_G _ _ _ _ (s₁.setTop (mkF m 113 #[.val (.int p0), .val (.int p1), .val (.int p2), .val (.int (own_c (p0 &&& (255 : Int32)))), .val (.int (own_c ((Jvm.Free.XT.ushr p0 (8 : Int32)) &&& (255 : Int32)))), .val (.int (own_c ((Jvm.Free.XT.ushr p0 (16 : Int32)) &&& (255 : Int32)))), .val (.int (0 : Int32)), .val (.int (0 : Int32)), .val (.int (1 : Int32)), .val (.int ((Jvm.Free.XT.ushr p2 (3 : Int32)) &&& (3 : Int32))), .val (.int (own_c (p1 &&& (255 : Int32)))), .val (.int (own_c ((Jvm.Free.XT.ushr p1 (8 : Int32)) &&& (255 : Int32)))), .unset, .unset, .unset, .unset, .unset, .unset, .unset] []))
        refine own_G.go (fun t_ k_ => XS.iload X0.here hx rfl (hb hby at_113) rfl k_) ?_
        show own_G _ _ _ _ (s₁.setTop (mkF m 115 #[.val (.int p0), .val (.int p1), .val (.int p2), .val (.int (own_c (p0 &&& (255 : Int32)))), .val (.int (own_c ((Jvm.Free.XT.ushr p0 (8 : Int32)) &&& (255 : Int32)))), .val (.int (own_c ((Jvm.Free.XT.ushr p0 (16 : Int32)) &&& (255 : Int32)))), .val (.int (0 : Int32)), .val (.int (0 : Int32)), .val (.int (1 : Int32)), .val (.int ((Jvm.Free.XT.ushr p2 (3 : Int32)) &&& (3 : Int32))), .val (.int (own_c (p1 &&& (255 : Int32)))), .val (.int (own_c ((Jvm.Free.XT.ushr p1 (8 : Int32)) &&& (255 : Int32)))), .unset, .unset, .unset, .unset, .unset, .unset, .unset] [(.int (1 : Int32))]))
        refine own_G.go (fun t_ k_ => XS.ifNo X0.here hx rfl (hb hby at_115) rfl ((if0 _ _).trans (feq (by decide : ¬ ((1 : Int32) = (0 : Int32)))).1) k_) ?_
        show own_G _ _ _ _ (s₁.setTop (mkF m 118 #[.val (.int p0), .val (.int p1), .val (.int p2), .val (.int (own_c (p0 &&& (255 : Int32)))), .val (.int (own_c ((Jvm.Free.XT.ushr p0 (8 : Int32)) &&& (255 : Int32)))), .val (.int (own_c ((Jvm.Free.XT.ushr p0 (16 : Int32)) &&& (255 : Int32)))), .val (.int (0 : Int32)), .val (.int (0 : Int32)), .val (.int (1 : Int32)), .val (.int ((Jvm.Free.XT.ushr p2 (3 : Int32)) &&& (3 : Int32))), .val (.int (own_c (p1 &&& (255 : Int32)))), .val (.int (own_c ((Jvm.Free.XT.ushr p1 (8 : Int32)) &&& (255 : Int32)))), .unset, .unset, .unset, .unset, .unset, .unset, .unset] []))
        refine own_G.go (fun t_ k_ => XS.iload X0.here hx rfl (hb hby at_118) rfl k_) ?_
        show own_G _ _ _ _ (s₁.setTop (mkF m 120 #[.val (.int p0), .val (.int p1), .val (.int p2), .val (.int (own_c (p0 &&& (255 : Int32)))), .val (.int (own_c ((Jvm.Free.XT.ushr p0 (8 : Int32)) &&& (255 : Int32)))), .val (.int (own_c ((Jvm.Free.XT.ushr p0 (16 : Int32)) &&& (255 : Int32)))), .val (.int (0 : Int32)), .val (.int (0 : Int32)), .val (.int (1 : Int32)), .val (.int ((Jvm.Free.XT.ushr p2 (3 : Int32)) &&& (3 : Int32))), .val (.int (own_c (p1 &&& (255 : Int32)))), .val (.int (own_c ((Jvm.Free.XT.ushr p1 (8 : Int32)) &&& (255 : Int32)))), .unset, .unset, .unset, .unset, .unset, .unset, .unset] [(.int (own_c ((Jvm.Free.XT.ushr p0 (16 : Int32)) &&& (255 : Int32))))]))
        refine own_G.go (fun t_ k_ => XS.goto X0.here hx rfl (pc0 := 120) (pc' := 132) rfl (hb hby at_120) (by decide) (by decide) k_) ?_
        show own_G _ _ _ _ (s₁.setTop (mkF m 132 #[.val (.int p0), .val (.int p1), .val (.int p2), .val (.int (own_c (p0 &&& (255 : Int32)))), .val (.int (own_c ((Jvm.Free.XT.ushr p0 (8 : Int32)) &&& (255 : Int32)))), .val (.int (own_c ((Jvm.Free.XT.ushr p0 (16 : Int32)) &&& (255 : Int32)))), .val (.int (0 : Int32)), .val (.int (0 : Int32)), .val (.int (1 : Int32)), .val (.int ((Jvm.Free.XT.ushr p2 (3 : Int32)) &&& (3 : Int32))), .val (.int (own_c (p1 &&& (255 : Int32)))), .val (.int (own_c ((Jvm.Free.XT.ushr p1 (8 : Int32)) &&& (255 : Int32)))), .unset, .unset, .unset, .unset, .unset, .unset, .unset] [(.int (own_c ((Jvm.Free.XT.ushr p0 (16 : Int32)) &&& (255 : Int32))))]))
        refine own_G.go (fun t_ k_ => XS.istore X0.here hx rfl (hb hby at_132) rfl (l' := #[.val (.int p0), .val (.int p1), .val (.int p2), .val (.int (own_c (p0 &&& (255 : Int32)))), .val (.int (own_c ((Jvm.Free.XT.ushr p0 (8 : Int32)) &&& (255 : Int32)))), .val (.int (own_c ((Jvm.Free.XT.ushr p0 (16 : Int32)) &&& (255 : Int32)))), .val (.int (0 : Int32)), .val (.int (0 : Int32)), .val (.int (1 : Int32)), .val (.int ((Jvm.Free.XT.ushr p2 (3 : Int32)) &&& (3 : Int32))), .val (.int (own_c (p1 &&& (255 : Int32)))), .val (.int (own_c ((Jvm.Free.XT.ushr p1 (8 : Int32)) &&& (255 : Int32)))), .val (.int (own_c ((Jvm.Free.XT.ushr p0 (16 : Int32)) &&& (255 : Int32)))), .unset, .unset, .unset, .unset, .unset, .unset]) rfl k_) ?_
        show own_G _ _ _ _ (s₁.setTop (mkF m 134 #[.val (.int p0), .val (.int p1), .val (.int p2), .val (.int (own_c (p0 &&& (255 : Int32)))), .val (.int (own_c ((Jvm.Free.XT.ushr p0 (8 : Int32)) &&& (255 : Int32)))), .val (.int (own_c ((Jvm.Free.XT.ushr p0 (16 : Int32)) &&& (255 : Int32)))), .val (.int (0 : Int32)), .val (.int (0 : Int32)), .val (.int (1 : Int32)), .val (.int ((Jvm.Free.XT.ushr p2 (3 : Int32)) &&& (3 : Int32))), .val (.int (own_c (p1 &&& (255 : Int32)))), .val (.int (own_c ((Jvm.Free.XT.ushr p1 (8 : Int32)) &&& (255 : Int32)))), .val (.int (own_c ((Jvm.Free.XT.ushr p0 (16 : Int32)) &&& (255 : Int32)))), .unset, .unset, .unset, .unset, .unset, .unset] []))
        exact J134 _ _ _ _ _ _ _ _ _ _ (own_mask _) (own_mask _) (own_mask _) (own_mask _) (own_mask _) (own_mask _)
    · refine own_G.go (fun t_ k_ => XS.ifNo X0.here hx rfl (hb hby at_45) rfl ((if0 _ _).trans (feq hb45).1) k_) ?_
      show own_G _ _ _ _ (s₁.setTop (mkF m 48 #[.val (.int p0), .val (.int p1), .val (.int p2), .val (.int (own_c (p0 &&& (255 : Int32)))), .val (.int (own_c ((Jvm.Free.XT.ushr p0 (8 : Int32)) &&& (255 : Int32)))), .val (.int (own_c ((Jvm.Free.XT.ushr p0 (16 : Int32)) &&& (255 : Int32)))), .val (.int (0 : Int32)), .unset, .unset, .unset, .unset, .unset, .unset, .unset, .unset, .unset, .unset, .unset, .unset] []))
      refine own_G.go (fun t_ k_ => XS.iconst X0.here hx rfl (hb hby at_48) k_) ?_
      show own_G _ _ _ _ (s₁.setTop (mkF m 49 #[.val (.int p0), .val (.int p1), .val (.int p2), .val (.int (own_c (p0 &&& (255 : Int32)))), .val (.int (own_c ((Jvm.Free.XT.ushr p0 (8 : Int32)) &&& (255 : Int32)))), .val (.int (own_c ((Jvm.Free.XT.ushr p0 (16 : Int32)) &&& (255 : Int32)))), .val (.int (0 : Int32)), .unset, .unset, .unset, .unset, .unset, .unset, .unset, .unset, .unset, .unset, .unset, .unset] [(.int (1 : Int32))]))
      refine own_G.go (fun t_ k_ => XS.goto X0.here hx rfl (pc0 := 49) (pc' := 53) rfl (hb hby at_49) (by decide) (by decide) k_) ?_
      show own_G _ _ _ _ (s₁.setTop (mkF m 53 #[.val (.int p0), .val (.int p1), .val (.int p2), .val (.int (own_c (p0 &&& (255 : Int32)))), .val (.int (own_c ((Jvm.Free.XT.ushr p0 (8 : Int32)) &&& (255 : Int32)))), .val (.int (own_c ((Jvm.Free.XT.ushr p0 (16 : Int32)) &&& (255 : Int32)))), .val (.int (0 : Int32)), .unset, .unset, .unset, .unset, .unset, .unset, .unset, .unset, .unset, .unset, .unset, .unset] [(.int (1 : Int32))]))
      refine own_G.go (fun t_ k_ => XS.istore X0.here hx rfl (hb hby at_53) rfl (l' := #[.val (.int p0), .val (.int p1), .val (.int p2), .val (.int (own_c (p0 &&& (255 : Int32)))), .val (.int (own_c ((Jvm.Free.XT.ushr p0 (8 : Int32)) &&& (255 : Int32)))), .val (.int (own_c ((Jvm.Free.XT.ushr p0 (16 : Int32)) &&& (255 : Int32)))), .val (.int (0 : Int32)), .val (.int (1 : Int32)), .unset, .unset, .unset, .unset, .unset, .unset, .unset, .unset, .unset, .unset, .unset]) rfl k_) ?_
      show own_G _ _ _ _ (s₁.setTop (mkF m 55 #[.val (.int p0), .val (.int p1), .val (.int p2), .val (.int (own_c (p0 &&& (255 : Int32)))), .val (.int (own_c ((Jvm.Free.XT.ushr p0 (8 : Int32)) &&& (255 : Int32)))), .val (.int (own_c ((Jvm.Free.XT.ushr p0 (16 : Int32)) &&& (255 : Int32)))), .val (.int (0 : Int32)), .val (.int (1 : Int32)), .unset, .unset, .unset, .unset, .unset, .unset, .unset, .unset, .unset, .unset, .unset] []))
      refine own_G.go (fun t_ k_ => XS.iloadN X0.here hx rfl (hb hby at_55) rfl k_) ?_
      show own_G _ _ _ _ (s₁.setTop (mkF m 56 #[.val (.int p0), .val (.int p1), .val (.int p2), .val (.int (own_c (p0 &&& (255 : Int32)))), .val (.int (own_c ((Jvm.Free.XT.ushr p0 (8 : Int32)) &&& (255 : Int32)))), .val (.int (own_c ((Jvm.Free.XT.ushr p0 (16 : Int32)) &&& (255 : Int32)))), .val (.int (0 : Int32)), .val (.int (1 : Int32)), .unset, .unset, .unset, .unset, .unset, .unset, .unset, .unset, .unset, .unset, .unset] [(.int p2)]))
      refine own_G.go (fun t_ k_ => XS.iconst X0.here hx rfl (hb hby at_56) k_) ?_
      show own_G _ _ _ _ (s₁.setTop (mkF m 57 #[.val (.int p0), .val (.int p1), .val (.int p2), .val (.int (own_c (p0 &&& (255 : Int32)))), .val (.int (own_c ((Jvm.Free.XT.ushr p0 (8 : Int32)) &&& (255 : Int32)))), .val (.int (own_c ((Jvm.Free.XT.ushr p0 (16 : Int32)) &&& (255 : Int32)))), .val (.int (0 : Int32)), .val (.int (1 : Int32)), .unset, .unset, .unset, .unset, .unset, .unset, .unset, .unset, .unset, .unset, .unset] [(.int (4 : Int32)), (.int p2)]))
      refine own_G.go (fun t_ k_ => XS.iand X0.here hx rfl (hb hby at_57) rfl k_) ?_
      show own_G _ _ _ _ (s₁.setTop (mkF m 58 #[.val (.int p0), .val (.int p1), .val (.int p2), .val (.int (own_c (p0 &&& (255 : Int32)))), .val (.int (own_c ((Jvm.Free.XT.ushr p0 (8 : Int32)) &&& (255 : Int32)))), .val (.int (own_c ((Jvm.Free.XT.ushr p0 (16 : Int32)) &&& (255 : Int32)))), .val (.int (0 : Int32)), .val (.int (1 : Int32)), .unset, .unset, .unset, .unset, .unset, .unset, .unset, .unset, .unset, .unset, .unset] [(.int (p2 &&& (4 : Int32)))]))
      by_cases hb58 : (p2 &&& (4 : Int32)) = (0 : Int32)
      · refine own_G.go (fun t_ k_ => XS.ifYes X0.here hx rfl (pc0 := 58) (pc' := 65) rfl (hb hby at_58) rfl ((if0 _ _).trans (teq hb58).1) (by decide) (by decide) k_) ?_
        show own_G _ _ _ _ (s₁.setTop (mkF m 65 #[.val (.int p0), .val (.int p1), .val (.int p2), .val (.int (own_c (p0 &&& (255 : Int32)))), .val (.int (own_c ((Jvm.Free.XT.ushr p0 (8 : Int32)) &&& (255 : Int32)))), .val (.int (own_c ((Jvm.Free.XT.ushr p0 (16 : Int32)) &&& (255 : Int32)))), .val (.int (0 : Int32)), .val (.int (1 : Int32)), .unset, .unset, .unset, .unset, .unset, .unset, .unset, .unset, .unset, .unset, .unset] []))
        refine own_G.go (fun t_ k_ => XS.iconst X0.here hx rfl (hb hby at_65) k_) ?_
        show own_G _ _ _ _ (s₁.setTop (mkF m 66 #[.val (.int p0), .val (.int p1), .val (.int p2), .val (.int (own_c (p0 &&& (255 : Int32)))), .val (.int (own_c ((Jvm.Free.XT.ushr p0 (8 : Int32)) &&& (255 : Int32)))), .val (.int (own_c ((Jvm.Free.XT.ushr p0 (16 : Int32)) &&& (255 : Int32)))), .val (.int (0 : Int32)), .val (.int (1 : Int32)), .unset, .unset, .unset, .unset, .unset, .unset, .unset, .unset, .unset, .unset, .unset] [(.int (0 : Int32))]))
        refine own_G.go (fun t_ k_ => XS.istore X0.here hx rfl (hb hby at_66) rfl (l' := #[.val (.int p0), .val (.int p1), .val (.int p2), .val (.int (own_c (p0 &&& (255 : Int32)))), .val (.int (own_c ((Jvm.Free.XT.ushr p0 (8 : Int32)) &&& (255 : Int32)))), .val (.int (own_c ((Jvm.Free.XT.ushr p0 (16 : Int32)) &&& (255 : Int32)))), .val (.int (0 : Int32)), .val (.int (1 : Int32)), .val (.int (0 : Int32)), .unset, .unset, .unset, .unset, .unset, .unset, .unset, .unset, .unset, .unset]) rfl k_) ?_
        show own_G _ _ _ _ (s₁.setTop (mkF m 68 #[.val (.int p0), .val (.int p1), .val (.int p2), .val (.int (own_c (p0 &&& (255 : Int32)))), .val (.int (own_c ((Jvm.Free.XT.ushr p0 (8 : Int32)) &&& (255 : Int32)))), .val (.int (own_c ((Jvm.Free.XT.ushr p0 (16 : Int32)) &&& (255 : Int32)))), .val (.int (0 : Int32)), .val (.int (1 : Int32)), .val (.int (0 : Int32)), .unset, .unset, .unset, .unset, .unset, .unset, .unset, .unset, .unset, .unset] []))
        refine own_G.go (fun t_ k_ => XS.iloadN X0.here hx rfl (hb hby at_68) rfl k_) ?_
        show own_G _ _ _ _ (s₁.setTop (mkF m 69 #[.val (.int p0), .val (.int p1), .val (.int p2), .val (.int (own_c (p0 &&& (255 : Int32)))), .val (.int (own_c ((Jvm.Free.XT.ushr p0 (8 : Int32)) &&& (255 : Int32)))), .val (.int (own_c ((Jvm.Free.XT.ushr p0 (16 : Int32)) &&& (255 : Int32)))), .val (.int (0 : Int32)), .val (.int (1 : Int32)), .val (.int (0 : Int32)), .unset, .unset, .unset, .unset, .unset, .unset, .unset, .unset, .unset, .unset] [(.int p2)]))
        refine own_G.go (fun t_ k_ => XS.iconst X0.here hx rfl (hb hby at_69) k_) ?_
        show own_G _ _ _ _ (s₁.setTop (mkF m 70 #[.val (.int p0), .val (.int p1), .val (.int p2), .val (.int (own_c (p0 &&& (255 : Int32)))), .val (.int (own_c ((Jvm.Free.XT.ushr p0 (8 : Int32)) &&& (255 : Int32)))), .val (.int (own_c ((Jvm.Free.XT.ushr p0 (16 : Int32)) &&& (255 : Int32)))), .val (.int (0 : Int32)), .val (.int (1 : Int32)), .val (.int (0 : Int32)), .unset, .unset, .unset, .unset, .unset, .unset, .unset, .unset, .unset, .unset] [(.int (3 : Int32)), (.int p2)]))
        refine own_G.go (fun t_ k_ => XS.iushr X0.here hx rfl (hb hby at_70) rfl k_) ?_
        show own_G _ _ _ _ (s₁.setTop (mkF m 71 #[.val (.int p0), .val (.int p1), .val (.int p2), .val (.int (own_c (p0 &&& (255 : Int32)))), .val (.int (own_c ((Jvm.Free.XT.ushr p0 (8 : Int32)) &&& (255 : Int32)))), .val (.int (own_c ((Jvm.Free.XT.ushr p0 (16 : Int32)) &&& (255 : Int32)))), .val (.int (0 : Int32)), .val (.int (1 : Int32)), .val (.int (0 : Int32)), .unset, .unset, .unset, .unset, .unset, .unset, .unset, .unset, .unset, .unset] [(.int (Jvm.Free.XT.ushr p2 (3 : Int32)))]))
        refine own_G.go (fun t_ k_ => XS.iconst X0.here hx rfl (hb hby at_71) k_) ?_
        show own_G _ _ _ _ (s₁.setTop (mkF m 72 #[.val (.int p0), .val (.int p1), .val (.int p2), .val (.int (own_c (p0 &&& (255 : Int32)))), .val (.int (own_c ((Jvm.Free.XT.ushr p0 (8 : Int32)) &&& (255 : Int32)))), .val (.int (own_c ((Jvm.Free.XT.ushr p0 (16 : Int32)) &&& (255 : Int32)))), .val (.int (0 : Int32)), .val (.int (1 : Int32)), .val (.int (0 : Int32)), .unset, .unset, .unset, .unset, .unset, .unset, .unset, .unset, .unset, .unset] [(.int (3 : Int32)), (.int (Jvm.Free.XT.ushr p2 (3 : Int32)))]))
        refine own_G.go (fun t_ k_ => XS.iand X0.here hx rfl (hb hby at_72) rfl k_) ?_
        show own_G _ _ _ _ (s₁.setTop (mkF m 73 #[.val (.int p0), .val (.int p1), .val (.int p2), .val (.int (own_c (p0 &&& (255 : Int32)))), .val (.int (own_c ((Jvm.Free.XT.ushr p0 (8 : Int32)) &&& (255 : Int32)))), .val (.int (own_c ((Jvm.Free.XT.ushr p0 (16 : Int32)) &&& (255 : Int32)))), .val (.int (0 : Int32)), .val (.int (1 : Int32)), .val (.int (0 : Int32)), .unset, .unset, .unset, .unset, .unset, .unset, .unset, .unset, .unset, .unset] [(.int ((Jvm.Free.XT.ushr p2 (3 : Int32)) &&& (3 : Int32)))]))
        refine own_G.go (fun t_ k_ => XS.istore X0.here hx rfl (hb hby at_73) rfl (l' := #[.val (.int p0), .val (.int p1), .val (.int p2), .val (.int (own_c (p0 &&& (255 : Int32)))), .val (.int (own_c ((Jvm.Free.XT.ushr p0 (8 : Int32)) &&& (255 : Int32)))), .val (.int (own_c ((Jvm.Free.XT.ushr p0 (16 : Int32)) &&& (255 : Int32)))), .val (.int (0 : Int32)), .val (.int (1 : Int32)), .val (.int (0 : Int32)), .val (.int ((Jvm.Free.XT.ushr p2 (3 : Int32)) &&& (3 : Int32))), .unset, .unset, .unset, .unset, .unset, .unset, .unset, .unset, .unset]) rfl k_) ?_
        show own_G _ _ _ _ (s₁.setTop (mkF m 75 #[.val (.int p0), .val (.int p1), .val (.int p2), .val (.int (own_c (p0 &&& (255 : Int32)))), .val (.int (own_c ((Jvm.Free.XT.ushr p0 (8 : Int32)) &&& (255 : Int32)))), .val (.int (own_c ((Jvm.Free.XT.ushr p0 (16 : Int32)) &&& (255 : Int32)))), .val (.int (0 : Int32)), .val (.int (1 : Int32)), .val (.int (0 : Int32)), .val (.int ((Jvm.Free.XT.ushr p2 (3 : Int32)) &&& (3 : Int32))), .unset, .unset, .unset, .unset, .unset, .unset, .unset, .unset, .unset] []))
        refine own_G.go (fun t_ k_ => XS.iload X0.here hx rfl (hb hby at_75) rfl k_) ?_
        show own_G _ _ _ _ (s₁.setTop (mkF m 77 #[.val (.int p0), .val (.int p1), .val (.int p2), .val (.int (own_c (p0 &&& (255 : Int32)))), .val (.int (own_c ((Jvm.Free.XT.ushr p0 (8 : Int32)) &&& (255 : Int32)))), .val (.int (own_c ((Jvm.Free.XT.ushr p0 (16 : Int32)) &&& (255 : Int32)))), .val (.int (0 : Int32)), .val (.int (1 : Int32)), .val (.int (0 : Int32)), .val (.int ((Jvm.Free.XT.ushr p2 (3 : Int32)) &&& (3 : Int32))), .unset, .unset, .unset, .unset, .unset, .unset, .unset, .unset, .unset] [(.int (0 : Int32))]))
        refine own_G.go (fun t_ k_ => XS.ifYes X0.here hx rfl (pc0 := 77) (pc' := 84) rfl (hb hby at_77) rfl ((if0 _ _).trans (teq (by decide : (0 : Int32) = (0 : Int32))).1) (by decide) (by decide) k_) ?_
        show own_G _ _ _ _ (s₁.setTop (mkF m 84 #[.val (.int p0), .val (.int p1), .val (.int p2), .val (.int (own_c (p0 &&& (255 : Int32)))), .val (.int (own_c ((Jvm.Free.XT.ushr p0 (8 : Int32)) &&& (255 : Int32)))), .val (.int (own_c ((Jvm.Free.XT.ushr p0 (16 : Int32)) &&& (255 : Int32)))), .val (.int (0 : Int32)), .val (.int (1 : Int32)), .val (.int (0 : Int32)), .val (.int ((Jvm.Free.XT.ushr p2 (3 : Int32)) &&& (3 : Int32))), .unset, .unset, .unset, .unset, .unset, .unset, .unset, .unset, .unset] []))
        refine own_G.go (fun t_ k_ => XS.iloadN X0.here hx rfl (hb hby at_84) rfl k_) ?_
        show own_G _ _ _ _ (s₁.setTop (mkF m 85 #[.val (.int p0), .val (.int p1), .val (.int p2), .val (.int (own_c (p0 &&& (255 : Int32)))), .val (.int (own_c ((Jvm.Free.XT.ushr p0 (8 : Int32)) &&& (255 : Int32)))), .val (.int (own_c ((Jvm.Free.XT.ushr p0 (16 : Int32)) &&& (255 : Int32)))), .val (.int (0 : Int32)), .val (.int (1 : Int32)), .val (.int (0 : Int32)), .val (.int ((Jvm.Free.XT.ushr p2 (3 : Int32)) &&& (3 : Int32))), .unset, .unset, .unset, .unset, .unset, .unset, .unset, .unset, .unset] [(.int p1)]))
        refine own_G.go (fun t_ k_ => XS.sipush X0.here hx rfl (hb hby at_85) k_) ?_
        show own_G _ _ _ _ (s₁.setTop (mkF m 88 #[.val (.int p0), .val (.int p1), .val (.int p2), .val (.int (own_c (p0 &&& (255 : Int32)))), .val (.int (own_c ((Jvm.Free.XT.ushr p0 (8 : Int32)) &&& (255 : Int32)))), .val (.int (own_c ((Jvm.Free.XT.ushr p0 (16 : Int32)) &&& (255 : Int32)))), .val (.int (0 : Int32)), .val (.int (1 : Int32)), .val (.int (0 : Int32)), .val (.int ((Jvm.Free.XT.ushr p2 (3 : Int32)) &&& (3 : Int32))), .unset, .unset, .unset, .unset, .unset, .unset, .unset, .unset, .unset] [(.int (255 : Int32)), (.int p1)]))
        refine own_G.go (fun t_ k_ => XS.iand X0.here hx rfl (hb hby at_88) rfl k_) ?_
        show own_G _ _ _ _ (s₁.setTop (mkF m 89 #[.val (.int p0), .val (.int p1), .val (.int p2), .val (.int (own_c (p0 &&& (255 : Int32)))), .val (.int (own_c ((Jvm.Free.XT.ushr p0 (8 : Int32)) &&& (255 : Int32)))), .val (.int (own_c ((Jvm.Free.XT.ushr p0 (16 : Int32)) &&& (255 : Int32)))), .val (.int (0 : Int32)), .val (.int (1 : Int32)), .val (.int (0 : Int32)), .val (.int ((Jvm.Free.XT.ushr p2 (3 : Int32)) &&& (3 : Int32))), .unset, .unset, .unset, .unset, .unset, .unset, .unset, .unset, .unset] [(.int (p1 &&& (255 : Int32)))]))
        refine own_G.go (fun t_ k_ => XS.i2c X0.here hx rfl (hb hby at_89) rfl k_) ?_
        show own_G _ _ _ _ (s₁.setTop (mkF m 90 #[.val (.int p0), .val (.int p1), .val (.int p2), .val (.int (own_c (p0 &&& (255 : Int32)))), .val (.int (own_c ((Jvm.Free.XT.ushr p0 (8 : Int32)) &&& (255 : Int32)))), .val (.int (own_c ((Jvm.Free.XT.ushr p0 (16 : Int32)) &&& (255 : Int32)))), .val (.int (0 : Int32)), .val (.int (1 : Int32)), .val (.int (0 : Int32)), .val (.int ((Jvm.Free.XT.ushr p2 (3 : Int32)) &&& (3 : Int32))), .unset, .unset, .unset, .unset, .unset, .unset, .unset, .unset, .unset] [(.int (own_c (p1 &&& (255 : Int32))))]))
        refine own_G.go (fun t_ k_ => XS.istore X0.here hx rfl (hb hby at_90) rfl (l' := #[.val (.int p0), .val (.int p1), .val (.int p2), .val (.int (own_c (p0 &&& (255 : Int32)))), .val (.int (own_c ((Jvm.Free.XT.ushr p0 (8 : Int32)) &&& (255 : Int32)))), .val (.int (own_c ((Jvm.Free.XT.ushr p0 (16 : Int32)) &&& (255 : Int32)))), .val (.int (0 : Int32)), .val (.int (1 : Int32)), .val (.int (0 : Int32)), .val (.int ((Jvm.Free.XT.ushr p2 (3 : Int32)) &&& (3 : Int32))), .val (.int (own_c (p1 &&& (255 : Int32)))), .unset, .unset, .unset, .unset, .unset, .unset, .unset, .unset]) rfl k_) ?_
        show own_G _ _ _ _ (s₁.setTop (mkF m 92 #[.val (.int p0), .val (.int p1), .val (.int p2), .val (.int (own_c (p0 &&& (255 : Int32)))), .val (.int (own_c ((Jvm.Free.XT.ushr p0 (8 : Int32)) &&& (255 : Int32)))), .val (.int (own_c ((Jvm.Free.XT.ushr p0 (16 : Int32)) &&& (255 : Int32)))), .val (.int (0 : Int32)), .val (.int (1 : Int32)), .val (.int (0 : Int32)), .val (.int ((Jvm.Free.XT.ushr p2 (3 : Int32)) &&& (3 : Int32))), .val (.int (own_c (p1 &&& (255 : Int32)))), .unset, .unset, .unset, .unset, .unset, .unset, .unset, .unset] []))
        refine own_G.go (fun t_ k_ => XS.iload X0.here hx rfl (hb hby at_92) rfl k_) ?_
        show own_G _ _ _ _ (s₁.setTop (mkF m 94 #[.val (.int p0), .val (.int p1), .val (.int p2), .val (.int (own_c (p0 &&& (255 : Int32)))), .val (.int (own_c ((Jvm.Free.XT.ushr p0 (8 : Int32)) &&& (255 : Int32)))), .val (.int (own_c ((Jvm.Free.XT.ushr p0 (16 : Int32)) &&& (255 : Int32)))), .val (.int (0 : Int32)), .val (.int (1 : Int32)), .val (.int (0 : Int32)), .val (.int ((Jvm.Free.XT.ushr p2 (3 : Int32)) &&& (3 : Int32))), .val (.int (own_c (p1 &&& (255 : Int32)))), .unset, .unset, .unset, .unset, .unset, .unset, .unset, .unset] [(.int (1 : Int32))]))
        refine own_G.go (fun t_ k_ => XS.ifNo X0.here hx rfl (hb hby at_94) rfl ((if0 _ _).trans (feq (by decide : ¬ ((1 : Int32) = (0 : Int32)))).1) k_) ?_
        show own_G _ _ _ _ (s₁.setTop (mkF m 97 #[.val (.int p0), .val (.int p1), .val (.int p2), .val (.int (own_c (p0 &&& (255 : Int32)))), .val (.int (own_c ((Jvm.Free.XT.ushr p0 (8 : Int32)) &&& (255 : Int32)))), .val (.int (own_c ((Jvm.Free.XT.ushr p0 (16 : Int32)) &&& (255 : Int32)))), .val (.int (0 : Int32)), .val (.int (1 : Int32)), .val (.int (0 : Int32)), .val (.int ((Jvm.Free.XT.ushr p2 (3 : Int32)) &&& (3 : Int32))), .val (.int (own_c (p1 &&& (255 : Int32)))), .unset, .unset, .unset, .unset, .unset, .unset, .unset, .unset] []))
        refine own_G.go (fun t_ k_ => XS.iload X0.here hx rfl (hb hby at_97) rfl k_) ?_
        show own_G _ _ _ _ (s₁.setTop (mkF m 99 #[.val (.int p0), .val (.int p1), .val (.int p2), .val (.int (own_c (p0 &&& (255 : Int32)))), .val (.int (own_c ((Jvm.Free.XT.ushr p0 (8 : Int32)) &&& (255 : Int32)))), .val (.int (own_c ((Jvm.Free.XT.ushr p0 (16 : Int32)) &&& (255 : Int32)))), .val (.int (0 : Int32)), .val (.int (1 : Int32)), .val (.int (0 : Int32)), .val (.int ((Jvm.Free.XT.ushr p2 (3 : Int32)) &&& (3 : Int32))), .val (.int (own_c (p1 &&& (255 : Int32)))), .unset, .unset, .unset, .unset, .unset, .unset, .unset, .unset] [(.int (own_c ((Jvm.Free.XT.ushr p0 (8 : Int32)) &&& (255 : Int32))))]))
        refine own_G.go (fun t_ k_ => XS.goto X0.here hx rfl (pc0 := 99) (pc' := 111) rfl (hb hby at_99) (by decide) (by decide) k_) ?_
        show own_G _ _ _ _ (s₁.setTop (mkF m 111 #[.val (.int p0), .val (.int p1), .val (.int p2), .val (.int (own_c (p0 &&& (255 : Int32)))), .val (.int (own_c ((Jvm.Free.XT.ushr p0 (8 : Int32)) &&& (255 : Int32)))), .val (.int (own_c ((Jvm.Free.XT.ushr p0 (16 : Int32)) &&& (255 : Int32)))), .val (.int (0 : Int32)), .val (.int (1 : Int32)), .val (.int (0 : Int32)), .val (.int ((Jvm.Free.XT.ushr p2 (3 : Int32)) &&& (3 : Int32))), .val (.int (own_c (p1 &&& (255 : Int32)))), .unset, .unset, .unset, .unset, .unset, .unset, .unset, .unset] [(.int (own_c ((Jvm.Free.XT.ushr p0 (8 : Int32)) &&& (255 : Int32))))]))
        refine own_G.go (fun t_ k_ => XS.istore X0.here hx rfl (hb hby at_111) rfl (l' := #[.val (.int p0), .val (.int p1), .val (.int p2), .val (.int (own_c (p0 &&& (255 : Int32)))), .val (.int (own_c ((Jvm.Free.XT.ushr p0 (8 : Int32)) &&& (255 : Int32)))), .val (.int (own_c ((Jvm.Free.XT.ushr p0 (16 : Int32)) &&& (255 : Int32)))), .val (.int (0 : Int32)), .val (.int (1 : Int32)), .val (.int (0 : Int32)), .val (.int ((Jvm.Free.XT.ushr p2 (3 : Int32)) &&& (3 : Int32))), .val (.int (own_c (p1 &&& (255 : Int32)))), .val (.int (own_c ((Jvm.Free.XT.ushr p0 (8 : Int32)) &&& (255 : Int32)))), .unset, .unset, .unset, .unset, .unset, .unset, .unset]) rfl k_) ?_
        show own_G _ _ _ _ (s₁.setTop (mkF m 113 #[.val (.int p0), .val (.int p1), .val (.int p2), .val (.int (own_c (p0 &&& (255 : Int32)))), .val (.int (own_c ((Jvm.Free.XT.ushr p0 (8 : Int32)) &&& (255 : Int32)))), .val (.int (own_c ((Jvm.Free.XT.ushr p0 (16 : Int32)) &&& (255 : Int32)))), .val (.int (0 : Int32)), .val (.int (1 : Int32)), .val (.int (0 : Int32)), .val (.int ((Jvm.Free.XT.ushr p2 (3 : Int32)) &&& (3 : Int32))), .val (.int (own_c (p1 &&& (255 : Int32)))), .val (.int (own_c ((Jvm.Free.XT.ushr p0 (8 : Int32)) &&& (255 : Int32)))), .unset, .unset, .unset, .unset, .unset, .unset, .unset] []))
        refine own_G.go (fun t_ k_ => XS.iload X0.here hx rfl (hb hby at_113) rfl k_) ?_
        show own_G _ _ _ _ (s₁.setTop (mkF m 115 #[.val (.int p0), .val (.int p1), .val (.int p2), .val (.int (own_c (p0 &&& (255 : Int32)))), .val (.int (own_c ((Jvm.Free.XT.ushr p0 (8 : Int32)) &&& (255 : Int32)))), .val (.int (own_c ((Jvm.Free.XT.ushr p0 (16 : Int32)) &&& (255 : Int32)))), .val (.int (0 : Int32)), .val (.int (1 : Int32)), .val (.int (0 : Int32)), .val (.int ((Jvm.Free.XT.ushr p2 (3 : Int32)) &&& (3 : Int32))), .val (.int (own_c (p1 &&& (255 : Int32)))), .val (.int (own_c ((Jvm.Free.XT.ushr p0 (8 : Int32)) &&& (255 : Int32)))), .unset, .unset, .unset, .unset, .unset, .unset, .unset] [(.int (0 : Int32))]))
        refine own_G.go (fun t_ k_ => XS.ifYes X0.here hx rfl (pc0 := 115) (pc' := 123) rfl (hb hby at_115) rfl ((if0 _ _).trans (teq (by decide : (0 : Int32) = (0 : Int32))).1) (by decide) (by decide) k_) ?_
        show own_G _ _ _ _ (s₁.setTop (mkF m 123 #[.val (.int p0), .val (.int p1), .val (.int p2), .val (.int (own_c (p0 &&& (255 : Int32)))), .val (.int (own_c ((Jvm.Free.XT.ushr p0 (8 : Int32)) &&& (255 : Int32)))), .val (.int (own_c ((Jvm.Free.XT.ushr p0 (16 : Int32)) &&& (255 : Int32)))), .val (.int (0 : Int32)), .val (.int (1 : Int32)), .val (.int (0 : Int32)), .val (.int ((Jvm.Free.XT.ushr p2 (3 : Int32)) &&& (3 : Int32))), .val (.int (own_c (p1 &&& (255 : Int32)))), .val (.int (own_c ((Jvm.Free.XT.ushr p0 (8 : Int32)) &&& (255 : Int32)))), .unset, .unset, .unset, .unset, .unset, .unset, .unset] []))
        refine own_G.go (fun t_ k_ => XS.iloadN X0.here hx rfl (hb hby at_123) rfl k_) ?_
        show own_G _ _ _ _ (s₁.setTop (mkF m 124 #[.val (.int p0), .val (.int p1), .val (.int p2), .val (.int (own_c (p0 &&& (255 : Int32)))), .val (.int (own_c ((Jvm.Free.XT.ushr p0 (8 : Int32)) &&& (255 : Int32)))), .val (.int (own_c ((Jvm.Free.XT.ushr p0 (16 : Int32)) &&& (255 : Int32)))), .val (.int (0 : Int32)), .val (.int (1 : Int32)), .val (.int (0 : Int32)), .val (.int ((Jvm.Free.XT.ushr p2 (3 : Int32)) &&& (3 : Int32))), .val (.int (own_c (p1 &&& (255 : Int32)))), .val (.int (own_c ((Jvm.Free.XT.ushr p0 (8 : Int32)) &&& (255 : Int32)))), .unset, .unset, .unset, .unset, .unset, .unset, .unset] [(.int p1)]))
        refine own_G.go (fun t_ k_ => XS.bipush X0.here hx rfl (hb hby at_124) k_) ?_
        show own_G _ _ _ _ (s₁.setTop (mkF m 126 #[.val (.int p0), .val (.int p1), .val (.int p2), .val (.int (own_c (p0 &&& (255 : Int32)))), .val (.int (own_c ((Jvm.Free.XT.ushr p0 (8 : Int32)) &&& (255 : Int32)))), .val (.int (own_c ((Jvm.Free.XT.ushr p0 (16 : Int32)) &&& (255 : Int32)))), .val (.int (0 : Int32)), .val (.int (1 : Int32)), .val (.int (0 : Int32)), .val (.int ((Jvm.Free.XT.ushr p2 (3 : Int32)) &&& (3 : Int32))), .val (.int (own_c (p1 &&& (255 : Int32)))), .val (.int (own_c ((Jvm.Free.XT.ushr p0 (8 : Int32)) &&& (255 : Int32)))), .unset, .unset, .unset, .unset, .unset, .unset, .unset] [(.int (16 : Int32)), (.int p1)]))
        refine own_G.go (fun t_ k_ => XS.iushr X0.here hx rfl (hb hby at_126) rfl k_) ?_
        show own_G _ _ _ _ (s₁.setTop (mkF m 127 #[.val (.int p0), .val (.int p1), .val (.int p2), .val (.int (own_c (p0 &&& (255 : Int32)))), .val (.int (own_c ((Jvm.Free.XT.ushr p0 (8 : Int32)) &&& (255 : Int32)))), .val (.int (own_c ((Jvm.Free.XT.ushr p0 (16 : Int32)) &&& (255 : Int32)))), .val (.int (0 : Int32)), .val (.int (1 : Int32)), .val (.int (0 : Int32)), .val (.int ((Jvm.Free.XT.ushr p2 (3 : Int32)) &&& (3 : Int32))), .val (.int (own_c (p1 &&& (255 : Int32)))), .val (.int (own_c ((Jvm.Free.XT.ushr p0 (8 : Int32)) &&& (255 : Int32)))), .unset, .unset, .unset, .unset, .unset, .unset, .unset] [(.int (Jvm.Free.XT.ushr p1 (16 : Int32)))]))
        refine own_G.go (fun t_ k_ => XS.sipush X0.here hx rfl (hb hby at_127) k_) ?_
        show own_G _ _ _ _ (s₁.setTop (mkF m 130 #[.val (.int p0), .val (.int p1), .val (.int p2), .val (.int (own_c (p0 &&& (255 : Int32)))), .val (.int (own_c ((Jvm.Free.XT.ushr p0 (8 : Int32)) &&& (255 : Int32)))), .val (.int (own_c ((Jvm.Free.XT.ushr p0 (16 : Int32)) &&& (255 : Int32)))), .val (.int (0 : Int32)), .val (.int (1 : Int32)), .val (.int (0 : Int32)), .val (.int ((Jvm.Free.XT.ushr p2 (3 : Int32)) &&& (3 : Int32))), .val (.int (own_c (p1 &&& (255 : Int32)))), .val (.int (own_c ((Jvm.Free.XT.ushr p0 (8 : Int32)) &&& (255 : Int32)))), .unset, .unset, .unset, .unset, .unset, .unset, .unset] [(.int (255 : Int32)), (.int (Jvm.Free.XT.ushr p1 (16 : Int32)))]))
        refine own_G.go (fun t_ k_ => XS.iand X0.here hx rfl (hb hby at_130) rfl k_) ?_
        show own_G _ _ _ _ (s₁.setTop (mkF m 131 #[.val (.int p0), .val (.int p1), .val (.int p2), .val (.int (own_c (p0 &&& (255 : Int32)))), .val (.int (own_c ((Jvm.Free.XT.ushr p0 (8 : Int32)) &&& (255 : Int32)))), .val (.int (own_c ((Jvm.Free.XT.ushr p0 (16 : Int32)) &&& (255 : Int32)))), .val (.int (0 : Int32)), .val (.int (1 : Int32)), .val (.int (0 : Int32)), .val (.int ((Jvm.Free.XT.ushr p2 (3 : Int32)) &&& (3 : Int32))), .val (.int (own_c (p1 &&& (255 : Int32)))), .val (.int (own_c ((Jvm.Free.XT.ushr p0 (8 : Int32)) &&& (255 : Int32)))), .unset, .unset, .unset, .unset, .unset, .unset, .unset] [(.int ((Jvm.Free.XT.ushr p1 (16 : Int32)) &&& (255 : Int32)))]))
        refine own_G.go (fun t_ k_ => XS.i2c X0.here hx rfl (hb hby at_131) rfl k_) ?_
        show own_G _ _ _ _ (s₁.setTop (mkF m 132 #[.val (.int p0), .val (.int p1), .val (.int p2), .val (.int (own_c (p0 &&& (255 : Int32)))), .val (.int (own_c ((Jvm.Free.XT.ushr p0 (8 : Int32)) &&& (255 : Int32)))), .val (.int (own_c ((Jvm.Free.XT.ushr p0 (16 : Int32)) &&& (255 : Int32)))), .val (.int (0 : Int32)), .val (.int (1 : Int32)), .val (.int (0 : Int32)), .val (.int ((Jvm.Free.XT.ushr p2 (3 : Int32)) &&& (3 : Int32))), .val (.int (own_c (p1 &&& (255 : Int32)))), .val (.int (own_c ((Jvm.Free.XT.ushr p0 (8 : Int32)) &&& (255 : Int32)))), .unset, .unset, .unset, .unset, .unset, .unset, .unset] [(.int (own_c ((Jvm.Free.XT.ushr p1 (16 : Int32)) &&& (255 : Int32))))]))
        refine own_G.go (fun t_ k_ => XS.istore X0.here hx rfl (hb hby at_132) rfl (l' := #[.val (.int p0), .val (.int p1), .val (.int p2), .val (.int (own_c (p0 &&& (255 : Int32)))), .val (.int (own_c ((Jvm.Free.XT.ushr p0 (8 : Int32)) &&& (255 : Int32)))), .val (.int (own_c ((Jvm.Free.XT.ushr p0 (16 : Int32)) &&& (255 : Int32)))), .val (.int (0 : Int32)), .val (.int (1 : Int32)), .val (.int (0 : Int32)), .val (.int ((Jvm.Free.XT.ushr p2 (3 : Int32)) &&& (3 : Int32))), .val (.int (own_c (p1 &&& (255 : Int32)))), .val (.int (own_c ((Jvm.Free.XT.ushr p0 (8 : Int32)) &&& (255 : Int32)))), .val (.int (own_c ((Jvm.Free.XT.ushr p1 (16 : Int32)) &&& (255 : Int32)))), .unset, .unset, .unset, .unset, .unset, .unset]) rfl k_) ?_
        show own_G _ _ _ _ (s₁.setTop (mkF m 134 #[.val (.int p0), .val (.int p1), .val (.int p2), .val (.int (own_c (p0 &&& (255 : Int32)))), .val (.int (own_c ((Jvm.Free.XT.ushr p0 (8 : Int32)) &&& (255 : Int32)))), .val (.int (own_c ((Jvm.Free.XT.ushr p0 (16 : Int32)) &&& (255 : Int32)))), .val (.int (0 : Int32)), .val (.int (1 : Int32)), .val (.int (0 : Int32)), .val (.int ((Jvm.Free.XT.ushr p2 (3 : Int32)) &&& (3 : Int32))), .val (.int (own_c (p1 &&& (255 : Int32)))), .val (.int (own_c ((Jvm.Free.XT.ushr p0 (8 : Int32)) &&& (255 : Int32)))), .val (.int (own_c ((Jvm.Free.XT.ushr p1 (16 : Int32)) &&& (255 : Int32)))), .unset, .unset, .unset, .unset, .unset, .unset] []))
        exact J134 _ _ _ _ _ _ _ _ _ _ (own_mask _) (own_mask _) (own_mask _) (own_mask _) (own_mask _) (own_mask _)
      · refine own_G.go (fun t_ k_ => XS.ifNo X0.here hx rfl (hb hby at_58) rfl ((if0 _ _).trans (feq hb58).1) k_) ?_
        show own_G _ _ _ _ (s₁.setTop (mkF m 61 #[.val (.int p0), .val (.int p1), .val (.int p2), .val (.int (own_c (p0 &&& (255 : Int32)))), .val (.int (own_c ((Jvm.Free.XT.ushr p0 (8 : Int32)) &&& (255 : Int32)))), .val (.int (own_c ((Jvm.Free.XT.ushr p0 (16 : Int32)) &&& (255 : Int32)))), .val (.int (0 : Int32)), .val (.int (1 : Int32)), .unset, .unset, .unset, .unset, .unset, .unset, .unset, .unset, .unset, .unset, .unset] []))
        refine own_G.go (fun t_ k_ => XS.iconst X0.here hx rfl (hb hby at_61) k_) ?_
        show own_G _ _ _ _ (s₁.setTop (mkF m 62 #[.val (.int p0), .val (.int p1), .val (.int p2), .val (.int (own_c (p0 &&& (255 : Int32)))), .val (.int (own_c ((Jvm.Free.XT.ushr p0 (8 : Int32)) &&& (255 : Int32)))), .val (.int (own_c ((Jvm.Free.XT.ushr p0 (16 : Int32)) &&& (255 : Int32)))), .val (.int (0 : Int32)), .val (.int (1 : Int32)), .unset, .unset, .unset, .unset, .unset, .unset, .unset, .unset, .unset, .unset, .unset] [(.int (1 : Int32))]))
        refine own_G.go (fun t_ k_ => XS.goto X0.here hx rfl (pc0 := 62) (pc' := 66) rfl (hb hby at_62) (by decide) (by decide) k_) ?_
        show own_G _ _ _ _ (s₁.setTop (mkF m 66 #[.val (.int p0), .val (.int p1), .val (.int p2), .val (.int (own_c (p0 &&& (255 : Int32)))), .val (.int (own_c ((Jvm.Free.XT.ushr p0 (8 : Int32)) &&& (255 : Int32)))), .val (.int (own_c ((Jvm.Free.XT.ushr p0 (16 : Int32)) &&& (255 : Int32)))), .val (.int (0 : Int32)), .val (.int (1 : Int32)), .unset, .unset, .unset, .unset, .unset, .unset, .unset, .unset, .unset, .unset, .unset] [(.int (1 : Int32))]))
        refine own_G.go (fun t_ k_ => XS.istore X0.here hx rfl (hb hby at_66) rfl (l' := #[.val (.int p0), .val (.int p1), .val (.int p2), .val (.int (own_c (p0 &&& (255 : Int32)))), .val (.int (own_c ((Jvm.Free.XT.ushr p0 (8 : Int32)) &&& (255 : Int32)))), .val (.int (own_c ((Jvm.Free.XT.ushr p0 (16 : Int32)) &&& (255 : Int32)))), .val (.int (0 : Int32)), .val (.int (1 : Int32)), .val (.int (1 : Int32)), .unset, .unset, .unset, .unset, .unset, .unset, .unset, .unset, .unset, .unset]) rfl k_) ?_
        show own_G _ _ _ _ (s₁.setTop (mkF m 68 #[.val (.int p0), .val (.int p1), .val (.int p2), .val (.int (own_c (p0 &&& (255 : Int32)))), .val (.int (own_c ((Jvm.Free.XT.ushr p0 (8 : Int32)) &&& (255 : Int32)))), .val (.int (own_c ((Jvm.Free.XT.ushr p0 (16 : Int32)) &&& (255 : Int32)))), .val (.int (0 : Int32)), .val (.int (1 : Int32)), .val (.int (1 : Int32)), .unset, .unset, .unset, .unset, .unset, .unset, .unset, .unset, .unset, .unset] []))
        refine own_G.go (fun t_ k_ => XS.iloadN X0.here hx rfl (hb hby at_68) rfl k_) ?_
        show own_G _ _ _ _ (s₁.setTop (mkF m 69 #[.val (.int p0), .val (.int p1), .val (.int p2), .val (.int (own_c (p0 &&& (255 : Int32)))), .val (.int (own_c ((Jvm.Free.XT.ushr p0 (8 : Int32)) &&& (255 : Int32)))), .val (.int (own_c ((Jvm.Free.XT.ushr p0 (16 : Int32)) &&& (255 : Int32)))), .val (.int (0 : Int32)), .val (.int (1 : Int32)), .val (.int (1 : Int32)), .unset, .unset, .unset, .unset, .unset, .unset, .unset, .unset, .unset, .unset] [(.int p2)]))
        refine own_G.go (fun t_ k_ => XS.iconst X0.here hx rfl (hb hby at_69) k_) ?_
        show own_G _ _ _ _ (s₁.setTop (mkF m 70 #[.val (.int p0), .val (.int p1), .val (.int p2), .val (.int (own_c (p0 &&& (255 : Int32)))), .val (.int (own_c ((Jvm.Free.XT.ushr p0 (8 : Int32)) &&& (255 : Int32)))), .val (.int (own_c ((Jvm.Free.XT.ushr p0 (16 : Int32)) &&& (255 : Int32)))), .val (.int (0 : Int32)), .val (.int (1 : Int32)), .val (.int (1 : Int32)), .unset, .unset, .unset, .unset, .unset, .unset, .unset, .unset, .unset, .unset] [(.int (3 : Int32)), (.int p2)]))
        refine own_G.go (fun t_ k_ => XS.iushr X0.here hx rfl (hb hby at_70) rfl k_) ?_
        show own_G _ _ _ _ (s₁.setTop (mkF m 71 #[.val (.int p0), .val (.int p1), .val (.int p2), .val (.int (own_c (p0 &&& (255 : Int32)))), .val (.int (own_c ((Jvm.Free.XT.ushr p0 (8 : Int32)) &&& (255 : Int32)))), .val (.int (own_c ((Jvm.Free.XT.ushr p0 (16 : Int32)) &&& (255 : Int32)))), .val (.int (0 : Int32)), .val (.int (1 : Int32)), .val (.int (1 : Int32)), .unset, .unset, .unset, .unset, .unset, .unset, .unset, .unset, .unset, .unset] [(.int (Jvm.Free.XT.ushr p2 (3 : Int32)))]))
        refine own_G.go (fun t_ k_ => XS.iconst X0.here hx rfl (hb hby at_71) k_) ?_
        show own_G _ _ _ _ (s₁.setTop (mkF m 72 #[.val (.int p0), .val (.int p1), .val (.int p2), .val (.int (own_c (p0 &&& (255 : Int32)))), .val (.int (own_c ((Jvm.Free.XT.ushr p0 (8 : Int32)) &&& (255 : Int32)))), .val (.int (own_c ((Jvm.Free.XT.ushr p0 (16 : Int32)) &&& (255 : Int32)))), .val (.int (0 : Int32)), .val (.int (1 : Int32)), .val (.int (1 : Int32)), .unset, .unset, .unset, .unset, .unset, .unset, .unset, .unset, .unset, .unset] [(.int (3 : Int32)), (.int (Jvm.Free.XT.ushr p2 (3 : Int32)))]))
        refine own_G.go (fun t_ k_ => XS.iand X0.here hx rfl (hb hby at_72) rfl k_) ?_
        show own_G _ _ _ _ (s₁.setTop (mkF m 73 #[.val (.int p0), .val (.int p1), .val (.int p2), .val (.int (own_c (p0 &&& (255 : Int32)))), .val (.int (own_c ((Jvm.Free.XT.ushr p0 (8 : Int32)) &&& (255 : Int32)))), .val (.int (own_c ((Jvm.Free.XT.ushr p0 (16 : Int32)) &&& (255 : Int32)))), .val (.int (0 : Int32)), .val (.int (1 : Int32)), .val (.int (1 : Int32)), .unset, .unset, .unset, .unset, .unset, .unset, .unset, .unset, .unset, .unset] [(.int ((Jvm.Free.XT.ushr p2 (3 : Int32)) &&& (3 : Int32)))]))
        refine own_G.go (fun t_ k_ => XS.istore X0.here hx rfl (hb hby at_73) rfl (l' := #[.val (.int p0), .val (.int p1), .val (.int p2), .val (.int (own_c (p0 &&& (255 : Int32)))), .val (.int (own_c ((Jvm.Free.XT.ushr p0 (8 : Int32)) &&& (255 : Int32)))), .val (.int (own_c ((Jvm.Free.XT.ushr p0 (16 : Int32)) &&& (255 : Int32)))), .val (.int (0 : Int32)), .val (.int (1 : Int32)), .val (.int (1 : Int32)), .val (.int ((Jvm.Free.XT.ushr p2 (3 : Int32)) &&& (3 : Int32))), .unset, .unset, .unset, .unset, .unset, .unset, .unset, .unset, .unset]) rfl k_) ?_
        show own_G _ _ _ _ (s₁.setTop (mkF m 75 #[.val (.int p0), .val (.int p1), .val (.int p2), .val (.int (own_c (p0 &&& (255 : Int32)))), .val (.int (own_c ((Jvm.Free.XT.ushr p0 (8 : Int32)) &&& (255 : Int32)))), .val (.int (own_c ((Jvm.Free.XT.ushr p0 (16 : Int32)) &&& (255 : Int32)))), .val (.int (0 : Int32)), .val (.int (1 : Int32)), .val (.int (1 : Int32)), .val (.int ((Jvm.Free.XT.ushr p2 (3 : Int32)) &&& (3 : Int32))), .unset, .unset, .unset, .unset, .unset, .unset, .unset, .unset, .unset] []))
        refine own_G.go (fun t_ k_ => XS.iload X0.here hx rfl (hb hby at_75) rfl k_) ?_
        show own_G _ _ _ _ (s₁.setTop (mkF m 77 #[.val (.int p0), .val (.int p1), .val (.int p2), .val (.int (own_c (p0 &&& (255 : Int32)))), .val (.int (own_c ((Jvm.Free.XT.ushr p0 (8 : Int32)) &&& (255 : Int32)))), .val (.int (own_c ((Jvm.Free.XT.ushr p0 (16 : Int32)) &&& (255 : Int32)))), .val (.int (0 : Int32)), .val (.int (1 : Int32)), .val (.int (1 : Int32)), .val (.int ((Jvm.Free.XT.ushr p2 (3 : Int32)) &&& (3 : Int32))), .unset, .unset, .unset, .unset, .unset, .unset, .unset, .unset, .unset] [(.int (0 : Int32))]))
        refine own_G.go (fun t_ k_ => XS.ifYes X0.here hx rfl (pc0 := 77) (pc' := 84) rfl (hb hby at_77) rfl ((if0 _ _).trans (teq (by decide : (0 : Int32) = (0 : Int32))).1) (by decide) (by decide) k_) ?_
        show own_G _ _ _ _ (s₁.setTop (mkF m 84 #[.val (.int p0), .val (.int p1), .val (.int p2), .val (.int (own_c (p0 &&& (255 : Int32)))), .val (.int (own_c ((Jvm.Free.XT.ushr p0 (8 : Int32)) &&& (255 : Int32)))), .val (.int (own_c ((Jvm.Free.XT.ushr p0 (16 : Int32)) &&& (255 : Int32)))), .val (.int (0 : Int32)), .val (.int (1 : Int32)), .val (.int (1 : Int32)), .val (.int ((Jvm.Free.XT.ushr p2 (3 : Int32)) &&& (3 : Int32))), .unset, .unset, .unset, .unset, .unset, .unset, .unset, .unset, .unset] []))
        refine own_G.go (fun t_ k_ => XS.iloadN X0.here hx rfl (hb hby at_84) rfl k_) ?_
        show own_G _ _ _ _ (s₁.setTop (mkF m 85 #[.val (.int p0), .val (.int p1), .val (.int p2), .val (.int (own_c (p0 &&& (255 : Int32)))), .val (.int (own_c ((Jvm.Free.XT.ushr p0 (8 : Int32)) &&& (255 : Int32)))), .val (.int (own_c ((Jvm.Free.XT.ushr p0 (16 : Int32)) &&& (255 : Int32)))), .val (.int (0 : Int32)), .val (.int (1 : Int32)), .val (.int (1 : Int32)), .val (.int ((Jvm.Free.XT.ushr p2 (3 : Int32)) &&& (3 : Int32))), .unset, .unset, .unset, .unset, .unset, .unset, .unset, .unset, .unset] [(.int p1)]))
        refine own_G.go (fun t_ k_ => XS.sipush X0.here hx rfl (hb hby at_85) k_) ?_
        show own_G _ _ _ _ (s₁.setTop (mkF m 88 #[.val (.int p0), .val (.int p1), .val (.int p2), .val (.int (own_c (p0 &&& (255 : Int32)))), .val (.int (own_c ((Jvm.Free.XT.ushr p0 (8 : Int32)) &&& (255 : Int32)))), .val (.int (own_c ((Jvm.Free.XT.ushr p0 (16 : Int32)) &&& (255 : Int32)))), .val (.int (0 : Int32)), .val (.int (1 : Int32)), .val (.int (1 : Int32)), .val (.int ((Jvm.Free.XT.ushr p2 (3 : Int32)) &&& (3 : Int32))), .unset, .unset, .unset, .unset, .unset, .unset, .unset, .unset, .unset] [(.int (255 : Int32)), (.int p1)]))
        refine own_G.go (fun t_ k_ => XS.iand X0.here hx rfl (hb hby at_88) rfl k_) ?_
        show own_G _ _ _ _ (s₁.setTop (mkF m 89 #[.val (.int p0), .val (.int p1), .val (.int p2), .val (.int (own_c (p0 &&& (255 : Int32)))), .val (.int (own_c ((Jvm.Free.XT.ushr p0 (8 : Int32)) &&& (255 : Int32)))), .val (.int (own_c ((Jvm.Free.XT.ushr p0 (16 : Int32)) &&& (255 : Int32)))), .val (.int (0 : Int32)), .val (.int (1 : Int32)), .val (.int (1 : Int32)), .val (.int ((Jvm.Free.XT.ushr p2 (3 : Int32)) &&& (3 : Int32))), .unset, .unset, .unset, .unset, .unset, .unset, .unset, .unset, .unset] [(.int (p1 &&& (255 : Int32)))]))
        refine own_G.go (fun t_ k_ => XS.i2c X0.here hx rfl (hb hby at_89) rfl k_) ?_
        show own_G _ _ _ _ (s₁.setTop (mkF m 90 #[.val (.int p0), .val (.int p1), .val (.int p2), .val (.int (own_c (p0 &&& (255 : Int32)))), .val (.int (own_c ((Jvm.Free.XT.ushr p0 (8 : Int32)) &&& (255 : Int32)))), .val (.int (own_c ((Jvm.Free.XT.ushr p0 (16 : Int32)) &&& (255 : Int32)))), .val (.int (0 : Int32)), .val (.int (1 : Int32)), .val (.int (1 : Int32)), .val (.int ((Jvm.Free.XT.ushr p2 (3 : Int32)) &&& (3 : Int32))), .unset, .unset, .unset, .unset, .unset, .unset, .unset, .unset, .unset] [(.int (own_c (p1 &&& (255 : Int32))))]))
        refine own_G.go (fun t_ k_ => XS.istore X0.here hx rfl (hb hby at_90) rfl (l' := #[.val (.int p0), .val (.int p1), .val (.int p2), .val (.int (own_c (p0 &&& (255 : Int32)))), .val (.int (own_c ((Jvm.Free.XT.ushr p0 (8 : Int32)) &&& (255 : Int32)))), .val (.int (own_c ((Jvm.Free.XT.ushr p0 (16 : Int32)) &&& (255 : Int32)))), .val (.int (0 : Int32)), .val (.int (1 : Int32)), .val (.int (1 : Int32)), .val (.int ((Jvm.Free.XT.ushr p2 (3 : Int32)) &&& (3 : Int32))), .val (.int (own_c (p1 &&& (255 : Int32)))), .unset, .unset, .unset, .unset, .unset, .unset, .unset, .unset]) rfl k_) ?_
        show own_G _ _ _ _ (s₁.setTop (mkF m 92 #[.val (.int p0), .val (.int p1), .val (.int p2), .val (.int (own_c (p0 &&& (255 : Int32)))), .val (.int (own_c ((Jvm.Free.XT.ushr p0 (8 : Int32)) &&& (255 : Int32)))), .val (.int (own_c ((Jvm.Free.XT.ushr p0 (16 : Int32)) &&& (255 : Int32)))), .val (.int (0 : Int32)), .val (.int (1 : Int32)), .val (.int (1 : Int32)), .val (.int ((Jvm.Free.XT.ushr p2 (3 : Int32)) &&& (3 : Int32))), .val (.int (own_c (p1 &&& (255 : Int32)))), .unset, .unset, .unset, .unset, .unset, .unset, .unset, .unset] []))
        refine own_G.go (fun t_ k_ => XS.iload X0.here hx rfl (hb hby at_92) rfl k_) ?_
        show own_G _ _ _ _ (s₁.setTop (mkF m 94 #[.val (.int p0), .val (.int p1), .val (.int p2), .val (.int (own_c (p0 &&& (255 : Int32)))), .val (.int (own_c ((Jvm.Free.XT.ushr p0 (8 : Int32)) &&& (255 : Int32)))), .val (.int (own_c ((Jvm.Free.XT.ushr p0 (16 : Int32)) &&& (255 : Int32)))), .val (.int (0 : Int32)), .val (.int (1 : Int32)), .val (.int (1 : Int32)), .val (.int ((Jvm.Free.XT.ushr p2 (3 : Int32)) &&& (3 : Int32))), .val (.int (own_c (p1 &&& (255 : Int32)))), .unset, .unset, .unset, .unset, .unset, .unset, .unset, .unset] [(.int (1 : Int32))]))
        refine own_G.go (fun t_ k_ => XS.ifNo X0.here hx rfl (hb hby at_94) rfl ((if0 _ _).trans (feq (by decide : ¬ ((1 : Int32) = (0 : Int32)))).1) k_) ?_
        show own_G _ _ _ _ (s₁.setTop (mkF m 97 #[.val (.int p0), .val (.int p1), .val (.int p2), .val (.int (own_c (p0 &&& (255 : Int32)))), .val (.int (own_c ((Jvm.Free.XT.ushr p0 (8 : Int32)) &&& (255 : Int32)))), .val (.int (own_c ((Jvm.Free.XT.ushr p0 (16 : Int32)) &&& (255 : Int32)))), .val (.int (0 : Int32)), .val (.int (1 : Int32)), .val (.int (1 : Int32)), .val (.int ((Jvm.Free.XT.ushr p2 (3 : Int32)) &&& (3 : Int32))), .val (.int (own_c (p1 &&& (255 : Int32)))), .unset, .unset, .unset, .unset, .unset, .unset, .unset, .unset] []))
        refine own_G.go (fun t_ k_ => XS.iload X0.here hx rfl (hb hby at_97) rfl k_) ?_
        show own_G _ _ _ _ (s₁.setTop (mkF m 99 #[.val (.int p0), .val (.int p1), .val (.int p2), .val (.int (own_c (p0 &&& (255 : Int32)))), .val (.int (own_c ((Jvm.Free.XT.ushr p0 (8 : Int32)) &&& (255 : Int32)))), .val (.int (own_c ((Jvm.Free.XT.ushr p0 (16 : Int32)) &&& (255 : Int32)))), .val (.int (0 : Int32)), .val (.int (1 : Int32)), .val (.int (1 : Int32)), .val (.int ((Jvm.Free.XT.ushr p2 (3 : Int32)) &&& (3 : Int32))), .val (.int (own_c (p1 &&& (255 : Int32)))), .unset, .unset, .unset, .unset, .unset, .unset, .unset, .unset] [(.int (own_c ((Jvm.Free.XT.ushr p0 (8 : Int32)) &&& (255 : Int32))))]))
        refine own_G.go (fun t_ k_ => XS.goto X0.here hx rfl (pc0 := 99) (pc' := 111) rfl (hb hby at_99) (by decide) (by decide) k_) ?_
        show own_G _ _ _ _ (s₁.setTop (mkF m 111 #[.val (.int p0), .val (.int p1), .val (.int p2), .val (.int (own_c (p0 &&& (255 : Int32)))), .val (.int (own_c ((Jvm.Free.XT.ushr p0 (8 : Int32)) &&& (255 : Int32)))), .val (.int (own_c ((Jvm.Free.XT.ushr p0 (16 : Int32)) &&& (255 : Int32)))), .val (.int (0 : Int32)), .val (.int (1 : Int32)), .val (.int (1 : Int32)), .val (.int ((Jvm.Free.XT.ushr p2 (3 : Int32)) &&& (3 : Int32))), .val (.int (own_c (p1 &&& (255 : Int32)))), .unset, .unset, .unset, .unset, .unset, .unset, .unset, .unset] [(.int (own_c ((Jvm.Free.XT.ushr p0 (8 : Int32)) &&& (255 : Int32))))]))
        refine own_G.go (fun t_ k_ => XS.istore X0.here hx rfl (hb hby at_111) rfl (l' := #[.val (.int p0), .val (.int p1), .val (.int p2), .val (.int (own_c (p0 &&& (255 : Int32)))), .val (.int (own_c ((Jvm.Free.XT.ushr p0 (8 : Int32)) &&& (255 : Int32)))), .val (.int (own_c ((Jvm.Free.XT.ushr p0 (16 : Int32)) &&& (255 : Int32)))), .val (.int (0 : Int32)), .val (.int (1 : Int32)), .val (.int (1 : Int32)), .val (.int ((Jvm.Free.XT.ushr p2 (3 : Int32)) &&& (3 : Int32))), .val (.int (own_c (p1 &&& (255 : Int32)))), .val (.int (own_c ((Jvm.Free.XT.ushr p0 (8 : Int32)) &&& (255 : Int32)))), .unset, .unset, .unset, .unset, .unset, .unset, .unset]) rfl k_) ?_
        show own_G _ _ _ _ (s₁.setTop (mkF m 113 #[.val (.int p0), .val (.int p1), .val (.int p2), .val (.int (own_c (p0 &&& (255 : Int32)))), .val (.int (own_c ((Jvm.Free.XT.ushr p0 (8 : Int32)) &&& (255 : Int32)))), .val (.int (own_c ((Jvm.Free.XT.ushr p0 (16 : Int32)) &&& (255 : Int32)))), .val (.int (0 : Int32)), .val (.int (1 : Int32)), .val (.int (1 : Int32)), .val (.int ((Jvm.Free.XT.ushr p2 (3 : Int32)) &&& (3 : Int32))), .val (.int (own_c (p1 &&& (255 : Int32)))), .val (.int (own_c ((Jvm.Free.XT.ushr p0 (8 : Int32)) &&& (255 : Int32)))), .unset, .unset, .unset, .unset, .unset, .unset, .unset] []))
        refine own_G.go (fun t_ k_ => XS.iload X0.here hx rfl (hb hby at_113) rfl k_) ?_
        show own_G _ _ _ _ (s₁.setTop (mkF m 115 #[.val (.int p0), .val (.int p1), .val (.int p2), .val (.int (own_c (p0 &&& (255 : Int32)))), .val (.int (own_c ((Jvm.Free.XT.ushr p0 (8 : Int32)) &&& (255 : Int32)))), .val (.int (own_c ((Jvm.Free.XT.ushr p0 (16 : Int32)) &&& (255 : Int32)))), .val (.int (0 : Int32)), .val (.int (1 : Int32)), .val (.int (1 : Int32)), .val (.int ((Jvm.Free.XT.ushr p2 (3 : Int32)) &&& (3 : Int32))), .val (.int (own_c (p1 &&& (255 : Int32)))), .val (.int (own_c ((Jvm.Free.XT.ushr p0 (8 : Int32)) &&& (255 : Int32)))), .unset, .unset, .unset, .unset, .unset, .unset, .unset] [(.int (1 : Int32))]))
        refine own_G.go (fun t_ k_ => XS.ifNo X0.here hx rfl (hb hby at_115) rfl ((if0 _ _).trans (feq (by decide : ¬ ((1 : Int32) = (0 : Int32)))).1) k_) ?_
        show own_G _ _ _ _ (s₁.setTop (mkF m 118 #[.val (.int p0), .val (.int p1), .val (.int p2), .val (.int (own_c (p0 &&& (255 : Int32)))), .val (.int (own_c ((Jvm.Free.XT.ushr p0 (8 : Int32)) &&& (255 : Int32)))), .val (.int (own_c ((Jvm.Free.XT.ushr p0 (16 : Int32)) &&& (255 : Int32)))), .val (.int (0 : Int32)), .val (.int (1 : Int32)), .val (.int (1 : Int32)), .val (.int ((Jvm.Free.XT.ushr p2 (3 : Int32)) &&& (3 : Int32))), .val (.int (own_c (p1 &&& (255 : Int32)))), .val (.int (own_c ((Jvm.Free.XT.ushr p0 (8 : Int32)) &&& (255 : Int32)))), .unset, .unset, .unset, .unset, .unset, .unset, .unset] []))
        refine own_G.go (fun t_ k_ => XS.iload X0.here hx rfl (hb hby at_118) rfl k_) ?_
        show own_G _ _ _ _ (s₁.setTop (mkF m 120 #[.val (.int p0), .val (.int p1), .val (.int p2), .val (.int (own_c (p0 &&& (255 : Int32)))), .val (.int (own_c ((Jvm.Free.XT.ushr p0 (8 : Int32)) &&& (255 : Int32)))), .val (.int (own_c ((Jvm.Free.XT.ushr p0 (16 : Int32)) &&& (255 : Int32)))), .val (.int (0 : Int32)), .val (.int (1 : Int32)), .val (.int (1 : Int32)), .val (.int ((Jvm.Free.XT.ushr p2 (3 : Int32)) &&& (3 : Int32))), .val (.int (own_c (p1 &&& (255 : Int32)))), .val (.int (own_c ((Jvm.Free.XT.ushr p0 (8 : Int32)) &&& (255 : Int32)))), .unset, .unset, .unset, .unset, .unset, .unset, .unset] [(.int (own_c ((Jvm.Free.XT.ushr p0 (16 : Int32)) &&& (255 : Int32))))]))
        refine own_G.go (fun t_ k_ => XS.goto X0.here hx rfl (pc0 := 120) (pc' := 132) rfl (hb hby at_120) (by decide) (by decide) k_) ?_
        show own_G _ _ _ _ (s₁.setTop (mkF m 132 #[.val (.int p0), .val (.int p1), .val (.int p2), .val (.int (own_c (p0 &&& (255 : Int32)))), .val (.int (own_c ((Jvm.Free.XT.ushr p0 (8 : Int32)) &&& (255 : Int32)))), .val (.int (own_c ((Jvm.Free.XT.ushr p0 (16 : Int32)) &&& (255 : Int32)))), .val (.int (0 : Int32)), .val (.int (1 : Int32)), .val (.int (1 : Int32)), .val (.int ((Jvm.Free.XT.ushr p2 (3 : Int32)) &&& (3 : Int32))), .val (.int (own_c (p1 &&& (255 : Int32)))), .val (.int (own_c ((Jvm.Free.XT.ushr p0 (8 : Int32)) &&& (255 : Int32)))), .unset, .unset, .unset, .unset, .unset, .unset, .unset] [(.int (own_c ((Jvm.Free.XT.ushr p0 (16 : Int32)) &&& (255 : Int32))))]))
        refine own_G.go (fun t_ k_ => XS.istore X0.here hx rfl (hb hby at_132) rfl (l' := #[.val (.int p0), .val (.int p1), .val (.int p2), .val (.int (own_c (p0 &&& (255 : Int32)))), .val (.int (own_c ((Jvm.Free.XT.ushr p0 (8 : Int32)) &&& (255 : Int32)))), .val (.int (own_c ((Jvm.Free.XT.ushr p0 (16 : Int32)) &&& (255 : Int32)))), .val (.int (0 : Int32)), .val (.int (1 : Int32)), .val (.int (1 : Int32)), .val (.int ((Jvm.Free.XT.ushr p2 (3 : Int32)) &&& (3 : Int32))), .val (.int (own_c (p1 &&& (255 : Int32)))), .val (.int (own_c ((Jvm.Free.XT.ushr p0 (8 : Int32)) &&& (255 : Int32)))), .val (.int (own_c ((Jvm.Free.XT.ushr p0 (16 : Int32)) &&& (255 : Int32)))), .unset, .unset, .unset, .unset, .unset, .unset]) rfl k_) ?_
        show own_G _ _ _ _ (s₁.setTop (mkF m 134 #[.val (.int p0), .val (.int p1), .val (.int p2), .val (.int (own_c (p0 &&& (255 : Int32)))), .val (.int (own_c ((Jvm.Free.XT.ushr p0 (8 : Int32)) &&& (255 : Int32)))), .val (.int (own_c ((Jvm.Free.XT.ushr p0 (16 : Int32)) &&& (255 : Int32)))), .val (.int (0 : Int32)), .val (.int (1 : Int32)), .val (.int (1 : Int32)), .val (.int ((Jvm.Free.XT.ushr p2 (3 : Int32)) &&& (3 : Int32))), .val (.int (own_c (p1 &&& (255 : Int32)))), .val (.int (own_c ((Jvm.Free.XT.ushr p0 (8 : Int32)) &&& (255 : Int32)))), .val (.int (own_c ((Jvm.Free.XT.ushr p0 (16 : Int32)) &&& (255 : Int32)))), .unset, .unset, .unset, .unset, .unset, .unset] []))
        exact J134 _ _ _ _ _ _ _ _ _ _ (own_mask _) (own_mask _) (own_mask _) (own_mask _) (own_mask _) (own_mask _)
  · refine own_G.go (fun t_ k_ => XS.ifNo X0.here hx rfl (hb hby at_32) rfl ((if0 _ _).trans (feq hb32).1) k_) ?_
    show own_G _ _ _ _ (s₁.setTop (mkF m 35 #[.val (.int p0), .val (.int p1), .val (.int p2), .val (.int (own_c (p0 &&& (255 : Int32)))), .val (.int (own_c ((Jvm.Free.XT.ushr p0 (8 : Int32)) &&& (255 : Int32)))), .val (.int (own_c ((Jvm.Free.XT.ushr p0 (16 : Int32)) &&& (255 : Int32)))), .unset, .unset, .unset, .unset, .unset, .unset, .unset, .unset, .unset, .unset, .unset, .unset, .unset] []))
    refine own_G.go (fun t_ k_ => XS.iconst X0.here hx rfl (hb hby at_35) k_) ?_
    show own_G _ _ _ _ (s₁.setTop (mkF m 36 #[.val (.int p0), .val (.int p1), .val (.int p2), .val (.int (own_c (p0 &&& (255 : Int32)))), .val (.int (own_c ((Jvm.Free.XT.ushr p0 (8 : Int32)) &&& (255 : Int32)))), .val (.int (own_c ((Jvm.Free.XT.ushr p0 (16 : Int32)) &&& (255 : Int32)))), .unset, .unset, .unset, .unset, .unset, .unset, .unset, .unset, .unset, .unset, .unset, .unset, .unset] [(.int (1 : Int32))]))
    refine own_G.go (fun t_ k_ => XS.goto X0.here hx rfl (pc0 := 36) (pc' := 40) rfl (hb hby at_36) (by decide) (by decide) k_) ?_
    show own_G _ _ _ _ (s₁.setTop (mkF m 40 #[.val (.int p0), .val (.int p1), .val (.int p2), .val (.int (own_c (p0 &&& (255 : Int32)))), .val (.int (own_c ((Jvm.Free.XT.ushr p0 (8 : Int32)) &&& (255 : Int32)))), .val (.int (own_c ((Jvm.Free.XT.ushr p0 (16 : Int32)) &&& (255 : Int32)))), .unset, .unset, .unset, .unset, .unset, .unset, .unset, .unset, .unset, .unset, .unset, .unset, .unset] [(.int (1 : Int32))]))
    refine own_G.go (fun t_ k_ => XS.istore X0.here hx rfl (hb hby at_40) rfl (l' := #[.val (.int p0), .val (.int p1), .val (.int p2), .val (.int (own_c (p0 &&& (255 : Int32)))), .val (.int (own_c ((Jvm.Free.XT.ushr p0 (8 : Int32)) &&& (255 : Int32)))), .val (.int (own_c ((Jvm.Free.XT.ushr p0 (16 : Int32)) &&& (255 : Int32)))), .val (.int (1 : Int32)), .unset, .unset, .unset, .unset, .unset, .unset, .unset, .unset, .unset, .unset, .unset, .unset]) rfl k_) ?_
    show own_G _ _ _ _ (s₁.setTop (mkF m 42 #[.val (.int p0), .val (.int p1), .val (.int p2), .val (.int (own_c (p0 &&& (255 : Int32)))), .val (.int (own_c ((Jvm.Free.XT.ushr p0 (8 : Int32)) &&& (255 : Int32)))), .val (.int (own_c ((Jvm.Free.XT.ushr p0 (16 : Int32)) &&& (255 : Int32)))), .val (.int (1 : Int32)), .unset, .unset, .unset, .unset, .unset, .unset, .unset, .unset, .unset, .unset, .unset, .unset] []))
    refine own_G.go (fun t_ k_ => XS.iloadN X0.here hx rfl (hb hby at_42) rfl k_) ?_
    show own_G _ _ _ _ (s₁.setTop (mkF m 43 #[.val (.int p0), .val (.int p1), .val (.int p2), .val (.int (own_c (p0 &&& (255 : Int32)))), .val (.int (own_c ((Jvm.Free.XT.ushr p0 (8 : Int32)) &&& (255 : Int32)))), .val (.int (own_c ((Jvm.Free.XT.ushr p0 (16 : Int32)) &&& (255 : Int32)))), .val (.int (1 : Int32)), .unset, .unset, .unset, .unset, .unset, .unset, .unset, .unset, .unset, .unset, .unset, .unset] [(.int p2)]))
    refine own_G.go (fun t_ k_ => XS.iconst X0.here hx rfl (hb hby at_43) k_) ?_
    show own_G _ _ _ _ (s₁.setTop (mkF m 44 #[.val (.int p0), .val (.int p1), .val (.int p2), .val (.int (own_c (p0 &&& (255 : Int32)))), .val (.int (own_c ((Jvm.Free.XT.ushr p0 (8 : Int32)) &&& (255 : Int32)))), .val (.int (own_c ((Jvm.Free.XT.ushr p0 (16 : Int32)) &&& (255 : Int32)))), .val (.int (1 : Int32)), .unset, .unset, .unset, .unset, .unset, .unset, .unset, .unset, .unset, .unset, .unset, .unset] [(.int (2 : Int32)), (.int p2)]))
    refine own_G.go (fun t_ k_ => XS.iand X0.here hx rfl (hb hby at_44) rfl k_) ?_
    show own_G _ _ _ _ (s₁.setTop (mkF m 45 #[.val (.int p0), .val (.int p1), .val (.int p2), .val (.int (own_c (p0 &&& (255 : Int32)))), .val (.int (own_c ((Jvm.Free.XT.ushr p0 (8 : Int32)) &&& (255 : Int32)))), .val (.int (own_c ((Jvm.Free.XT.ushr p0 (16 : Int32)) &&& (255 : Int32)))), .val (.int (1 : Int32)), .unset, .unset, .unset, .unset, .unset, .unset, .unset, .unset, .unset, .unset, .unset, .unset] [(.int (p2 &&& (2 : Int32)))]))
    by_cases hb45 : (p2 &&& (2 : Int32)) = (0 : Int32)
    · refine own_G.go (fun t_ k_ => XS.ifYes X0.here hx rfl (pc0 := 45) (pc' := 52) rfl (hb hby at_45) rfl ((if0 _ _).trans (teq hb45).1) (by decide) (by decide) k_) ?_
      show own_G _ _ _ _ (s₁.setTop (mkF m 52 #[.val (.int p0), .val (.int p1), .val (.int p2), .val (.int (own_c (p0 &&& (255 : Int32)))), .val (.int (own_c ((Jvm.Free.XT.ushr p0 (8 : Int32)) &&& (255 : Int32)))), .val (.int (own_c ((Jvm.Free.XT.ushr p0 (16 : Int32)) &&& (255 : Int32)))), .val (.int (1 : Int32)), .unset, .unset, .unset, .unset, .unset, .unset, .unset, .unset, .unset, .unset, .unset, .unset] []))
      refine own_G.go (fun t_ k_ => XS.iconst X0.here hx rfl (hb hby at_52) k_) ?_
      show own_G _ _ _ _ (s₁.setTop (mkF m 53 #[.val (.int p0), .val (.int p1), .val (.int p2), .val (.int (own_c (p0 &&& (255 : Int32)))), .val (.int (own_c ((Jvm.Free.XT.ushr p0 (8 : Int32)) &&& (255 : Int32)))), .val (.int (own_c ((Jvm.Free.XT.ushr p0 (16 : Int32)) &&& (255 : Int32)))), .val (.int (1 : Int32)), .unset, .unset, .unset, .unset, .unset, .unset, .unset, .unset, .unset, .unset, .unset, .unset] [(.int (0 : Int32))]))
      refine own_G.go (fun t_ k_ => XS.istore X0.here hx rfl (hb hby at_53) rfl (l' := #[.val (.int p0), .val (.int p1), .val (.int p2), .val (.int (own_c (p0 &&& (255 : Int32)))), .val (.int (own_c ((Jvm.Free.XT.ushr p0 (8 : Int32)) &&& (255 : Int32)))), .val (.int (own_c ((Jvm.Free.XT.ushr p0 (16 : Int32)) &&& (255 : Int32)))), .val (.int (1 : Int32)), .val (.int (0 : Int32)), .unset, .unset, .unset, .unset, .unset, .unset, .unset, .unset, .unset, .unset, .unset]) rfl k_) ?_
      show own_G _ _ _ _ (s₁.setTop (mkF m 55 #[.val (.int p0), .val (.int p1), .val (.int p2), .val (.int (own_c (p0 &&& (255 : Int32)))), .val (.int (own_c ((Jvm.Free.XT.ushr p0 (8 : Int32)) &&& (255 : Int32)))), .val (.int (own_c ((Jvm.Free.XT.ushr p0 (16 : Int32)) &&& (255 : Int32)))), .val (.int (1 : Int32)), .val (.int (0 : Int32)), .unset, .unset, .unset, .unset, .unset, .unset, .unset, .unset, .unset, .unset, .unset] []))
      refine own_G.go (fun t_ k_ => XS.iloadN X0.here hx rfl (hb hby at_55) rfl k_) ?_
      show own_G _ _ _ _ (s₁.setTop (mkF m 56 #[.val (.int p0), .val (.int p1), .val (.int p2), .val (.int (own_c (p0 &&& (255 : Int32)))), .val (.int (own_c ((Jvm.Free.XT.ushr p0 (8 : Int32)) &&& (255 : Int32)))), .val (.int (own_c ((Jvm.Free.XT.ushr p0 (16 : Int32)) &&& (255 : Int32)))), .val (.int (1 : Int32)), .val (.int (0 : Int32)), .unset, .unset, .unset, .unset, .unset, .unset, .unset, .unset, .unset, .unset, .unset] [(.int p2)]))
      refine own_G.go (fun t_ k_ => XS.iconst X0.here hx rfl (hb hby at_56) k_) ?_
      show own_G _ _ _ _ (s₁.setTop (mkF m 57 #[.val (.int p0), .val (.int p1), .val (.int p2), .val (.int (own_c (p0 &&& (255 : Int32)))), .val (.int (own_c ((Jvm.Free.XT.ushr p0 (8 : Int32)) &&& (255 : Int32)))), .val (.int (own_c ((Jvm.Free.XT.ushr p0 (16 : Int32)) &&& (255 : Int32)))), .val (.int (1 : Int32)), .val (.int (0 : Int32)), .unset, .unset, .unset, .unset, .unset, .unset, .unset, .unset, .unset, .unset, .unset] [(.int (4 : Int32)), (.int p2)]))
      refine own_G.go (fun t_ k_ => XS.iand X0.here hx rfl (hb hby at_57) rfl k_) ?_
      show own_G _ _ _ _ (s₁.setTop (mkF m 58 #[.val (.int p0), .val (.int p1), .val (.int p2), .val (.int (own_c (p0 &&& (255 : Int32)))), .val (.int (own_c ((Jvm.Free.XT.ushr p0 (8 : Int32)) &&& (255 : Int32)))), .val (.int (own_c ((Jvm.Free.XT.ushr p0 (16 : Int32)) &&& (255 : Int32)))), .val (.int (1 : Int32)), .val (.int (0 : Int32)), .unset, .unset, .unset, .unset, .unset, .unset, .unset, .unset, .unset, .unset, .unset] [(.int (p2 &&& (4 : Int32)))]))
      by_cases hb58 : (p2 &&& (4 : Int32)) = (0 : Int32)
      · refine own_G.go (fun t_ k_ => XS.ifYes X0.here hx rfl (pc0 := 58) (pc' := 65) rfl (hb hby at_58) rfl ((if0 _ _).trans (teq hb58).1) (by decide) (by decide) k_) ?_
        show own_G _ _ _ _ (s₁.setTop (mkF m 65 #[.val (.int p0), .val (.int p1), .val (.int p2), .val (.int (own_c (p0 &&& (255 : Int32)))), .val (.int (own_c ((Jvm.Free.XT.ushr p0 (8 : Int32)) &&& (255 : Int32)))), .val (.int (own_c ((Jvm.Free.XT.ushr p0 (16 : Int32)) &&& (255 : Int32)))), .val (.int (1 : Int32)), .val (.int (0 : Int32)), .unset, .unset, .unset, .unset, .unset, .unset, .unset, .unset, .unset, .unset, .unset] []))
        refine own_G.go (fun t_ k_ => XS.iconst X0.here hx rfl (hb hby at_65) k_) ?_
        show own_G _ _ _ _ (s₁.setTop (mkF m 66 #[.val (.int p0), .val (.int p1), .val (.int p2), .val (.int (own_c (p0 &&& (255 : Int32)))), .val (.int (own_c ((Jvm.Free.XT.ushr p0 (8 : Int32)) &&& (255 : Int32)))), .val (.int (own_c ((Jvm.Free.XT.ushr p0 (16 : Int32)) &&& (255 : Int32)))), .val (.int (1 : Int32)), .val (.int (0 : Int32)), .unset, .unset, .unset, .unset, .unset, .unset, .unset, .unset, .unset, .unset, .unset] [(.int (0 : Int32))]))
        refine own_G.go (fun t_ k_ => XS.istore X0.here hx rfl (hb hby at_66) rfl (l' := #[.val (.int p0), .val (.int p1), .val (.int p2), .val (.int (own_c (p0 &&& (255 : Int32)))), .val (.int (own_c ((Jvm.Free.XT.ushr p0 (8 : Int32)) &&& (255 : Int32)))), .val (.int (own_c ((Jvm.Free.XT.ushr p0 (16 : Int32)) &&& (255 : Int32)))), .val (.int (1 : Int32)), .val (.int (0 : Int32)), .val (.int (0 : Int32)), .unset, .unset, .unset, .unset, .unset, .unset, .unset, .unset, .unset, .unset]) rfl k_) ?_
        show own_G _ _ _ _ (s₁.setTop (mkF m 68 #[.val (.int p0), .val (.int p1), .val (.int p2), .val (.int (own_c (p0 &&& (255 : Int32)))), .val (.int (own_c ((Jvm.Free.XT.ushr p0 (8 : Int32)) &&& (255 : Int32)))), .val (.int (own_c ((Jvm.Free.XT.ushr p0 (16 : Int32)) &&& (255 : Int32)))), .val (.int (1 : Int32)), .val (.int (0 : Int32)), .val (.int (0 : Int32)), .unset, .unset, .unset, .unset, .unset, .unset, .unset, .unset, .unset, .unset] []))
        refine own_G.go (fun t_ k_ => XS.iloadN X0.here hx rfl (hb hby at_68) rfl k_) ?_
        show own_G _ _ _ _ (s₁.setTop (mkF m 69 #[.val (.int p0), .val (.int p1), .val (.int p2), .val (.int (own_c (p0 &&& (255 : Int32)))), .val (.int (own_c ((Jvm.Free.XT.ushr p0 (8 : Int32)) &&& (255 : Int32)))), .val (.int (own_c ((Jvm.Free.XT.ushr p0 (16 : Int32)) &&& (255 : Int32)))), .val (.int (1 : Int32)), .val (.int (0 : Int32)), .val (.int (0 : Int32)), .unset, .unset, .unset, .unset, .unset, .unset, .unset, .unset, .unset, .unset] [(.int p2)]))
        refine own_G.go (fun t_ k_ => XS.iconst X0.here hx rfl (hb hby at_69) k_) ?_
        show own_G _ _ _ _ (s₁.setTop (mkF m 70 #[.val (.int p0), .val (.int p1), .val (.int p2), .val (.int (own_c (p0 &&& (255 : Int32)))), .val (.int (own_c ((Jvm.Free.XT.ushr p0 (8 : Int32)) &&& (255 : Int32)))), .val (.int (own_c ((Jvm.Free.XT.ushr p0 (16 : Int32)) &&& (255 : Int32)))), .val (.int (1 : Int32)), .val (.int (0 : Int32)), .val (.int (0 : Int32)), .unset, .unset, .unset, .unset, .unset, .unset, .unset, .unset, .unset, .unset] [(.int (3 : Int32)), (.int p2)]))
        refine own_G.go (fun t_ k_ => XS.iushr X0.here hx rfl (hb hby at_70) rfl k_) ?_
        show own_G _ _ _ _ (s₁.setTop (mkF m 71 #[.val (.int p0), .val (.int p1), .val (.int p2), .val (.int (own_c (p0 &&& (255 : Int32)))), .val (.int (own_c ((Jvm.Free.XT.ushr p0 (8 : Int32)) &&& (255 : Int32)))), .val (.int (own_c ((Jvm.Free.XT.ushr p0 (16 : Int32)) &&& (255 : Int32)))), .val (.int (1 : Int32)), .val (.int (0 : Int32)), .val (.int (0 : Int32)), .unset, .unset, .unset, .unset, .unset, .unset, .unset, .unset, .unset, .unset] [(.int (Jvm.Free.XT.ushr p2 (3 : Int32)))]))
        refine own_G.go (fun t_ k_ => XS.iconst X0.here hx rfl (hb hby at_71) k_) ?_
        show own_G _ _ _ _ (s₁.setTop (mkF m 72 #[.val (.int p0), .val (.int p1), .val (.int p2), .val (.int (own_c (p0 &&& (255 : Int32)))), .val (.int (own_c ((Jvm.Free.XT.ushr p0 (8 : Int32)) &&& (255 : Int32)))), .val (.int (own_c ((Jvm.Free.XT.ushr p0 (16 : Int32)) &&& (255 : Int32)))), .val (.int (1 : Int32)), .val (.int (0 : Int32)), .val (.int (0 : Int32)), .unset, .unset, .unset, .unset, .unset, .unset, .unset, .unset, .unset, .unset] [(.int (3 : Int32)), (.int (Jvm.Free.XT.ushr p2 (3 : Int32)))]))
        refine own_G.go (fun t_ k_ => XS.iand X0.here hx rfl (hb hby at_72) rfl k_) ?_
        show own_G _ _ _ _ (s₁.setTop (mkF m 73 #[.val (.int p0), .val (.int p1), .val (.int p2), .val (.int (own_c (p0 &&& (255 : Int32)))), .val (.int (own_c ((Jvm.Free.XT.ushr p0 (8 : Int32)) &&& (255 : Int32)))), .val (.int (own_c ((Jvm.Free.XT.ushr p0 (16 : Int32)) &&& (255 : Int32)))), .val (.int (1 : Int32)), .val (.int (0 : Int32)), .val (.int (0 : Int32)), .unset, .unset, .unset, .unset, .unset, .unset, .unset, .unset, .unset, .unset] [(.int ((Jvm.Free.XT.ushr p2 (3 : Int32)) &&& (3 : Int32)))]))
        refine own_G.go (fun t_ k_ => XS.istore X0.here hx rfl (hb hby at_73) rfl (l' := #[.val (.int p0), .val (.int p1), .val (.int p2), .val (.int (own_c (p0 &&& (255 : Int32)))), .val (.int (own_c ((Jvm.Free.XT.ushr p0 (8 : Int32)) &&& (255 : Int32)))), .val (.int (own_c ((Jvm.Free.XT.ushr p0 (16 : Int32)) &&& (255 : Int32)))), .val (.int (1 : Int32)), .val (.int (0 : Int32)), .val (.int (0 : Int32)), .val (.int ((Jvm.Free.XT.ushr p2 (3 : Int32)) &&& (3 : Int32))), .unset, .unset, .unset, .unset, .unset, .unset, .unset, .unset, .unset]) rfl k_) ?_
        show own_G _ _ _ _ (s₁.setTop (mkF m 75 #[.val (.int p0), .val (.int p1), .val (.int p2), .val (.int (own_c (p0 &&& (255 : Int32)))), .val (.int (own_c ((Jvm.Free.XT.ushr p0 (8 : Int32)) &&& (255 : Int32)))), .val (.int (own_c ((Jvm.Free.XT.ushr p0 (16 : Int32)) &&& (255 : Int32)))), .val (.int (1 : Int32)), .val (.int (0 : Int32)), .val (.int (0 : Int32)), .val (.int ((Jvm.Free.XT.ushr p2 (3 : Int32)) &&& (3 : Int32))), .unset, .unset, .unset, .unset, .unset, .unset, .unset, .unset, .unset] []))
        refine own_G.go (fun t_ k_ => XS.iload X0.here hx rfl (hb hby at_75) rfl k_) ?_
        show own_G _ _ _ _ (s₁.setTop (mkF m 77 #[.val (.int p0), .val (.int p1), .val (.int p2), .val (.int (own_c (p0 &&& (255 : Int32)))), .val (.int (own_c ((Jvm.Free.XT.ushr p0 (8 : Int32)) &&& (255 : Int32)))), .val (.int (own_c ((Jvm.Free.XT.ushr p0 (16 : Int32)) &&& (255 : Int32)))), .val (.int (1 : Int32)), .val (.int (0 : Int32)), .val (.int (0 : Int32)), .val (.int ((Jvm.Free.XT.ushr p2 (3 : Int32)) &&& (3 : Int32))), .unset, .unset, .unset, .unset, .unset, .unset, .unset, .unset, .unset] [(.int (1 : Int32))]))
        refine own_G.go (fun t_ k_ => XS.ifNo X0.here hx rfl (hb hby at_77) rfl ((if0 _ _).trans (feq (by decide : ¬ ((1 : Int32) = (0 : Int32)))).1) k_) ?_
        show own_G _ _ _ _ (s₁.setTop (mkF m 80 #[.val (.int p0), .val (.int p1), .val (.int p2), .val (.int (own_c (p0 &&& (255 : Int32)))), .val (.int (own_c ((Jvm.Free.XT.ushr p0 (8 : Int32)) &&& (255 : Int32)))), .val (.int (own_c ((Jvm.Free.XT.ushr p0 (16 : Int32)) &&& (255 : Int32)))), .val (.int (1 : Int32)), .val (.int (0 : Int32)), .val (.int (0 : Int32)), .val (.int ((Jvm.Free.XT.ushr p2 (3 : Int32)) &&& (3 : Int32))), .unset, .unset, .unset, .unset, .unset, .unset, .unset, .unset, .unset] []))
        refine own_G.go (fun t_ k_ => XS.iloadN X0.here hx rfl (hb hby at_80) rfl k_) ?_
        show own_G _ _ _ _ (s₁.setTop (mkF m 81 #[.val (.int p0), .val (.int p1), .val (.int p2), .val (.int (own_c (p0 &&& (255 : Int32)))), .val (.int (own_c ((Jvm.Free.XT.ushr p0 (8 : Int32)) &&& (255 : Int32)))), .val (.int (own_c ((Jvm.Free.XT.ushr p0 (16 : Int32)) &&& (255 : Int32)))), .val (.int (1 : Int32)), .val (.int (0 : Int32)), .val (.int (0 : Int32)), .val (.int ((Jvm.Free.XT.ushr p2 (3 : Int32)) &&& (3 : Int32))), .unset, .unset, .unset, .unset, .unset, .unset, .unset, .unset, .unset] [(.int (own_c (p0 &&& (255 : Int32))))]))
        refine own_G.go (fun t_ k_ => XS.goto X0.here hx rfl (pc0 := 81) (pc' := 90) rfl (hb hby at_81) (by decide) (by decide) k_) ?_
        show own_G _ _ _ _ (s₁.setTop (mkF m 90 #[.val (.int p0), .val (.int p1), .val (.int p2), .val (.int (own_c (p0 &&& (255 : Int32)))), .val (.int (own_c ((Jvm.Free.XT.ushr p0 (8 : Int32)) &&& (255 : Int32)))), .val (.int (own_c ((Jvm.Free.XT.ushr p0 (16 : Int32)) &&& (255 : Int32)))), .val (.int (1 : Int32)), .val (.int (0 : Int32)), .val (.int (0 : Int32)), .val (.int ((Jvm.Free.XT.ushr p2 (3 : Int32)) &&& (3 : Int32))), .unset, .unset, .unset, .unset, .unset, .unset, .unset, .unset, .unset] [(.int (own_c (p0 &&& (255 : Int32))))]))
        refine own_G.go (fun t_ k_ => XS.istore X0.here hx rfl (hb hby at_90) rfl (l' := #[.val (.int p0), .val (.int p1), .val (.int p2), .val (.int (own_c (p0 &&& (255 : Int32)))), .val (.int (own_c ((Jvm.Free.XT.ushr p0 (8 : Int32)) &&& (255 : Int32)))), .val (.int (own_c ((Jvm.Free.XT.ushr p0 (16 : Int32)) &&& (255 : Int32)))), .val (.int (1 : Int32)), .val (.int (0 : Int32)), .val (.int (0 : Int32)), .val (.int ((Jvm.Free.XT.ushr p2 (3 : Int32)) &&& (3 : Int32))), .val (.int (own_c (p0 &&& (255 : Int32)))), .unset, .unset, .unset, .unset, .unset, .unset, .unset, .unset]) rfl k_) ?_
        show own_G _ _ _ _ (s₁.setTop (mkF m 92 #[.val (.int p0), .val (.int p1), .val (.int p2), .val (.int (own_c (p0 &&& (255 : Int32)))), .val (.int (own_c ((Jvm.Free.XT.ushr p0 (8 : Int32)) &&& (255 : Int32)))), .val (.int (own_c ((Jvm.Free.XT.ushr p0 (16 : Int32)) &&& (255 : Int32)))), .val (.int (1 : Int32)), .val (.int (0 : Int32)), .val (.int (0 : Int32)), .val (.int ((Jvm.Free.XT.ushr p2 (3 : Int32)) &&& (3 : Int32))), .val (.int (own_c (p0 &&& (255 : Int32)))), .unset, .unset, .unset, .unset, .unset, .unset, .unset, .unset] []))
        refine own_G.go (fun t_ k_ => XS.iload X0.here hx rfl (hb hby at_92) rfl k_) ?_
        show own_G _ _ _ _ (s₁.setTop (mkF m 94 #[.val (.int p0), .val (.int p1), .val (.int p2), .val (.int (own_c (p0 &&& (255 : Int32)))), .val (.int (own_c ((Jvm.Free.XT.ushr p0 (8 : Int32)) &&& (255 : Int32)))), .val (.int (own_c ((Jvm.Free.XT.ushr p0 (16 : Int32)) &&& (255 : Int32)))), .val (.int (1 : Int32)), .val (.int (0 : Int32)), .val (.int (0 : Int32)), .val (.int ((Jvm.Free.XT.ushr p2 (3 : Int32)) &&& (3 : Int32))), .val (.int (own_c (p0 &&& (255 : Int32)))), .unset, .unset, .unset, .unset, .unset, .unset, .unset, .unset] [(.int (0 : Int32))]))
        refine own_G.go (fun t_ k_ => XS.ifYes X0.here hx rfl (pc0 := 94) (pc' := 102) rfl (hb hby at_94) rfl ((if0 _ _).trans (teq (by decide : (0 : Int32) = (0 : Int32))).1) (by decide) (by decide) k_) ?_
        show own_G _ _ _ _ (s₁.setTop (mkF m 102 #[.val (.int p0), .val (.int p1), .val (.int p2), .val (.int (own_c (p0 &&& (255 : Int32)))), .val (.int (own_c ((Jvm.Free.XT.ushr p0 (8 : Int32)) &&& (255 : Int32)))), .val (.int (own_c ((Jvm.Free.XT.ushr p0 (16 : Int32)) &&& (255 : Int32)))), .val (.int (1 : Int32)), .val (.int (0 : Int32)), .val (.int (0 : Int32)), .val (.int ((Jvm.Free.XT.ushr p2 (3 : Int32)) &&& (3 : Int32))), .val (.int (own_c (p0 &&& (255 : Int32)))), .unset, .unset, .unset, .unset, .unset, .unset, .unset, .unset] []))
        refine own_G.go (fun t_ k_ => XS.iloadN X0.here hx rfl (hb hby at_102) rfl k_) ?_
        show own_G _ _ _ _ (s₁.setTop (mkF m 103 #[.val (.int p0), .val (.int p1), .val (.int p2), .val (.int (own_c (p0 &&& (255 : Int32)))), .val (.int (own_c ((Jvm.Free.XT.ushr p0 (8 : Int32)) &&& (255 : Int32)))), .val (.int (own_c ((Jvm.Free.XT.ushr p0 (16 : Int32)) &&& (255 : Int32)))), .val (.int (1 : Int32)), .val (.int (0 : Int32)), .val (.int (0 : Int32)), .val (.int ((Jvm.Free.XT.ushr p2 (3 : Int32)) &&& (3 : Int32))), .val (.int (own_c (p0 &&& (255 : Int32)))), .unset, .unset, .unset, .unset, .unset, .unset, .unset, .unset] [(.int p1)]))
        refine own_G.go (fun t_ k_ => XS.bipush X0.here hx rfl (hb hby at_103) k_) ?_
        show own_G _ _ _ _ (s₁.setTop (mkF m 105 #[.val (.int p0), .val (.int p1), .val (.int p2), .val (.int (own_c (p0 &&& (255 : Int32)))), .val (.int (own_c ((Jvm.Free.XT.ushr p0 (8 : Int32)) &&& (255 : Int32)))), .val (.int (own_c ((Jvm.Free.XT.ushr p0 (16 : Int32)) &&& (255 : Int32)))), .val (.int (1 : Int32)), .val (.int (0 : Int32)), .val (.int (0 : Int32)), .val (.int ((Jvm.Free.XT.ushr p2 (3 : Int32)) &&& (3 : Int32))), .val (.int (own_c (p0 &&& (255 : Int32)))), .unset, .unset, .unset, .unset, .unset, .unset, .unset, .unset] [(.int (8 : Int32)), (.int p1)]))
        refine own_G.go (fun t_ k_ => XS.iushr X0.here hx rfl (hb hby at_105) rfl k_) ?_
        show own_G _ _ _ _ (s₁.setTop (mkF m 106 #[.val (.int p0), .val (.int p1), .val (.int p2), .val (.int (own_c (p0 &&& (255 : Int32)))), .val (.int (own_c ((Jvm.Free.XT.ushr p0 (8 : Int32)) &&& (255 : Int32)))), .val (.int (own_c ((Jvm.Free.XT.ushr p0 (16 : Int32)) &&& (255 : Int32)))), .val (.int (1 : Int32)), .val (.int (0 : Int32)), .val (.int (0 : Int32)), .val (.int ((Jvm.Free.XT.ushr p2 (3 : Int32)) &&& (3 : Int32))), .val (.int (own_c (p0 &&& (255 : Int32)))), .unset, .unset, .unset, .unset, .unset, .unset, .unset, .unset] [(.int (Jvm.Free.XT.ushr p1 (8 : Int32)))]))
        refine own_G.go (fun t_ k_ => XS.sipush X0.here hx rfl (hb hby at_106) k_) ?_
        show own_G _ _ _ _ (s₁.setTop (mkF m 109 #[.val (.int p0), .val (.int p1), .val (.int p2), .val (.int (own_c (p0 &&& (255 : Int32)))), .val (.int (own_c ((Jvm.Free.XT.ushr p0 (8 : Int32)) &&& (255 : Int32)))), .val (.int (own_c ((Jvm.Free.XT.ushr p0 (16 : Int32)) &&& (255 : Int32)))), .val (.int (1 : Int32)), .val (.int (0 : Int32)), .val (.int (0 : Int32)), .val (.int ((Jvm.Free.XT.ushr p2 (3 : Int32)) &&& (3 : Int32))), .val (.int (own_c (p0 &&& (255 : Int32)))), .unset, .unset, .unset, .unset, .unset, .unset, .unset, .unset] [(.int (255 : Int32)), (.int (Jvm.Free.XT.ushr p1 (8 : Int32)))]))
        refine own_G.go (fun t_ k_ => XS.iand X0.here hx rfl (hb hby at_109) rfl k_) ?_
        show own_G _ _ _ _ (s₁.setTop (mkF m 110 #[.val (.int p0), .val (.int p1), .val (.int p2), .val (.int (own_c (p0 &&& (255 : Int32)))), .val (.int (own_c ((Jvm.Free.XT.ushr p0 (8 : Int32)) &&& (255 : Int32)))), .val (.int (own_c ((Jvm.Free.XT.ushr p0 (16 : Int32)) &&& (255 : Int32)))), .val (.int (1 : Int32)), .val (.int (0 : Int32)), .val (.int (0 : Int32)), .val (.int ((Jvm.Free.XT.ushr p2 (3 : Int32)) &&& (3 : Int32))), .val (.int (own_c (p0 &&& (255 : Int32)))), .unset, .unset, .unset, .unset, .unset, .unset, .unset, .unset] [(.int ((Jvm.Free.XT.ushr p1 (8 : Int32)) &&& (255 : Int32)))]))
        refine own_G.go (fun t_ k_ => XS.i2c X0.here hx rfl (hb hby at_110) rfl k_) ?_
        show own_G _ _ _ _ (s₁.setTop (mkF m 111 #[.val (.int p0), .val (.int p1), .val (.int p2), .val (.int (own_c (p0 &&& (255 : Int32)))), .val (.int (own_c ((Jvm.Free.XT.ushr p0 (8 : Int32)) &&& (255 : Int32)))), .val (.int (own_c ((Jvm.Free.XT.ushr p0 (16 : Int32)) &&& (255 : Int32)))), .val (.int (1 : Int32)), .val (.int (0 : Int32)), .val (.int (0 : Int32)), .val (.int ((Jvm.Free.XT.ushr p2 (3 : Int32)) &&& (3 : Int32))), .val (.int (own_c (p0 &&& (255 : Int32)))), .unset, .unset, .unset, .unset, .unset, .unset, .unset, .unset] [(.int (own_c ((Jvm.Free.XT.ushr p1 (8 : Int32)) &&& (255 : Int32))))]))
        refine own_G.go (fun t_ k_ => XS.istore X0.here hx rfl (hb hby at_111) rfl (l' := #[.val (.int p0), .val (.int p1), .val (.int p2), .val (.int (own_c (p0 &&& (255 : Int32)))), .val (.int (own_c ((Jvm.Free.XT.ushr p0 (8 : Int32)) &&& (255 : Int32)))), .val (.int (own_c ((Jvm.Free.XT.ushr p0 (16 : Int32)) &&& (255 : Int32)))), .val (.int (1 : Int32)), .val (.int (0 : Int32)), .val (.int (0 : Int32)), .val (.int ((Jvm.Free.XT.ushr p2 (3 : Int32)) &&& (3 : Int32))), .val (.int (own_c (p0 &&& (255 : Int32)))), .val (.int (own_c ((Jvm.Free.XT.ushr p1 (8 : Int32)) &&& (255 : Int32)))), .unset, .unset, .unset, .unset, .unset, .unset, .unset]) rfl k_) ?_
        show own_G _ _ _ _ (s₁.setTop (mkF m 113 #[.val (.int p0), .val (.int p1), .val (.int p2), .val (.int (own_c (p0 &&& (255 : Int32)))), .val (.int (own_c ((Jvm.Free.XT.ushr p0 (8 : Int32)) &&& (255 : Int32)))), .val (.int (own_c ((Jvm.Free.XT.ushr p0 (16 : Int32)) &&& (255 : Int32)))), .val (.int (1 : Int32)), .val (.int (0 : Int32)), .val (.int (0 : Int32)), .val (.int ((Jvm.Free.XT.ushr p2 (3 : Int32)) &&& (3 : Int32))), .val (.int (own_c (p0 &&& (255 : Int32)))), .val (.int (own_c ((Jvm.Free.XT.ushr p1 (8 : Int32)) &&& (255 : Int32)))), .unset, .unset, .unset, .unset, .unset, .unset, .unset] []))
        refine own_G.go (fun t_ k_ => XS.iload X0.here hx rfl (hb hby at_113) rfl k_) ?_
        show own_G _ _ _ _ (s₁.setTop (mkF m 115 #[.val (.int p0), .val (.int p1), .val (.int p2), .val (.int (own_c (p0 &&& (255 : Int32)))), .val (.int (own_c ((Jvm.Free.XT.ushr p0 (8 : Int32)) &&& (255 : Int32)))), .val (.int (own_c ((Jvm.Free.XT.ushr p0 (16 : Int32)) &&& (255 : Int32)))), .val (.int (1 : Int32)), .val (.int (0 : Int32)), .val (.int (0 : Int32)), .val (.int ((Jvm.Free.XT.ushr p2 (3 : Int32)) &&& (3 : Int32))), .val (.int (own_c (p0 &&& (255 : Int32)))), .val (.int (own_c ((Jvm.Free.XT.ushr p1 (8 : Int32)) &&& (255 : Int32)))), .unset, .unset, .unset, .unset, .unset, .unset, .unset] [(.int (0 : Int32))]))
        refine own_G.go (fun t_ k_ => XS.ifYes X0.here hx rfl (pc0 := 115) (pc' := 123) rfl (hb hby at_115) rfl ((if0 _ _).trans (teq (by decide : (0 : Int32) = (0 : Int32))).1) (by decide) (by decide) k_) ?_
        show own_G _ _ _ _ (s₁.setTop (mkF m 123 #[.val (.int p0), .val (.int p1), .val (.int p2), .val (.int (own_c (p0 &&& (255 : Int32)))), .val (.int (own_c ((Jvm.Free.XT.ushr p0 (8 : Int32)) &&& (255 : Int32)))), .val (.int (own_c ((Jvm.Free.XT.ushr p0 (16 : Int32)) &&& (255 : Int32)))), .val (.int (1 : Int32)), .val (.int (0 : Int32)), .val (.int (0 : Int32)), .val (.int ((Jvm.Free.XT.ushr p2 (3 : Int32)) &&& (3 : Int32))), .val (.int (own_c (p0 &&& (255 : Int32)))), .val (.int (own_c ((Jvm.Free.XT.ushr p1 (8 : Int32)) &&& (255 : Int32)))), .unset, .unset, .unset, .unset, .unset, .unset, .unset] []))
        refine own_G.go (fun t_ k_ => XS.iloadN X0.here hx rfl (hb hby at_123) rfl k_) ?_
        show own_G _ _ _ _ (s₁.setTop (mkF m 124 #[.val (.int p0), .val (.int p1), .val (.int p2), .val (.int (own_c (p0 &&& (255 : Int32)))), .val (.int (own_c ((Jvm.Free.XT.ushr p0 (8 : Int32)) &&& (255 : Int32)))), .val (.int (own_c ((Jvm.Free.XT.ushr p0 (16 : Int32)) &&& (255 : Int32)))), .val (.int (1 : Int32)), .val (.int (0 : Int32)), .val (.int (0 : Int32)), .val (.int ((Jvm.Free.XT.ushr p2 (3 : Int32)) &&& (3 : Int32))), .val (.int (own_c (p0 &&& (255 : Int32)))), .val (.int (own_c ((Jvm.Free.XT.ushr p1 (8 : Int32)) &&& (255 : Int32)))), .unset, .unset, .unset, .unset, .unset, .unset, .unset] [(.int p1)]))
        refine own_G.go (fun t_ k_ => XS.bipush X0.here hx rfl (hb hby at_124) k_) ?_
        show own_G _ _ _ _ (s₁.setTop (mkF m 126 #[.val (.int p0), .val (.int p1), .val (.int p2), .val (.int (own_c (p0 &&& (255 : Int32)))), .val (.int (own_c ((Jvm.Free.XT.ushr p0 (8 : Int32)) &&& (255 : Int32)))), .val (.int (own_c ((Jvm.Free.XT.ushr p0 (16 : Int32)) &&& (255 : Int32)))), .val (.int (1 : Int32)), .val (.int (0 : Int32)), .val (.int (0 : Int32)), .val (.int ((Jvm.Free.XT.ushr p2 (3 : Int32)) &&& (3 : Int32))), .val (.int (own_c (p0 &&& (255 : Int32)))), .val (.int (own_c ((Jvm.Free.XT.ushr p1 (8 : Int32)) &&& (255 : Int32)))), .unset, .unset, .unset, .unset, .unset, .unset, .unset] [(.int (16 : Int32)), (.int p1)]))
        refine own_G.go (fun t_ k_ => XS.iushr X0.here hx rfl (hb hby at_126) rfl k_) ?_
        show own_G _ _ _ _ (s₁.setTop (mkF m 127 #[.val (.int p0), .val (.int p1), .val (.int p2), .val (.int (own_c (p0 &&& (255 : Int32)))), .val (.int (own_c ((Jvm.Free.XT.ushr p0 (8 : Int32)) &&& (255 : Int32)))), .val (.int (own_c ((Jvm.Free.XT.ushr p0 (16 : Int32)) &&& (255 : Int32)))), .val (.int (1 : Int32)), .val (.int (0 : Int32)), .val (.int (0 : Int32)), .val (.int ((Jvm.Free.XT.ushr p2 (3 : Int32)) &&& (3 : Int32))), .val (.int (own_c (p0 &&& (255 : Int32)))), .val (.int (own_c ((Jvm.Free.XT.ushr p1 (8 : Int32)) &&& (255 : Int32)))), .unset, .unset, .unset, .unset, .unset, .unset, .unset] [(.int (Jvm.Free.XT.ushr p1 (16 : Int32)))]))
        refine own_G.go (fun t_ k_ => XS.sipush X0.here hx rfl (hb hby at_127) k_) ?_
        show own_G _ _ _ _ (s₁.setTop (mkF m 130 #[.val (.int p0), .val (.int p1), .val (.int p2), .val (.int (own_c (p0 &&& (255 : Int32)))), .val (.int (own_c ((Jvm.Free.XT.ushr p0 (8 : Int32)) &&& (255 : Int32)))), .val (.int (own_c ((Jvm.Free.XT.ushr p0 (16 : Int32)) &&& (255 : Int32)))), .val (.int (1 : Int32)), .val (.int (0 : Int32)), .val (.int (0 : Int32)), .val (.int ((Jvm.Free.XT.ushr p2 (3 : Int32)) &&& (3 : Int32))), .val (.int (own_c (p0 &&& (255 : Int32)))), .val (.int (own_c ((Jvm.Free.XT.ushr p1 (8 : Int32)) &&& (255 : Int32)))), .unset, .unset, .unset, .unset, .unset, .unset, .unset] [(.int (255 : Int32)), (.int (Jvm.Free.XT.ushr p1 (16 : Int32)))]))
        refine own_G.go (fun t_ k_ => XS.iand X0.here hx rfl (hb hby at_130) rfl k_) ?_
        show own_G _ _ _ _ (s₁.setTop (mkF m 131 #[.val (.int p0), .val (.int p1), .val (.int p2), .val (.int (own_c (p0 &&& (255 : Int32)))), .val (.int (own_c ((Jvm.Free.XT.ushr p0 (8 : Int32)) &&& (255 : Int32)))), .val (.int (own_c ((Jvm.Free.XT.ushr p0 (16 : Int32)) &&& (255 : Int32)))), .val (.int (1 : Int32)), .val (.int (0 : Int32)), .val (.int (0 : Int32)), .val (.int ((Jvm.Free.XT.ushr p2 (3 : Int32)) &&& (3 : Int32))), .val (.int (own_c (p0 &&& (255 : Int32)))), .val (.int (own_c ((Jvm.Free.XT.ushr p1 (8 : Int32)) &&& (255 : Int32)))), .unset, .unset, .unset, .unset, .unset, .unset, .unset] [(.int ((Jvm.Free.XT.ushr p1 (16 : Int32)) &&& (255 : Int32)))]))
        refine own_G.go (fun t_ k_ => XS.i2c X0.here hx rfl (hb hby at_131) rfl k_) ?_
        show own_G _ _ _ _ (s₁.setTop (mkF m 132 #[.val (.int p0), .val (.int p1), .val (.int p2), .val (.int (own_c (p0 &&& (255 : Int32)))), .val (.int (own_c ((Jvm.Free.XT.ushr p0 (8 : Int32)) &&& (255 : Int32)))), .val (.int (own_c ((Jvm.Free.XT.ushr p0 (16 : Int32)) &&& (255 : Int32)))), .val (.int (1 : Int32)), .val (.int (0 : Int32)), .val (.int (0 : Int32)), .val (.int ((Jvm.Free.XT.ushr p2 (3 : Int32)) &&& (3 : Int32))), .val (.int (own_c (p0 &&& (255 : Int32)))), .val (.int (own_c ((Jvm.Free.XT.ushr p1 (8 : Int32)) &&& (255 : Int32)))), .unset, .unset, .unset, .unset, .unset, .unset, .unset] [(.int (own_c ((Jvm.Free.XT.ushr p1 (16 : Int32)) &&& (255 : Int32))))]))
        refine own_G.go (fun t_ k_ => XS.istore X0.here hx rfl (hb hby at_132) rfl (l' := #[.val (.int p0), .val (.int p1), .val (.int p2), .val (.int (own_c (p0 &&& (255 : Int32)))), .val (.int (own_c ((Jvm.Free.XT.ushr p0 (8 : Int32)) &&& (255 : Int32)))), .val (.int (own_c ((Jvm.Free.XT.ushr p0 (16 : Int32)) &&& (255 : Int32)))), .val (.int (1 : Int32)), .val (.int (0 : Int32)), .val (.int (0 : Int32)), .val (.int ((Jvm.Free.XT.ushr p2 (3 : Int32)) &&& (3 : Int32))), .val (.int (own_c (p0 &&& (255 : Int32)))), .val (.int (own_c ((Jvm.Free.XT.ushr p1 (8 : Int32)) &&& (255 : Int32)))), .val (.int (own_c ((Jvm.Free.XT.ushr p1 (16 : Int32)) &&& (255 : Int32)))), .unset, .unset, .unset, .unset, .unset, .unset]) rfl k_) ?_
        show own_G _ _ _ _ (s₁.setTop (mkF m 134 #[.val (.int p0), .val (.int p1), .val (.int p2), .val (.int (own_c (p0 &&& (255 : Int32)))), .val (.int (own_c ((Jvm.Free.XT.ushr p0 (8 : Int32)) &&& (255 : Int32)))), .val (.int (own_c ((Jvm.Free.XT.ushr p0 (16 : Int32)) &&& (255 : Int32)))), .val (.int (1 : Int32)), .val (.int (0 : Int32)), .val (.int (0 : Int32)), .val (.int ((Jvm.Free.XT.ushr p2 (3 : Int32)) &&& (3 : Int32))), .val (.int (own_c (p0 &&& (255 : Int32)))), .val (.int (own_c ((Jvm.Free.XT.ushr p1 (8 : Int32)) &&& (255 : Int32)))), .val (.int (own_c ((Jvm.Free.XT.ushr p1 (16 : Int32)) &&& (255 : Int32)))), .unset, .unset, .unset, .unset, .unset, .unset] []))
        exact J134 _ _ _ _ _ _ _ _ _ _ (own_mask _) (own_mask _) (own_mask _) (own_mask _) (own_mask _) (own_mask _)
      · refine own_G.go (fun t_ k_ => XS.ifNo X0.here hx rfl (hb hby at_58) rfl ((if0 _ _).trans (feq hb58).1) k_) ?_
        show own_G _ _ _ _ (s₁.setTop (mkF m 61 #[.val (.int p0), .val (.int p1), .val (.int p2), .val (.int (own_c (p0 &&& (255 : Int32)))), .val (.int (own_c ((Jvm.Free.XT.ushr p0 (8 : Int32)) &&& (255 : Int32)))), .val (.int (own_c ((Jvm.Free.XT.ushr p0 (16 : Int32)) &&& (255 : Int32)))), .val (.int (1 : Int32)), .val (.int (0 : Int32)), .unset, .unset, .unset, .unset, .unset, .unset, .unset, .unset, .unset, .unset, .unset] []))
        refine own_G.go (fun t_ k_ => XS.iconst X0.here hx rfl (hb hby at_61) k_) ?_
        show own_G _ _ _ _ (s₁.setTop (mkF m 62 #[.val (.int p0), .val (.int p1), .val (.int p2), .val (.int (own_c (p0 &&& (255 : Int32)))), .val (.int (own_c ((Jvm.Free.XT.ushr p0 (8 : Int32)) &&& (255 : Int32)))), .val (.int (own_c ((Jvm.Free.XT.ushr p0 (16 : Int32)) &&& (255 : Int32)))), .val (.int (1 : Int32)), .val (.int (0 : Int32)), .unset, .unset, .unset, .unset, .unset, .unset, .unset, .unset, .unset, .unset, .unset] [(.int (1 : Int32))]))
        refine own_G.go (fun t_ k_ => XS.goto X0.here hx rfl (pc0 := 62) (pc' := 66) rfl (hb hby at_62) (by decide) (by decide) k_) ?_
        show own_G _ _ _ _ (s₁.setTop (mkF m 66 #[.val (.int p0), .val (.int p1), .val (.int p2), .val (.int (own_c (p0 &&& (255 : Int32)))), .val (.int (own_c ((Jvm.Free.XT.ushr p0 (8 : Int32)) &&& (255 : Int32)))), .val (.int (own_c ((Jvm.Free.XT.ushr p0 (16 : Int32)) &&& (255 : Int32)))), .val (.int (1 : Int32)), .val (.int (0 : Int32)), .unset, .unset, .unset, .unset, .unset, .unset, .unset, .unset, .unset, .unset, .unset] [(.int (1 : Int32))]))
        refine own_G.go (fun t_ k_ => XS.istore X0.here hx rfl (hb hby at_66) rfl (l' := #[.val (.int p0), .val (.int p1), .val (.int p2), .val (.int (own_c (p0 &&& (255 : Int32)))), .val (.int (own_c ((Jvm.Free.XT.ushr p0 (8 : Int32)) &&& (255 : Int32)))), .val (.int (own_c ((Jvm.Free.XT.ushr p0 (16 : Int32)) &&& (255 : Int32)))), .val (.int (1 : Int32)), .val (.int (0 : Int32)), .val (.int (1 : Int32)), .unset, .unset, .unset, .unset, .unset, .unset, .unset, .unset, .unset, .unset]) rfl k_) ?_
        show own_G _ _ _ _ (s₁.setTop (mkF m 68 #[.val (.int p0), .val (.int p1), .val (.int p2), .val (.int (own_c (p0 &&& (255 : Int32)))), .val (.int (own_c ((Jvm.Free.XT.ushr p0 (8 : Int32)) &&& (255 : Int32)))), .val (.int (own_c ((Jvm.Free.XT.ushr p0 (16 : Int32)) &&& (255 : Int32)))), .val (.int (1 : Int32)), .val (.int (0 : Int32)), .val (.int (1 : Int32)), .unset, .unset, .unset, .unset, .unset, .unset, .unset, .unset, .unset, .unset] []))
        refine own_G.go (fun t_ k_ => XS.iloadN X0.here hx rfl (hb hby at_68) rfl k_) ?_
        show own_G _ _ _ _ (s₁.setTop (mkF m 69 #[.val (.int p0), .val (.int p1), .val (.int p2), .val (.int (own_c (p0 &&& (255 : Int32)))), .val (.int (own_c ((Jvm.Free.XT.ushr p0 (8 : Int32)) &&& (255 : Int32)))), .val (.int (own_c ((Jvm.Free.XT.ushr p0 (16 : Int32)) &&& (255 : Int32)))), .val (.int (1 : Int32)), .val (.int (0 : Int32)), .val (.int (1 : Int32)), .unset, .unset, .unset, .unset, .unset, .unset, .unset, .unset, .unset, .unset] [(.int p2)]))
        refine own_G.go (fun t_ k_ => XS.iconst X0.here hx rfl (hb hby at_69) k_) ?_
        show own_G _ _ _ _ (s₁.setTop (mkF m 70 #[.val (.int p0), .val (.int p1), .val (.int p2), .val (.int (own_c (p0 &&& (255 : Int32)))), .val (.int (own_c ((Jvm.Free.XT.ushr p0 (8 : Int32)) &&& (255 : Int32)))), .val (.int (own_c ((Jvm.Free.XT.ushr p0 (16 : Int32)) &&& (255 : Int32)))), .val (.int (1 : Int32)), .val (.int (0 : Int32)), .val (.int (1 : Int32)), .unset, .unset, .unset, .unset, .unset, .unset, .unset, .unset, .unset, .unset] [(.int (3 : Int32)), (.int p2)]))
        refine own_G.go (fun t_ k_ => XS.iushr X0.here hx rfl (hb hby at_70) rfl k_) ?_
        show own_G _ _ _ _ (s₁.setTop (mkF m 71 #[.val (.int p0), .val (.int p1), .val (.int p2), .val (.int (own_c (p0 &&& (255 : Int32)))), .val (.int (own_c ((Jvm.Free.XT.ushr p0 (8 : Int32)) &&& (255 : Int32)))), .val (.int (own_c ((Jvm.Free.XT.ushr p0 (16 : Int32)) &&& (255 : Int32)))), .val (.int (1 : Int32)), .val (.int (0 : Int32)), .val (.int (1 : Int32)), .unset, .unset, .unset, .unset, .unset, .unset, .unset, .unset, .unset, .unset] [(.int (Jvm.Free.XT.ushr p2 (3 : Int32)))]))
        refine own_G.go (fun t_ k_ => XS.iconst X0.here hx rfl (hb hby at_71) k_) ?_
        show own_G _ _ _ _ (s₁.setTop (mkF m 72 #[.val (.int p0), .val (.int p1), .val (.int p2), .val (.int (own_c (p0 &&& (255 : Int32)))), .val (.int (own_c ((Jvm.Free.XT.ushr p0 (8 : Int32)) &&& (255 : Int32)))), .val (.int (own_c ((Jvm.Free.XT.ushr p0 (16 : Int32)) &&& (255 : Int32)))), .val (.int (1 : Int32)), .val (.int (0 : Int32)), .val (.int (1 : Int32)), .unset, .unset, .unset, .unset, .unset, .unset, .unset, .unset, .unset, .unset] [(.int (3 : Int32)), (.int (Jvm.Free.XT.ushr p2 (3 : Int32)))]))
        refine own_G.go (fun t_ k_ => XS.iand X0.here hx rfl (hb hby at_72) rfl k_) ?_
        show own_G _ _ _ _ (s₁.setTop (mkF m 73 #[.val (.int p0), .val (.int p1), .val (.int p2), .val (.int (own_c (p0 &&& (255 : Int32)))), .val (.int (own_c ((Jvm.Free.XT.ushr p0 (8 : Int32)) &&& (255 : Int32)))), .val (.int (own_c ((Jvm.Free.XT.ushr p0 (16 : Int32)) &&& (255 : Int32)))), .val (.int (1 : Int32)), .val (.int (0 : Int32)), .val (.int (1 : Int32)), .unset, .unset, .unset, .unset, .unset, .unset, .unset, .unset, .unset, .unset] [(.int ((Jvm.Free.XT.ushr p2 (3 : Int32)) &&& (3 : Int32)))]))
        refine own_G.go (fun t_ k_ => XS.istore X0.here hx rfl (hb hby at_73) rfl (l' := #[.val (.int p0), .val (.int p1), .val (.int p2), .val (.int (own_c (p0 &&& (255 : Int32)))), .val (.int (own_c ((Jvm.Free.XT.ushr p0 (8 : Int32)) &&& (255 : Int32)))), .val (.int (own_c ((Jvm.Free.XT.ushr p0 (16 : Int32)) &&& (255 : Int32)))), .val (.int (1 : Int32)), .val (.int (0 : Int32)), .val (.int (1 : Int32)), .val (.int ((Jvm.Free.XT.ushr p2 (3 : Int32)) &&& (3 : Int32))), .unset, .unset, .unset, .unset, .unset, .unset, .unset, .unset, .unset]) rfl k_) ?_
        show own_G _ _ _ _ (s₁.setTop (mkF m 75 #[.val (.int p0), .val (.int p1), .val (.int p2), .val (.int (own_c (p0 &&& (255 : Int32)))), .val (.int (own_c ((Jvm.Free.XT.ushr p0 (8 : Int32)) &&& (255 : Int32)))), .val (.int (own_c ((Jvm.Free.XT.ushr p0 (16 : Int32)) &&& (255 : Int32)))), .val (.int (1 : Int32)), .val (.int (0 : Int32)), .val (.int (1 : Int32)), .val (.int ((Jvm.Free.XT.ushr p2 (3 : Int32)) &&& (3 : Int32))), .unset, .unset, .unset, .unset, .unset, .unset, .unset, .unset, .unset] []))
        refine own_G.go (fun t_ k_ => XS.iload X0.here hx rfl (hb hby at_75) rfl k_) ?_
        show own_G _ _ _ _ (s₁.setTop (mkF m 77 #[.val (.int p0), .val (.int p1), .val (.int p2), .val (.int (own_c (p0 &&& (255 : Int32)))), .val (.int (own_c ((Jvm.Free.XT.ushr p0 (8 : Int32)) &&& (255 : Int32)))), .val (.int (own_c ((Jvm.Free.XT.ushr p0 (16 : Int32)) &&& (255 : Int32)))), .val (.int (1 : Int32)), .val (.int (0 : Int32)), .val (.int (1 : Int32)), .val (.int ((Jvm.Free.XT.ushr p2 (3 : Int32)) &&& (3 : Int32))), .unset, .unset, .unset, .unset, .unset, .unset, .unset, .unset, .unset] [(.int (1 : Int32))]))
        refine own_G.go (fun t_ k_ => XS.ifNo X0.here hx rfl (hb hby at_77) rfl ((if0 _ _).trans (feq (by decide : ¬ ((1 : Int32) = (0 : Int32)))).1) k_) ?_
        show own_G _ _ _ _ (s₁.setTop (mkF m 80 #[.val (.int p0), .val (.int p1), .val (.int p2), .val (.int (own_c (p0 &&& (255 : Int32)))), .val (.int (own_c ((Jvm.Free.XT.ushr p0 (8 : Int32)) &&& (255 : Int32)))), .val (.int (own_c ((Jvm.Free.XT.ushr p0 (16 : Int32)) &&& (255 : Int32)))), .val (.int (1 : Int32)), .val (.int (0 : Int32)), .val (.int (1 : Int32)), .val (.int ((Jvm.Free.XT.ushr p2 (3 : Int32)) &&& (3 : Int32))), .unset, .unset, .unset, .unset, .unset, .unset, .unset, .unset, .unset] []))
        refine own_G.go (fun t_ k_ => XS.iloadN X0.here hx rfl (hb hby at_80) rfl k_) ?_
        show own_G _ _ _ _ (s₁.setTop (mkF m 81 #[.val (.int p0), .val (.int p1), .val (.int p2), .val (.int (own_c (p0 &&& (255 : Int32)))), .val (.int (own_c ((Jvm.Free.XT.ushr p0 (8 : Int32)) &&& (255 : Int32)))), .val (.int (own_c ((Jvm.Free.XT.ushr p0 (16 : Int32)) &&& (255 : Int32)))), .val (.int (1 : Int32)), .val (.int (0 : Int32)), .val (.int (1 : Int32)), .val (.int ((Jvm.Free.XT.ushr p2 (3 : Int32)) &&& (3 : Int32))), .unset, .unset, .unset, .unset, .unset, .unset, .unset, .unset, .unset] [(.int (own_c (p0 &&& (255 : Int32))))]))
        refine own_G.go (fun t_ k_ => XS.goto X0.here hx rfl (pc0 := 81) (pc' := 90) rfl (hb hby at_81) (by decide) (by decide) k_) ?_
        show own_G _ _ _ _ (s₁.setTop (mkF m 90 #[.val (.int p0), .val (.int p1), .val (.int p2), .val (.int (own_c (p0 &&& (255 : Int32)))), .val (.int (own_c ((Jvm.Free.XT.ushr p0 (8 : Int32)) &&& (255 : Int32)))), .val (.int (own_c ((Jvm.Free.XT.ushr p0 (16 : Int32)) &&& (255 : Int32)))), .val (.int (1 : Int32)), .val (.int (0 : Int32)), .val (.int (1 : Int32)), .val (.int ((Jvm.Free.XT.ushr p2 (3 : Int32)) &&& (3 : Int32))), .unset, .unset, .unset, .unset, .unset, .unset, .unset, .unset, .unset] [(.int (own_c (p0 &&& (255 : Int32))))]))
        refine own_G.go (fun t_ k_ => XS.istore X0.here hx rfl (hb hby at_90) rfl (l' := #[.val (.int p0), .val (.int p1), .val (.int p2), .val (.int (own_c (p0 &&& (255 : Int32)))), .val (.int (own_c ((Jvm.Free.XT.ushr p0 (8 : Int32)) &&& (255 : Int32)))), .val (.int (own_c ((Jvm.Free.XT.ushr p0 (16 : Int32)) &&& (255 : Int32)))), .val (.int (1 : Int32)), .val (.int (0 : Int32)), .val (.int (1 : Int32)), .val (.int ((Jvm.Free.XT.ushr p2 (3 : Int32)) &&& (3 : Int32))), .val (.int (own_c (p0 &&& (255 : Int32)))), .unset, .unset, .unset, .unset, .unset, .unset, .unset, .unset]) rfl k_) ?_
        show own_G _ _ _ _ (s₁.setTop (mkF m 92 #[.val (.int p0), .val (.int p1), .val (.int p2), .val (.int (own_c (p0 &&& (255 : Int32)))), .val (.int (own_c ((Jvm.Free.XT.ushr p0 (8 : Int32)) &&& (255 : Int32)))), .val (.int (own_c ((Jvm.Free.XT.ushr p0 (16 : Int32)) &&& (255 : Int32)))), .val (.int (1 : Int32)), .val (.int (0 : Int32)), .val (.int (1 : Int32)), .val (.int ((Jvm.Free.XT.ushr p2 (3 : Int32)) &&& (3 : Int32))), .val (.int (own_c (p0 &&& (255 : Int32)))), .unset, .unset, .unset, .unset, .unset, .unset, .unset, .unset] []))
        refine own_G.go (fun t_ k_ => XS.iload X0.here hx rfl (hb hby at_92) rfl k_) ?_
        show own_G _ _ _ _ (s₁.setTop (mkF m 94 #[.val (.int p0), .val (.int p1), .val (.int p2), .val (.int (own_c (p0 &&& (255 : Int32)))), .val (.int (own_c ((Jvm.Free.XT.ushr p0 (8 : Int32)) &&& (255 : Int32)))), .val (.int (own_c ((Jvm.Free.XT.ushr p0 (16 : Int32)) &&& (255 : Int32)))), .val (.int (1 : Int32)), .val (.int (0 : Int32)), .val (.int (1 : Int32)), .val (.int ((Jvm.Free.XT.ushr p2 (3 : Int32)) &&& (3 : Int32))), .val (.int (own_c (p0 &&& (255 : Int32)))), .unset, .unset, .unset, .unset, .unset, .unset, .unset, .unset] [(.int (0 : Int32))]))
        refine own_G.go (fun t_ k_ => XS.ifYes X0.here hx rfl (pc0 := 94) (pc' := 102) rfl (hb hby at_94) rfl ((if0 _ _).trans (teq (by decide : (0 : Int32) = (0 : Int32))).1) (by decide) (by decide) k_) ?_
        show own_G _ _ _ _ (s₁.setTop (mkF m 102 #[.val (.int p0), .val (.int p1), .val (.int p2), .val (.int (own_c (p0 &&& (255 : Int32)))), .val (.int (own_c ((Jvm.Free.XT.ushr p0 (8 : Int32)) &&& (255 : Int32)))), .val (.int (own_c ((Jvm.Free.XT.ushr p0 (16 : Int32)) &&& (255 : Int32)))), .val (.int (1 : Int32)), .val (.int (0 : Int32)), .val (.int (1 : Int32)), .val (.int ((Jvm.Free.XT.ushr p2 (3 : Int32)) &&& (3 : Int32))), .val (.int (own_c (p0 &&& (255 : Int32)))), .unset, .unset, .unset, .unset, .unset, .unset, .unset, .unset] []))
        refine own_G.go (fun t_ k_ => XS.iloadN X0.here hx rfl (hb hby at_102) rfl k_) ?_
        show own_G _ _ _ _ (s₁.setTop (mkF m 103 #[.val (.int p0), .val (.int p1), .val (.int p2), .val (.int (own_c (p0 &&& (255 : Int32)))), .val (.int (own_c ((Jvm.Free.XT.ushr p0 (8 : Int32)) &&& (255 : Int32)))), .val (.int (own_c ((Jvm.Free.XT.ushr p0 (16 : Int32)) &&& (255 : Int32)))), .val (.int (1 : Int32)), .val (.int (0 : Int32)), .val (.int (1 : Int32)), .val (.int ((Jvm.Free.XT.ushr p2 (3 : Int32)) &&& (3 : Int32))), .val (.int (own_c (p0 &&& (255 : Int32)))), .unset, .unset, .unset, .unset, .unset, .unset, .unset, .unset] [(.int p1)]))
        refine own_G.go (fun t_ k_ => XS.bipush X0.here hx rfl (hb hby at_103) k_) ?_
        show own_G _ _ _ _ (s₁.setTop (mkF m 105 #[.val (.int p0), .val (.int p1), .val (.int p2), .val (.int (own_c (p0 &&& (255 : Int32)))), .val (.int (own_c ((Jvm.Free.XT.ushr p0 (8 : Int32)) &&& (255 : Int32)))), .val (.int (own_c ((Jvm.Free.XT.ushr p0 (16 : Int32)) &&& (255 : Int32)))), .val (.int (1 : Int32)), .val (.int (0 : Int32)), .val (.int (1 : Int32)), .val (.int ((Jvm.Free.XT.ushr p2 (3 : Int32)) &&& (3 : Int32))), .val (.int (own_c (p0 &&& (255 : Int32)))), .unset, .unset, .unset, .unset, .unset, .unset, .unset, .unset] [(.int (8 : Int32)), (.int p1)]))
        refine own_G.go (fun t_ k_ => XS.iushr X0.here hx rfl (hb hby at_105) rfl k_) ?_
        show own_G _ _ _ _ (s₁.setTop (mkF m 106 #[.val (.int p0), .val (.int p1), .val (.int p2), .val (.int (own_c (p0 &&& (255 : Int32)))), .val (.int (own_c ((Jvm.Free.XT.ushr p0 (8 : Int32)) &&& (255 : Int32)))), .val (.int (own_c ((Jvm.Free.XT.ushr p0 (16 : Int32)) &&& (255 : Int32)))), .val (.int (1 : Int32)), .val (.int (0 : Int32)), .val (.int (1 : Int32)), .val (.int ((Jvm.Free.XT.ushr p2 (3 : Int32)) &&& (3 : Int32))), .val (.int (own_c (p0 &&& (255 : Int32)))), .unset, .unset, .unset, .unset, .unset, .unset, .unset, .unset] [(.int (Jvm.Free.XT.ushr p1 (8 : Int32)))]))
        refine own_G.go (fun t_ k_ => XS.sipush X0.here hx rfl (hb hby at_106) k_) ?_
        show own_G _ _ _ _ (s₁.setTop (mkF m 109 #[.val (.int p0), .val (.int p1), .val (.int p2), .val (.int (own_c (p0 &&& (255 : Int32)))), .val (.int (own_c ((Jvm.Free.XT.ushr p0 (8 : Int32)) &&& (255 : Int32)))), .val (.int (own_c ((Jvm.Free.XT.ushr p0 (16 : Int32)) &&& (255 : Int32)))), .val (.int (1 : Int32)), .val (.int (0 : Int32)), .val (.int (1 : Int32)), .val (.int ((Jvm.Free.XT.ushr p2 (3 : Int32)) &&& (3 : Int32))), .val (.int (own_c (p0 &&& (255 : Int32)))), .unset, .unset, .unset, .unset, .unset, .unset, .unset, .unset] [(.int (255 : Int32)), (.int (Jvm.Free.XT.ushr p1 (8 : Int32)))]))
        refine own_G.go (fun t_ k_ => XS.iand X0.here hx rfl (hb hby at_109) rfl k_) ?_
        show own_G _ _ _ _ (s₁.setTop (mkF m 110 #[.val (.int p0), .val (.int p1), .val (.int p2), .val (.int (own_c (p0 &&& (255 : Int32)))), .val (.int (own_c ((Jvm.Free.XT.ushr p0 (8 : Int32)) &&& (255 : Int32)))), .val (.int (own_c ((Jvm.Free.XT.ushr p0 (16 : Int32)) &&& (255 : Int32)))), .val (.int (1 : Int32)), .val (.int (0 : Int32)), .val (.int (1 : Int32)), .val (.int ((Jvm.Free.XT.ushr p2 (3 : Int32)) &&& (3 : Int32))), .val (.int (own_c (p0 &&& (255 : Int32)))), .unset, .unset, .unset, .unset, .unset, .unset, .unset, .unset] [(.int ((Jvm.Free.XT.ushr p1 (8 : Int32)) &&& (255 : Int32)))]))
        refine own_G.go (fun t_ k_ => XS.i2c X0.here hx rfl (hb hby at_110) rfl k_) ?_
        show own_G _ _ _ _ (s₁.setTop (mkF m 111 #[.val (.int p0), .val (.int p1), .val (.int p2), .val (.int (own_c (p0 &&& (255 : Int32)))), .val (.int (own_c ((Jvm.Free.XT.ushr p0 (8 : Int32)) &&& (255 : Int32)))), .val (.int (own_c ((Jvm.Free.XT.ushr p0 (16 : Int32)) &&& (255 : Int32)))), .val (.int (1 : Int32)), .val (.int (0 : Int32)), .val (.int (1 : Int32)), .val (.int ((Jvm.Free.XT.ushr p2 (3 : Int32)) &&& (3 : Int32))), .val (.int (own_c (p0 &&& (255 : Int32)))), .unset, .unset, .unset, .unset, .unset, .unset, .unset, .unset] [(.int (own_c ((Jvm.Free.XT.ushr p1 (8 : Int32)) &&& (255 : Int32))))]))
        refine own_G.go (fun t_ k_ => XS.istore X0.here hx rfl (hb hby at_111) rfl (l' := #[.val (.int p0), .val (.int p1), .val (.int p2), .val (.int (own_c (p0 &&& (255 : Int32)))), .val (.int (own_c ((Jvm.Free.XT.ushr p0 (8 : Int32)) &&& (255 : Int32)))), .val (.int (own_c ((Jvm.Free.XT.ushr p0 (16 : Int32)) &&& (255 : Int32)))), .val (.int (1 : Int32)), .val (.int (0 : Int32)), .val (.int (1 : Int32)), .val (.int ((Jvm.Free.XT.ushr p2 (3 : Int32)) &&& (3 : Int32))), .val (.int (own_c (p0 &&& (255 : Int32)))), .val (.int (own_c ((Jvm.Free.XT.ushr p1 (8 : Int32)) &&& (255 : Int32)))), .unset, .unset, .unset, .unset, .unset, .unset, .unset]) rfl k_) ?_
        show own_G _ _ _ _ (s₁.setTop (mkF m 113 #[.val (.int p0), .val (.int p1), .val (.int p2), .val (.int (own_c (p0 &&& (255 : Int32)))), .val (.int (own_c ((Jvm.Free.XT.ushr p0 (8 : Int32)) &&& (255 : Int32)))), .val (.int (own_c ((Jvm.Free.XT.ushr p0 (16 : Int32)) &&& (255 : Int32)))), .val (.int (1 : Int32)), .val (.int (0 : Int32)), .val (.int (1 : Int32)), .val (.int ((Jvm.Free.XT.ushr p2 (3 : Int32)) &&& (3 : Int32))), .val (.int (own_c (p0 &&& (255 : Int32)))), .val (.int (own_c ((Jvm.Free.XT.ushr p1 (8 : Int32)) &&& (255 : Int32)))), .unset, .unset, .unset, .unset, .unset, .unset, .unset] []))
        refine own_G.go (fun t_ k_ => XS.iload X0.here hx rfl (hb hby at_113) rfl k_) ?_
        show own_G _ _ _ _ (s₁.setTop (mkF m 115 #[.val (.int p0), .val (.int p1), .val (.int p2), .val (.int (own_c (p0 &&& (255 : Int32)))), .val (.int (own_c ((Jvm.Free.XT.ushr p0 (8 : Int32)) &&& (255 : Int32)))), .val (.int (own_c ((Jvm.Free.XT.ushr p0 (16 : Int32)) &&& (255 : Int32)))), .val (.int (1 : Int32)), .val (.int (0 : Int32)), .val (.int (1 : Int32)), .val (.int ((Jvm.Free.XT.ushr p2 (3 : Int32)) &&& (3 : Int32))), .val (.int (own_c (p0 &&& (255 : Int32)))), .val (.int (own_c ((Jvm.Free.XT.ushr p1 (8 : Int32)) &&& (255 : Int32)))), .unset, .unset, .unset, .unset, .unset, .unset, .unset] [(.int (1 : Int32))]))
        refine own_G.go (fun t_ k_ => XS.ifNo X0.here hx rfl (hb hby at_115) rfl ((if0 _ _).trans (feq (by decide : ¬ ((1 : Int32) = (0 : Int32)))).1) k_) ?_
        show own_G _ _ _ _ (s₁.setTop (mkF m 118 #[.val (.int p0), .val (.int p1), .val (.int p2), .val (.int (own_c (p0 &&& (255 : Int32)))), .val (.int (own_c ((Jvm.Free.XT.ushr p0 (8 : Int32)) &&& (255 : Int32)))), .val (.int (own_c ((Jvm.Free.XT.ushr p0 (16 : Int32)) &&& (255 : Int32)))), .val (.int (1 : Int32)), .val (.int (0 : Int32)), .val (.int (1 : Int32)), .val (.int ((Jvm.Free.XT.ushr p2 (3 : Int32)) &&& (3 : Int32))), .val (.int (own_c (p0 &&& (255 : Int32)))), .val (.int (own_c ((Jvm.Free.XT.ushr p1 (8 : Int32)) &&& (255 : Int32)))), .unset, .unset, .unset, .unset, .unset, .unset, .unset] []))
        refine own_G.go (fun t_ k_ => XS.iload X0.here hx rfl (hb hby at_118) rfl k_) ?_
        show own_G _ _ _ _ (s₁.setTop (mkF m 120 #[.val (.int p0), .val (.int p1), .val (.int p2), .val (.int (own_c (p0 &&& (255 : Int32)))), .val (.int (own_c ((Jvm.Free.XT.ushr p0 (8 : Int32)) &&& (255 : Int32)))), .val (.int (own_c ((Jvm.Free.XT.ushr p0 (16 : Int32)) &&& (255 : Int32)))), .val (.int (1 : Int32)), .val (.int (0 : Int32)), .val (.int (1 : Int32)), .val (.int ((Jvm.Free.XT.ushr p2 (3 : Int32)) &&& (3 : Int32))), .val (.int (own_c (p0 &&& (255 : Int32)))), .val (.int (own_c ((Jvm.Free.XT.ushr p1 (8 : Int32)) &&& (255 : Int32)))), .unset, .unset, .unset, .unset, .unset, .unset, .unset] [(.int (own_c ((Jvm.Free.XT.ushr p0 (16 : Int32)) &&& (255 : Int32))))]))
        refine own_G.go (fun t_ k_ => XS.goto X0.here hx rfl (pc0 := 120) (pc' := 132) rfl (hb hby at_120) (by decide) (by decide) k_) ?_
        show own_G _ _ _ _ (s₁.setTop (mkF m 132 #[.val (.int p0), .val (.int p1), .val (.int p2), .val (.int (own_c (p0 &&& (255 : Int32)))), .val (.int (own_c ((Jvm.Free.XT.ushr p0 (8 : Int32)) &&& (255 : Int32)))), .val (.int (own_c ((Jvm.Free.XT.ushr p0 (16 : Int32)) &&& (255 : Int32)))), .val (.int (1 : Int32)), .val (.int (0 : Int32)), .val (.int (1 : Int32)), .val (.int ((Jvm.Free.XT.ushr p2 (3 : Int32)) &&& (3 : Int32))), .val (.int (own_c (p0 &&& (255 : Int32)))), .val (.int (own_c ((Jvm.Free.XT.ushr p1 (8 : Int32)) &&& (255 : Int32)))), .unset, .unset, .unset, .unset, .unset, .unset, .unset] [(.int (own_c ((Jvm.Free.XT.ushr p0 (16 : Int32)) &&& (255 : Int32))))]))
        refine own_G.go (fun t_ k_ => XS.istore X0.here hx rfl (hb hby at_132) rfl (l' := #[.val (.int p0), .val (.int p1), .val (.int p2), .val (.int (own_c (p0 &&& (255 : Int32)))), .val (.int (own_c ((Jvm.Free.XT.ushr p0 (8 : Int32)) &&& (255 : Int32)))), .val (.int (own_c ((Jvm.Free.XT.ushr p0 (16 : Int32)) &&& (255 : Int32)))), .val (.int (1 : Int32)), .val (.int (0 : Int32)), .val (.int (1 : Int32)), .val (.int ((Jvm.Free.XT.ushr p2 (3 : Int32)) &&& (3 : Int32))), .val (.int (own_c (p0 &&& (255 : Int32)))), .val (.int (own_c ((Jvm.Free.XT.ushr p1 (8 : Int32)) &&& (255 : Int32)))), .val (.int (own_c ((Jvm.Free.XT.ushr p0 (16 : Int32)) &&& (255 : Int32)))), .unset, .unset, .unset, .unset, .unset, .unset]) rfl k_) ?_
        show own_G _ _ _ _ (s₁.setTop (mkF m 134 #[.val (.int p0), .val (.int p1), .val (.int p2), .val (.int (own_c (p0 &&& (255 : Int32)))), .val (.int (own_c ((Jvm.Free.XT.ushr p0 (8 : Int32)) &&& (255 : Int32)))), .val (.int (own_c ((Jvm.Free.XT.ushr p0 (16 : Int32)) &&& (255 : Int32)))), .val (.int (1 : Int32)), .val (.int (0 : Int32)), .val (.int (1 : Int32)), .val (.int ((Jvm.Free.XT.ushr p2 (3 : Int32)) &&& (3 : Int32))), .val (.int (own_c (p0 &&& (255 : Int32)))), .val (.int (own_c ((Jvm.Free.XT.ushr p1 (8 : Int32)) &&& (255 : Int32)))), .val (.int (own_c ((Jvm.Free.XT.ushr p0 (16 : Int32)) &&& (255 : Int32)))), .unset, .unset, .unset, .unset, .unset, .unset] []))
        exact J134 _ _ _ _ _ _ _ _ _ _ (own_mask _) (own_mask _) (own_mask _) (own_mask _) (own_mask _) (own_mask _)
    · refine own_G.go (fun t_ k_ => XS.ifNo X0.here hx rfl (hb hby at_45) rfl ((if0 _ _).trans (feq hb45).1) k_) ?_
      show own_G _ _ _ _ (s₁.setTop (mkF m 48 #[.val (.int p0), .val (.int p1), .val (.int p2), .val (.int (own_c (p0 &&& (255 : Int32)))), .val (.int (own_c ((Jvm.Free.XT.ushr p0 (8 : Int32)) &&& (255 : Int32)))), .val (.int (own_c ((Jvm.Free.XT.ushr p0 (16 : Int32)) &&& (255 : Int32)))), .val (.int (1 : Int32)), .unset, .unset, .unset, .unset, .unset, .unset, .unset, .unset, .unset, .unset, .unset, .unset] []))
      refine own_G.go (fun t_ k_ => XS.iconst X0.here hx rfl (hb hby at_48) k_) ?_
      show own_G _ _ _ _ (s₁.setTop (mkF m 49 #[.val (.int p0), .val (.int p1), .val (.int p2), .val (.int (own_c (p0 &&& (255 : Int32)))), .val (.int (own_c ((Jvm.Free.XT.ushr p0 (8 : Int32)) &&& (255 : Int32)))), .val (.int (own_c ((Jvm.Free.XT.ushr p0 (16 : Int32)) &&& (255 : Int32)))), .val (.int (1 : Int32)), .unset, .unset, .unset, .unset, .unset, .unset, .unset, .unset, .unset, .unset, .unset, .unset] [(.int (1 : Int32))]))
      refine own_G.go (fun t_ k_ => XS.goto X0.here hx rfl (pc0 := 49) (pc' := 53) rfl (hb hby at_49) (by decide) (by decide) k_) ?_
      show own_G _ _ _ _ (s₁.setTop (mkF m 53 #[.val (.int p0), .val (.int p1), .val (.int p2), .val (.int (own_c (p0 &&& (255 : Int32)))), .val (.int (own_c ((Jvm.Free.XT.ushr p0 (8 : Int32)) &&& (255 : Int32)))), .val (.int (own_c ((Jvm.Free.XT.ushr p0 (16 : Int32)) &&& (255 : Int32)))), .val (.int (1 : Int32)), .unset, .unset, .unset, .unset, .unset, .unset, .unset, .unset, .unset, .unset, .unset, .unset] [(.int (1 : Int32))]))
      refine own_G.go (fun t_ k_ => XS.istore X0.here hx rfl (hb hby at_53) rfl (l' := #[.val (.int p0), .val (.int p1), .val (.int p2), .val (.int (own_c (p0 &&& (255 : Int32)))), .val (.int (own_c ((Jvm.Free.XT.ushr p0 (8 : Int32)) &&& (255 : Int32)))), .val (.int (own_c ((Jvm.Free.XT.ushr p0 (16 : Int32)) &&& (255 : Int32)))), .val (.int (1 : Int32)), .val (.int (1 : Int32)), .unset, .unset, .unset, .unset, .unset, .unset, .unset, .unset, .unset, .unset, .unset]) rfl k_) ?_
      show own_G _ _ _ _ (s₁.setTop (mkF m 55 #[.val (.int p0), .val (.int p1), .val (.int p2), .val (.int (own_c (p0 &&& (255 : Int32)))), .val (.int (own_c ((Jvm.Free.XT.ushr p0 (8 : Int32)) &&& (255 : Int32)))), .val (.int (own_c ((Jvm.Free.XT.ushr p0 (16 : Int32)) &&& (255 : Int32)))), .val (.int (1 : Int32)), .val (.int (1 : Int32)), .unset, .unset, .unset, .unset, .unset, .unset, .unset, .unset, .unset, .unset, .unset] []))
      refine own_G.go (fun t_ k_ => XS.iloadN X0.here hx rfl (hb hby at_55) rfl k_) ?_
      show own_G _ _ _ _ (s₁.setTop (mkF m 56 #[.val (.int p0), .val (.int p1), .val (.int p2), .val (.int (own_c (p0 &&& (255 : Int32)))), .val (.int (own_c ((Jvm.Free.XT.ushr p0 (8 : Int32)) &&& (255 : Int32)))), .val (.int (own_c ((Jvm.Free.XT.ushr p0 (16 : Int32)) &&& (255 : Int32)))), .val (.int (1 : Int32)), .val (.int (1 : Int32)), .unset, .unset, .unset, .unset, .unset, .unset, .unset, .unset, .unset, .unset, .unset] [(.int p2)]))
      refine own_G.go (fun t_ k_ => XS.iconst X0.here hx rfl (hb hby at_56) k_) ?_
      show own_G _ _ _ _ (s₁.setTop (mkF m 57 #[.val (.int p0), .val (.int p1), .val (.int p2), .val (.int (own_c (p0 &&& (255 : Int32)))), .val (.int (own_c ((Jvm.Free.XT.ushr p0 (8 : Int32)) &&& (255 : Int32)))), .val (.int (own_c ((Jvm.Free.XT.ushr p0 (16 : Int32)) &&& (255 : Int32)))), .val (.int (1 : Int32)), .val (.int (1 : Int32)), .unset, .unset, .unset, .unset, .unset, .unset, .unset, .unset, .unset, .unset, .unset] [(.int (4 : Int32)), (.int p2)]))
      refine own_G.go (fun t_ k_ => XS.iand X0.here hx rfl (hb hby at_57) rfl k_) ?_
      show own_G _ _ _ _ (s₁.setTop (mkF m 58 #[.val (.int p0), .val (.int p1), .val (.int p2), .val (.int (own_c (p0 &&& (255 : Int32)))), .val (.int (own_c ((Jvm.Free.XT.ushr p0 (8 : Int32)) &&& (255 : Int32)))), .val (.int (own_c ((Jvm.Free.XT.ushr p0 (16 : Int32)) &&& (255 : Int32)))), .val (.int (1 : Int32)), .val (.int (1 : Int32)), .unset, .unset, .unset, .unset, .unset, .unset, .unset, .unset, .unset, .unset, .unset] [(.int (p2 &&& (4 : Int32)))]))
      by_cases hb58 : (p2 &&& (4 : Int32)) = (0 : Int32)
      · refine own_G.go (fun t_ k_ => XS.ifYes X0.here hx rfl (pc0 := 58) (pc' := 65) rfl (hb hby at_58) rfl ((if0 _ _).trans (teq hb58).1) (by decide) (by decide) k_) ?_
        show own_G _ _ _ _ (s₁.setTop (mkF m 65 #[.val (.int p0), .val (.int p1), .val (.int p2), .val (.int (own_c (p0 &&& (255 : Int32)))), .val (.int (own_c ((Jvm.Free.XT.ushr p0 (8 : Int32)) &&& (255 : Int32)))), .val (.int (own_c ((Jvm.Free.XT.ushr p0 (16 : Int32)) &&& (255 : Int32)))), .val (.int (1 : Int32)), .val (.int (1 : Int32)), .unset, .unset, .unset, .unset, .unset, .unset, .unset, .unset, .unset, .unset, .unset] []))
        refine own_G.go (fun t_ k_ => XS.iconst X0.here hx rfl (hb hby at_65) k_) ?_
        show own_G _ _ _ _ (s₁.setTop (mkF m 66 #[.val (.int p0), .val (.int p1), .val (.int p2), .val (.int (own_c (p0 &&& (255 : Int32)))), .val (.int (own_c ((Jvm.Free.XT.ushr p0 (8 : Int32)) &&& (255 : Int32)))), .val (.int (own_c ((Jvm.Free.XT.ushr p0 (16 : Int32)) &&& (255 : Int32)))), .val (.int (1 : Int32)), .val (.int (1 : Int32)), .unset, .unset, .unset, .unset, .unset, .unset, .unset, .unset, .unset, .unset, .unset] [(.int (0 : Int32))]))
        refine own_G.go (fun t_ k_ => XS.istore X0.here hx rfl (hb hby at_66) rfl (l' := #[.val (.int p0), .val (.int p1), .val (.int p2), .val (.int (own_c (p0 &&& (255 : Int32)))), .val (.int (own_c ((Jvm.Free.XT.ushr p0 (8 : Int32)) &&& (255 : Int32)))), .val (.int (own_c ((Jvm.Free.XT.ushr p0 (16 : Int32)) &&& (255 : Int32)))), .val (.int (1 : Int32)), .val (.int (1 : Int32)), .val (.int (0 : Int32)), .unset, .unset, .unset, .unset, .unset, .unset, .unset, .unset, .unset, .unset]) rfl k_) ?_
        show own_G _ _ _ _ (s₁.setTop (mkF m 68 #[.val (.int p0), .val (.int p1), .val (.int p2), .val (.int (own_c (p0 &&& (255 : Int32)))), .val (.int (own_c ((Jvm.Free.XT.ushr p0 (8 : Int32)) &&& (255 : Int32)))), .val (.int (own_c ((Jvm.Free.XT.ushr p0 (16 : Int32)) &&& (255 : Int32)))), .val (.int (1 : Int32)), .val (.int (1 : Int32)), .val (.int (0 : Int32)), .unset, .unset, .unset, .unset, .unset, .unset, .unset, .unset, .unset, .unset] []))
        refine own_G.go (fun t_ k_ => XS.iloadN X0.here hx rfl (hb hby at_68) rfl k_) ?_
        show own_G _ _ _ _ (s₁.setTop (mkF m 69 #[.val (.int p0), .val (.int p1), .val (.int p2), .val (.int (own_c (p0 &&& (255 : Int32)))), .val (.int (own_c ((Jvm.Free.XT.ushr p0 (8 : Int32)) &&& (255 : Int32)))), .val (.int (own_c ((Jvm.Free.XT.ushr p0 (16 : Int32)) &&& (255 : Int32)))), .val (.int (1 : Int32)), .val (.int (1 : Int32)), .val (.int (0 : Int32)), .unset, .unset, .unset, .unset, .unset, .unset, .unset, .unset, .unset, .unset] [(.int p2)]))
        refine own_G.go (fun t_ k_ => XS.iconst X0.here hx rfl (hb hby at_69) k_) ?_
        show own_G _ _ _ _ (s₁.setTop (mkF m 70 #[.val (.int p0), .val (.int p1), .val (.int p2), .val (.int (own_c (p0 &&& (255 : Int32)))), .val (.int (own_c ((Jvm.Free.XT.ushr p0 (8 : Int32)) &&& (255 : Int32)))), .val (.int (own_c ((Jvm.Free.XT.ushr p0 (16 : Int32)) &&& (255 : Int32)))), .val (.int (1 : Int32)), .val (.int (1 : Int32)), .val (.int (0 : Int32)), .unset, .unset, .unset, .unset, .unset, .unset, .unset, .unset, .unset, .unset] [(.int (3 : Int32)), (.int p2)]))
        refine own_G.go (fun t_ k_ => XS.iushr X0.here hx rfl (hb hby at_70) rfl k_) ?_
        show own_G _ _ _ _ (s₁.setTop (mkF m 71 #[.val (.int p0), .val (.int p1), .val (.int p2), .val (.int (own_c (p0 &&& (255 : Int32)))), .val (.int (own_c ((Jvm.Free.XT.ushr p0 (8 : Int32)) &&& (255 : Int32)))), .val (.int (own_c ((Jvm.Free.XT.ushr p0 (16 : Int32)) &&& (255 : Int32)))), .val (.int (1 : Int32)), .val (.int (1 : Int32)), .val (.int (0 : Int32)), .unset, .unset, .unset, .unset, .unset, .unset, .unset, .unset, .unset, .unset] [(.int (Jvm.Free.XT.ushr p2 (3 : Int32)))]))
        refine own_G.go (fun t_ k_ => XS.iconst X0.here hx rfl (hb hby at_71) k_) ?_
        show own_G _ _ _ _ (s₁.setTop (mkF m 72 #[.val (.int p0), .val (.int p1), .val (.int p2), .val (.int (own_c (p0 &&& (255 : Int32)))), .val (.int (own_c ((Jvm.Free.XT.ushr p0 (8 : Int32)) &&& (255 : Int32)))), .val (.int (own_c ((Jvm.Free.XT.ushr p0 (16 : Int32)) &&& (255 : Int32)))), .val (.int (1 : Int32)), .val (.int (1 : Int32)), .val (.int (0 : Int32)), .unset, .unset, .unset, .unset, .unset, .unset, .unset, .unset, .unset, .unset] [(.int (3 : Int32)), (.int (Jvm.Free.XT.ushr p2 (3 : Int32)))]))
        refine own_G.go (fun t_ k_ => XS.iand X0.here hx rfl (hb hby at_72) rfl k_) ?_
        show own_G _ _ _ _ (s₁.setTop (mkF m 73 #[.val (.int p0), .val (.int p1), .val (.int p2), .val (.int (own_c (p0 &&& (255 : Int32)))), .val (.int (own_c ((Jvm.Free.XT.ushr p0 (8 : Int32)) &&& (255 : Int32)))), .val (.int (own_c ((Jvm.Free.XT.ushr p0 (16 : Int32)) &&& (255 : Int32)))), .val (.int (1 : Int32)), .val (.int (1 : Int32)), .val (.int (0 : Int32)), .unset, .unset, .unset, .unset, .unset, .unset, .unset, .unset, .unset, .unset] [(.int ((Jvm.Free.XT.ushr p2 (3 : Int32)) &&& (3 : Int32)))]))
        refine own_G.go (fun t_ k_ => XS.istore X0.here hx rfl (hb hby at_73) rfl (l' := #[.val (.int p0), .val (.int p1), .val (.int p2), .val (.int (own_c (p0 &&& (255 : Int32)))), .val (.int (own_c ((Jvm.Free.XT.ushr p0 (8 : Int32)) &&& (255 : Int32)))), .val (.int (own_c ((Jvm.Free.XT.ushr p0 (16 : Int32)) &&& (255 : Int32)))), .val (.int (1 : Int32)), .val (.int (1 : Int32)), .val (.int (0 : Int32)), .val (.int ((Jvm.Free.XT.ushr p2 (3 : Int32)) &&& (3 : Int32))), .unset, .unset, .unset, .unset, .unset, .unset, .unset, .unset, .unset]) rfl k_) ?_
        show own_G _ _ _ _ (s₁.setTop (mkF m 75 #[.val (.int p0), .val (.int p1), .val (.int p2), .val (.int (own_c (p0 &&& (255 : Int32)))), .val (.int (own_c ((Jvm.Free.XT.ushr p0 (8 : Int32)) &&& (255 : Int32)))), .val (.int (own_c ((Jvm.Free.XT.ushr p0 (16 : Int32)) &&& (255 : Int32)))), .val (.int (1 : Int32)), .val (.int (1 : Int32)), .val (.int (0 : Int32)), .val (.int ((Jvm.Free.XT.ushr p2 (3 : Int32)) &&& (3 : Int32))), .unset, .unset, .unset, .unset, .unset, .unset, .unset, .unset, .unset] []))
        refine own_G.go (fun t_ k_ => XS.iload X0.here hx rfl (hb hby at_75) rfl k_) ?_
        show own_G _ _ _ _ (s₁.setTop (mkF m 77 #[.val (.int p0), .val (.int p1), .val (.int p2), .val (.int (own_c (p0 &&& (255 : Int32)))), .val (.int (own_c ((Jvm.Free.XT.ushr p0 (8 : Int32)) &&& (255 : Int32)))), .val (.int (own_c ((Jvm.Free.XT.ushr p0 (16 : Int32)) &&& (255 : Int32)))), .val (.int (1 : Int32)), .val (.int (1 : Int32)), .val (.int (0 : Int32)), .val (.int ((Jvm.Free.XT.ushr p2 (3 : Int32)) &&& (3 : Int32))), .unset, .unset, .unset, .unset, .unset, .unset, .unset, .unset, .unset] [(.int (1 : Int32))]))
        refine own_G.go (fun t_ k_ => XS.ifNo X0.here hx rfl (hb hby at_77) rfl ((if0 _ _).trans (feq (by decide : ¬ ((1 : Int32) = (0 : Int32)))).1) k_) ?_
        show own_G _ _ _ _ (s₁.setTop (mkF m 80 #[.val (.int p0), .val (.int p1), .val (.int p2), .val (.int (own_c (p0 &&& (255 : Int32)))), .val (.int (own_c ((Jvm.Free.XT.ushr p0 (8 : Int32)) &&& (255 : Int32)))), .val (.int (own_c ((Jvm.Free.XT.ushr p0 (16 : Int32)) &&& (255 : Int32)))), .val (.int (1 : Int32)), .val (.int (1 : Int32)), .val (.int (0 : Int32)), .val (.int ((Jvm.Free.XT.ushr p2 (3 : Int32)) &&& (3 : Int32))), .unset, .unset, .unset, .unset, .unset, .unset, .unset, .unset, .unset] []))
        refine own_G.go (fun t_ k_ => XS.iloadN X0.here hx rfl (hb hby at_80) rfl k_) ?_
        show own_G _ _ _ _ (s₁.setTop (mkF m 81 #[.val (.int p0), .val (.int p1), .val (.int p2), .val (.int (own_c (p0 &&& (255 : Int32)))), .val (.int (own_c ((Jvm.Free.XT.ushr p0 (8 : Int32)) &&& (255 : Int32)))), .val (.int (own_c ((Jvm.Free.XT.ushr p0 (16 : Int32)) &&& (255 : Int32)))), .val (.int (1 : Int32)), .val (.int (1 : Int32)), .val (.int (0 : Int32)), .val (.int ((Jvm.Free.XT.ushr p2 (3 : Int32)) &&& (3 : Int32))), .unset, .unset, .unset, .unset, .unset, .unset, .unset, .unset, .unset] [(.int (own_c (p0 &&& (255 : Int32))))]))
        refine own_G.go (fun t_ k_ => XS.goto X0.here hx rfl (pc0 := 81) (pc' := 90) rfl (hb hby at_81) (by decide) (by decide) k_) ?_
        show own_G _ _ _ _ (s₁.setTop (mkF m 90 #[.val (.int p0), .val (.int p1), .val (.int p2), .val (.int (own_c (p0 &&& (255 : Int32)))), .val (.int (own_c ((Jvm.Free.XT.ushr p0 (8 : Int32)) &&& (255 : Int32)))), .val (.int (own_c ((Jvm.Free.XT.ushr p0 (16 : Int32)) &&& (255 : Int32)))), .val (.int (1 : Int32)), .val (.int (1 : Int32)), .val (.int (0 : Int32)), .val (.int ((Jvm.Free.XT.ushr p2 (3 : Int32)) &&& (3 : Int32))), .unset, .unset, .unset, .unset, .unset, .unset, .unset, .unset, .unset] [(.int (own_c (p0 &&& (255 : Int32))))]))
        refine own_G.go (fun t_ k_ => XS.istore X0.here hx rfl (hb hby at_90) rfl (l' := #[.val (.int p0), .val (.int p1), .val (.int p2), .val (.int (own_c (p0 &&& (255 : Int32)))), .val (.int (own_c ((Jvm.Free.XT.ushr p0 (8 : Int32)) &&& (255 : Int32)))), .val (.int (own_c ((Jvm.Free.XT.ushr p0 (16 : Int32)) &&& (255 : Int32)))), .val (.int (1 : Int32)), .val (.int (1 : Int32)), .val (.int (0 : Int32)), .val (.int ((Jvm.Free.XT.ushr p2 (3 : Int32)) &&& (3 : Int32))), .val (.int (own_c (p0 &&& (255 : Int32)))), .unset, .unset, .unset, .unset, .unset, .unset, .unset, .unset]) rfl k_) ?_
        show own_G _ _ _ _ (s₁.setTop (mkF m 92 #[.val (.int p0), .val (.int p1), .val (.int p2), .val (.int (own_c (p0 &&& (255 : Int32)))), .val (.int (own_c ((Jvm.Free.XT.ushr p0 (8 : Int32)) &&& (255 : Int32)))), .val (.int (own_c ((Jvm.Free.XT.ushr p0 (16 : Int32)) &&& (255 : Int32)))), .val (.int (1 : Int32)), .val (.int (1 : Int32)), .val (.int (0 : Int32)), .val (.int ((Jvm.Free.XT.ushr p2 (3 : Int32)) &&& (3 : Int32))), .val (.int (own_c (p0 &&& (255 : Int32)))), .unset, .unset, .unset, .unset, .unset, .unset, .unset, .unset] []))
        refine own_G.go (fun t_ k_ => XS.iload X0.here hx rfl (hb hby at_92) rfl k_) ?_
        show own_G _ _ _ _ (s₁.setTop (mkF m 94 #[.val (.int p0), .val (.int p1), .val (.int p2), .val (.int (own_c (p0 &&& (255 : Int32)))), .val (.int (own_c ((Jvm.Free.XT.ushr p0 (8 : Int32)) &&& (255 : Int32)))), .val (.int (own_c ((Jvm.Free.XT.ushr p0 (16 : Int32)) &&& (255 : Int32)))), .val (.int (1 : Int32)), .val (.int (1 : Int32)), .val (.int (0 : Int32)), .val (.int ((Jvm.Free.XT.ushr p2 (3 : Int32)) &&& (3 : Int32))), .val (.int (own_c (p0 &&& (255 : Int32)))), .unset, .unset, .unset, .unset, .unset, .unset, .unset, .unset] [(.int (1 : Int32))]))
        refine own_G.go (fun t_ k_ => XS.ifNo X0.here hx rfl (hb hby at_94) rfl ((if0 _ _).trans (feq (by decide : ¬ ((1 : Int32) = (0 : Int32)))).1) k_) ?_
        show own_G _ _ _ _ (s₁.setTop (mkF m 97 #[.val (.int p0), .val (.int p1), .val (.int p2), .val (.int (own_c (p0 &&& (255 : Int32)))), .val (.int (own_c ((Jvm.Free.XT.ushr p0 (8 : Int32)) &&& (255 : Int32)))), .val (.int (own_c ((Jvm.Free.XT.ushr p0 (16 : Int32)) &&& (255 : Int32)))), .val (.int (1 : Int32)), .val (.int (1 : Int32)), .val (.int (0 : Int32)), .val (.int ((Jvm.Free.XT.ushr p2 (3 : Int32)) &&& (3 : Int32))), .val (.int (own_c (p0 &&& (255 : Int32)))), .unset, .unset, .unset, .unset, .unset, .unset, .unset, .unset] []))
        refine own_G.go (fun t_ k_ => XS.iload X0.here hx rfl (hb hby at_97) rfl k_) ?_
        show own_G _ _ _ _ (s₁.setTop (mkF m 99 #[.val (.int p0), .val (.int p1), .val (.int p2), .val (.int (own_c (p0 &&& (255 : Int32)))), .val (.int (own_c ((Jvm.Free.XT.ushr p0 (8 : Int32)) &&& (255 : Int32)))), .val (.int (own_c ((Jvm.Free.XT.ushr p0 (16 : Int32)) &&& (255 : Int32)))), .val (.int (1 : Int32)), .val (.int (1 : Int32)), .val (.int (0 : Int32)), .val (.int ((Jvm.Free.XT.ushr p2 (3 : Int32)) &&& (3 : Int32))), .val (.int (own_c (p0 &&& (255 : Int32)))), .unset, .unset, .unset, .unset, .unset, .unset, .unset, .unset] [(.int (own_c ((Jvm.Free.XT.ushr p0 (8 : Int32)) &&& (255 : Int32))))]))
        refine own_G.go (fun t_ k_ => XS.goto X0.here hx rfl (pc0 := 99) (pc' := 111) rfl (hb hby at_99) (by decide) (by decide) k_) ?_
        show own_G _ _ _ _ (s₁.setTop (mkF m 111 #[.val (.int p0), .val (.int p1), .val (.int p2), .val (.int (own_c (p0 &&& (255 : Int32)))), .val (.int (own_c ((Jvm.Free.XT.ushr p0 (8 : Int32)) &&& (255 : Int32)))), .val (.int (own_c ((Jvm.Free.XT.ushr p0 (16 : Int32)) &&& (255 : Int32)))), .val (.int (1 : Int32)), .val (.int (1 : Int32)), .val (.int (0 : Int32)), .val (.int ((Jvm.Free.XT.ushr p2 (3 : Int32)) &&& (3 : Int32))), .val (.int (own_c (p0 &&& (255 : Int32)))), .unset, .unset, .unset, .unset, .unset, .unset, .unset, .unset] [(.int (own_c ((Jvm.Free.XT.ushr p0 (8 : Int32)) &&& (255 : Int32))))]))
        refine own_G.go (fun t_ k_ => XS.istore X0.here hx rfl (hb hby at_111) rfl (l' := #[.val (.int p0), .val (.int p1), .val (.int p2), .val (.int (own_c (p0 &&& (255 : Int32)))), .val (.int (own_c ((Jvm.Free.XT.ushr p0 (8 : Int32)) &&& (255 : Int32)))), .val (.int (own_c ((Jvm.Free.XT.ushr p0 (16 : Int32)) &&& (255 : Int32)))), .val (.int (1 : Int32)), .val (.int (1 : Int32)), .val (.int (0 : Int32)), .val (.int ((Jvm.Free.XT.ushr p2 (3 : Int32)) &&& (3 : Int32))), .val (.int (own_c (p0 &&& (255 : Int32)))), .val (.int (own_c ((Jvm.Free.XT.ushr p0 (8 : Int32)) &&& (255 : Int32)))), .unset, .unset, .unset, .unset, .unset, .unset, .unset]) rfl k_) ?_
        show own_G _ _ _ _ (s₁.setTop (mkF m 113 #[.val (.int p0), .val (.int p1), .val (.int p2), .val (.int (own_c (p0 &&& (255 : Int32)))), .val (.int (own_c ((Jvm.Free.XT.ushr p0 (8 : Int32)) &&& (255 : Int32)))), .val (.int (own_c ((Jvm.Free.XT.ushr p0 (16 : Int32)) &&& (255 : Int32)))), .val (.int (1 : Int32)), .val (.int (1 : Int32)), .val (.int (0 : Int32)), .val (.int ((Jvm.Free.XT.ushr p2 (3 : Int32)) &&& (3 : Int32))), .val (.int (own_c (p0 &&& (255 : Int32)))), .val (.int (own_c ((Jvm.Free.XT.ushr p0 (8 : Int32)) &&& (255 : Int32)))), .unset, .unset, .unset, .unset, .unset, .unset, .unset] []))
        refine own_G.go (fun t_ k_ => XS.iload X0.here hx rfl (hb hby at_113) rfl k_) ?_
        show own_G _ _ _ _ (s₁.setTop (mkF m 115 #[.val (.int p0), .val (.int p1), .val (.int p2), .val (.int (own_c (p0 &&& (255 : Int32)))), .val (.int (own_c ((Jvm.Free.XT.ushr p0 (8 : Int32)) &&& (255 : Int32)))), .val (.int (own_c ((Jvm.Free.XT.ushr p0 (16 : Int32)) &&& (255 : Int32)))), .val (.int (1 : Int32)), .val (.int (1 : Int32)), .val (.int (0 : Int32)), .val (.int ((Jvm.Free.XT.ushr p2 (3 : Int32)) &&& (3 : Int32))), .val (.int (own_c (p0 &&& (255 : Int32)))), .val (.int (own_c ((Jvm.Free.XT.ushr p0 (8 : Int32)) &&& (255 : Int32)))), .unset, .unset, .unset, .unset, .unset, .unset, .unset] [(.int (0 : Int32))]))
        refine own_G.go (fun t_ k_ => XS.ifYes X0.here hx rfl (pc0 := 115) (pc' := 123) rfl (hb hby at_115) rfl ((if0 _ _).trans (teq (by decide : (0 : Int32) = (0 : Int32))).1) (by decide) (by decide) k_) ?_
        show own_G _ _ _ _ (s₁.setTop (mkF m 123 #[.val (.int p0), .val (.int p1), .val (.int p2), .val (.int (own_c (p0 &&& (255 : Int32)))), .val (.int (own_c ((Jvm.Free.XT.ushr p0 (8 : Int32)) &&& (255 : Int32)))), .val (.int (own_c ((Jvm.Free.XT.ushr p0 (16 : Int32)) &&& (255 : Int32)))), .val (.int (1 : Int32)), .val (.int (1 : Int32)), .val (.int (0 : Int32)), .val (.int ((Jvm.Free.XT.ushr p2 (3 : Int32)) &&& (3 : Int32))), .val (.int (own_c (p0 &&& (255 : Int32)))), .val (.int (own_c ((Jvm.Free.XT.ushr p0 (8 : Int32)) &&& (255 : Int32)))), .unset, .unset, .unset, .unset, .unset, .unset, .unset] []))
        refine own_G.go (fun t_ k_ => XS.iloadN X0.here hx rfl (hb hby at_123) rfl k_) ?_
        show own_G _ _ _ _ (s₁.setTop (mkF m 124 #[.val (.int p0), .val (.int p1), .val (.int p2), .val (.int (own_c (p0 &&& (255 : Int32)))), .val (.int (own_c ((Jvm.Free.XT.ushr p0 (8 : Int32)) &&& (255 : Int32)))), .val (.int (own_c ((Jvm.Free.XT.ushr p0 (16 : Int32)) &&& (255 : Int32)))), .val (.int (1 : Int32)), .val (.int (1 : Int32)), .val (.int (0 : Int32)), .val (.int ((Jvm.Free.XT.ushr p2 (3 : Int32)) &&& (3 : Int32))), .val (.int (own_c (p0 &&& (255 : Int32)))), .val (.int (own_c ((Jvm.Free.XT.ushr p0 (8 : Int32)) &&& (255 : Int32)))), .unset, .unset, .unset, .unset, .unset, .unset, .unset] [(.int p1)]))
        refine own_G.go (fun t_ k_ => XS.bipush X0.here hx rfl (hb hby at_124) k_) ?_
        show own_G _ _ _ _ (s₁.setTop (mkF m 126 #[.val (.int p0), .val (.int p1), .val (.int p2), .val (.int (own_c (p0 &&& (255 : Int32)))), .val (.int (own_c ((Jvm.Free.XT.ushr p0 (8 : Int32)) &&& (255 : Int32)))), .val (.int (own_c ((Jvm.Free.XT.ushr p0 (16 : Int32)) &&& (255 : Int32)))), .val (.int (1 : Int32)), .val (.int (1 : Int32)), .val (.int (0 : Int32)), .val (.int ((Jvm.Free.XT.ushr p2 (3 : Int32)) &&& (3 : Int32))), .val (.int (own_c (p0 &&& (255 : Int32)))), .val (.int (own_c ((Jvm.Free.XT.ushr p0 (8 : Int32)) &&& (255 : Int32)))), .unset, .unset, .unset, .unset, .unset, .unset, .unset] [(.int (16 : Int32)), (.int p1)]))
        refine own_G.go (fun t_ k_ => XS.iushr X0.here hx rfl (hb hby at_126) rfl k_) ?_
        show own_G _ _ _ _ (s₁.setTop (mkF m 127 #[.val (.int p0), .val (.int p1), .val (.int p2), .val (.int (own_c (p0 &&& (255 : Int32)))), .val (.int (own_c ((Jvm.Free.XT.ushr p0 (8 : Int32)) &&& (255 : Int32)))), .val (.int (own_c ((Jvm.Free.XT.ushr p0 (16 : Int32)) &&& (255 : Int32)))), .val (.int (1 : Int32)), .val (.int (1 : Int32)), .val (.int (0 : Int32)), .val (.int ((Jvm.Free.XT.ushr p2 (3 : Int32)) &&& (3 : Int32))), .val (.int (own_c (p0 &&& (255 : Int32)))), .val (.int (own_c ((Jvm.Free.XT.ushr p0 (8 : Int32)) &&& (255 : Int32)))), .unset, .unset, .unset, .unset, .unset, .unset, .unset] [(.int (Jvm.Free.XT.ushr p1 (16 : Int32)))]))
        refine own_G.go (fun t_ k_ => XS.sipush X0.here hx rfl (hb hby at_127) k_) ?_
        show own_G _ _ _ _ (s₁.setTop (mkF m 130 #[.val (.int p0), .val (.int p1), .val (.int p2), .val (.int (own_c (p0 &&& (255 : Int32)))), .val (.int (own_c ((Jvm.Free.XT.ushr p0 (8 : Int32)) &&& (255 : Int32)))), .val (.int (own_c ((Jvm.Free.XT.ushr p0 (16 : Int32)) &&& (255 : Int32)))), .val (.int (1 : Int32)), .val (.int (1 : Int32)), .val (.int (0 : Int32)), .val (.int ((Jvm.Free.XT.ushr p2 (3 : Int32)) &&& (3 : Int32))), .val (.int (own_c (p0 &&& (255 : Int32)))), .val (.int (own_c ((Jvm.Free.XT.ushr p0 (8 : Int32)) &&& (255 : Int32)))), .unset, .unset, .unset, .unset, .unset, .unset, .unset] [(.int (255 : Int32)), (.int (Jvm.Free.XT.ushr p1 (16 : Int32)))]))
        refine own_G.go (fun t_ k_ => XS.iand X0.here hx rfl (hb hby at_130) rfl k_) ?_
        show own_G _ _ _ _ (s₁.setTop (mkF m 131 #[.val (.int p0), .val (.int p1), .val (.int p2), .val (.int (own_c (p0 &&& (255 : Int32)))), .val (.int (own_c ((Jvm.Free.XT.ushr p0 (8 : Int32)) &&& (255 : Int32)))), .val (.int (own_c ((Jvm.Free.XT.ushr p0 (16 : Int32)) &&& (255 : Int32)))), .val (.int (1 : Int32)), .val (.int (1 : Int32)), .val (.int (0 : Int32)), .val (.int ((Jvm.Free.XT.ushr p2 (3 : Int32)) &&& (3 : Int32))), .val (.int (own_c (p0 &&& (255 : Int32)))), .val (.int (own_c ((Jvm.Free.XT.ushr p0 (8 : Int32)) &&& (255 : Int32)))), .unset, .unset, .unset, .unset, .unset, .unset, .unset] [(.int ((Jvm.Free.XT.ushr p1 (16 : Int32)) &&& (255 : Int32)))]))
        refine own_G.go (fun t_ k_ => XS.i2c X0.here hx rfl (hb hby at_131) rfl k_) ?_
        show own_G _ _ _ _ (s₁.setTop (mkF m 132 #[.val (.int p0), .val (.int p1), .val (.int p2), .val (.int (own_c (p0 &&& (255 : Int32)))), .val (.int (own_c ((Jvm.Free.XT.ushr p0 (8 : Int32)) &&& (255 : Int32)))), .val (.int (own_c ((Jvm.Free.XT.ushr p0 (16 : Int32)) &&& (255 : Int32)))), .val (.int (1 : Int32)), .val (.int (1 : Int32)), .val (.int (0 : Int32)), .val (.int ((Jvm.Free.XT.ushr p2 (3 : Int32)) &&& (3 : Int32))), .val (.int (own_c (p0 &&& (255 : Int32)))), .val (.int (own_c ((Jvm.Free.XT.ushr p0 (8 : Int32)) &&& (255 : Int32)))), .unset, .unset, .unset, .unset, .unset, .unset, .unset] [(.int (own_c ((Jvm.Free.XT.ushr p1 (16 : Int32)) &&& (255 : Int32))))]))
        refine own_G.go (fun t_ k_ => XS.istore X0.here hx rfl (hb hby at_132) rfl (l' := #[.val (.int p0), .val (.int p1), .val (.int p2), .val (.int (own_c (p0 &&& (255 : Int32)))), .val (.int (own_c ((Jvm.Free.XT.ushr p0 (8 : Int32)) &&& (255 : Int32)))), .val (.int (own_c ((Jvm.Free.XT.ushr p0 (16 : Int32)) &&& (255 : Int32)))), .val (.int (1 : Int32)), .val (.int (1 : Int32)), .val (.int (0 : Int32)), .val (.int ((Jvm.Free.XT.ushr p2 (3 : Int32)) &&& (3 : Int32))), .val (.int (own_c (p0 &&& (255 : Int32)))), .val (.int (own_c ((Jvm.Free.XT.ushr p0 (8 : Int32)) &&& (255 : Int32)))), .val (.int (own_c ((Jvm.Free.XT.ushr p1 (16 : Int32)) &&& (255 : Int32)))), .unset, .unset, .unset, .unset, .unset, .unset]) rfl k_) ?_
        show own_G _ _ _ _ (s₁.setTop (mkF m 134 #[.val (.int p0), .val (.int p1), .val (.int p2), .val (.int (own_c (p0 &&& (255 : Int32)))), .val (.int (own_c ((Jvm.Free.XT.ushr p0 (8 : Int32)) &&& (255 : Int32)))), .val (.int (own_c ((Jvm.Free.XT.ushr p0 (16 : Int32)) &&& (255 : Int32)))), .val (.int (1 : Int32)), .val (.int (1 : Int32)), .val (.int (0 : Int32)), .val (.int ((Jvm.Free.XT.ushr p2 (3 : Int32)) &&& (3 : Int32))), .val (.int (own_c (p0 &&& (255 : Int32)))), .val (.int (own_c ((Jvm.Free.XT.ushr p0 (8 : Int32)) &&& (255 : Int32)))), .val (.int (own_c ((Jvm.Free.XT.ushr p1 (16 : Int32)) &&& (255 : Int32)))), .unset, .unset, .unset, .unset, .unset, .unset] []))
        exact J134 _ _ _ _ _ _ _ _ _ _ (own_mask _) (own_mask _) (own_mask _) (own_mask _) (own_mask _) (own_mask _)
      · refine own_G.go (fun t_ k_ => XS.ifNo X0.here hx rfl (hb hby at_58) rfl ((if0 _ _).trans (feq hb58).1) k_) ?_
        show own_G _ _ _ _ (s₁.setTop (mkF m 61 #[.val (.int p0), .val (.int p1), .val (.int p2), .val (.int (own_c (p0 &&& (255 : Int32)))), .val (.int (own_c ((Jvm.Free.XT.ushr p0 (8 : Int32)) &&& (255 : Int32)))), .val (.int (own_c ((Jvm.Free.XT.ushr p0 (16 : Int32)) &&& (255 : Int32)))), .val (.int (1 : Int32)), .val (.int (1 : Int32)), .unset, .unset, .unset, .unset, .unset, .unset, .unset, .unset, .unset, .unset, .unset] []))
        refine own_G.go (fun t_ k_ => XS.iconst X0.here hx rfl (hb hby at_61) k_) ?_
        show own_G _ _ _ _ (s₁.setTop (mkF m 62 #[.val (.int p0), .val (.int p1), .val (.int p2), .val (.int (own_c (p0 &&& (255 : Int32)))), .val (.int (own_c ((Jvm.Free.XT.ushr p0 (8 : Int32)) &&& (255 : Int32)))), .val (.int (own_c ((Jvm.Free.XT.ushr p0 (16 : Int32)) &&& (255 : Int32)))), .val (.int (1 : Int32)), .val (.int (1 : Int32)), .unset, .unset, .unset, .unset, .unset, .unset, .unset, .unset, .unset, .unset, .unset] [(.int (1 : Int32))]))
        refine own_G.go (fun t_ k_ => XS.goto X0.here hx rfl (pc0 := 62) (pc' := 66) rfl (hb hby at_62) (by decide) (by decide) k_) ?_
        show own_G _ _ _ _ (s₁.setTop (mkF m 66 #[.val (.int p0), .val (.int p1), .val (.int p2), .val (.int (own_c (p0 &&& (255 : Int32)))), .val (.int (own_c ((Jvm.Free.XT.ushr p0 (8 : Int32)) &&& (255 : Int32)))), .val (.int (own_c ((Jvm.Free.XT.ushr p0 (16 : Int32)) &&& (255 : Int32)))), .val (.int (1 : Int32)), .val (.int (1 : Int32)), .unset, .unset, .unset, .unset, .unset, .unset, .unset, .unset, .unset, .unset, .unset] [(.int (1 : Int32))]))
        refine own_G.go (fun t_ k_ => XS.istore X0.here hx rfl (hb hby at_66) rfl (l' := #[.val (.int p0), .val (.int p1), .val (.int p2), .val (.int (own_c (p0 &&& (255 : Int32)))), .val (.int (own_c ((Jvm.Free.XT.ushr p0 (8 : Int32)) &&& (255 : Int32)))), .val (.int (own_c ((Jvm.Free.XT.ushr p0 (16 : Int32)) &&& (255 : Int32)))), .val (.int (1 : Int32)), .val (.int (1 : Int32)), .val (.int (1 : Int32)), .unset, .unset, .unset, .unset, .unset, .unset, .unset, .unset, .unset, .unset]) rfl k_) ?_
        show own_G _ _ _ _ (s₁.setTop (mkF m 68 #[.val (.int p0), .val (.int p1), .val (.int p2), .val (.int (own_c (p0 &&& (255 : Int32)))), .val (.int (own_c ((Jvm.Free.XT.ushr p0 (8 : Int32)) &&& (255 : Int32)))), .val (.int (own_c ((Jvm.Free.XT.ushr p0 (16 : Int32)) &&& (255 : Int32)))), .val (.int (1 : Int32)), .val (.int (1 : Int32)), .val (.int (1 : Int32)), .unset, .unset, .unset, .unset, .unset, .unset, .unset, .unset, .unset, .unset] []))
        refine own_G.go (fun t_ k_ => XS.iloadN X0.here hx rfl (hb hby at_68) rfl k_) ?_
        show own_G _ _ _ _ (s₁.setTop (mkF m 69 #[.val (.int p0), .val (.int p1), .val (.int p2), .val (.int (own_c (p0 &&& (255 : Int32)))), .val (.int (own_c ((Jvm.Free.XT.ushr p0 (8 : Int32)) &&& (255 : Int32)))), .val (.int (own_c ((Jvm.Free.XT.ushr p0 (16 : Int32)) &&& (255 : Int32)))), .val (.int (1 : Int32)), .val (.int (1 : Int32)), .val (.int (1 : Int32)), .unset, .unset, .unset, .unset, .unset, .unset, .unset, .unset, .unset, .unset] [(.int p2)]))
        refine own_G.go (fun t_ k_ => XS.iconst X0.here hx rfl (hb hby at_69) k_) ?_
        show own_G _ _ _ _ (s₁.setTop (mkF m 70 #[.val (.int p0), .val (.int p1), .val (.int p2), .val (.int (own_c (p0 &&& (255 : Int32)))), .val (.int (own_c ((Jvm.Free.XT.ushr p0 (8 : Int32)) &&& (255 : Int32)))), .val (.int (own_c ((Jvm.Free.XT.ushr p0 (16 : Int32)) &&& (255 : Int32)))), .val (.int (1 : Int32)), .val (.int (1 : Int32)), .val (.int (1 : Int32)), .unset, .unset, .unset, .unset, .unset, .unset, .unset, .unset, .unset, .unset] [(.int (3 : Int32)), (.int p2)]))
        refine own_G.go (fun t_ k_ => XS.iushr X0.here hx rfl (hb hby at_70) rfl k_) ?_
        show own_G _ _ _ _ (s₁.setTop (mkF m 71 #[.val (.int p0), .val (.int p1), .val (.int p2), .val (.int (own_c (p0 &&& (255 : Int32)))), .val (.int (own_c ((Jvm.Free.XT.ushr p0 (8 : Int32)) &&& (255 : Int32)))), .val (.int (own_c ((Jvm.Free.XT.ushr p0 (16 : Int32)) &&& (255 : Int32)))), .val (.int (1 : Int32)), .val (.int (1 : Int32)), .val (.int (1 : Int32)), .unset, .unset, .unset, .unset, .unset, .unset, .unset, .unset, .unset, .unset] [(.int (Jvm.Free.XT.ushr p2 (3 : Int32)))]))
        refine own_G.go (fun t_ k_ => XS.iconst X0.here hx rfl (hb hby at_71) k_) ?_
        show own_G _ _ _ _ (s₁.setTop (mkF m 72 #[.val (.int p0), .val (.int p1), .val (.int p2), .val (.int (own_c (p0 &&& (255 : Int32)))), .val (.int (own_c ((Jvm.Free.XT.ushr p0 (8 : Int32)) &&& (255 : Int32)))), .val (.int (own_c ((Jvm.Free.XT.ushr p0 (16 : Int32)) &&& (255 : Int32)))), .val (.int (1 : Int32)), .val (.int (1 : Int32)), .val (.int (1 : Int32)), .unset, .unset, .unset, .unset, .unset, .unset, .unset, .unset, .unset, .unset] [(.int (3 : Int32)), (.int (Jvm.Free.XT.ushr p2 (3 : Int32)))]))
        refine own_G.go (fun t_ k_ => XS.iand X0.here hx rfl (hb hby at_72) rfl k_) ?_
        show own_G _ _ _ _ (s₁.setTop (mkF m 73 #[.val (.int p0), .val (.int p1), .val (.int p2), .val (.int (own_c (p0 &&& (255 : Int32)))), .val (.int (own_c ((Jvm.Free.XT.ushr p0 (8 : Int32)) &&& (255 : Int32)))), .val (.int (own_c ((Jvm.Free.XT.ushr p0 (16 : Int32)) &&& (255 : Int32)))), .val (.int (1 : Int32)), .val (.int (1 : Int32)), .val (.int (1 : Int32)), .unset, .unset, .unset, .unset, .unset, .unset, .unset, .unset, .unset, .unset] [(.int ((Jvm.Free.XT.ushr p2 (3 : Int32)) &&& (3 : Int32)))]))
        refine own_G.go (fun t_ k_ => XS.istore X0.here hx rfl (hb hby at_73) rfl (l' := #[.val (.int p0), .val (.int p1), .val (.int p2), .val (.int (own_c (p0 &&& (255 : Int32)))), .val (.int (own_c ((Jvm.Free.XT.ushr p0 (8 : Int32)) &&& (255 : Int32)))), .val (.int (own_c ((Jvm.Free.XT.ushr p0 (16 : Int32)) &&& (255 : Int32)))), .val (.int (1 : Int32)), .val (.int (1 : Int32)), .val (.int (1 : Int32)), .val (.int ((Jvm.Free.XT.ushr p2 (3 : Int32)) &&& (3 : Int32))), .unset, .unset, .unset, .unset, .unset, .unset, .unset, .unset, .unset]) rfl k_) ?_
        show own_G _ _ _ _ (s₁.setTop (mkF m 75 #[.val (.int p0), .val (.int p1), .val (.int p2), .val (.int (own_c (p0 &&& (255 : Int32)))), .val (.int (own_c ((Jvm.Free.XT.ushr p0 (8 : Int32)) &&& (255 : Int32)))), .val (.int (own_c ((Jvm.Free.XT.ushr p0 (16 : Int32)) &&& (255 : Int32)))), .val (.int (1 : Int32)), .val (.int (1 : Int32)), .val (.int (1 : Int32)), .val (.int ((Jvm.Free.XT.ushr p2 (3 : Int32)) &&& (3 : Int32))), .unset, .unset, .unset, .unset, .unset, .unset, .unset, .unset, .unset] []))
        refine own_G.go (fun t_ k_ => XS.iload X0.here hx rfl (hb hby at_75) rfl k_) ?_
        show own_G _ _ _ _ (s₁.setTop (mkF m 77 #[.val (.int p0), .val (.int p1), .val (.int p2), .val (.int (own_c (p0 &&& (255 : Int32)))), .val (.int (own_c ((Jvm.Free.XT.ushr p0 (8 : Int32)) &&& (255 : Int32)))), .val (.int (own_c ((Jvm.Free.XT.ushr p0 (16 : Int32)) &&& (255 : Int32)))), .val (.int (1 : Int32)), .val (.int (1 : Int32)), .val (.int (1 : Int32)), .val (.int ((Jvm.Free.XT.ushr p2 (3 : Int32)) &&& (3 : Int32))), .unset, .unset, .unset, .unset, .unset, .unset, .unset, .unset, .unset] [(.int (1 : Int32))]))
        refine own_G.go (fun t_ k_ => XS.ifNo X0.here hx rfl (hb hby at_77) rfl ((if0 _ _).trans (feq (by decide : ¬ ((1 : Int32) = (0 : Int32)))).1) k_) ?_
        show own_G _ _ _ _ (s₁.setTop (mkF m 80 #[.val (.int p0), .val (.int p1), .val (.int p2), .val (.int (own_c (p0 &&& (255 : Int32)))), .val (.int (own_c ((Jvm.Free.XT.ushr p0 (8 : Int32)) &&& (255 : Int32)))), .val (.int (own_c ((Jvm.Free.XT.ushr p0 (16 : Int32)) &&& (255 : Int32)))), .val (.int (1 : Int32)), .val (.int (1 : Int32)), .val (.int (1 : Int32)), .val (.int ((Jvm.Free.XT.ushr p2 (3 : Int32)) &&& (3 : Int32))), .unset, .unset, .unset, .unset, .unset, .unset, .unset, .unset, .unset] []))
        refine own_G.go (fun t_ k_ => XS.iloadN X0.here hx rfl (hb hby at_80) rfl k_) ?_
        show own_G _ _ _ _ (s₁.setTop (mkF m 81 #[.val (.int p0), .val (.int p1), .val (.int p2), .val (.int (own_c (p0 &&& (255 : Int32)))), .val (.int (own_c ((Jvm.Free.XT.ushr p0 (8 : Int32)) &&& (255 : Int32)))), .val (.int (own_c ((Jvm.Free.XT.ushr p0 (16 : Int32)) &&& (255 : Int32)))), .val (.int (1 : Int32)), .val (.int (1 : Int32)), .val (.int (1 : Int32)), .val (.int ((Jvm.Free.XT.ushr p2 (3 : Int32)) &&& (3 : Int32))), .unset, .unset, .unset, .unset, .unset, .unset, .unset, .unset, .unset] [(.int (own_c (p0 &&& (255 : Int32))))]))
        refine own_G.go (fun t_ k_ => XS.goto X0.here hx rfl (pc0 := 81) (pc' := 90) rfl (hb hby at_81) (by decide) (by decide) k_) ?_
        show own_G _ _ _ _ (s₁.setTop (mkF m 90 #[.val (.int p0), .val (.int p1), .val (.int p2), .val (.int (own_c (p0 &&& (255 : Int32)))), .val (.int (own_c ((Jvm.Free.XT.ushr p0 (8 : Int32)) &&& (255 : Int32)))), .val (.int (own_c ((Jvm.Free.XT.ushr p0 (16 : Int32)) &&& (255 : Int32)))), .val (.int (1 : Int32)), .val (.int (1 : Int32)), .val (.int (1 : Int32)), .val (.int ((Jvm.Free.XT.ushr p2 (3 : Int32)) &&& (3 : Int32))), .unset, .unset, .unset, .unset, .unset, .unset, .unset, .unset, .unset] [(.int (own_c (p0 &&& (255 : Int32))))]))
        refine own_G.go (fun t_ k_ => XS.istore X0.here hx rfl (hb hby at_90) rfl (l' := #[.val (.int p0), .val (.int p1), .val (.int p2), .val (.int (own_c (p0 &&& (255 : Int32)))), .val (.int (own_c ((Jvm.Free.XT.ushr p0 (8 : Int32)) &&& (255 : Int32)))), .val (.int (own_c ((Jvm.Free.XT.ushr p0 (16 : Int32)) &&& (255 : Int32)))), .val (.int (1 : Int32)), .val (.int (1 : Int32)), .val (.int (1 : Int32)), .val (.int ((Jvm.Free.XT.ushr p2 (3 : Int32)) &&& (3 : Int32))), .val (.int (own_c (p0 &&& (255 : Int32)))), .unset, .unset, .unset, .unset, .unset, .unset, .unset, .unset]) rfl k_) ?_
        show own_G _ _ _ _ (s₁.setTop (mkF m 92 #[.val (.int p0), .val (.int p1), .val (.int p2), .val (.int (own_c (p0 &&& (255 : Int32)))), .val (.int (own_c ((Jvm.Free.XT.ushr p0 (8 : Int32)) &&& (255 : Int32)))), .val (.int (own_c ((Jvm.Free.XT.ushr p0 (16 : Int32)) &&& (255 : Int32)))), .val (.int (1 : Int32)), .val (.int (1 : Int32)), .val (.int (1 : Int32)), .val (.int ((Jvm.Free.XT.ushr p2 (3 : Int32)) &&& (3 : Int32))), .val (.int (own_c (p0 &&& (255 : Int32)))), .unset, .unset, .unset, .unset, .unset, .unset, .unset, .unset] []))
        refine own_G.go (fun t_ k_ => XS.iload X0.here hx rfl (hb hby at_92) rfl k_) ?_
        show own_G _ _ _ _ (s₁.setTop (mkF m 94 #[.val (.int p0), .val (.int p1), .val (.int p2), .val (.int (own_c (p0 &&& (255 : Int32)))), .val (.int (own_c ((Jvm.Free.XT.ushr p0 (8 : Int32)) &&& (255 : Int32)))), .val (.int (own_c ((Jvm.Free.XT.ushr p0 (16 : Int32)) &&& (255 : Int32)))), .val (.int (1 : Int32)), .val (.int (1 : Int32)), .val (.int (1 : Int32)), .val (.int ((Jvm.Free.XT.ushr p2 (3 : Int32)) &&& (3 : Int32))), .val (.int (own_c (p0 &&& (255 : Int32)))), .unset, .unset, .unset, .unset, .unset, .unset, .unset, .unset] [(.int (1 : Int32))]))
        refine own_G.go (fun t_ k_ => XS.ifNo X0.here hx rfl (hb hby at_94) rfl ((if0 _ _).trans (feq (by decide : ¬ ((1 : Int32) = (0 : Int32)))).1) k_) ?_
        show own_G _ _ _ _ (s₁.setTop (mkF m 97 #[.val (.int p0), .val (.int p1), .val (.int p2), .val (.int (own_c (p0 &&& (255 : Int32)))), .val (.int (own_c ((Jvm.Free.XT.ushr p0 (8 : Int32)) &&& (255 : Int32)))), .val (.int (own_c ((Jvm.Free.XT.ushr p0 (16 : Int32)) &&& (255 : Int32)))), .val (.int (1 : Int32)), .val (.int (1 : Int32)), .val (.int (1 : Int32)), .val (.int ((Jvm.Free.XT.ushr p2 (3 : Int32)) &&& (3 : Int32))), .val (.int (own_c (p0 &&& (255 : Int32)))), .unset, .unset, .unset, .unset, .unset, .unset, .unset, .unset] []))
        refine own_G.go (fun t_ k_ => XS.iload X0.here hx rfl (hb hby at_97) rfl k_) ?_
        show own_G _ _ _ _ (s₁.setTop (mkF m 99 #[.val (.int p0), .val (.int p1), .val (.int p2), .val (.int (own_c (p0 &&& (255 : Int32)))), .val (.int (own_c ((Jvm.Free.XT.ushr p0 (8 : Int32)) &&& (255 : Int32)))), .val (.int (own_c ((Jvm.Free.XT.ushr p0 (16 : Int32)) &&& (255 : Int32)))), .val (.int (1 : Int32)), .val (.int (1 : Int32)), .val (.int (1 : Int32)), .val (.int ((Jvm.Free.XT.ushr p2 (3 : Int32)) &&& (3 : Int32))), .val (.int (own_c (p0 &&& (255 : Int32)))), .unset, .unset, .unset, .unset, .unset, .unset, .unset, .unset] [(.int (own_c ((Jvm.Free.XT.ushr p0 (8 : Int32)) &&& (255 : Int32))))]))
        refine own_G.go (fun t_ k_ => XS.goto X0.here hx rfl (pc0 := 99) (pc' := 111) rfl (hb hby at_99) (by decide) (by decide) k_) ?_
        show own_G _ _ _ _ (s₁.setTop (mkF m 111 #[.val (.int p0), .val (.int p1), .val (.int p2), .val (.int (own_c (p0 &&& (255 : Int32)))), .val (.int (own_c ((Jvm.Free.XT.ushr p0 (8 : Int32)) &&& (255 : Int32)))), .val (.int (own_c ((Jvm.Free.XT.ushr p0 (16 : Int32)) &&& (255 : Int32)))), .val (.int (1 : Int32)), .val (.int (1 : Int32)), .val (.int (1 : Int32)), .val (.int ((Jvm.Free.XT.ushr p2 (3 : Int32)) &&& (3 : Int32))), .val (.int (own_c (p0 &&& (255 : Int32)))), .unset, .unset, .unset, .unset, .unset, .unset, .unset, .unset] [(.int (own_c ((Jvm.Free.XT.ushr p0 (8 : Int32)) &&& (255 : Int32))))]))
        refine own_G.go (fun t_ k_ => XS.istore X0.here hx rfl (hb hby at_111) rfl (l' := #[.val (.int p0), .val (.int p1), .val (.int p2), .val (.int (own_c (p0 &&& (255 : Int32)))), .val (.int (own_c ((Jvm.Free.XT.ushr p0 (8 : Int32)) &&& (255 : Int32)))), .val (.int (own_c ((Jvm.Free.XT.ushr p0 (16 : Int32)) &&& (255 : Int32)))), .val (.int (1 : Int32)), .val (.int (1 : Int32)), .val (.int (1 : Int32)), .val (.int ((Jvm.Free.XT.ushr p2 (3 : Int32)) &&& (3 : Int32))), .val (.int (own_c (p0 &&& (255 : Int32)))), .val (.int (own_c ((Jvm.Free.XT.ushr p0 (8 : Int32)) &&& (255 : Int32)))), .unset, .unset, .unset, .unset, .unset, .unset, .unset]) rfl k_) ?_
        show own_G _ _ _ _ (s₁.setTop (mkF m 113 #[.val (.int p0), .val (.int p1), .val (.int p2), .val (.int (own_c (p0 &&& (255 : Int32)))), .val (.int (own_c ((Jvm.Free.XT.ushr p0 (8 : Int32)) &&& (255 : Int32)))), .val (.int (own_c ((Jvm.Free.XT.ushr p0 (16 : Int32)) &&& (255 : Int32)))), .val (.int (1 : Int32)), .val (.int (1 : Int32)), .val (.int (1 : Int32)), .val (.int ((Jvm.Free.XT.ushr p2 (3 : Int32)) &&& (3 : Int32))), .val (.int (own_c (p0 &&& (255 : Int32)))), .val (.int (own_c ((Jvm.Free.XT.ushr p0 (8 : Int32)) &&& (255 : Int32)))), .unset, .unset, .unset, .unset, .unset, .unset, .unset] []))
        refine own_G.go (fun t_ k_ => XS.iload X0.here hx rfl (hb hby at_113) rfl k_) ?_
        show own_G _ _ _ _ (s₁.setTop (mkF m 115 #[.val (.int p0), .val (.int p1), .val (.int p2), .val (.int (own_c (p0 &&& (255 : Int32)))), .val (.int (own_c ((Jvm.Free.XT.ushr p0 (8 : Int32)) &&& (255 : Int32)))), .val (.int (own_c ((Jvm.Free.XT.ushr p0 (16 : Int32)) &&& (255 : Int32)))), .val (.int (1 : Int32)), .val (.int (1 : Int32)), .val (.int (1 : Int32)), .val (.int ((Jvm.Free.XT.ushr p2 (3 : Int32)) &&& (3 : Int32))), .val (.int (own_c (p0 &&& (255 : Int32)))), .val (.int (own_c ((Jvm.Free.XT.ushr p0 (8 : Int32)) &&& (255 : Int32)))), .unset, .unset, .unset, .unset, .unset, .unset, .unset] [(.int (1 : Int32))]))
        refine own_G.go (fun t_ k_ => XS.ifNo X0.here hx rfl (hb hby at_115) rfl ((if0 _ _).trans (feq (by decide : ¬ ((1 : Int32) = (0 : Int32)))).1) k_) ?_
        show own_G _ _ _ _ (s₁.setTop (mkF m 118 #[.val (.int p0), .val (.int p1), .val (.int p2), .val (.int (own_c (p0 &&& (255 : Int32)))), .val (.int (own_c ((Jvm.Free.XT.ushr p0 (8 : Int32)) &&& (255 : Int32)))), .val (.int (own_c ((Jvm.Free.XT.ushr p0 (16 : Int32)) &&& (255 : Int32)))), .val (.int (1 : Int32)), .val (.int (1 : Int32)), .val (.int (1 : Int32)), .val (.int ((Jvm.Free.XT.ushr p2 (3 : Int32)) &&& (3 : Int32))), .val (.int (own_c (p0 &&& (255 : Int32)))), .val (.int (own_c ((Jvm.Free.XT.ushr p0 (8 : Int32)) &&& (255 : Int32)))), .unset, .unset, .unset, .unset, .unset, .unset, .unset] []))
        refine own_G.go (fun t_ k_ => XS.iload X0.here hx rfl (hb hby at_118) rfl k_) ?_
        show own_G _ _ _ _ (s₁.setTop (mkF m 120 #[.val (.int p0), .val (.int p1), .val (.int p2), .val (.int (own_c (p0 &&& (255 : Int32)))), .val (.int (own_c ((Jvm.Free.XT.ushr p0 (8 : Int32)) &&& (255 : Int32)))), .val (.int (own_c ((Jvm.Free.XT.ushr p0 (16 : Int32)) &&& (255 : Int32)))), .val (.int (1 : Int32)), .val (.int (1 : Int32)), .val (.int (1 : Int32)), .val (.int ((Jvm.Free.XT.ushr p2 (3 : Int32)) &&& (3 : Int32))), .val (.int (own_c (p0 &&& (255 : Int32)))), .val (.int (own_c ((Jvm.Free.XT.ushr p0 (8 : Int32)) &&& (255 : Int32)))), .unset, .unset, .unset, .unset, .unset, .unset, .unset] [(.int (own_c ((Jvm.Free.XT.ushr p0 (16 : Int32)) &&& (255 : Int32))))]))
        refine own_G.go (fun t_ k_ => XS.goto X0.here hx rfl (pc0 := 120) (pc' := 132) rfl (hb hby at_120) (by decide) (by decide) k_) ?_
        show own_G _ _ _ _ (s₁.setTop (mkF m 132 #[.val (.int p0), .val (.int p1), .val (.int p2), .val (.int (own_c (p0 &&& (255 : Int32)))), .val (.int (own_c ((Jvm.Free.XT.ushr p0 (8 : Int32)) &&& (255 : Int32)))), .val (.int (own_c ((Jvm.Free.XT.ushr p0 (16 : Int32)) &&& (255 : Int32)))), .val (.int (1 : Int32)), .val (.int (1 : Int32)), .val (.int (1 : Int32)), .val (.int ((Jvm.Free.XT.ushr p2 (3 : Int32)) &&& (3 : Int32))), .val (.int (own_c (p0 &&& (255 : Int32)))), .val (.int (own_c ((Jvm.Free.XT.ushr p0 (8 : Int32)) &&& (255 : Int32)))), .unset, .unset, .unset, .unset, .unset, .unset, .unset] [(.int (own_c ((Jvm.Free.XT.ushr p0 (16 : Int32)) &&& (255 : Int32))))]))
        refine own_G.go (fun t_ k_ => XS.istore X0.here hx rfl (hb hby at_132) rfl (l' := #[.val (.int p0), .val (.int p1), .val (.int p2), .val (.int (own_c (p0 &&& (255 : Int32)))), .val (.int (own_c ((Jvm.Free.XT.ushr p0 (8 : Int32)) &&& (255 : Int32)))), .val (.int (own_c ((Jvm.Free.XT.ushr p0 (16 : Int32)) &&& (255 : Int32)))), .val (.int (1 : Int32)), .val (.int (1 : Int32)), .val (.int (1 : Int32)), .val (.int ((Jvm.Free.XT.ushr p2 (3 : Int32)) &&& (3 : Int32))), .val (.int (own_c (p0 &&& (255 : Int32)))), .val (.int (own_c ((Jvm.Free.XT.ushr p0 (8 : Int32)) &&& (255 : Int32)))), .val (.int (own_c ((Jvm.Free.XT.ushr p0 (16 : Int32)) &&& (255 : Int32)))), .unset, .unset, .unset, .unset, .unset, .unset]) rfl k_) ?_
        show own_G _ _ _ _ (s₁.setTop (mkF m 134 #[.val (.int p0), .val (.int p1), .val (.int p2), .val (.int (own_c (p0 &&& (255 : Int32)))), .val (.int (own_c ((Jvm.Free.XT.ushr p0 (8 : Int32)) &&& (255 : Int32)))), .val (.int (own_c ((Jvm.Free.XT.ushr p0 (16 : Int32)) &&& (255 : Int32)))), .val (.int (1 : Int32)), .val (.int (1 : Int32)), .val (.int (1 : Int32)), .val (.int ((Jvm.Free.XT.ushr p2 (3 : Int32)) &&& (3 : Int32))), .val (.int (own_c (p0 &&& (255 : Int32)))), .val (.int (own_c ((Jvm.Free.XT.ushr p0 (8 : Int32)) &&& (255 : Int32)))), .val (.int (own_c ((Jvm.Free.XT.ushr p0 (16 : Int32)) &&& (255 : Int32)))), .unset, .unset, .unset, .unset, .unset, .unset] []))
        exact J134 _ _ _ _ _ _ _ _ _ _ (own_mask _) (own_mask _) (own_mask _) (own_mask _) (own_mask _) (own_mask _)
set_option maxRecDepth 65536 in
set_option maxHeartbeats 40000000 in
theorem comes_1 {Post : Tables → Env → Array Value → State → Outcome → State → Prop} (hpost : ∀ tb e args s v u, (limb_1_1.after args s (.returned v) u = true ∧ limb_1_2.after args s (.returned v) u = true ∧ True) → ReturnedEndW s (.returned v) u (Jvm.fieldLocs frame_1_writes args s ++ Jvm.arrayLocs frame_1_arrays args s ++ Jvm.staticLocs frame_1_statics s) 56 3264 → Post tb e args s (.returned v) u) :
    ArmFor flags0 classFile x code maxLocals ret World_1 tables_1 room_1 Calls_1 rest_1 Pre_1 Post := by
  intro l hfl _ _ p e ha hc hk s m args below hf hA hF happ hP
  obtain ⟨hcalls, hrest, hpre⟩ := hP
  obtain ⟨-, -, -, hnamed, -, -, -, hat⟩ := (Spec.applies_iff hf).mp happ
  obtain ⟨hg, hn⟩ := and_e (Cond.before_iff.mp (show (Jvm.Cond.and given_1 narrow_1).before args s = true from hpre))
  obtain ⟨hcnt, hr_0⟩ := and_e hg
  obtain ⟨ha_0, hr_1⟩ := and_e hr_0
  obtain ⟨ha_1, hr_2⟩ := and_e hr_1
  obtain ⟨w0, w1, w2, rfl⟩ : ∃ w0 w1 w2 : Value, args = #[w0, w1, w2] := by
    have hs : args.size = 3 := by simpa [Cond.value, given_1] using hcnt
    obtain ⟨L⟩ := args
    match L, hs with
    | [w0, w1, w2], _ => exact ⟨w0, w1, w2, rfl⟩
  have hw := fun d (hd : d ∈ tables_1) => atoms_spec (ws := Jvm.Cond.code x code maxLocals ret :: tables_1) hat d (List.mem_cons_of_mem _ hd)
  have hfit : Fit s := fun {y c} hc i hi => by
    obtain ⟨ha, rfl⟩ := Array.getElem?_eq_some_iff.mp hc
    have q := List.all_eq_true.mp ((Array.all_eq_true_iff_forall_mem.mp hF) _ (Array.getElem_mem ha)) i (List.mem_range.mpr hi)
    simpa [Array.getElem?_eq_getElem hi] using q
  obtain ⟨i0, ei0⟩ := is_v ha_0
  obtain rfl : w0 = (.int i0) := Option.some.inj ei0
  obtain ⟨i1, ei1⟩ := is_v ha_1
  obtain rfl : w1 = (.int i1) := Option.some.inj ei1
  obtain ⟨i2, ei2⟩ := is_v hr_2
  obtain rfl : w2 = (.int i2) := Option.some.inj ei2
  obtain ⟨hsets, hown0⟩ := atoms_of _ (rest_1_c_eq ▸ (show rest_1_c.before _ s = true from hrest))
  have n3 := not_v (Cond.before_iff.mp (hsets _ (List.mem_of_getElem? (i := 2) rfl)))
  obtain ⟨zc, ezc⟩ := is_v (Cond.before_iff.mp (hsets _ (List.mem_of_getElem? (i := 1) rfl)))
  have S2 : Sta s s.heap "java/lang/String" "COMPACT_STRINGS" "Z" (.int zc) := Sta.start ezc (Or.inl (hsets _ (List.mem_of_getElem? (i := 0) rfl)))
  have P5 : ¬ (zc = (0 : Int32)) := gotF (Cond.eq_ints ezc (Term.int_eval (0))) n3
  obtain ⟨n, o, h1, h2, h3, _, L, rfl, ⟨rfl, N⟩, hq⟩ := rm_law l s _ hw tables_1 i0 i1 i2 zc s.heap s.heap.size (Nat.le_refl _) S2 P5 (Old.start s) p e ha hc hk s m _ below hf ((Spec.applies_iff_loose hf).mp happ).1 ⟨rfl, State.Warmed39.refl s, rfl⟩ trivial
  refine ⟨n, _, h1, h2, h3, hpost _ _ _ _ _ _ ⟨Cond.after_iff.mpr rfl, Cond.after_iff.mpr (eq_i res_at (Term.int_eval (1)) rfl), trivial⟩ ⟨hq.1, hq.2.1, hq.2.2.1, (hq.2.2.2.sift fun y hy => Or.inr (N y hy)).mono (by decide) (by decide)⟩⟩
theorem main_1_1 : Claimed_1_1 := comes_1 fun _ _ _ _ _ _ h hF => ⟨h.1, hF⟩
theorem main_1_2 : Claimed_1_2 := comes_1 fun _ _ _ _ _ _ h hF => ⟨h.2.1, hF⟩
end Jvm.Pilot.@@N@@
namespace Jvm.Pilot.@@N@@
open Jvm Jvm.ClassFile Sem Op Lib Jvm.Free Jvm.Stand Jvm.Pilot.@@N@@.Jvm.D
/-! MADE BY PROGRAM (witnessworld.py) out of the Statement's table words and the real class files: 21 classes; the members and pool entries that the words name. The judged class is class 1, her method 2. -/
namespace start1
open Jvm.ClassFile
def u (s : String) : CpInfo := .utf8 (stringToUtf16 s)
/-- a pool by its gaps: so many unusable entries, then the entry; so many at the end -/
def gap : Nat → List CpInfo → List CpInfo
  | 0, r => r
  | n + 1, r => .unusable :: gap n r
def poolList (es : List (Nat × CpInfo)) (last : Nat) : List CpInfo := es.foldr (fun e r => gap e.1 (e.2 :: r)) (gap last [])
def pool (es : List (Nat × CpInfo)) (last : Nat) : Array CpInfo := ⟨poolList es last⟩
def fileOf (pool : Array CpInfo) (this : Nat) (attrs : Array Attribute := #[]) (ms : Array MethodInfo := #[]) (fl : Nat := 33) (sup : Nat := 0) (ifs : Array Nat := #[]) (fds : Array FieldInfo := #[]) : ClassFile where
  minorVersion := 0
  majorVersion := 65
  constantPool := pool
  accessFlags := fl
  thisClass := this
  superClass := sup
  interfaces := ifs
  fields := fds
  methods := ms
  attributes := attrs
def plain (name : String) (sup : Option ClassId) : Class where
  name := name
  kind := .ordinary
  loader := none
  accessFlags := 33
  super := sup
  interfaces := #[]
  cf := none
  fields := #[]
  methods := #[]
  instanceTypes := #[]
  staticTypes := #[]
  resolved := #[]
  callSites := []
  init := .initialized
  statics := none
  mirror := none

def pool0 : Array CpInfo := pool [(5, u "<init>"), (0, u "()V"), (1, .class_ 10), (1, u "java/lang/Object")] 113

def k0c0 : Code := { maxStack := 0, maxLocals := 1, code := object_method_1_code, exceptionTable := #[], attributes := #[] }
def k0m0 : Method := { name := "<init>", desc := "()V", sig := { parameters := [], returnType := none }, accessFlags := 1, code := some k0c0 }
/-- java/lang/Object -/
def k0 : Class := { plain "java/lang/Object" none with
  accessFlags := 33
  interfaces := #[]
  cf := some (fileOf pool0 8 #[] #[{ accessFlags := 1, nameIndex := 5, descriptorIndex := 6, attributes := #[] }] 33 0 #[] #[])
  fields := #[]
  methods := #[k0m0]
  instanceTypes := #[]
  staticTypes := #[]
  resolved := Array.replicate 124 none
  statics := none }

def pool1 : Array CpInfo := pool [(2, .class_ 4), (1, u "java/lang/Object"), (0, u "<init>"), (0, u "()V"), (0, .class_ 8), (0, u "java/lang/String"), (0, .methodref 7 10), (0, .nameAndType 5 11), (0, u "([C)V"), (0, .methodref 13 14), (0, .class_ 15), (0, .nameAndType 16 17), (0, u "com/example/sluis/sluis/value/OrderEqualsPinLaw"), (0, u "one"), (0, u "(C)Ljava/lang/String;"), (0, .class_ 19), (0, u "com/example/sluis/sluis/value/Order"), (0, .methodref 18 21), (0, .nameAndType 5 22), (0, u "(Ljava/lang/String;Ljava/lang/String;Ljava/lang/String;)V"), (0, .methodref 18 24), (0, .nameAndType 25 26), (0, u "equals"), (0, u "(Ljava/lang/Object;)Z"), (2, u "law"), (0, u "(III)Z")] 3

def k1m0 : Method := { name := "<init>", desc := "()V", sig := { parameters := [], returnType := none }, accessFlags := 2, code := none }
def k1c1 : Code := { maxStack := 6, maxLocals := 1, code := method_2_code, exceptionTable := #[], attributes := #[] }
def k1m1 : Method := { name := "one", desc := "(C)Ljava/lang/String;", sig := { parameters := [.char], returnType := some (.object "java/lang/String") }, accessFlags := 10, code := some k1c1 }
def k1c2 : Code := { maxStack := 5, maxLocals := 19, code := code, exceptionTable := #[], attributes := #[] }
def k1m2 : Method := { name := "law", desc := "(III)Z", sig := { parameters := [.int, .int, .int], returnType := some .boolean }, accessFlags := 9, code := some k1c2 }
/-- com/example/sluis/sluis/value/OrderEqualsPinLaw -/
def k1 : Class := { plain "com/example/sluis/sluis/value/OrderEqualsPinLaw" (some 0) with
  accessFlags := 49
  interfaces := #[]
  cf := some (fileOf pool1 13 #[] #[{ accessFlags := 2, nameIndex := 5, descriptorIndex := 6, attributes := #[] }, { accessFlags := 10, nameIndex := 16, descriptorIndex := 17, attributes := #[] }, { accessFlags := 9, nameIndex := 29, descriptorIndex := 30, attributes := #[] }] 49 2 #[] #[])
  fields := #[]
  methods := #[k1m0, k1m1, k1m2]
  instanceTypes := #[]
  staticTypes := #[]
  resolved := Array.replicate 34 none
  statics := none }

def pool2 : Array CpInfo := pool [(1, .class_ 2), (0, u "java/io/Serializable"), (0, .class_ 4), (0, u "java/lang/Object")] 2

/-- java/io/Serializable -/
def k2 : Class := { plain "java/io/Serializable" (some 0) with
  accessFlags := 1537
  interfaces := #[]
  cf := some (fileOf pool2 1 #[] #[] 1537 3 #[] #[])
  fields := #[]
  methods := #[]
  instanceTypes := #[]
  staticTypes := #[]
  resolved := Array.replicate 7 none
  statics := none }

def pool3 : Array CpInfo := pool [(1, .class_ 2), (0, u "java/lang/Comparable"), (0, .class_ 4), (0, u "java/lang/Object")] 7

/-- java/lang/Comparable -/
def k3 : Class := { plain "java/lang/Comparable" (some 0) with
  accessFlags := 1537
  interfaces := #[]
  cf := some (fileOf pool3 1 #[] #[] 1537 3 #[] #[])
  fields := #[]
  methods := #[]
  instanceTypes := #[]
  staticTypes := #[]
  resolved := Array.replicate 12 none
  statics := none }

def pool4 : Array CpInfo := pool [(2, .class_ 4), (1, u "java/lang/CharSequence"), (42, .class_ 48), (0, u "java/lang/CharSequence$1CodePointIterator"), (10, .class_ 60), (0, u "java/lang/CharSequence$1CharIterator"), (5, .class_ 67), (0, u "java/lang/Object")] 63

/-- java/lang/CharSequence -/
def k4 : Class := { plain "java/lang/CharSequence" (some 0) with
  accessFlags := 1537
  interfaces := #[]
  cf := some (fileOf pool4 2 #[.nestMembers #[47, 59]] #[] 1537 66 #[] #[])
  fields := #[]
  methods := #[]
  instanceTypes := #[]
  staticTypes := #[]
  resolved := Array.replicate 131 none
  statics := none }

def pool5 : Array CpInfo := pool [(1, .class_ 2), (0, u "java/lang/constant/Constable"), (0, .class_ 4), (0, u "java/lang/Object")] 6

/-- java/lang/constant/Constable -/
def k5 : Class := { plain "java/lang/constant/Constable" (some 0) with
  accessFlags := 1537
  interfaces := #[]
  cf := some (fileOf pool5 1 #[] #[] 1537 3 #[] #[])
  fields := #[]
  methods := #[]
  instanceTypes := #[]
  staticTypes := #[]
  resolved := Array.replicate 11 none
  statics := none }

def pool6 : Array CpInfo := pool [(1, .class_ 2), (0, u "java/lang/constant/ConstantDesc"), (0, .class_ 4), (0, u "java/lang/Object")] 32

/-- java/lang/constant/ConstantDesc -/
def k6 : Class := { plain "java/lang/constant/ConstantDesc" (some 0) with
  accessFlags := 1537
  interfaces := #[]
  cf := some (fileOf pool6 1 #[] #[] 1537 3 #[] #[])
  fields := #[]
  methods := #[]
  instanceTypes := #[]
  staticTypes := #[]
  resolved := Array.replicate 37 none
  statics := none }

def pool7 : Array CpInfo := pool [(1, .methodref 2 3), (0, .class_ 4), (0, .nameAndType 5 6), (0, u "java/lang/Object"), (0, u "<init>"), (0, u "()V"), (2, .fieldref 10 11), (0, .class_ 12), (0, .nameAndType 13 14), (0, u "java/lang/String"), (0, u "value"), (0, u "[B"), (0, .fieldref 10 16), (0, .nameAndType 17 18), (0, u "coder"), (0, u "B"), (2, u "hash"), (0, u "I"), (2, u "hashIsZero"), (0, u "Z"), (0, .methodref 10 28), (0, .nameAndType 5 29), (0, u "([CIILjava/lang/Void;)V"), (8, .fieldref 10 39), (0, .nameAndType 40 26), (0, u "COMPACT_STRINGS"), (1, .class_ 44), (1, u "java/lang/StringUTF16"), (0, u "compress"), (1, .methodref 42 48), (0, .nameAndType 49 50), (0, u "coderFromArrayLen"), (0, u "([BI)B"), (56, .class_ 109), (1, u "java/lang/StringLatin1"), (67, .methodref 42 178), (0, .nameAndType 45 179), (0, u "([CII)[B"), (361, .methodref 107 542), (0, .nameAndType 543 544), (0, u "equals"), (0, u "([B[B)Z"), (28, u "(Ljava/lang/Object;)Z"), (1, .class_ 576), (0, u "java/lang/CharSequence"), (22, u "CASE_INSENSITIVE_ORDER"), (0, u "Ljava/util/Comparator;"), (409, u "([C)V"), (90, u "serialPersistentFields"), (0, u "[Ljava/io/ObjectStreamField;"), (0, .class_ 1104), (0, u "java/lang/String$CaseInsensitiveComparator"), (1, .class_ 1107), (0, u "java/io/Serializable"), (0, .class_ 1109), (0, u "java/lang/Comparable"), (0, .class_ 1111), (0, u "java/lang/constant/Constable"), (0, .class_ 1113), (0, u "java/lang/constant/ConstantDesc"), (2, u "serialVersionUID"), (0, u "J"), (3, u "REPL"), (0, u "C"), (2, u "LATIN1"), (1, u "UTF16")] 323

def k7m0 : Method := { name := "<init>", desc := "()V", sig := { parameters := [], returnType := none }, accessFlags := 1, code := none }
def k7c1 : Code := { maxStack := 5, maxLocals := 2, code := jdk_42_method_3_code, exceptionTable := #[], attributes := #[] }
def k7m1 : Method := { name := "<init>", desc := "([C)V", sig := { parameters := [(.array .char)], returnType := none }, accessFlags := 1, code := some k7c1 }
def k7c2 : Code := { maxStack := 2, maxLocals := 3, code := jdk_42_method_66_code, exceptionTable := #[], attributes := #[] }
def k7m2 : Method := { name := "equals", desc := "(Ljava/lang/Object;)Z", sig := { parameters := [(.object "java/lang/Object")], returnType := some .boolean }, accessFlags := 1, code := some k7c2 }
def k7c3 : Code := { maxStack := 4, maxLocals := 6, code := jdk_42_method_149_code, exceptionTable := #[], attributes := #[] }
def k7m3 : Method := { name := "<init>", desc := "([CIILjava/lang/Void;)V", sig := { parameters := [(.array .char), .int, .int, (.object "java/lang/Void")], returnType := none }, accessFlags := 2, code := some k7c3 }
/-- java/lang/String -/
def k7 : Class := { plain "java/lang/String" (some 0) with
  accessFlags := 49
  interfaces := #[2, 3, 4, 5, 6]
  cf := some (fileOf pool7 10 #[.nestMembers #[1103]] #[{ accessFlags := 1, nameIndex := 5, descriptorIndex := 6, attributes := #[] }, { accessFlags := 1, nameIndex := 5, descriptorIndex := 1010, attributes := #[] }, { accessFlags := 1, nameIndex := 543, descriptorIndex := 573, attributes := #[] }, { accessFlags := 2, nameIndex := 5, descriptorIndex := 29, attributes := #[] }] 49 2 #[1106, 1108, 575, 1110, 1112] #[{ accessFlags := 18, nameIndex := 13, descriptorIndex := 14, attributes := #[] }, { accessFlags := 18, nameIndex := 17, descriptorIndex := 18, attributes := #[] }, { accessFlags := 2, nameIndex := 21, descriptorIndex := 22, attributes := #[] }, { accessFlags := 2, nameIndex := 25, descriptorIndex := 26, attributes := #[] }, { accessFlags := 26, nameIndex := 1116, descriptorIndex := 1117, attributes := #[] }, { accessFlags := 24, nameIndex := 40, descriptorIndex := 26, attributes := #[] }, { accessFlags := 26, nameIndex := 1101, descriptorIndex := 1102, attributes := #[] }, { accessFlags := 26, nameIndex := 1121, descriptorIndex := 1122, attributes := #[] }, { accessFlags := 25, nameIndex := 599, descriptorIndex := 600, attributes := #[] }, { accessFlags := 24, nameIndex := 1125, descriptorIndex := 18, attributes := #[] }, { accessFlags := 24, nameIndex := 1127, descriptorIndex := 18, attributes := #[] }])
  fields := #[{ name := "value", type := (.array .byte), accessFlags := 18, slot := 0, constantValue := 0 }, { name := "coder", type := .byte, accessFlags := 18, slot := 1, constantValue := 0 }, { name := "hash", type := .int, accessFlags := 2, slot := 2, constantValue := 0 }, { name := "hashIsZero", type := .boolean, accessFlags := 2, slot := 3, constantValue := 0 }, { name := "serialVersionUID", type := .long, accessFlags := 26, slot := 0, constantValue := 0 }, { name := "COMPACT_STRINGS", type := .boolean, accessFlags := 24, slot := 1, constantValue := 0 }, { name := "serialPersistentFields", type := (.array (.object "java/io/ObjectStreamField")), accessFlags := 26, slot := 2, constantValue := 0 }, { name := "REPL", type := .char, accessFlags := 26, slot := 3, constantValue := 0 }, { name := "CASE_INSENSITIVE_ORDER", type := (.object "java/util/Comparator"), accessFlags := 25, slot := 4, constantValue := 0 }, { name := "LATIN1", type := .byte, accessFlags := 24, slot := 5, constantValue := 0 }, { name := "UTF16", type := .byte, accessFlags := 24, slot := 6, constantValue := 0 }]
  methods := #[k7m0, k7m1, k7m2, k7m3]
  instanceTypes := #[(.array .byte), .byte, .int, .boolean]
  staticTypes := #[.long, .boolean, (.array (.object "java/io/ObjectStreamField")), .char, (.object "java/util/Comparator"), .byte, .byte]
  resolved := Array.replicate 1451 none
  statics := some 0 }

def pool8 : Array CpInfo := pool [(6, .class_ 8), (1, u "java/lang/Object"), (0, u "<init>"), (0, u "()V"), (1, .class_ 14), (1, u "java/lang/StringUTF16"), (31, u "$assertionsDisabled"), (0, u "Z"), (13, u "HI_BYTE_SHIFT"), (0, u "I"), (2, u "LO_BYTE_SHIFT"), (49, .methodref 12 116), (0, .nameAndType 117 118), (0, u "compress"), (0, u "([CI[BII)I"), (3, u "([CII)[B"), (138, u "coderFromArrayLen"), (0, u "([BI)B"), (106, .class_ 371), (1, u "java/lang/StringUTF16$LinesSpliterator"), (58, u "MAX_LENGTH"), (196, .class_ 628), (0, u "java/lang/StringUTF16$CodePointsSpliterator"), (0, .class_ 630), (0, u "java/lang/StringUTF16$CharsSpliterator")] 4

def k8m0 : Method := { name := "<init>", desc := "()V", sig := { parameters := [], returnType := none }, accessFlags := 0, code := none }
def k8c1 : Code := { maxStack := 2, maxLocals := 2, code := jdk_52_method_15_code, exceptionTable := #[], attributes := #[] }
def k8m1 : Method := { name := "coderFromArrayLen", desc := "([BI)B", sig := { parameters := [(.array .byte), .int], returnType := some .byte }, accessFlags := 8, code := some k8c1 }
def k8c2 : Code := { maxStack := 5, maxLocals := 6, code := jdk_52_method_16_code, exceptionTable := #[], attributes := #[] }
def k8m2 : Method := { name := "compress", desc := "([CII)[B", sig := { parameters := [(.array .char), .int, .int], returnType := some (.array .byte) }, accessFlags := 9, code := some k8c2 }
def k8c3 : Code := { maxStack := 3, maxLocals := 7, code := jdk_52_method_21_code, exceptionTable := #[], attributes := #[] }
def k8m3 : Method := { name := "compress", desc := "([CI[BII)I", sig := { parameters := [(.array .char), .int, (.array .byte), .int, .int], returnType := some .int }, accessFlags := 9, code := some k8c3 }
/-- java/lang/StringUTF16 -/
def k8 : Class := { plain "java/lang/StringUTF16" (some 0) with
  accessFlags := 48
  interfaces := #[]
  cf := some (fileOf pool8 12 #[.nestMembers #[627, 629, 369]] #[{ accessFlags := 0, nameIndex := 9, descriptorIndex := 10, attributes := #[] }, { accessFlags := 8, nameIndex := 261, descriptorIndex := 262, attributes := #[] }, { accessFlags := 9, nameIndex := 117, descriptorIndex := 122, attributes := #[] }, { accessFlags := 9, nameIndex := 117, descriptorIndex := 118, attributes := #[] }] 48 6 #[] #[{ accessFlags := 26, nameIndex := 61, descriptorIndex := 62, attributes := #[] }, { accessFlags := 26, nameIndex := 65, descriptorIndex := 62, attributes := #[] }, { accessFlags := 24, nameIndex := 430, descriptorIndex := 62, attributes := #[] }, { accessFlags := 4120, nameIndex := 46, descriptorIndex := 47, attributes := #[] }])
  fields := #[{ name := "HI_BYTE_SHIFT", type := .int, accessFlags := 26, slot := 0, constantValue := 0 }, { name := "LO_BYTE_SHIFT", type := .int, accessFlags := 26, slot := 1, constantValue := 0 }, { name := "MAX_LENGTH", type := .int, accessFlags := 24, slot := 2, constantValue := 0 }, { name := "$assertionsDisabled", type := .boolean, accessFlags := 4120, slot := 3, constantValue := 0 }]
  methods := #[k8m0, k8m1, k8m2, k8m3]
  instanceTypes := #[]
  staticTypes := #[.int, .int, .int, .boolean]
  resolved := Array.replicate 635 none
  statics := none }

def pool9 : Array CpInfo := pool [(1, .methodref 2 3), (0, .class_ 4), (0, .nameAndType 5 6), (0, u "java/lang/Object"), (0, u "<init>"), (0, u "()V"), (0, .string 8), (0, u "id"), (0, .methodref 10 11), (0, .class_ 12), (0, .nameAndType 13 14), (0, u "java/util/Objects"), (0, u "requireNonNull"), (0, u "(Ljava/lang/Object;Ljava/lang/String;)Ljava/lang/Object;"), (0, .class_ 16), (0, u "java/lang/String"), (0, .fieldref 18 19), (0, .class_ 20), (0, .nameAndType 8 21), (0, u "com/example/sluis/sluis/value/Order"), (0, u "Ljava/lang/String;"), (0, .string 23), (0, u "item"), (0, .fieldref 18 25), (0, .nameAndType 23 21), (0, .string 27), (0, u "buyer"), (0, .fieldref 18 29), (0, .nameAndType 27 21), (0, .methodref 15 31), (0, .nameAndType 32 33), (0, u "equals"), (0, u "(Ljava/lang/Object;)Z"), (8, u "(Ljava/lang/String;Ljava/lang/String;Ljava/lang/String;)V")] 27

def k9c0 : Code := { maxStack := 3, maxLocals := 4, code := prog_7_method_1_code, exceptionTable := #[], attributes := #[] }
def k9m0 : Method := { name := "<init>", desc := "(Ljava/lang/String;Ljava/lang/String;Ljava/lang/String;)V", sig := { parameters := [(.object "java/lang/String"), (.object "java/lang/String"), (.object "java/lang/String")], returnType := none }, accessFlags := 1, code := some k9c0 }
def k9c1 : Code := { maxStack := 2, maxLocals := 3, code := prog_7_method_5_code, exceptionTable := #[], attributes := #[] }
def k9m1 : Method := { name := "equals", desc := "(Ljava/lang/Object;)Z", sig := { parameters := [(.object "java/lang/Object")], returnType := some .boolean }, accessFlags := 1, code := some k9c1 }
/-- com/example/sluis/sluis/value/Order -/
def k9 : Class := { plain "com/example/sluis/sluis/value/Order" (some 0) with
  accessFlags := 49
  interfaces := #[]
  cf := some (fileOf pool9 18 #[] #[{ accessFlags := 1, nameIndex := 5, descriptorIndex := 42, attributes := #[] }, { accessFlags := 1, nameIndex := 32, descriptorIndex := 33, attributes := #[] }] 49 2 #[] #[{ accessFlags := 18, nameIndex := 8, descriptorIndex := 21, attributes := #[] }, { accessFlags := 18, nameIndex := 23, descriptorIndex := 21, attributes := #[] }, { accessFlags := 18, nameIndex := 27, descriptorIndex := 21, attributes := #[] }])
  fields := #[{ name := "id", type := (.object "java/lang/String"), accessFlags := 18, slot := 0, constantValue := 0 }, { name := "item", type := (.object "java/lang/String"), accessFlags := 18, slot := 1, constantValue := 0 }, { name := "buyer", type := (.object "java/lang/String"), accessFlags := 18, slot := 2, constantValue := 0 }]
  methods := #[k9m0, k9m1]
  instanceTypes := #[(.object "java/lang/String"), (.object "java/lang/String"), (.object "java/lang/String")]
  staticTypes := #[]
  resolved := Array.replicate 70 none
  statics := none }

def pool10 : Array CpInfo := pool [(2, .class_ 4), (1, u "java/lang/Object"), (0, u "<init>"), (0, u "()V"), (35, .class_ 44), (1, u "java/util/Objects"), (0, u "requireNonNull"), (48, u "(Ljava/lang/Object;Ljava/lang/String;)Ljava/lang/Object;")] 89

def k10m0 : Method := { name := "<init>", desc := "()V", sig := { parameters := [], returnType := none }, accessFlags := 2, code := none }
def k10c1 : Code := { maxStack := 3, maxLocals := 2, code := jdk_31_method_11_code, exceptionTable := #[], attributes := #[] }
def k10m1 : Method := { name := "requireNonNull", desc := "(Ljava/lang/Object;Ljava/lang/String;)Ljava/lang/Object;", sig := { parameters := [(.object "java/lang/Object"), (.object "java/lang/String")], returnType := some (.object "java/lang/Object") }, accessFlags := 9, code := some k10c1 }
/-- java/util/Objects -/
def k10 : Class := { plain "java/util/Objects" (some 0) with
  accessFlags := 49
  interfaces := #[]
  cf := some (fileOf pool10 42 #[] #[{ accessFlags := 2, nameIndex := 5, descriptorIndex := 6, attributes := #[] }, { accessFlags := 9, nameIndex := 45, descriptorIndex := 94, attributes := #[] }] 49 2 #[] #[])
  fields := #[]
  methods := #[k10m0, k10m1]
  instanceTypes := #[]
  staticTypes := #[]
  resolved := Array.replicate 184 none
  statics := none }

def pool11 : Array CpInfo := pool [(4, .class_ 6), (1, u "java/lang/Object"), (0, u "<init>"), (0, u "()V"), (5, .class_ 16), (1, u "java/lang/StringLatin1"), (104, u "$assertionsDisabled"), (0, u "Z"), (98, .class_ 223), (1, u "java/lang/StringLatin1$LinesSpliterator"), (57, u "equals"), (0, u "([B[B)Z"), (107, .class_ 391), (0, u "java/lang/StringLatin1$CharsSpliterator")] 3

def k11m0 : Method := { name := "<init>", desc := "()V", sig := { parameters := [], returnType := none }, accessFlags := 0, code := none }
def k11c1 : Code := { maxStack := 3, maxLocals := 3, code := jdk_43_method_13_code, exceptionTable := #[], attributes := #[] }
def k11m1 : Method := { name := "equals", desc := "([B[B)Z", sig := { parameters := [(.array .byte), (.array .byte)], returnType := some .boolean }, accessFlags := 9, code := some k11c1 }
/-- java/lang/StringLatin1 -/
def k11 : Class := { plain "java/lang/StringLatin1" (some 0) with
  accessFlags := 48
  interfaces := #[]
  cf := some (fileOf pool11 14 #[.nestMembers #[390, 221]] #[{ accessFlags := 0, nameIndex := 7, descriptorIndex := 8, attributes := #[] }, { accessFlags := 9, nameIndex := 281, descriptorIndex := 282, attributes := #[] }] 48 4 #[] #[{ accessFlags := 4120, nameIndex := 121, descriptorIndex := 122, attributes := #[] }])
  fields := #[{ name := "$assertionsDisabled", type := .boolean, accessFlags := 4120, slot := 0, constantValue := 0 }]
  methods := #[k11m0, k11m1]
  instanceTypes := #[]
  staticTypes := #[.boolean]
  resolved := Array.replicate 395 none
  statics := none }

def pool12 : Array CpInfo := pool [(2, .class_ 4), (1, u "java/lang/Object"), (0, u "<init>"), (0, u "()V"), (17, .class_ 26), (1, u "jdk/internal/util/Preconditions"), (28, .class_ 56), (0, u "jdk/internal/util/Preconditions$4"), (57, .class_ 115), (0, u "jdk/internal/util/Preconditions$1"), (7, u "SIOOBE_FORMATTER"), (0, u "Ljava/util/function/BiFunction;"), (0, .class_ 126), (0, u "jdk/internal/util/Preconditions$2"), (3, u "AIOOBE_FORMATTER"), (0, .class_ 132), (0, u "jdk/internal/util/Preconditions$3"), (3, u "IOOBE_FORMATTER")] 57

def k12m0 : Method := { name := "<init>", desc := "()V", sig := { parameters := [], returnType := none }, accessFlags := 1, code := none }
/-- jdk/internal/util/Preconditions -/
def k12 : Class := { plain "jdk/internal/util/Preconditions" (some 0) with
  accessFlags := 33
  interfaces := #[]
  cf := some (fileOf pool12 24 #[.nestMembers #[55, 131, 125, 114]] #[{ accessFlags := 1, nameIndex := 5, descriptorIndex := 6, attributes := #[] }] 33 2 #[] #[{ accessFlags := 25, nameIndex := 123, descriptorIndex := 124, attributes := #[] }, { accessFlags := 25, nameIndex := 130, descriptorIndex := 124, attributes := #[] }, { accessFlags := 25, nameIndex := 136, descriptorIndex := 124, attributes := #[] }])
  fields := #[{ name := "SIOOBE_FORMATTER", type := (.object "java/util/function/BiFunction"), accessFlags := 25, slot := 0, constantValue := 0 }, { name := "AIOOBE_FORMATTER", type := (.object "java/util/function/BiFunction"), accessFlags := 25, slot := 1, constantValue := 0 }, { name := "IOOBE_FORMATTER", type := (.object "java/util/function/BiFunction"), accessFlags := 25, slot := 2, constantValue := 0 }]
  methods := #[k12m0]
  instanceTypes := #[]
  staticTypes := #[(.object "java/util/function/BiFunction"), (.object "java/util/function/BiFunction"), (.object "java/util/function/BiFunction")]
  resolved := Array.replicate 194 none
  statics := some 1 }

def pool13 : Array CpInfo := pool [(9, u "<init>"), (6, .class_ 18), (1, u "java/lang/Object"), (0, u "()V"), (1, .class_ 23), (1, u "jdk/internal/util/ArraysSupport"), (0, u "LOG2_ARRAY_LONG_INDEX_SCALE"), (0, u "I"), (2, u "U"), (0, u "Ljdk/internal/misc/Unsafe;"), (8, u "BIG_ENDIAN"), (0, u "Z"), (8, u "LOG2_BYTE_BIT_SIZE"), (4, u "LOG2_ARRAY_INT_INDEX_SCALE"), (54, u "JLA"), (0, u "Ljdk/internal/access/JavaLangAccess;"), (11, u "LOG2_ARRAY_BOOLEAN_INDEX_SCALE"), (9, u "LOG2_ARRAY_BYTE_INDEX_SCALE"), (5, u "LOG2_ARRAY_CHAR_INDEX_SCALE"), (5, u "LOG2_ARRAY_SHORT_INDEX_SCALE"), (18, u "LOG2_ARRAY_FLOAT_INDEX_SCALE"), (24, u "LOG2_ARRAY_DOUBLE_INDEX_SCALE"), (89, u "T_BOOLEAN"), (2, u "T_CHAR"), (1, u "T_FLOAT"), (1, u "T_DOUBLE"), (1, u "T_BYTE"), (1, u "T_SHORT"), (1, u "T_INT"), (1, u "T_LONG"), (1, u "SOFT_MAX_ARRAY_LENGTH")] 83

def k13m0 : Method := { name := "<init>", desc := "()V", sig := { parameters := [], returnType := none }, accessFlags := 2, code := none }
/-- jdk/internal/util/ArraysSupport -/
def k13 : Class := { plain "jdk/internal/util/ArraysSupport" (some 0) with
  accessFlags := 33
  interfaces := #[]
  cf := some (fileOf pool13 21 #[] #[{ accessFlags := 2, nameIndex := 9, descriptorIndex := 19, attributes := #[] }] 33 16 #[] #[{ accessFlags := 24, nameIndex := 28, descriptorIndex := 29, attributes := #[] }, { accessFlags := 26, nameIndex := 38, descriptorIndex := 39, attributes := #[] }, { accessFlags := 25, nameIndex := 121, descriptorIndex := 25, attributes := #[] }, { accessFlags := 25, nameIndex := 131, descriptorIndex := 25, attributes := #[] }, { accessFlags := 25, nameIndex := 137, descriptorIndex := 25, attributes := #[] }, { accessFlags := 25, nameIndex := 143, descriptorIndex := 25, attributes := #[] }, { accessFlags := 25, nameIndex := 53, descriptorIndex := 25, attributes := #[] }, { accessFlags := 25, nameIndex := 24, descriptorIndex := 25, attributes := #[] }, { accessFlags := 25, nameIndex := 162, descriptorIndex := 25, attributes := #[] }, { accessFlags := 25, nameIndex := 187, descriptorIndex := 25, attributes := #[] }, { accessFlags := 26, nameIndex := 48, descriptorIndex := 25, attributes := #[] }, { accessFlags := 25, nameIndex := 277, descriptorIndex := 25, attributes := #[] }, { accessFlags := 25, nameIndex := 280, descriptorIndex := 25, attributes := #[] }, { accessFlags := 25, nameIndex := 282, descriptorIndex := 25, attributes := #[] }, { accessFlags := 25, nameIndex := 284, descriptorIndex := 25, attributes := #[] }, { accessFlags := 25, nameIndex := 286, descriptorIndex := 25, attributes := #[] }, { accessFlags := 25, nameIndex := 288, descriptorIndex := 25, attributes := #[] }, { accessFlags := 25, nameIndex := 290, descriptorIndex := 25, attributes := #[] }, { accessFlags := 25, nameIndex := 292, descriptorIndex := 25, attributes := #[] }, { accessFlags := 26, nameIndex := 108, descriptorIndex := 109, attributes := #[] }, { accessFlags := 25, nameIndex := 294, descriptorIndex := 25, attributes := #[] }])
  fields := #[{ name := "U", type := (.object "jdk/internal/misc/Unsafe"), accessFlags := 24, slot := 0, constantValue := 0 }, { name := "BIG_ENDIAN", type := .boolean, accessFlags := 26, slot := 1, constantValue := 0 }, { name := "LOG2_ARRAY_BOOLEAN_INDEX_SCALE", type := .int, accessFlags := 25, slot := 2, constantValue := 0 }, { name := "LOG2_ARRAY_BYTE_INDEX_SCALE", type := .int, accessFlags := 25, slot := 3, constantValue := 0 }, { name := "LOG2_ARRAY_CHAR_INDEX_SCALE", type := .int, accessFlags := 25, slot := 4, constantValue := 0 }, { name := "LOG2_ARRAY_SHORT_INDEX_SCALE", type := .int, accessFlags := 25, slot := 5, constantValue := 0 }, { name := "LOG2_ARRAY_INT_INDEX_SCALE", type := .int, accessFlags := 25, slot := 6, constantValue := 0 }, { name := "LOG2_ARRAY_LONG_INDEX_SCALE", type := .int, accessFlags := 25, slot := 7, constantValue := 0 }, { name := "LOG2_ARRAY_FLOAT_INDEX_SCALE", type := .int, accessFlags := 25, slot := 8, constantValue := 0 }, { name := "LOG2_ARRAY_DOUBLE_INDEX_SCALE", type := .int, accessFlags := 25, slot := 9, constantValue := 0 }, { name := "LOG2_BYTE_BIT_SIZE", type := .int, accessFlags := 26, slot := 10, constantValue := 0 }, { name := "T_BOOLEAN", type := .int, accessFlags := 25, slot := 11, constantValue := 0 }, { name := "T_CHAR", type := .int, accessFlags := 25, slot := 12, constantValue := 0 }, { name := "T_FLOAT", type := .int, accessFlags := 25, slot := 13, constantValue := 0 }, { name := "T_DOUBLE", type := .int, accessFlags := 25, slot := 14, constantValue := 0 }, { name := "T_BYTE", type := .int, accessFlags := 25, slot := 15, constantValue := 0 }, { name := "T_SHORT", type := .int, accessFlags := 25, slot := 16, constantValue := 0 }, { name := "T_INT", type := .int, accessFlags := 25, slot := 17, constantValue := 0 }, { name := "T_LONG", type := .int, accessFlags := 25, slot := 18, constantValue := 0 }, { name := "JLA", type := (.object "jdk/internal/access/JavaLangAccess"), accessFlags := 26, slot := 19, constantValue := 0 }, { name := "SOFT_MAX_ARRAY_LENGTH", type := .int, accessFlags := 25, slot := 20, constantValue := 0 }]
  methods := #[k13m0]
  instanceTypes := #[]
  staticTypes := #[(.object "jdk/internal/misc/Unsafe"), .boolean, .int, .int, .int, .int, .int, .int, .int, .int, .int, .int, .int, .int, .int, .int, .int, .int, .int, (.object "jdk/internal/access/JavaLangAccess"), .int]
  resolved := Array.replicate 378 none
  statics := none }

def pool14 : Array CpInfo := pool [(1, u "java/lang/Cloneable"), (0, .class_ 1), (0, u "java/lang/Object"), (0, .class_ 3)] 3

/-- java/lang/Cloneable -/
def k14 : Class := { plain "java/lang/Cloneable" (some 0) with
  accessFlags := 1537
  interfaces := #[]
  cf := some (fileOf pool14 2 #[] #[] 1537 4 #[] #[])
  fields := #[]
  methods := #[]
  instanceTypes := #[]
  staticTypes := #[]
  resolved := Array.replicate 8 none
  statics := none }

/-- the primitive byte -/
def k15 : Class := { plain "byte" none with kind := .primitive 'B', accessFlags := 0x411 }
/-- [B -/
def k16 : Class := { plain "[B" (some 0) with kind := .array 15 .byte, interfaces := #[14, 2], accessFlags := 1041 }

/-- the primitive char -/
def k17 : Class := { plain "char" none with kind := .primitive 'C', accessFlags := 0x411 }
/-- [C -/
def k18 : Class := { plain "[C" (some 0) with kind := .array 17 .char, interfaces := #[14, 2], accessFlags := 1041 }

/-- the primitive int -/
def k19 : Class := { plain "int" none with kind := .primitive 'I', accessFlags := 0x411 }
/-- [I -/
def k20 : Class := { plain "[I" (some 0) with kind := .array 19 .int, interfaces := #[14, 2], accessFlags := 1041 }

def heap : Heap := #[{ cls := 7, slots := #[.long 0, .int 1, .null, .int 0, .null, .int 0, .int 0], vm := .statics 7 },
  { cls := 12, slots := #[.null, .null, .null], vm := .statics 12 }]
def classes : Array Class := #[k0, k1, k2, k3, k4, k5, k6, k7, k8, k9, k10, k11, k12, k13, k14, k15, k16, k17, k18, k19, k20]
def interned : List (Array UInt16 × Addr) := []
def slotsUsed : Nat := 10
def theMethod : MethodId := ⟨1, 2⟩
def args0 : Array Value := #[.int 5, .int 7, .int 3]
def aboutOver (below : List Frame) : State where
  vm := { classes := classes, interned := interned.toArray }
  heap := heap
  slotsUsed := slotsUsed
  threads := #[{ frames := .invoking theMethod args0 :: below }]
def below0 : List Frame := [.native { method := ⟨0, 0⟩, args := #[] }]
def about1 : State := aboutOver below0
def p0 : Program := .bare "" "" ""
def e0 : Env := launch0.env 0 0 0
theorem w_frames : about1.frames = Frame.invoking theMethod args0 :: below0 := rfl
set_option maxRecDepth 65536 in
theorem w_args : argsFit about1.vm theMethod args0 = true := by decide +kernel
set_option maxRecDepth 65536 in
theorem w_heap : heapFits about1 = true := by decide +kernel
set_option maxRecDepth 65536 in
theorem w_runnable : about1.curStatus? = some .runnable := by decide +kernel
set_option maxRecDepth 65536 in
theorem w_alone : about1.alone = true := by decide +kernel
set_option maxRecDepth 65536 in
theorem w_named : about1.methodNamed? x = some theMethod := by decide +kernel
set_option maxRecDepth 65536 in
theorem w_hears : about1.hears theMethod below0 = true := by decide +kernel
set_option maxRecDepth 65536 in
theorem w_ripe : about1.ripe theMethod args0 below0 = true := by decide +kernel
theorem w_running : about1.status = .running := rfl
set_option maxRecDepth 65536 in
theorem w_room : about1.hasRoom e0.platform room_1 = true :=
  launch0.hasRoom_least _ room_1 (by decide +kernel) (by decide +kernel) (by decide +kernel) (by decide +kernel) (by decide +kernel) (by decide +kernel)
theorem allAtoms_all (ts : List Jvm.Cond) (a : Array Jvm.Value) (st : Jvm.State) : (allAtoms ts).before a st = ts.all (fun c => c.before a st) := by
  induction ts with
  | nil => rfl
  | cons c t ih =>
    show (Jvm.Cond.and c (allAtoms t)).before a st = _
    rw [Jvm.Cond.before_and, ih, List.all_cons]
def words1 : List Jvm.Cond := Jvm.Cond.code x code maxLocals ret :: tables_1
/-- a 'code' word, met by the world's own term for the bytes: nothing is compared byte by byte -/
theorem code_word {y : MethodName} {bytes : ByteArray} {mx : Nat} {rt : Option FieldType} {a : Array Value} {s : State} {m : MethodId} {meth : Method} {c : Code} (h1 : s.methodNamed? y = some m) (h2 : s.vm.method? m = some meth) (h3 : meth.code = some c) (h4 : c.code = bytes)
    (h5 : (c.maxLocals == mx && c.exceptionTable.isEmpty && decide (c.maxStack ≤ mostOperands) && decide (meth.sig.returnType = rt) && !meth.locks && decide (parseMethodDescriptor y.desc = some meth.sig)) = true) : (Jvm.Cond.code y bytes mx rt).before a s = true := by
  simp only [Bool.and_eq_true, beq_iff_eq, Bool.not_eq_true', decide_eq_true_eq] at h5
  obtain ⟨⟨⟨⟨⟨g1, g2⟩, g3⟩, g4⟩, g5⟩, g6⟩ := h5
  simp [Cond.before, Cond.holds, Cond.value, h1, h2, h3, h4, g1, g2, g3, g4, g5, g6]
def isCode : Jvm.Cond → Bool
  | .code _ _ _ _ => true
  | _ => false
theorem all_split {L : List Jvm.Cond} {P : Jvm.Cond → Bool} (h1 : L.all (fun c => isCode c || P c) = true) (h2 : ∀ c ∈ L.filter isCode, P c = true) : L.all P = true := by
  refine List.all_eq_true.mpr fun c hc => ?_
  have h := List.all_eq_true.mp h1 c hc
  rcases Bool.eq_false_or_eq_true (isCode c) with hi | hi
  · exact h2 c (List.mem_filter.mpr ⟨hc, hi⟩)
  · simpa [hi] using h
set_option maxRecDepth 65536 in
theorem w_c0 : (Jvm.Cond.code x code maxLocals ret).before args0 about1 = true := code_word (m := ⟨1, 2⟩) (meth := k1m2) (c := k1c2) (by decide +kernel) rfl rfl rfl (by decide +kernel)
set_option maxRecDepth 65536 in
theorem w_c1 : (Jvm.Cond.code ({ cls := "com/example/sluis/sluis/value/OrderEqualsPinLaw", name := "one", desc := "(C)Ljava/lang/String;" } : Jvm.MethodName) method_2_code (1 : Nat) (Option.some (Jvm.ClassFile.FieldType.object "java/lang/String"))).before args0 about1 = true := code_word (m := ⟨1, 1⟩) (meth := k1m1) (c := k1c1) (by decide +kernel) rfl rfl rfl (by decide +kernel)
set_option maxRecDepth 65536 in
theorem w_c2 : (Jvm.Cond.code ({ cls := "java/lang/String", name := "<init>", desc := "([C)V" } : Jvm.MethodName) jdk_42_method_3_code (2 : Nat) (Option.none : Option Jvm.ClassFile.FieldType)).before args0 about1 = true := code_word (m := ⟨7, 1⟩) (meth := k7m1) (c := k7c1) (by decide +kernel) rfl rfl rfl (by decide +kernel)
set_option maxRecDepth 65536 in
theorem w_c3 : (Jvm.Cond.code ({ cls := "java/lang/String", name := "<init>", desc := "([CIILjava/lang/Void;)V" } : Jvm.MethodName) jdk_42_method_149_code (6 : Nat) (Option.none : Option Jvm.ClassFile.FieldType)).before args0 about1 = true := code_word (m := ⟨7, 3⟩) (meth := k7m3) (c := k7c3) (by decide +kernel) rfl rfl rfl (by decide +kernel)
set_option maxRecDepth 65536 in
theorem w_c4 : (Jvm.Cond.code ({ cls := "java/lang/Object", name := "<init>", desc := "()V" } : Jvm.MethodName) object_method_1_code (1 : Nat) (Option.none : Option Jvm.ClassFile.FieldType)).before args0 about1 = true := code_word (m := ⟨0, 0⟩) (meth := k0m0) (c := k0c0) (by decide +kernel) rfl rfl rfl (by decide +kernel)
set_option maxRecDepth 65536 in
theorem w_c5 : (Jvm.Cond.code ({ cls := "java/lang/StringUTF16", name := "compress", desc := "([CII)[B" } : Jvm.MethodName) jdk_52_method_16_code (6 : Nat) (Option.some (Jvm.ClassFile.FieldType.array Jvm.ClassFile.FieldType.byte))).before args0 about1 = true := code_word (m := ⟨8, 2⟩) (meth := k8m2) (c := k8c2) (by decide +kernel) rfl rfl rfl (by decide +kernel)
set_option maxRecDepth 65536 in
theorem w_c6 : (Jvm.Cond.code ({ cls := "java/lang/StringUTF16", name := "compress", desc := "([CI[BII)I" } : Jvm.MethodName) jdk_52_method_21_code (7 : Nat) (Option.some Jvm.ClassFile.FieldType.int)).before args0 about1 = true := code_word (m := ⟨8, 3⟩) (meth := k8m3) (c := k8c3) (by decide +kernel) rfl rfl rfl (by decide +kernel)
set_option maxRecDepth 65536 in
theorem w_c7 : (Jvm.Cond.code ({ cls := "java/lang/StringUTF16", name := "coderFromArrayLen", desc := "([BI)B" } : Jvm.MethodName) jdk_52_method_15_code (2 : Nat) (Option.some Jvm.ClassFile.FieldType.byte)).before args0 about1 = true := code_word (m := ⟨8, 1⟩) (meth := k8m1) (c := k8c1) (by decide +kernel) rfl rfl rfl (by decide +kernel)
set_option maxRecDepth 65536 in
theorem w_c8 : (Jvm.Cond.code ({ cls := "com/example/sluis/sluis/value/Order", name := "<init>", desc := "(Ljava/lang/String;Ljava/lang/String;Ljava/lang/String;)V" } : Jvm.MethodName) prog_7_method_1_code (4 : Nat) (Option.none : Option Jvm.ClassFile.FieldType)).before args0 about1 = true := code_word (m := ⟨9, 0⟩) (meth := k9m0) (c := k9c0) (by decide +kernel) rfl rfl rfl (by decide +kernel)
set_option maxRecDepth 65536 in
theorem w_c9 : (Jvm.Cond.code ({ cls := "java/util/Objects", name := "requireNonNull", desc := "(Ljava/lang/Object;Ljava/lang/String;)Ljava/lang/Object;" } : Jvm.MethodName) jdk_31_method_11_code (2 : Nat) (Option.some (Jvm.ClassFile.FieldType.object "java/lang/Object"))).before args0 about1 = true := code_word (m := ⟨10, 1⟩) (meth := k10m1) (c := k10c1) (by decide +kernel) rfl rfl rfl (by decide +kernel)
set_option maxRecDepth 65536 in
theorem w_c10 : (Jvm.Cond.code ({ cls := "com/example/sluis/sluis/value/Order", name := "equals", desc := "(Ljava/lang/Object;)Z" } : Jvm.MethodName) prog_7_method_5_code (3 : Nat) (Option.some Jvm.ClassFile.FieldType.boolean)).before args0 about1 = true := code_word (m := ⟨9, 1⟩) (meth := k9m1) (c := k9c1) (by decide +kernel) rfl rfl rfl (by decide +kernel)
set_option maxRecDepth 65536 in
theorem w_c11 : (Jvm.Cond.code ({ cls := "java/lang/String", name := "equals", desc := "(Ljava/lang/Object;)Z" } : Jvm.MethodName) jdk_42_method_66_code (3 : Nat) (Option.some Jvm.ClassFile.FieldType.boolean)).before args0 about1 = true := code_word (m := ⟨7, 2⟩) (meth := k7m2) (c := k7c2) (by decide +kernel) rfl rfl rfl (by decide +kernel)
set_option maxRecDepth 65536 in
theorem w_c12 : (Jvm.Cond.code ({ cls := "java/lang/StringLatin1", name := "equals", desc := "([B[B)Z" } : Jvm.MethodName) jdk_43_method_13_code (3 : Nat) (Option.some Jvm.ClassFile.FieldType.boolean)).before args0 about1 = true := code_word (m := ⟨11, 1⟩) (meth := k11m1) (c := k11c1) (by decide +kernel) rfl rfl rfl (by decide +kernel)
def codes1 : List Jvm.Cond := [Jvm.Cond.code x code maxLocals ret, Jvm.Cond.code ({ cls := "com/example/sluis/sluis/value/OrderEqualsPinLaw", name := "one", desc := "(C)Ljava/lang/String;" } : Jvm.MethodName) method_2_code (1 : Nat) (Option.some (Jvm.ClassFile.FieldType.object "java/lang/String")), Jvm.Cond.code ({ cls := "java/lang/String", name := "<init>", desc := "([C)V" } : Jvm.MethodName) jdk_42_method_3_code (2 : Nat) (Option.none : Option Jvm.ClassFile.FieldType), Jvm.Cond.code ({ cls := "java/lang/String", name := "<init>", desc := "([CIILjava/lang/Void;)V" } : Jvm.MethodName) jdk_42_method_149_code (6 : Nat) (Option.none : Option Jvm.ClassFile.FieldType), Jvm.Cond.code ({ cls := "java/lang/Object", name := "<init>", desc := "()V" } : Jvm.MethodName) object_method_1_code (1 : Nat) (Option.none : Option Jvm.ClassFile.FieldType), Jvm.Cond.code ({ cls := "java/lang/StringUTF16", name := "compress", desc := "([CII)[B" } : Jvm.MethodName) jdk_52_method_16_code (6 : Nat) (Option.some (Jvm.ClassFile.FieldType.array Jvm.ClassFile.FieldType.byte)), Jvm.Cond.code ({ cls := "java/lang/StringUTF16", name := "compress", desc := "([CI[BII)I" } : Jvm.MethodName) jdk_52_method_21_code (7 : Nat) (Option.some Jvm.ClassFile.FieldType.int), Jvm.Cond.code ({ cls := "java/lang/StringUTF16", name := "coderFromArrayLen", desc := "([BI)B" } : Jvm.MethodName) jdk_52_method_15_code (2 : Nat) (Option.some Jvm.ClassFile.FieldType.byte), Jvm.Cond.code ({ cls := "com/example/sluis/sluis/value/Order", name := "<init>", desc := "(Ljava/lang/String;Ljava/lang/String;Ljava/lang/String;)V" } : Jvm.MethodName) prog_7_method_1_code (4 : Nat) (Option.none : Option Jvm.ClassFile.FieldType), Jvm.Cond.code ({ cls := "java/util/Objects", name := "requireNonNull", desc := "(Ljava/lang/Object;Ljava/lang/String;)Ljava/lang/Object;" } : Jvm.MethodName) jdk_31_method_11_code (2 : Nat) (Option.some (Jvm.ClassFile.FieldType.object "java/lang/Object")), Jvm.Cond.code ({ cls := "com/example/sluis/sluis/value/Order", name := "equals", desc := "(Ljava/lang/Object;)Z" } : Jvm.MethodName) prog_7_method_5_code (3 : Nat) (Option.some Jvm.ClassFile.FieldType.boolean), Jvm.Cond.code ({ cls := "java/lang/String", name := "equals", desc := "(Ljava/lang/Object;)Z" } : Jvm.MethodName) jdk_42_method_66_code (3 : Nat) (Option.some Jvm.ClassFile.FieldType.boolean), Jvm.Cond.code ({ cls := "java/lang/StringLatin1", name := "equals", desc := "([B[B)Z" } : Jvm.MethodName) jdk_43_method_13_code (3 : Nat) (Option.some Jvm.ClassFile.FieldType.boolean)]
set_option maxRecDepth 65536 in
theorem codes_eq : words1.filter isCode = codes1 := rfl
theorem w_codes : ∀ c ∈ words1.filter isCode, c.before args0 about1 = true := by
  rw [codes_eq]
  intro c hc
  simp only [codes1, List.mem_cons, List.not_mem_nil, or_false] at hc
  rcases hc with rfl | rfl | rfl | rfl | rfl | rfl | rfl | rfl | rfl | rfl | rfl | rfl | rfl
  · exact w_c0
  · exact w_c1
  · exact w_c2
  · exact w_c3
  · exact w_c4
  · exact w_c5
  · exact w_c6
  · exact w_c7
  · exact w_c8
  · exact w_c9
  · exact w_c10
  · exact w_c11
  · exact w_c12
set_option maxRecDepth 65536 in
theorem w_t1 : (words1.take 24).all (fun c => isCode c || c.before args0 about1) = true := by decide +kernel
set_option maxRecDepth 65536 in
theorem w_t2 : ((words1.drop 24).take 24).all (fun c => isCode c || c.before args0 about1) = true := by decide +kernel
set_option maxRecDepth 65536 in
theorem w_t3 : (((words1.drop 24).drop 24).take 24).all (fun c => isCode c || c.before args0 about1) = true := by decide +kernel
set_option maxRecDepth 65536 in
theorem w_t4 : (((words1.drop 24).drop 24).drop 24).all (fun c => isCode c || c.before args0 about1) = true := by decide +kernel
theorem w_tables : (allAtoms (Jvm.Cond.code x code maxLocals ret :: tables_1)).before args0 about1 = true := by
  rw [allAtoms_all]
  show words1.all (fun c => c.before args0 about1) = true
  refine all_split ?_ w_codes
  rw [← List.take_append_drop 24 words1, List.all_append, w_t1, ← List.take_append_drop 24 (words1.drop 24), List.all_append, w_t2, ← List.take_append_drop 24 ((words1.drop 24).drop 24), List.all_append, w_t3, w_t4]
  rfl
set_option maxRecDepth 65536 in
theorem w_rest : rest_1_c.before args0 about1 = true := by decide +kernel
set_option maxRecDepth 65536 in
theorem w_case : (Jvm.Cond.and given_1 narrow_1).before args0 about1 = true := by decide +kernel
theorem w_applies : (headSpec (Jvm.Cond.code x code maxLocals ret :: tables_1) room_1).applies x e0.platform about1 = true :=
  (Spec.applies_iff w_frames).mpr ⟨w_running, w_runnable, w_alone, w_named, w_hears, w_ripe, w_room, w_tables⟩
theorem atStart : AtStart classFile x code maxLocals ret World_1 tables_1 room_1 Calls_1 rest_1 Pre_1 launch0 p0 e0 about1 theMethod args0 below0 :=
  ⟨lists_1, trivial, launch0.admits_env _ _ _, launch0.least_env, fairChoices_fair.cas, fairChoices_fair.clock, w_frames, w_args, w_heap, w_applies, trivial, w_rest, w_case⟩
end start1
theorem witness_1 : WitnessClaimed_1 := ⟨start1.p0, start1.e0, start1.about1, start1.theMethod, start1.args0, start1.below0, start1.atStart⟩
end Jvm.Pilot.@@N@@
